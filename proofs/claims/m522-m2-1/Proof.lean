import JvmDerived
import JvmDerived.Pilot.@@N@@Statement
import JvmDerived.Pilot.@@N@@Code
set_option linter.unusedVariables false
set_option linter.unusedSimpArgs false
namespace Jvm.RoadKit
open Sem ClassFile Op Lib Jvm.Stand Jvm.Free Jvm.LawKit
section New
variable {p : Program} {l : Launch} {e : Env} {R : Room} {s : State} {m : MethodId} {args : Array Value} {below : List Frame} {meth : Method} {c : Code} {T : State} {locs : List Loc} {cells slots : Nat}
theorem retI (X : Stand p l e R s m args below meth c T locs cells slots) (hx : p.tables.exec = Jvm.exec) {pc : Nat} {Ls : Array Slot} {z : Int32} {rest : List Value} (hret : meth.sig.returnType = some .int) (hd : decode c.code pc = .ok (.ireturn, 1)) {fs : List Frame}
    (hl : ∀ (f : JFrame) (acts : List Action), f.method = m → f.locked = none → f.entered = [] → (doReturn e (T.setTop f) acts (some (.int z))).1 = T.setFrames fs) : Steps p.tables e below (T.setTop (mkF m pc Ls (.int z :: rest))) (T.setFrames fs) :=
  retOut X hx hret rfl (Or.inl ⟨rfl, Or.inl rfl, _, rfl⟩) hd hl
theorem own_sta_keep {Z : State} {h h' : Heap} {C n d : String} {w : Value} {ws : List Addr} (F : Sta Z h C n d w) (K : Keep h h' ws) (ns : ∀ x ∈ ws, ∀ cell : Cell, h[x]? = some cell → cell.vm.isStatics = false) : Sta Z h' C n d w := by
  obtain ⟨cf, i, k, f, st, cell, h1, h2, h3, h4, h5, h6, h7⟩ := F
  refine ⟨cf, i, k, f, st, cell, h1, h2, h3, h4, K.2.1 st cell h5 (fun hm => ?_), h6, h7⟩
  rw [ns st hm cell h5] at h6
  cases h6
theorem own_selp {s : State} {args : Array Value} {w y : MethodName} (hs : (Cond.selects w.cls w w).before args s = true) (e : w.cls = y.cls) (hp : s.PrivateAt y) (hi : (Cond.instanceMethod y).before args s = true) (hy : y.cls ≠ "java/lang/invoke/MethodHandle" ∧ y.cls ≠ "java/lang/invoke/VarHandle") : (Cond.selects y.cls y y).before args s = true := by
  obtain ⟨c2, r2, m2, q1, q2, q3, q4, kP, hkP, hkPi⟩ := Cond.selects_spec hs
  exact selects_self_of_private (c := m2.cls) (by rw [← e]; exact findClass_of_methodNamed q3) hkP hkPi hp hi hy
end New
end Jvm.RoadKit
namespace Jvm.Pilot.@@N@@
open Jvm Jvm.ClassFile Sem Op Lib Jvm.Free Jvm.Stand Jvm.LawKit Jvm.RoadKit Bundle Jvm.Pilot.@@N@@.Jvm.D
theorem d1_0 : decode prog_59_method_1_code 0 = .ok (.aload_n 0, 1) := by decide +kernel
theorem d1_1 : decode prog_59_method_1_code 1 = .ok (.invokespecial 1, 3) := by decide +kernel
theorem d1_4 : decode prog_59_method_1_code 4 = .ok (.aload_n 0, 1) := by decide +kernel
theorem d1_5 : decode prog_59_method_1_code 5 = .ok (.bipush 16, 2) := by decide +kernel
theorem d1_7 : decode prog_59_method_1_code 7 = .ok (.anewarray 7, 3) := by decide +kernel
theorem d1_10 : decode prog_59_method_1_code 10 = .ok (.putfield 9, 3) := by decide +kernel
theorem d1_13 : decode prog_59_method_1_code 13 = .ok (.aload_n 0, 1) := by decide +kernel
theorem d1_14 : decode prog_59_method_1_code 14 = .ok (.aload_n 0, 1) := by decide +kernel
theorem d1_15 : decode prog_59_method_1_code 15 = .ok (.getfield 9, 3) := by decide +kernel
theorem d1_18 : decode prog_59_method_1_code 18 = .ok (.arraylength, 1) := by decide +kernel
theorem d1_19 : decode prog_59_method_1_code 19 = .ok (.newarray .int, 2) := by decide +kernel
theorem d1_21 : decode prog_59_method_1_code 21 = .ok (.putfield 15, 3) := by decide +kernel
theorem d1_24 : decode prog_59_method_1_code 24 = .ok (.aload_n 0, 1) := by decide +kernel
theorem d1_25 : decode prog_59_method_1_code 25 = .ok (.aload_n 0, 1) := by decide +kernel
theorem d1_26 : decode prog_59_method_1_code 26 = .ok (.getfield 9, 3) := by decide +kernel
theorem d1_29 : decode prog_59_method_1_code 29 = .ok (.arraylength, 1) := by decide +kernel
theorem d1_30 : decode prog_59_method_1_code 30 = .ok (.anewarray 19, 3) := by decide +kernel
theorem d1_33 : decode prog_59_method_1_code 33 = .ok (.putfield 21, 3) := by decide +kernel
theorem d1_36 : decode prog_59_method_1_code 36 = .ok (.return_, 1) := by decide +kernel
theorem d3_0 : decode prog_62_method_1_code 0 = .ok (.aload_n 0, 1) := by decide +kernel
theorem d3_1 : decode prog_62_method_1_code 1 = .ok (.invokespecial 1, 3) := by decide +kernel
theorem d3_4 : decode prog_62_method_1_code 4 = .ok (.aload_n 0, 1) := by decide +kernel
theorem d3_5 : decode prog_62_method_1_code 5 = .ok (.iload_n 1, 1) := by decide +kernel
theorem d3_6 : decode prog_62_method_1_code 6 = .ok (.putfield 7, 3) := by decide +kernel
theorem d3_9 : decode prog_62_method_1_code 9 = .ok (.return_, 1) := by decide +kernel
theorem d4_0 : decode method_2_code 0 = .ok (.iload_n 0, 1) := by decide +kernel
theorem d4_1 : decode method_2_code 1 = .ok (.iconst 3, 1) := by decide +kernel
theorem d4_2 : decode method_2_code 2 = .ok (.iand, 1) := by decide +kernel
theorem d4_3 : decode method_2_code 3 = .ok (.istore_n 3, 1) := by decide +kernel
theorem d4_4 : decode method_2_code 4 = .ok (.iload_n 3, 1) := by decide +kernel
theorem d4_5 : decode method_2_code 5 = .ok (.iconst 1, 1) := by decide +kernel
theorem d4_6 : decode method_2_code 6 = .ok (.if_icmp .ne 5, 3) := by decide +kernel
theorem d4_9 : decode method_2_code 9 = .ok (.aload_n 1, 1) := by decide +kernel
theorem d4_10 : decode method_2_code 10 = .ok (.areturn, 1) := by decide +kernel
theorem d4_11 : decode method_2_code 11 = .ok (.iload_n 3, 1) := by decide +kernel
theorem d4_12 : decode method_2_code 12 = .ok (.iconst 2, 1) := by decide +kernel
theorem d4_13 : decode method_2_code 13 = .ok (.if_icmp .ne 5, 3) := by decide +kernel
theorem d4_16 : decode method_2_code 16 = .ok (.aload_n 2, 1) := by decide +kernel
theorem d4_17 : decode method_2_code 17 = .ok (.areturn, 1) := by decide +kernel
theorem d4_18 : decode method_2_code 18 = .ok (.iload_n 3, 1) := by decide +kernel
theorem d4_19 : decode method_2_code 19 = .ok (.iconst 3, 1) := by decide +kernel
theorem d4_20 : decode method_2_code 20 = .ok (.if_icmp .ne 5, 3) := by decide +kernel
theorem d4_23 : decode method_2_code 23 = .ok (.aload_n 1, 1) := by decide +kernel
theorem d4_24 : decode method_2_code 24 = .ok (.areturn, 1) := by decide +kernel
theorem d4_25 : decode method_2_code 25 = .ok (.aconst_null, 1) := by decide +kernel
theorem d4_26 : decode method_2_code 26 = .ok (.areturn, 1) := by decide +kernel
theorem d5_0 : decode prog_62_method_2_code 0 = .ok (.aload_n 0, 1) := by decide +kernel
theorem d5_1 : decode prog_62_method_2_code 1 = .ok (.getfield 13, 3) := by decide +kernel
theorem d5_4 : decode prog_62_method_2_code 4 = .ok (.aload_n 1, 1) := by decide +kernel
theorem d5_5 : decode prog_62_method_2_code 5 = .ok (.if_acmp .eq 8, 3) := by decide +kernel
theorem d5_8 : decode prog_62_method_2_code 8 = .ok (.aload_n 0, 1) := by decide +kernel
theorem d5_9 : decode prog_62_method_2_code 9 = .ok (.aload_n 1, 1) := by decide +kernel
theorem d5_10 : decode prog_62_method_2_code 10 = .ok (.putfield 13, 3) := by decide +kernel
theorem d5_13 : decode prog_62_method_2_code 13 = .ok (.aload_n 0, 1) := by decide +kernel
theorem d5_14 : decode prog_62_method_2_code 14 = .ok (.getfield 17, 3) := by decide +kernel
theorem d5_17 : decode prog_62_method_2_code 17 = .ok (.aload_n 2, 1) := by decide +kernel
theorem d5_18 : decode prog_62_method_2_code 18 = .ok (.if_acmp .eq 8, 3) := by decide +kernel
theorem d5_26 : decode prog_62_method_2_code 26 = .ok (.aload_n 0, 1) := by decide +kernel
theorem d5_27 : decode prog_62_method_2_code 27 = .ok (.getfield 21, 3) := by decide +kernel
theorem d5_30 : decode prog_62_method_2_code 30 = .ok (.aload_n 3, 1) := by decide +kernel
theorem d5_31 : decode prog_62_method_2_code 31 = .ok (.if_acmp .eq 8, 3) := by decide +kernel
theorem d5_39 : decode prog_62_method_2_code 39 = .ok (.return_, 1) := by decide +kernel
theorem pn_0 : plainName "com/example/biaoji/biaoji/NameTable" = true := by first | (simp [plainName, overriddenIn]; done) | decide +kernel
theorem pn_1 : plainName "com/example/biaoji/biaoji/ParserSpares$Spare" = true := by first | (simp [plainName, overriddenIn]; done) | decide +kernel
theorem pn_2 : plainName "com/example/biaoji/biaoji/SpareKeepPinLaw" = true := by first | (simp [plainName, overriddenIn]; done) | decide +kernel
theorem pd_3 : parseMethodDescriptor "()V" = some ⟨[], none⟩ := by decide +kernel
theorem pd_4 : parseMethodDescriptor "(I)V" = some ⟨[.int], none⟩ := by decide +kernel
theorem pd_5 : parseMethodDescriptor "(ILcom/example/biaoji/biaoji/NameTable;Lcom/example/biaoji/biaoji/NameTable;)Lcom/example/biaoji/biaoji/NameTable;" = some ⟨[.int, (.object "com/example/biaoji/biaoji/NameTable"), (.object "com/example/biaoji/biaoji/NameTable")], some (.object "com/example/biaoji/biaoji/NameTable")⟩ := by decide +kernel
theorem pd_6 : parseMethodDescriptor "(Lcom/example/biaoji/biaoji/NameTable;Lcom/example/biaoji/biaoji/StreamEntityReader;Lcom/example/biaoji/biaoji/DocumentScanner;)V" = some ⟨[(.object "com/example/biaoji/biaoji/NameTable"), (.object "com/example/biaoji/biaoji/StreamEntityReader"), (.object "com/example/biaoji/biaoji/DocumentScanner")], none⟩ := by decide +kernel
def own_pick (p : Int32) (a b : Addr) : Value := if (p &&& (3 : Int32)) = 1 then .ref a else if (p &&& (3 : Int32)) = 2 then .ref b else if (p &&& (3 : Int32)) = 3 then .ref a else .null
theorem own_pick3 (p : Int32) (a b : Addr) : own_pick p a b = .null ∨ own_pick p a b = .ref a ∨ own_pick p a b = .ref b := by
  unfold own_pick
  split
  · exact Or.inr (Or.inl rfl)
  · split
    · exact Or.inr (Or.inr rfl)
    · split
      · exact Or.inr (Or.inl rfl)
      · exact Or.inl rfl
abbrev sN0 : String := "com/example/biaoji/biaoji/ParserSpares$Spare"
abbrev sN1 : String := "(Lcom/example/biaoji/biaoji/NameTable;Lcom/example/biaoji/biaoji/StreamEntityReader;Lcom/example/biaoji/biaoji/DocumentScanner;)V"
abbrev sN2 : String := "com/example/biaoji/biaoji/NameTable"
abbrev sN3 : String := "Lcom/example/biaoji/biaoji/StreamEntityReader;"
abbrev sN4 : String := "Lcom/example/biaoji/biaoji/DocumentScanner;"
abbrev sN5 : String := "Lcom/example/biaoji/biaoji/NameTable;"
theorem ef_rmNT (m : MethodId) (x0 : Addr) : entryFrame m #[(.ref x0)] 1 = mkF m 0 #[rv x0] [] := by first | (simp [entryFrame, mkF, argsToLocals, Value.category]; done) | rfl
def Q_rmNT (Z : State) (a1 : Addr) (u1 : Value) (u2 : Value) (u3 : Value) (h0 : Heap) (n0 : Nat) (v : Option Value) (h : Heap) (L : List Loc) : Prop := v = none ∧ Fr n0 L ∧ Keep h0 h [a1]
set_option maxRecDepth 65536 in
set_option maxHeartbeats 40000000 in
theorem rmNT (l : Launch) (Z : State) (a0 : Array Value) (hw : ∀ d ∈ tables_1, d.before a0 Z = true) (ws : List Jvm.Cond) (a1 : Addr) (u1 : Value) (u2 : Value) (u3 : Value) (h0 : Heap) (n0 : Nat) (Z0 : n0 ≤ h0.size) (E_a1 : Exa Z h0 a1 sN2) (F_slots_a1 : Fld Z h0 a1 sN2 "slots" "[Ljava/lang/String;" u1) (F_hashes_a1 : Fld Z h0 a1 sN2 "hashes" "[I" u2) (F_spellings_a1 : Fld Z h0 a1 sN2 "spellings" "[[C" u3) (g_a1 : n0 ≤ a1) :
    MetFree l (⟨sN2, "<init>", "()V"⟩ : MethodName) (head1 (Jvm.Cond.code (⟨sN2, "<init>", "()V"⟩ : MethodName) prog_59_method_1_code 1 none :: ws) ({ frames := 1, cells := 3, slots := 48, locals := 12 } : Room)) (fun a U => a = #[(.ref a1)] ∧ Z.Warmed39 U.vm ∧ U.heap = h0) (fun _ _ _ _ _ => True) (fun _ U o U' => ∃ v L, o = .returned v ∧ Q_rmNT Z a1 u1 u2 u3 h0 n0 v U'.heap L ∧ FrameEnd U o U' L ({ frames := 1, cells := 3, slots := 48, locals := 12 } : Room).cells ({ frames := 1, cells := 3, slots := 48, locals := 12 } : Room).slots) := by
  refine MetFree.of_bodySF (plainFor_of_name pn_0) hisR ?_
  intro p e s m args below meth c s₁ Bd hml0 hP hK
  obtain ⟨rfl, hZ, hh⟩ := hP
  have hx := Bd.exec
  have hby := Bd.bytes
  have hml : c.maxLocals = 1 := hml0
  have hown : s.vm.findClass sN2 = some m.cls := findClass_of_methodNamed Bd.named
  have hnm := (name_of_methodNamed Bd.named Bd.method).1
  have X0 : Stand p l e ({ frames := 1, cells := 3, slots := 48, locals := 12 } : Room) s m #[(.ref a1)] below meth c s₁ [] 0 0 := Stand.of_body Bd
  have e0 : s₁.heap = h0 := by rw [← hh, Bd.state]; rfl
  have N0 := Fr.nil n0
  obtain ⟨f0, hf0⟩ : ∃ f : JFrame, f = mkF m 0 #[rv a1] [] := ⟨_, rfl⟩
  have pre0 : ∀ t, Steps p.tables e below (s₁.setTop f0) t → Steps p.tables e below (s₁.setTop (entryFrame m #[(.ref a1)] 1)) t := fun t k => castTop ((ef_rmNT m a1).trans hf0.symm) k
  have R0 : ∀ t, Steps p.tables e below (s₁.setTop (mkF m 0 #[rv a1] [])) t → Steps p.tables e below (s₁.setTop f0) t := by rw [hf0]; exact fun t k => k
  have R1 : ∀ t, Steps p.tables e below (s₁.setTop (mkF m 1 #[rv a1] [(.ref a1)])) t → Steps p.tables e below (s₁.setTop f0) t := fun t k => R0 t (by
    show Steps p.tables e below (s₁.setTop (mkF m 0 #[rv a1] [])) _
    refine XS.aloadN X0.here hx rfl (hb hby d1_0) rfl rfl ?_
    exact k)
  obtain ⟨T2, X2, e2, st2⟩ := initO X0 hx hZ hown (hw _ (List.mem_of_getElem? (i := 6) rfl)) (hw _ (List.mem_of_getElem? (i := 7) rfl)) (hw _ (List.mem_of_getElem? (i := 8) rfl)) e0 (g := (mkF m 1 #[rv a1] [(.ref a1)])) rfl (by rw [hml]; rfl) rfl (hb hby d1_1) (by decide) (W := 0) (by show 2 * 0 + _ ≤ _; exact Nat.le_of_eq rfl) (by decide)
  have R3 : ∀ t, Steps p.tables e below (T2.setTop (mkF m 4 #[rv a1] [])) t → Steps p.tables e below (s₁.setTop f0) t := fun t k => R1 t (st2 t k)
  have R4 : ∀ t, Steps p.tables e below (T2.setTop (mkF m 7 #[rv a1] [(.int (16 : Int32)), (.ref a1)])) t → Steps p.tables e below (s₁.setTop f0) t := fun t k => R3 t (by
    show Steps p.tables e below (T2.setTop (mkF m 4 #[rv a1] [])) _
    refine XS.aloadN X2.here hx rfl (hb hby d1_4) rfl rfl ?_
    show Steps p.tables e below (T2.setTop (mkF m 5 #[rv a1] [(.ref a1)])) _
    refine XS.bipush X2.here hx rfl (hb hby d1_5) ?_
    exact k)
  obtain ⟨T5, h5, k5, X5, e5, E5, A5, O5, st5⟩ := newR X2 hx hZ hown (hw _ (List.mem_of_getElem? (i := 9) rfl)) (hw _ (List.mem_of_getElem? (i := 10) rfl)) e2 (g := (mkF m 7 #[rv a1] [(.int (16 : Int32)), (.ref a1)])) rfl (hb hby d1_7) rfl (by decide) (cap := 16) (by decide) (by decide) (by decide) (by decide)
  obtain ⟨b5, g5⟩ : ∃ z, z = h0.size := ⟨_, rfl⟩
  rw [← g5] at A5 st5
  have g_b5 : n0 ≤ b5 := Nat.le_trans Z0 (Nat.le_of_eq g5.symm)
  have sz_b5 : h0.size ≤ b5 := Nat.le_trans (Keep.refl h0 [a1]).1 (Nat.le_of_eq g5.symm)
  have ne_a1_b5 : a1 ≠ b5 := Nat.ne_of_lt (Nat.lt_of_lt_of_le E_a1.lt (Nat.le_of_eq g5.symm))
  have f5_E_a1 : Exa Z h5 a1 sN2 := E_a1.ext E5
  have f5_F_slots_a1 : Fld Z h5 a1 sN2 "slots" "[Ljava/lang/String;" u1 := F_slots_a1.ext E5
  have f5_F_hashes_a1 : Fld Z h5 a1 sN2 "hashes" "[I" u2 := F_hashes_a1.ext E5
  have f5_F_spellings_a1 : Fld Z h5 a1 sN2 "spellings" "[[C" u3 := F_spellings_a1.ext E5
  have z5 : n0 ≤ h5.size := Nat.le_trans Z0 E5.1
  have K5 : Keep h0 h5 [a1] := (Keep.refl h0 [a1]).ext E5
  have v5 : Arv Z h5 b5 k5 (.object "java/lang/String") (16 : Int32) [.null, .null, .null, .null, .null, .null, .null, .null, .null, .null, .null, .null, .null, .null, .null, .null] .null := (Arv.new A5 (by decide)).pad (pad_rep [] .null 16)
  have R6 : ∀ t, Steps p.tables e below (T5.setTop (mkF m 10 #[rv a1] [(.ref b5), (.ref a1)])) t → Steps p.tables e below (s₁.setTop f0) t := fun t k => R4 t (st5 t k)
  obtain ⟨T7, h7, X7, e7, W7, st7⟩ := putF X5 hx hZ hown (host := "") (Or.inl (hw _ (List.mem_of_getElem? (i := 11) rfl))) Via.refl e5 f5_F_slots_a1 f5_E_a1 (Or.inl (hw _ (List.mem_of_getElem? (i := 12) rfl))) (hw _ (List.mem_of_getElem? (i := 1) rfl)) (ty := (.array (.object "java/lang/String"))) (by decide) rfl rfl (g := (mkF m 10 #[rv a1] [(.ref b5), (.ref a1)])) rfl rfl (hb hby d1_10)
  have fw7 : Fld Z h7 a1 sN2 "slots" "[Ljava/lang/String;" (.ref b5) := f5_F_slots_a1.same W7
  have f7_E_a1 : Exa Z h7 a1 sN2 := f5_E_a1.wr W7
  have f7_F_hashes_a1 : Fld Z h7 a1 sN2 "hashes" "[I" u2 := f5_F_hashes_a1.other W7 (Or.inr (slot_ne (Or.inl (hw _ (List.mem_of_getElem? (i := 15) rfl))) (Or.inl (hw _ (List.mem_of_getElem? (i := 12) rfl))) (by decide) (t := (.array .int)) (t' := (.array (.object "java/lang/String"))) (by decide) (by decide)))
  have f7_F_spellings_a1 : Fld Z h7 a1 sN2 "spellings" "[[C" u3 := f5_F_spellings_a1.other W7 (Or.inr (slot_ne (Or.inl (hw _ (List.mem_of_getElem? (i := 19) rfl))) (Or.inl (hw _ (List.mem_of_getElem? (i := 12) rfl))) (by decide) (t := (.array (.array .char))) (t' := (.array (.object "java/lang/String"))) (by decide) (by decide)))
  have f7_A_b5 : Arv Z h7 b5 k5 (.object "java/lang/String") (16 : Int32) [.null, .null, .null, .null, .null, .null, .null, .null, .null, .null, .null, .null, .null, .null, .null, .null] .null := v5.other W7 (Ne.symm ne_a1_b5)
  have z7 : n0 ≤ h7.size := by rw [W7.size]; exact z5
  have K7 : Keep h0 h7 [a1] := K5.wr W7 (Or.inl (List.mem_of_getElem? (i := 0) rfl))
  have N7 := Fr.snoc X7 N0 g_a1
  have R8 : ∀ t, Steps p.tables e below (T7.setTop (mkF m 13 #[rv a1] [])) t → Steps p.tables e below (s₁.setTop f0) t := fun t k => R6 t (st7 t k)
  have R9 : ∀ t, Steps p.tables e below (T7.setTop (mkF m 15 #[rv a1] [(.ref a1), (.ref a1)])) t → Steps p.tables e below (s₁.setTop f0) t := fun t k => R8 t (by
    show Steps p.tables e below (T7.setTop (mkF m 13 #[rv a1] [])) _
    refine XS.aloadN X7.here hx rfl (hb hby d1_13) rfl rfl ?_
    show Steps p.tables e below (T7.setTop (mkF m 14 #[rv a1] [(.ref a1)])) _
    refine XS.aloadN X7.here hx rfl (hb hby d1_14) rfl rfl ?_
    exact k)
  obtain ⟨T10, X10, e10, st10⟩ := getF X7 hx hZ hown (host := "") (Or.inl (hw _ (List.mem_of_getElem? (i := 11) rfl))) Via.refl e7 fw7 (g := (mkF m 15 #[rv a1] [(.ref a1), (.ref a1)])) rfl rfl (hb hby d1_15)
  have R11 : ∀ t, Steps p.tables e below (T10.setTop (mkF m 18 #[rv a1] [(.ref b5), (.ref a1)])) t → Steps p.tables e below (s₁.setTop f0) t := fun t k => R9 t (st10 t k)
  obtain ⟨cl12, Ar12, -, S12, N12_, -, -⟩ := id f7_A_b5
  have R13 : ∀ t, Steps p.tables e below (T10.setTop (mkF m 19 #[rv a1] [(.int (16 : Int32)), (.ref a1)])) t → Steps p.tables e below (s₁.setTop f0) t := fun t k => R11 t (X10.arraylength hx (by rw [e10]; exact Ar12.1) (State.isArrayOf_alike hZ.alike Ar12.2.1) (g := (mkF m 18 #[rv a1] [(.ref b5), (.ref a1)])) rfl rfl (hb hby d1_18) _ (by rw [len_of S12 N12_]; exact k))
  obtain ⟨T14, h14, k14, X14, e14, E14, A14, st14⟩ := newP X10 hx hZ (hw _ (List.mem_of_getElem? (i := 13) rfl)) e10 (g := (mkF m 19 #[rv a1] [(.int (16 : Int32)), (.ref a1)])) rfl (hb hby d1_19) rfl (by decide) (cap := 16) (by decide) (by decide) (by decide) (by decide)
  obtain ⟨b14, g14⟩ : ∃ z, z = h7.size := ⟨_, rfl⟩
  rw [← g14] at A14 st14
  have g_b14 : n0 ≤ b14 := Nat.le_trans z7 (Nat.le_of_eq g14.symm)
  have sz_b14 : h0.size ≤ b14 := Nat.le_trans K7.1 (Nat.le_of_eq g14.symm)
  have ne_a1_b14 : a1 ≠ b14 := Nat.ne_of_lt (Nat.lt_of_lt_of_le f7_E_a1.lt (Nat.le_of_eq g14.symm))
  have ne_b5_b14 : b5 ≠ b14 := Nat.ne_of_lt (Nat.lt_of_lt_of_le f7_A_b5.lt (Nat.le_of_eq g14.symm))
  have f14_E_a1 : Exa Z h14 a1 sN2 := f7_E_a1.ext E14
  have f14_F_slots_a1 : Fld Z h14 a1 sN2 "slots" "[Ljava/lang/String;" (.ref b5) := fw7.ext E14
  have f14_F_hashes_a1 : Fld Z h14 a1 sN2 "hashes" "[I" u2 := f7_F_hashes_a1.ext E14
  have f14_F_spellings_a1 : Fld Z h14 a1 sN2 "spellings" "[[C" u3 := f7_F_spellings_a1.ext E14
  have f14_A_b5 : Arv Z h14 b5 k5 (.object "java/lang/String") (16 : Int32) [.null, .null, .null, .null, .null, .null, .null, .null, .null, .null, .null, .null, .null, .null, .null, .null] .null := f7_A_b5.ext E14
  have z14 : n0 ≤ h14.size := Nat.le_trans z7 E14.1
  have K14 : Keep h0 h14 [a1] := K7.ext E14
  have v14 : Arv Z h14 b14 k14 .int (16 : Int32) [(.int (0 : Int32)), (.int (0 : Int32)), (.int (0 : Int32)), (.int (0 : Int32)), (.int (0 : Int32)), (.int (0 : Int32)), (.int (0 : Int32)), (.int (0 : Int32)), (.int (0 : Int32)), (.int (0 : Int32)), (.int (0 : Int32)), (.int (0 : Int32)), (.int (0 : Int32)), (.int (0 : Int32)), (.int (0 : Int32)), (.int (0 : Int32))] (.int (0 : Int32)) := (Arv.new A14 (by decide)).pad (pad_rep [] (.int (0 : Int32)) 16)
  have R15 : ∀ t, Steps p.tables e below (T14.setTop (mkF m 21 #[rv a1] [(.ref b14), (.ref a1)])) t → Steps p.tables e below (s₁.setTop f0) t := fun t k => R13 t (st14 t k)
  obtain ⟨T16, h16, X16, e16, W16, st16⟩ := putF X14 hx hZ hown (host := "") (Or.inl (hw _ (List.mem_of_getElem? (i := 14) rfl))) Via.refl e14 f14_F_hashes_a1 f14_E_a1 (Or.inl (hw _ (List.mem_of_getElem? (i := 15) rfl))) (hw _ (List.mem_of_getElem? (i := 1) rfl)) (ty := (.array .int)) (by decide) rfl rfl (g := (mkF m 21 #[rv a1] [(.ref b14), (.ref a1)])) rfl rfl (hb hby d1_21)
  have fw16 : Fld Z h16 a1 sN2 "hashes" "[I" (.ref b14) := f14_F_hashes_a1.same W16
  have f16_E_a1 : Exa Z h16 a1 sN2 := f14_E_a1.wr W16
  have f16_F_slots_a1 : Fld Z h16 a1 sN2 "slots" "[Ljava/lang/String;" (.ref b5) := f14_F_slots_a1.other W16 (Or.inr (slot_ne (Or.inl (hw _ (List.mem_of_getElem? (i := 12) rfl))) (Or.inl (hw _ (List.mem_of_getElem? (i := 15) rfl))) (by decide) (t := (.array (.object "java/lang/String"))) (t' := (.array .int)) (by decide) (by decide)))
  have f16_F_spellings_a1 : Fld Z h16 a1 sN2 "spellings" "[[C" u3 := f14_F_spellings_a1.other W16 (Or.inr (slot_ne (Or.inl (hw _ (List.mem_of_getElem? (i := 19) rfl))) (Or.inl (hw _ (List.mem_of_getElem? (i := 15) rfl))) (by decide) (t := (.array (.array .char))) (t' := (.array .int)) (by decide) (by decide)))
  have f16_A_b5 : Arv Z h16 b5 k5 (.object "java/lang/String") (16 : Int32) [.null, .null, .null, .null, .null, .null, .null, .null, .null, .null, .null, .null, .null, .null, .null, .null] .null := f14_A_b5.other W16 (Ne.symm ne_a1_b5)
  have f16_A_b14 : Arv Z h16 b14 k14 .int (16 : Int32) [(.int (0 : Int32)), (.int (0 : Int32)), (.int (0 : Int32)), (.int (0 : Int32)), (.int (0 : Int32)), (.int (0 : Int32)), (.int (0 : Int32)), (.int (0 : Int32)), (.int (0 : Int32)), (.int (0 : Int32)), (.int (0 : Int32)), (.int (0 : Int32)), (.int (0 : Int32)), (.int (0 : Int32)), (.int (0 : Int32)), (.int (0 : Int32))] (.int (0 : Int32)) := v14.other W16 (Ne.symm ne_a1_b14)
  have z16 : n0 ≤ h16.size := by rw [W16.size]; exact z14
  have K16 : Keep h0 h16 [a1] := K14.wr W16 (Or.inl (List.mem_of_getElem? (i := 0) rfl))
  have N16 := Fr.snoc X16 N7 g_a1
  have R17 : ∀ t, Steps p.tables e below (T16.setTop (mkF m 24 #[rv a1] [])) t → Steps p.tables e below (s₁.setTop f0) t := fun t k => R15 t (st16 t k)
  have R18 : ∀ t, Steps p.tables e below (T16.setTop (mkF m 26 #[rv a1] [(.ref a1), (.ref a1)])) t → Steps p.tables e below (s₁.setTop f0) t := fun t k => R17 t (by
    show Steps p.tables e below (T16.setTop (mkF m 24 #[rv a1] [])) _
    refine XS.aloadN X16.here hx rfl (hb hby d1_24) rfl rfl ?_
    show Steps p.tables e below (T16.setTop (mkF m 25 #[rv a1] [(.ref a1)])) _
    refine XS.aloadN X16.here hx rfl (hb hby d1_25) rfl rfl ?_
    exact k)
  obtain ⟨T19, X19, e19, st19⟩ := getF X16 hx hZ hown (host := "") (Or.inl (hw _ (List.mem_of_getElem? (i := 11) rfl))) Via.refl e16 f16_F_slots_a1 (g := (mkF m 26 #[rv a1] [(.ref a1), (.ref a1)])) rfl rfl (hb hby d1_26)
  have R20 : ∀ t, Steps p.tables e below (T19.setTop (mkF m 29 #[rv a1] [(.ref b5), (.ref a1)])) t → Steps p.tables e below (s₁.setTop f0) t := fun t k => R18 t (st19 t k)
  obtain ⟨cl21, Ar21, -, S21, N21_, -, -⟩ := id f16_A_b5
  have R22 : ∀ t, Steps p.tables e below (T19.setTop (mkF m 30 #[rv a1] [(.int (16 : Int32)), (.ref a1)])) t → Steps p.tables e below (s₁.setTop f0) t := fun t k => R20 t (X19.arraylength hx (by rw [e19]; exact Ar21.1) (State.isArrayOf_alike hZ.alike Ar21.2.1) (g := (mkF m 29 #[rv a1] [(.ref b5), (.ref a1)])) rfl rfl (hb hby d1_29) _ (by rw [len_of S21 N21_]; exact k))
  obtain ⟨T23, h23, k23, X23, e23, E23, A23, -, O23, st23⟩ := newRA X19 hx hZ (ty := .char) hown (by decide) (hw _ (List.mem_of_getElem? (i := 16) rfl)) (hw _ (List.mem_of_getElem? (i := 17) rfl)) e19 (g := (mkF m 30 #[rv a1] [(.int (16 : Int32)), (.ref a1)])) rfl (hb hby d1_30) rfl (by decide) (cap := 16) (by decide) (by decide) (by decide) (by decide) rfl
  obtain ⟨b23, g23⟩ : ∃ z, z = h16.size := ⟨_, rfl⟩
  rw [← g23] at A23 st23
  have g_b23 : n0 ≤ b23 := Nat.le_trans z16 (Nat.le_of_eq g23.symm)
  have sz_b23 : h0.size ≤ b23 := Nat.le_trans K16.1 (Nat.le_of_eq g23.symm)
  have ne_a1_b23 : a1 ≠ b23 := Nat.ne_of_lt (Nat.lt_of_lt_of_le f16_E_a1.lt (Nat.le_of_eq g23.symm))
  have ne_b5_b23 : b5 ≠ b23 := Nat.ne_of_lt (Nat.lt_of_lt_of_le f16_A_b5.lt (Nat.le_of_eq g23.symm))
  have ne_b14_b23 : b14 ≠ b23 := Nat.ne_of_lt (Nat.lt_of_lt_of_le f16_A_b14.lt (Nat.le_of_eq g23.symm))
  have f23_E_a1 : Exa Z h23 a1 sN2 := f16_E_a1.ext E23
  have f23_F_slots_a1 : Fld Z h23 a1 sN2 "slots" "[Ljava/lang/String;" (.ref b5) := f16_F_slots_a1.ext E23
  have f23_F_hashes_a1 : Fld Z h23 a1 sN2 "hashes" "[I" (.ref b14) := fw16.ext E23
  have f23_F_spellings_a1 : Fld Z h23 a1 sN2 "spellings" "[[C" u3 := f16_F_spellings_a1.ext E23
  have f23_A_b5 : Arv Z h23 b5 k5 (.object "java/lang/String") (16 : Int32) [.null, .null, .null, .null, .null, .null, .null, .null, .null, .null, .null, .null, .null, .null, .null, .null] .null := f16_A_b5.ext E23
  have f23_A_b14 : Arv Z h23 b14 k14 .int (16 : Int32) [(.int (0 : Int32)), (.int (0 : Int32)), (.int (0 : Int32)), (.int (0 : Int32)), (.int (0 : Int32)), (.int (0 : Int32)), (.int (0 : Int32)), (.int (0 : Int32)), (.int (0 : Int32)), (.int (0 : Int32)), (.int (0 : Int32)), (.int (0 : Int32)), (.int (0 : Int32)), (.int (0 : Int32)), (.int (0 : Int32)), (.int (0 : Int32))] (.int (0 : Int32)) := f16_A_b14.ext E23
  have z23 : n0 ≤ h23.size := Nat.le_trans z16 E23.1
  have K23 : Keep h0 h23 [a1] := K16.ext E23
  have v23 : Arv Z h23 b23 k23 (.array .char) (16 : Int32) [.null, .null, .null, .null, .null, .null, .null, .null, .null, .null, .null, .null, .null, .null, .null, .null] .null := (Arv.new A23 (by decide)).pad (pad_rep [] .null 16)
  have R24 : ∀ t, Steps p.tables e below (T23.setTop (mkF m 33 #[rv a1] [(.ref b23), (.ref a1)])) t → Steps p.tables e below (s₁.setTop f0) t := fun t k => R22 t (st23 t k)
  obtain ⟨T25, h25, X25, e25, W25, st25⟩ := putF X23 hx hZ hown (host := "") (Or.inl (hw _ (List.mem_of_getElem? (i := 18) rfl))) Via.refl e23 f23_F_spellings_a1 f23_E_a1 (Or.inl (hw _ (List.mem_of_getElem? (i := 19) rfl))) (hw _ (List.mem_of_getElem? (i := 1) rfl)) (ty := (.array (.array .char))) (by decide) rfl rfl (g := (mkF m 33 #[rv a1] [(.ref b23), (.ref a1)])) rfl rfl (hb hby d1_33)
  have fw25 : Fld Z h25 a1 sN2 "spellings" "[[C" (.ref b23) := f23_F_spellings_a1.same W25
  have f25_E_a1 : Exa Z h25 a1 sN2 := f23_E_a1.wr W25
  have f25_F_slots_a1 : Fld Z h25 a1 sN2 "slots" "[Ljava/lang/String;" (.ref b5) := f23_F_slots_a1.other W25 (Or.inr (slot_ne (Or.inl (hw _ (List.mem_of_getElem? (i := 12) rfl))) (Or.inl (hw _ (List.mem_of_getElem? (i := 19) rfl))) (by decide) (t := (.array (.object "java/lang/String"))) (t' := (.array (.array .char))) (by decide) (by decide)))
  have f25_F_hashes_a1 : Fld Z h25 a1 sN2 "hashes" "[I" (.ref b14) := f23_F_hashes_a1.other W25 (Or.inr (slot_ne (Or.inl (hw _ (List.mem_of_getElem? (i := 15) rfl))) (Or.inl (hw _ (List.mem_of_getElem? (i := 19) rfl))) (by decide) (t := (.array .int)) (t' := (.array (.array .char))) (by decide) (by decide)))
  have f25_A_b5 : Arv Z h25 b5 k5 (.object "java/lang/String") (16 : Int32) [.null, .null, .null, .null, .null, .null, .null, .null, .null, .null, .null, .null, .null, .null, .null, .null] .null := f23_A_b5.other W25 (Ne.symm ne_a1_b5)
  have f25_A_b14 : Arv Z h25 b14 k14 .int (16 : Int32) [(.int (0 : Int32)), (.int (0 : Int32)), (.int (0 : Int32)), (.int (0 : Int32)), (.int (0 : Int32)), (.int (0 : Int32)), (.int (0 : Int32)), (.int (0 : Int32)), (.int (0 : Int32)), (.int (0 : Int32)), (.int (0 : Int32)), (.int (0 : Int32)), (.int (0 : Int32)), (.int (0 : Int32)), (.int (0 : Int32)), (.int (0 : Int32))] (.int (0 : Int32)) := f23_A_b14.other W25 (Ne.symm ne_a1_b14)
  have f25_A_b23 : Arv Z h25 b23 k23 (.array .char) (16 : Int32) [.null, .null, .null, .null, .null, .null, .null, .null, .null, .null, .null, .null, .null, .null, .null, .null] .null := v23.other W25 (Ne.symm ne_a1_b23)
  have z25 : n0 ≤ h25.size := by rw [W25.size]; exact z23
  have K25 : Keep h0 h25 [a1] := K23.wr W25 (Or.inl (List.mem_of_getElem? (i := 0) rfl))
  have N25 := Fr.snoc X25 N16 g_a1
  have R26 : ∀ t, Steps p.tables e below (T25.setTop (mkF m 36 #[rv a1] [])) t → Steps p.tables e below (s₁.setTop f0) t := fun t k => R24 t (st25 t k)
  obtain ⟨fs, hr, hrun, hended, hW, hsame⟩ := X25.leave (v := none) (fun _ => rfl)
  refine ⟨_, _, pre0 _ (R26 _ ?_), hrun, hended, _, _, rfl, ?_, ⟨_, rfl⟩, hW, hsame.mono (by decide) (by decide)⟩
  · show Steps p.tables e below (T25.setTop (mkF m 36 #[rv a1] [])) _
    exact X25.returnOut hx Bd.returns (hb hby d1_36) hr
  · show Q_rmNT Z a1 u1 u2 u3 h0 n0 _ T25.heap _
    rw [e25]
    exact ⟨rfl, N25, K25⟩
theorem ef_rmSp (m : MethodId) (x0 : Addr) (x1 : Int32) : entryFrame m #[(.ref x0), (.int x1)] 2 = mkF m 0 #[rv x0, iv x1] [] := by first | (simp [entryFrame, mkF, argsToLocals, Value.category]; done) | rfl
def Q_rmSp (Z : State) (a1 : Addr) (p2 : Int32) (u1 : Value) (h0 : Heap) (n0 : Nat) (v : Option Value) (h : Heap) (L : List Loc) : Prop := v = none ∧ Fr n0 L ∧ Keep h0 h [a1] ∧ (Fld Z h a1 sN0 "names" sN5 .null) ∧ (Fld Z h a1 sN0 "reader" sN3 .null) ∧ (Fld Z h a1 sN0 "scanner" sN4 .null)
set_option maxRecDepth 65536 in
set_option maxHeartbeats 40000000 in
theorem rmSp (l : Launch) (Z : State) (a0 : Array Value) (hw : ∀ d ∈ tables_1, d.before a0 Z = true) (ws : List Jvm.Cond) (a1 : Addr) (p2 : Int32) (u1 : Value) (h0 : Heap) (n0 : Nat) (Z0 : n0 ≤ h0.size) (E_a1 : Exa Z h0 a1 sN0) (F_place_a1 : Fld Z h0 a1 sN0 "place" "I" u1) (F_names_a1 : Fld Z h0 a1 sN0 "names" sN5 .null) (F_reader_a1 : Fld Z h0 a1 sN0 "reader" sN3 .null) (F_scanner_a1 : Fld Z h0 a1 sN0 "scanner" sN4 .null) (g_a1 : n0 ≤ a1) :
    MetFree l (⟨sN0, "<init>", "(I)V"⟩ : MethodName) (head1 (Jvm.Cond.code (⟨sN0, "<init>", "(I)V"⟩ : MethodName) prog_62_method_1_code 2 none :: ws) ({ frames := 1, cells := 0, slots := 0, locals := 12 } : Room)) (fun a U => a = #[(.ref a1), (.int p2)] ∧ Z.Warmed39 U.vm ∧ U.heap = h0) (fun _ _ _ _ _ => True) (fun _ U o U' => ∃ v L, o = .returned v ∧ Q_rmSp Z a1 p2 u1 h0 n0 v U'.heap L ∧ FrameEnd U o U' L ({ frames := 1, cells := 0, slots := 0, locals := 12 } : Room).cells ({ frames := 1, cells := 0, slots := 0, locals := 12 } : Room).slots) := by
  refine MetFree.of_bodySF (plainFor_of_name pn_1) hisR ?_
  intro p e s m args below meth c s₁ Bd hml0 hP hK
  obtain ⟨rfl, hZ, hh⟩ := hP
  have hx := Bd.exec
  have hby := Bd.bytes
  have hml : c.maxLocals = 2 := hml0
  have hown : s.vm.findClass sN0 = some m.cls := findClass_of_methodNamed Bd.named
  have hnm := (name_of_methodNamed Bd.named Bd.method).1
  have X0 : Stand p l e ({ frames := 1, cells := 0, slots := 0, locals := 12 } : Room) s m #[(.ref a1), (.int p2)] below meth c s₁ [] 0 0 := Stand.of_body Bd
  have e0 : s₁.heap = h0 := by rw [← hh, Bd.state]; rfl
  have N0 := Fr.nil n0
  obtain ⟨f0, hf0⟩ : ∃ f : JFrame, f = mkF m 0 #[rv a1, iv p2] [] := ⟨_, rfl⟩
  have pre0 : ∀ t, Steps p.tables e below (s₁.setTop f0) t → Steps p.tables e below (s₁.setTop (entryFrame m #[(.ref a1), (.int p2)] 2)) t := fun t k => castTop ((ef_rmSp m a1 p2).trans hf0.symm) k
  have R0 : ∀ t, Steps p.tables e below (s₁.setTop (mkF m 0 #[rv a1, iv p2] [])) t → Steps p.tables e below (s₁.setTop f0) t := by rw [hf0]; exact fun t k => k
  have R1 : ∀ t, Steps p.tables e below (s₁.setTop (mkF m 1 #[rv a1, iv p2] [(.ref a1)])) t → Steps p.tables e below (s₁.setTop f0) t := fun t k => R0 t (by
    show Steps p.tables e below (s₁.setTop (mkF m 0 #[rv a1, iv p2] [])) _
    refine XS.aloadN X0.here hx rfl (hb hby d3_0) rfl rfl ?_
    exact k)
  obtain ⟨T2, X2, e2, st2⟩ := initO X0 hx hZ hown (hw _ (List.mem_of_getElem? (i := 26) rfl)) (hw _ (List.mem_of_getElem? (i := 7) rfl)) (hw _ (List.mem_of_getElem? (i := 8) rfl)) e0 (g := (mkF m 1 #[rv a1, iv p2] [(.ref a1)])) rfl (by rw [hml]; rfl) rfl (hb hby d3_1) (by decide) (W := 0) (by show 2 * 0 + _ ≤ _; exact Nat.le_of_eq rfl) (by decide)
  have R3 : ∀ t, Steps p.tables e below (T2.setTop (mkF m 4 #[rv a1, iv p2] [])) t → Steps p.tables e below (s₁.setTop f0) t := fun t k => R1 t (st2 t k)
  have R4 : ∀ t, Steps p.tables e below (T2.setTop (mkF m 6 #[rv a1, iv p2] [(.int p2), (.ref a1)])) t → Steps p.tables e below (s₁.setTop f0) t := fun t k => R3 t (by
    show Steps p.tables e below (T2.setTop (mkF m 4 #[rv a1, iv p2] [])) _
    refine XS.aloadN X2.here hx rfl (hb hby d3_4) rfl rfl ?_
    show Steps p.tables e below (T2.setTop (mkF m 5 #[rv a1, iv p2] [(.ref a1)])) _
    refine XS.iloadN X2.here hx rfl (hb hby d3_5) rfl  ?_
    exact k)
  obtain ⟨T5, h5, X5, e5, W5, st5⟩ := putF X2 hx hZ hown (host := "") (Or.inl (hw _ (List.mem_of_getElem? (i := 27) rfl))) Via.refl e2 F_place_a1 E_a1 (Or.inr ⟨(hw _ (List.mem_of_getElem? (i := 28) rfl)), rfl, hnm⟩) (hw _ (List.mem_of_getElem? (i := 21) rfl)) (ty := .int) (by decide) rfl rfl (g := (mkF m 6 #[rv a1, iv p2] [(.int p2), (.ref a1)])) rfl rfl (hb hby d3_6)
  have fw5 : Fld Z h5 a1 sN0 "place" "I" (.int p2) := F_place_a1.same W5
  have f5_E_a1 : Exa Z h5 a1 sN0 := E_a1.wr W5
  have f5_F_names_a1 : Fld Z h5 a1 sN0 "names" sN5 .null := F_names_a1.other W5 (Or.inr (slot_ne (Or.inl (hw _ (List.mem_of_getElem? (i := 34) rfl))) (Or.inr (hw _ (List.mem_of_getElem? (i := 28) rfl))) (by decide) (t := (.object sN2)) (t' := .int) (by decide) (by decide)))
  have f5_F_reader_a1 : Fld Z h5 a1 sN0 "reader" sN3 .null := F_reader_a1.other W5 (Or.inr (slot_ne (Or.inl (hw _ (List.mem_of_getElem? (i := 36) rfl))) (Or.inr (hw _ (List.mem_of_getElem? (i := 28) rfl))) (by decide) (t := (.object "com/example/biaoji/biaoji/StreamEntityReader")) (t' := .int) (by decide) (by decide)))
  have f5_F_scanner_a1 : Fld Z h5 a1 sN0 "scanner" sN4 .null := F_scanner_a1.other W5 (Or.inr (slot_ne (Or.inl (hw _ (List.mem_of_getElem? (i := 38) rfl))) (Or.inr (hw _ (List.mem_of_getElem? (i := 28) rfl))) (by decide) (t := (.object "com/example/biaoji/biaoji/DocumentScanner")) (t' := .int) (by decide) (by decide)))
  have z5 : n0 ≤ h5.size := by rw [W5.size]; exact Z0
  have K5 : Keep h0 h5 [a1] := (Keep.refl h0 [a1]).wr W5 (Or.inl (List.mem_of_getElem? (i := 0) rfl))
  have N5 := Fr.snoc X5 N0 g_a1
  have R6 : ∀ t, Steps p.tables e below (T5.setTop (mkF m 9 #[rv a1, iv p2] [])) t → Steps p.tables e below (s₁.setTop f0) t := fun t k => R4 t (st5 t k)
  obtain ⟨fs, hr, hrun, hended, hW, hsame⟩ := X5.leave (v := none) (fun _ => rfl)
  refine ⟨_, _, pre0 _ (R6 _ ?_), hrun, hended, _, _, rfl, ?_, ⟨_, rfl⟩, hW, hsame.mono (by decide) (by decide)⟩
  · show Steps p.tables e below (T5.setTop (mkF m 9 #[rv a1, iv p2] [])) _
    exact X5.returnOut hx Bd.returns (hb hby d3_9) hr
  · show Q_rmSp Z a1 p2 u1 h0 n0 _ T5.heap _
    rw [e5]
    exact ⟨rfl, N5, K5, f5_F_names_a1, f5_F_reader_a1, f5_F_scanner_a1⟩
theorem ef_rmPick (m : MethodId) (x0 : Int32) (x1 : Addr) (x2 : Addr) : entryFrame m #[(.int x0), (.ref x1), (.ref x2)] 4 = mkF m 0 #[iv x0, rv x1, rv x2, .unset] [] := by first | (simp [entryFrame, mkF, argsToLocals, Value.category]; done) | rfl
def Q_rmPick (Z : State) (p1 : Int32) (a2 : Addr) (a3 : Addr) (h0 : Heap) (n0 : Nat) (v : Option Value) (h : Heap) (L : List Loc) : Prop := v = some (own_pick p1 a2 a3) ∧ Fr n0 L ∧ h = h0
set_option maxRecDepth 65536 in
set_option maxHeartbeats 40000000 in
theorem rmPick (l : Launch) (Z : State) (a0 : Array Value) (hw : ∀ d ∈ tables_1, d.before a0 Z = true) (ws : List Jvm.Cond) (p1 : Int32) (a2 : Addr) (a3 : Addr) (h0 : Heap) (n0 : Nat) (Z0 : n0 ≤ h0.size) :
    MetFree l (⟨"com/example/biaoji/biaoji/SpareKeepPinLaw", "pick", "(ILcom/example/biaoji/biaoji/NameTable;Lcom/example/biaoji/biaoji/NameTable;)Lcom/example/biaoji/biaoji/NameTable;"⟩ : MethodName) (head1 (Jvm.Cond.code (⟨"com/example/biaoji/biaoji/SpareKeepPinLaw", "pick", "(ILcom/example/biaoji/biaoji/NameTable;Lcom/example/biaoji/biaoji/NameTable;)Lcom/example/biaoji/biaoji/NameTable;"⟩ : MethodName) method_2_code 4 (some (.object sN2)) :: ws) ({ frames := 0, cells := 0, slots := 0, locals := 0 } : Room)) (fun a U => a = #[(.int p1), (.ref a2), (.ref a3)] ∧ Z.Warmed39 U.vm ∧ U.heap = h0) (fun _ _ _ _ _ => True) (fun _ U o U' => ∃ v L, o = .returned v ∧ Q_rmPick Z p1 a2 a3 h0 n0 v U'.heap L ∧ FrameEnd U o U' L ({ frames := 0, cells := 0, slots := 0, locals := 0 } : Room).cells ({ frames := 0, cells := 0, slots := 0, locals := 0 } : Room).slots) := by
  refine MetFree.of_bodySF (plainFor_of_name pn_2) hisR ?_
  intro p e s m args below meth c s₁ Bd hml0 hP hK
  obtain ⟨rfl, hZ, hh⟩ := hP
  have hx := Bd.exec
  have hby := Bd.bytes
  have hml : c.maxLocals = 4 := hml0
  have hown : s.vm.findClass "com/example/biaoji/biaoji/SpareKeepPinLaw" = some m.cls := findClass_of_methodNamed Bd.named
  have hnm := (name_of_methodNamed Bd.named Bd.method).1
  have X0 : Stand p l e ({ frames := 0, cells := 0, slots := 0, locals := 0 } : Room) s m #[(.int p1), (.ref a2), (.ref a3)] below meth c s₁ [] 0 0 := Stand.of_body Bd
  have e0 : s₁.heap = h0 := by rw [← hh, Bd.state]; rfl
  have N0 := Fr.nil n0
  obtain ⟨f0, hf0⟩ : ∃ f : JFrame, f = mkF m 0 #[iv p1, rv a2, rv a3, .unset] [] := ⟨_, rfl⟩
  have pre0 : ∀ t, Steps p.tables e below (s₁.setTop f0) t → Steps p.tables e below (s₁.setTop (entryFrame m #[(.int p1), (.ref a2), (.ref a3)] 4)) t := fun t k => castTop ((ef_rmPick m p1 a2 a3).trans hf0.symm) k
  have R0 : ∀ t, Steps p.tables e below (s₁.setTop (mkF m 0 #[iv p1, rv a2, rv a3, .unset] [])) t → Steps p.tables e below (s₁.setTop f0) t := by rw [hf0]; exact fun t k => k
  have R1 : ∀ t, Steps p.tables e below (s₁.setTop (mkF m 6 #[iv p1, rv a2, rv a3, iv (p1 &&& (3 : Int32))] [(.int (1 : Int32)), (.int (p1 &&& (3 : Int32)))])) t → Steps p.tables e below (s₁.setTop f0) t := fun t k => R0 t (by
    show Steps p.tables e below (s₁.setTop (mkF m 0 #[iv p1, rv a2, rv a3, .unset] [])) _
    refine XS.iloadN X0.here hx rfl (hb hby d4_0) rfl  ?_
    show Steps p.tables e below (s₁.setTop (mkF m 1 #[iv p1, rv a2, rv a3, .unset] [(.int p1)])) _
    refine XS.iconst X0.here hx rfl (hb hby d4_1) ?_
    show Steps p.tables e below (s₁.setTop (mkF m 2 #[iv p1, rv a2, rv a3, .unset] [(.int (3 : Int32)), (.int p1)])) _
    refine XS.iand X0.here hx rfl (hb hby d4_2) rfl ?_
    show Steps p.tables e below (s₁.setTop (mkF m 3 #[iv p1, rv a2, rv a3, .unset] [(.int (p1 &&& (3 : Int32)))])) _
    refine XS.istoreN X0.here hx rfl (hb hby d4_3) rfl (l' := #[iv p1, rv a2, rv a3, iv (p1 &&& (3 : Int32))]) rfl ?_
    show Steps p.tables e below (s₁.setTop (mkF m 4 #[iv p1, rv a2, rv a3, iv (p1 &&& (3 : Int32))] [])) _
    refine XS.iloadN X0.here hx rfl (hb hby d4_4) rfl  ?_
    show Steps p.tables e below (s₁.setTop (mkF m 5 #[iv p1, rv a2, rv a3, iv (p1 &&& (3 : Int32))] [(.int (p1 &&& (3 : Int32)))])) _
    refine XS.iconst X0.here hx rfl (hb hby d4_5) ?_
    exact k)
  by_cases hs1 : (p1 &&& (3 : Int32)) = (1 : Int32)
  · skip
    have R2 : ∀ t, Steps p.tables e below (s₁.setTop (mkF m 10 #[iv p1, rv a2, rv a3, iv (p1 &&& (3 : Int32))] [(.ref a2)])) t → Steps p.tables e below (s₁.setTop f0) t := fun t k => R1 t (by
      show Steps p.tables e below (s₁.setTop (mkF m 6 #[iv p1, rv a2, rv a3, iv (p1 &&& (3 : Int32))] [(.int (1 : Int32)), (.int (p1 &&& (3 : Int32)))])) _
      refine XS.icmpNo X0.here hx rfl (hb hby d4_6) rfl (teq hs1).2 ?_
      show Steps p.tables e below (s₁.setTop (mkF m 9 #[iv p1, rv a2, rv a3, iv (p1 &&& (3 : Int32))] [])) _
      refine XS.aloadN X0.here hx rfl (hb hby d4_9) rfl rfl ?_
      exact k)
    obtain ⟨fs, hr, hrun, hended, hW, hsame⟩ := X0.leave (v := some (.ref a2)) (fun h => by rw [Bd.returns] at h; cases h)
    refine ⟨_, _, pre0 _ (R2 _ ?_), hrun, hended, _, _, rfl, ?_, ⟨_, rfl⟩, hW, hsame.mono (by decide) (by decide)⟩
    · show Steps p.tables e below (s₁.setTop (mkF m 10 #[iv p1, rv a2, rv a3, iv (p1 &&& (3 : Int32))] [(.ref a2)])) _
      exact retOut X0 hx (t := (.object sN2)) Bd.returns rfl (Or.inr (Or.inr (Or.inr (Or.inr ⟨rfl, rfl, rfl⟩)))) (hb hby d4_10) hr
    · show Q_rmPick Z p1 a2 a3 h0 n0 _ s₁.heap _
      rw [e0]
      exact ⟨(by (try simp only [lw_gt, lw_lt, lw_eq] at hs1); simp [own_pick, hs1]), N0, rfl⟩
  · skip
    have R3 : ∀ t, Steps p.tables e below (s₁.setTop (mkF m 13 #[iv p1, rv a2, rv a3, iv (p1 &&& (3 : Int32))] [(.int (2 : Int32)), (.int (p1 &&& (3 : Int32)))])) t → Steps p.tables e below (s₁.setTop f0) t := fun t k => R1 t (by
      show Steps p.tables e below (s₁.setTop (mkF m 6 #[iv p1, rv a2, rv a3, iv (p1 &&& (3 : Int32))] [(.int (1 : Int32)), (.int (p1 &&& (3 : Int32)))])) _
      refine XS.icmpYes X0.here hx rfl (pc0 := 6) (pc' := 11) rfl (hb hby d4_6) rfl (feq hs1).2 (by decide) (by decide) ?_
      show Steps p.tables e below (s₁.setTop (mkF m 11 #[iv p1, rv a2, rv a3, iv (p1 &&& (3 : Int32))] [])) _
      refine XS.iloadN X0.here hx rfl (hb hby d4_11) rfl  ?_
      show Steps p.tables e below (s₁.setTop (mkF m 12 #[iv p1, rv a2, rv a3, iv (p1 &&& (3 : Int32))] [(.int (p1 &&& (3 : Int32)))])) _
      refine XS.iconst X0.here hx rfl (hb hby d4_12) ?_
      exact k)
    by_cases hs2 : (p1 &&& (3 : Int32)) = (2 : Int32)
    · skip
      have R4 : ∀ t, Steps p.tables e below (s₁.setTop (mkF m 17 #[iv p1, rv a2, rv a3, iv (p1 &&& (3 : Int32))] [(.ref a3)])) t → Steps p.tables e below (s₁.setTop f0) t := fun t k => R3 t (by
        show Steps p.tables e below (s₁.setTop (mkF m 13 #[iv p1, rv a2, rv a3, iv (p1 &&& (3 : Int32))] [(.int (2 : Int32)), (.int (p1 &&& (3 : Int32)))])) _
        refine XS.icmpNo X0.here hx rfl (hb hby d4_13) rfl (teq hs2).2 ?_
        show Steps p.tables e below (s₁.setTop (mkF m 16 #[iv p1, rv a2, rv a3, iv (p1 &&& (3 : Int32))] [])) _
        refine XS.aloadN X0.here hx rfl (hb hby d4_16) rfl rfl ?_
        exact k)
      obtain ⟨fs, hr, hrun, hended, hW, hsame⟩ := X0.leave (v := some (.ref a3)) (fun h => by rw [Bd.returns] at h; cases h)
      refine ⟨_, _, pre0 _ (R4 _ ?_), hrun, hended, _, _, rfl, ?_, ⟨_, rfl⟩, hW, hsame.mono (by decide) (by decide)⟩
      · show Steps p.tables e below (s₁.setTop (mkF m 17 #[iv p1, rv a2, rv a3, iv (p1 &&& (3 : Int32))] [(.ref a3)])) _
        exact retOut X0 hx (t := (.object sN2)) Bd.returns rfl (Or.inr (Or.inr (Or.inr (Or.inr ⟨rfl, rfl, rfl⟩)))) (hb hby d4_17) hr
      · show Q_rmPick Z p1 a2 a3 h0 n0 _ s₁.heap _
        rw [e0]
        exact ⟨(by (try simp only [lw_gt, lw_lt, lw_eq] at hs1); (try simp only [lw_gt, lw_lt, lw_eq] at hs2); simp [own_pick, hs1, hs2]), N0, rfl⟩
    · skip
      have R5 : ∀ t, Steps p.tables e below (s₁.setTop (mkF m 20 #[iv p1, rv a2, rv a3, iv (p1 &&& (3 : Int32))] [(.int (3 : Int32)), (.int (p1 &&& (3 : Int32)))])) t → Steps p.tables e below (s₁.setTop f0) t := fun t k => R3 t (by
        show Steps p.tables e below (s₁.setTop (mkF m 13 #[iv p1, rv a2, rv a3, iv (p1 &&& (3 : Int32))] [(.int (2 : Int32)), (.int (p1 &&& (3 : Int32)))])) _
        refine XS.icmpYes X0.here hx rfl (pc0 := 13) (pc' := 18) rfl (hb hby d4_13) rfl (feq hs2).2 (by decide) (by decide) ?_
        show Steps p.tables e below (s₁.setTop (mkF m 18 #[iv p1, rv a2, rv a3, iv (p1 &&& (3 : Int32))] [])) _
        refine XS.iloadN X0.here hx rfl (hb hby d4_18) rfl  ?_
        show Steps p.tables e below (s₁.setTop (mkF m 19 #[iv p1, rv a2, rv a3, iv (p1 &&& (3 : Int32))] [(.int (p1 &&& (3 : Int32)))])) _
        refine XS.iconst X0.here hx rfl (hb hby d4_19) ?_
        exact k)
      by_cases hs3 : (p1 &&& (3 : Int32)) = (3 : Int32)
      · skip
        have R6 : ∀ t, Steps p.tables e below (s₁.setTop (mkF m 24 #[iv p1, rv a2, rv a3, iv (p1 &&& (3 : Int32))] [(.ref a2)])) t → Steps p.tables e below (s₁.setTop f0) t := fun t k => R5 t (by
          show Steps p.tables e below (s₁.setTop (mkF m 20 #[iv p1, rv a2, rv a3, iv (p1 &&& (3 : Int32))] [(.int (3 : Int32)), (.int (p1 &&& (3 : Int32)))])) _
          refine XS.icmpNo X0.here hx rfl (hb hby d4_20) rfl (teq hs3).2 ?_
          show Steps p.tables e below (s₁.setTop (mkF m 23 #[iv p1, rv a2, rv a3, iv (p1 &&& (3 : Int32))] [])) _
          refine XS.aloadN X0.here hx rfl (hb hby d4_23) rfl rfl ?_
          exact k)
        obtain ⟨fs, hr, hrun, hended, hW, hsame⟩ := X0.leave (v := some (.ref a2)) (fun h => by rw [Bd.returns] at h; cases h)
        refine ⟨_, _, pre0 _ (R6 _ ?_), hrun, hended, _, _, rfl, ?_, ⟨_, rfl⟩, hW, hsame.mono (by decide) (by decide)⟩
        · show Steps p.tables e below (s₁.setTop (mkF m 24 #[iv p1, rv a2, rv a3, iv (p1 &&& (3 : Int32))] [(.ref a2)])) _
          exact retOut X0 hx (t := (.object sN2)) Bd.returns rfl (Or.inr (Or.inr (Or.inr (Or.inr ⟨rfl, rfl, rfl⟩)))) (hb hby d4_24) hr
        · show Q_rmPick Z p1 a2 a3 h0 n0 _ s₁.heap _
          rw [e0]
          exact ⟨(by (try simp only [lw_gt, lw_lt, lw_eq] at hs1); (try simp only [lw_gt, lw_lt, lw_eq] at hs2); (try simp only [lw_gt, lw_lt, lw_eq] at hs3); simp [own_pick, hs1, hs2, hs3]), N0, rfl⟩
      · skip
        have R7 : ∀ t, Steps p.tables e below (s₁.setTop (mkF m 26 #[iv p1, rv a2, rv a3, iv (p1 &&& (3 : Int32))] [.null])) t → Steps p.tables e below (s₁.setTop f0) t := fun t k => R5 t (by
          show Steps p.tables e below (s₁.setTop (mkF m 20 #[iv p1, rv a2, rv a3, iv (p1 &&& (3 : Int32))] [(.int (3 : Int32)), (.int (p1 &&& (3 : Int32)))])) _
          refine XS.icmpYes X0.here hx rfl (pc0 := 20) (pc' := 25) rfl (hb hby d4_20) rfl (feq hs3).2 (by decide) (by decide) ?_
          show Steps p.tables e below (s₁.setTop (mkF m 25 #[iv p1, rv a2, rv a3, iv (p1 &&& (3 : Int32))] [])) _
          refine XS.aconstNull X0.here hx rfl (hb hby d4_25) ?_
          exact k)
        obtain ⟨fs, hr, hrun, hended, hW, hsame⟩ := X0.leave (v := some .null) (fun h => by rw [Bd.returns] at h; cases h)
        refine ⟨_, _, pre0 _ (R7 _ ?_), hrun, hended, _, _, rfl, ?_, ⟨_, rfl⟩, hW, hsame.mono (by decide) (by decide)⟩
        · show Steps p.tables e below (s₁.setTop (mkF m 26 #[iv p1, rv a2, rv a3, iv (p1 &&& (3 : Int32))] [.null])) _
          exact retOut X0 hx (t := (.object sN2)) Bd.returns rfl (Or.inr (Or.inr (Or.inr (Or.inr ⟨rfl, rfl, rfl⟩)))) (hb hby d4_26) hr
        · show Q_rmPick Z p1 a2 a3 h0 n0 _ s₁.heap _
          rw [e0]
          exact ⟨(by (try simp only [lw_gt, lw_lt, lw_eq] at hs1); (try simp only [lw_gt, lw_lt, lw_eq] at hs2); (try simp only [lw_gt, lw_lt, lw_eq] at hs3); simp [own_pick, hs1, hs2, hs3]), N0, rfl⟩
theorem ef_rmKeepNN (m : MethodId) (x0 : Addr) : entryFrame m #[(.ref x0), .null, .null, .null] 4 = mkF m 0 #[rv x0, .val .null, .val .null, .val .null] [] := by first | (simp [entryFrame, mkF, argsToLocals, Value.category]; done) | rfl
def Q_rmKeepNN (Z : State) (a1 : Addr) (h0 : Heap) (n0 : Nat) (v : Option Value) (h : Heap) (L : List Loc) : Prop := v = none ∧ Fr n0 L ∧ Keep h0 h [a1] ∧ (Fld Z h a1 sN0 "names" sN5 .null) ∧ (Fld Z h a1 sN0 "reader" sN3 .null) ∧ (Fld Z h a1 sN0 "scanner" sN4 .null)
set_option maxRecDepth 65536 in
set_option maxHeartbeats 40000000 in
theorem rmKeepNN (l : Launch) (Z : State) (a0 : Array Value) (hw : ∀ d ∈ tables_1, d.before a0 Z = true) (ws : List Jvm.Cond) (a1 : Addr) (h0 : Heap) (n0 : Nat) (Z0 : n0 ≤ h0.size) (E_a1 : Exa Z h0 a1 sN0) (F_names_a1 : Fld Z h0 a1 sN0 "names" sN5 .null) (F_reader_a1 : Fld Z h0 a1 sN0 "reader" sN3 .null) (F_scanner_a1 : Fld Z h0 a1 sN0 "scanner" sN4 .null) (g_a1 : n0 ≤ a1) :
    MetFree l (⟨sN0, "keep", sN1⟩ : MethodName) (head1 (Jvm.Cond.code (⟨sN0, "keep", sN1⟩ : MethodName) prog_62_method_2_code 4 none :: ws) ({ frames := 0, cells := 0, slots := 0, locals := 0 } : Room)) (fun a U => a = #[(.ref a1), .null, .null, .null] ∧ Z.Warmed39 U.vm ∧ U.heap = h0) (fun _ _ _ _ _ => True) (fun _ U o U' => ∃ v L, o = .returned v ∧ Q_rmKeepNN Z a1 h0 n0 v U'.heap L ∧ FrameEnd U o U' L ({ frames := 0, cells := 0, slots := 0, locals := 0 } : Room).cells ({ frames := 0, cells := 0, slots := 0, locals := 0 } : Room).slots) := by
  refine MetFree.of_bodySF (plainFor_of_name pn_1) hisR ?_
  intro p e s m args below meth c s₁ Bd hml0 hP hK
  obtain ⟨rfl, hZ, hh⟩ := hP
  have hx := Bd.exec
  have hby := Bd.bytes
  have hml : c.maxLocals = 4 := hml0
  have hown : s.vm.findClass sN0 = some m.cls := findClass_of_methodNamed Bd.named
  have hnm := (name_of_methodNamed Bd.named Bd.method).1
  have X0 : Stand p l e ({ frames := 0, cells := 0, slots := 0, locals := 0 } : Room) s m #[(.ref a1), .null, .null, .null] below meth c s₁ [] 0 0 := Stand.of_body Bd
  have e0 : s₁.heap = h0 := by rw [← hh, Bd.state]; rfl
  have N0 := Fr.nil n0
  obtain ⟨f0, hf0⟩ : ∃ f : JFrame, f = mkF m 0 #[rv a1, .val .null, .val .null, .val .null] [] := ⟨_, rfl⟩
  have pre0 : ∀ t, Steps p.tables e below (s₁.setTop f0) t → Steps p.tables e below (s₁.setTop (entryFrame m #[(.ref a1), .null, .null, .null] 4)) t := fun t k => castTop ((ef_rmKeepNN m a1).trans hf0.symm) k
  have R0 : ∀ t, Steps p.tables e below (s₁.setTop (mkF m 0 #[rv a1, .val .null, .val .null, .val .null] [])) t → Steps p.tables e below (s₁.setTop f0) t := by rw [hf0]; exact fun t k => k
  have R1 : ∀ t, Steps p.tables e below (s₁.setTop (mkF m 1 #[rv a1, .val .null, .val .null, .val .null] [(.ref a1)])) t → Steps p.tables e below (s₁.setTop f0) t := fun t k => R0 t (by
    show Steps p.tables e below (s₁.setTop (mkF m 0 #[rv a1, .val .null, .val .null, .val .null] [])) _
    refine XS.aloadN X0.here hx rfl (hb hby d5_0) rfl rfl ?_
    exact k)
  obtain ⟨T2, X2, e2, st2⟩ := getF X0 hx hZ hown (host := "") (Or.inl (hw _ (List.mem_of_getElem? (i := 44) rfl))) Via.refl e0 F_names_a1 (g := (mkF m 1 #[rv a1, .val .null, .val .null, .val .null] [(.ref a1)])) rfl rfl (hb hby d5_1)
  have R3 : ∀ t, Steps p.tables e below (T2.setTop (mkF m 4 #[rv a1, .val .null, .val .null, .val .null] [.null])) t → Steps p.tables e below (s₁.setTop f0) t := fun t k => R1 t (st2 t k)
  have R4 : ∀ t, Steps p.tables e below (T2.setTop (mkF m 14 #[rv a1, .val .null, .val .null, .val .null] [(.ref a1)])) t → Steps p.tables e below (s₁.setTop f0) t := fun t k => R3 t (by
    show Steps p.tables e below (T2.setTop (mkF m 4 #[rv a1, .val .null, .val .null, .val .null] [.null])) _
    refine XS.aloadN X2.here hx rfl (hb hby d5_4) rfl rfl ?_
    show Steps p.tables e below (T2.setTop (mkF m 5 #[rv a1, .val .null, .val .null, .val .null] [.null, .null])) _
    refine Jvm.RoadKit.acmp (g := (mkF m 5 #[rv a1, .val .null, .val .null, .val .null] [.null, .null])) X2 hx rfl rfl rfl (pc0 := 5) (pc' := 13) (same := true) rfl (hb hby d5_5) rfl (decide_eq_true rfl) (by decide) (by decide) ?_
    show Steps p.tables e below (T2.setTop (mkF m 13 #[rv a1, .val .null, .val .null, .val .null] [])) _
    refine XS.aloadN X2.here hx rfl (hb hby d5_13) rfl rfl ?_
    exact k)
  obtain ⟨T5, X5, e5, st5⟩ := getF X2 hx hZ hown (host := "") (Or.inl (hw _ (List.mem_of_getElem? (i := 45) rfl))) Via.refl e2 F_reader_a1 (g := (mkF m 14 #[rv a1, .val .null, .val .null, .val .null] [(.ref a1)])) rfl rfl (hb hby d5_14)
  have R6 : ∀ t, Steps p.tables e below (T5.setTop (mkF m 17 #[rv a1, .val .null, .val .null, .val .null] [.null])) t → Steps p.tables e below (s₁.setTop f0) t := fun t k => R4 t (st5 t k)
  have R7 : ∀ t, Steps p.tables e below (T5.setTop (mkF m 27 #[rv a1, .val .null, .val .null, .val .null] [(.ref a1)])) t → Steps p.tables e below (s₁.setTop f0) t := fun t k => R6 t (by
    show Steps p.tables e below (T5.setTop (mkF m 17 #[rv a1, .val .null, .val .null, .val .null] [.null])) _
    refine XS.aloadN X5.here hx rfl (hb hby d5_17) rfl rfl ?_
    show Steps p.tables e below (T5.setTop (mkF m 18 #[rv a1, .val .null, .val .null, .val .null] [.null, .null])) _
    refine Jvm.RoadKit.acmp (g := (mkF m 18 #[rv a1, .val .null, .val .null, .val .null] [.null, .null])) X5 hx rfl rfl rfl (pc0 := 18) (pc' := 26) (same := true) rfl (hb hby d5_18) rfl (decide_eq_true rfl) (by decide) (by decide) ?_
    show Steps p.tables e below (T5.setTop (mkF m 26 #[rv a1, .val .null, .val .null, .val .null] [])) _
    refine XS.aloadN X5.here hx rfl (hb hby d5_26) rfl rfl ?_
    exact k)
  obtain ⟨T8, X8, e8, st8⟩ := getF X5 hx hZ hown (host := "") (Or.inl (hw _ (List.mem_of_getElem? (i := 46) rfl))) Via.refl e5 F_scanner_a1 (g := (mkF m 27 #[rv a1, .val .null, .val .null, .val .null] [(.ref a1)])) rfl rfl (hb hby d5_27)
  have R9 : ∀ t, Steps p.tables e below (T8.setTop (mkF m 30 #[rv a1, .val .null, .val .null, .val .null] [.null])) t → Steps p.tables e below (s₁.setTop f0) t := fun t k => R7 t (st8 t k)
  have R10 : ∀ t, Steps p.tables e below (T8.setTop (mkF m 39 #[rv a1, .val .null, .val .null, .val .null] [])) t → Steps p.tables e below (s₁.setTop f0) t := fun t k => R9 t (by
    show Steps p.tables e below (T8.setTop (mkF m 30 #[rv a1, .val .null, .val .null, .val .null] [.null])) _
    refine XS.aloadN X8.here hx rfl (hb hby d5_30) rfl rfl ?_
    show Steps p.tables e below (T8.setTop (mkF m 31 #[rv a1, .val .null, .val .null, .val .null] [.null, .null])) _
    refine Jvm.RoadKit.acmp (g := (mkF m 31 #[rv a1, .val .null, .val .null, .val .null] [.null, .null])) X8 hx rfl rfl rfl (pc0 := 31) (pc' := 39) (same := true) rfl (hb hby d5_31) rfl (decide_eq_true rfl) (by decide) (by decide) ?_
    exact k)
  obtain ⟨fs, hr, hrun, hended, hW, hsame⟩ := X8.leave (v := none) (fun _ => rfl)
  refine ⟨_, _, pre0 _ (R10 _ ?_), hrun, hended, _, _, rfl, ?_, ⟨_, rfl⟩, hW, hsame.mono (by decide) (by decide)⟩
  · show Steps p.tables e below (T8.setTop (mkF m 39 #[rv a1, .val .null, .val .null, .val .null] [])) _
    exact X8.returnOut hx Bd.returns (hb hby d5_39) hr
  · show Q_rmKeepNN Z a1 h0 n0 _ T8.heap _
    rw [e8]
    exact ⟨rfl, N0, (Keep.refl h0 [a1]), F_names_a1, F_reader_a1, F_scanner_a1⟩
theorem ef_rmKeepNR (m : MethodId) (x0 : Addr) (x1 : Addr) : entryFrame m #[(.ref x0), (.ref x1), .null, .null] 4 = mkF m 0 #[rv x0, rv x1, .val .null, .val .null] [] := by first | (simp [entryFrame, mkF, argsToLocals, Value.category]; done) | rfl
def Q_rmKeepNR (Z : State) (a1 : Addr) (x2 : Addr) (h0 : Heap) (n0 : Nat) (v : Option Value) (h : Heap) (L : List Loc) : Prop := v = none ∧ Fr n0 L ∧ Keep h0 h [a1] ∧ (Fld Z h a1 sN0 "names" sN5 (.ref x2)) ∧ (Fld Z h a1 sN0 "reader" sN3 .null) ∧ (Fld Z h a1 sN0 "scanner" sN4 .null)
set_option maxRecDepth 65536 in
set_option maxHeartbeats 40000000 in
theorem rmKeepNR (l : Launch) (Z : State) (a0 : Array Value) (hw : ∀ d ∈ tables_1, d.before a0 Z = true) (ws : List Jvm.Cond) (a1 : Addr) (x2 : Addr) (h0 : Heap) (n0 : Nat) (Z0 : n0 ≤ h0.size) (E_a1 : Exa Z h0 a1 sN0) (F_names_a1 : Fld Z h0 a1 sN0 "names" sN5 .null) (F_reader_a1 : Fld Z h0 a1 sN0 "reader" sN3 .null) (F_scanner_a1 : Fld Z h0 a1 sN0 "scanner" sN4 .null) (g_a1 : n0 ≤ a1) :
    MetFree l (⟨sN0, "keep", sN1⟩ : MethodName) (head1 (Jvm.Cond.code (⟨sN0, "keep", sN1⟩ : MethodName) prog_62_method_2_code 4 none :: ws) ({ frames := 0, cells := 0, slots := 0, locals := 0 } : Room)) (fun a U => a = #[(.ref a1), (.ref x2), .null, .null] ∧ Z.Warmed39 U.vm ∧ U.heap = h0) (fun _ _ _ _ _ => True) (fun _ U o U' => ∃ v L, o = .returned v ∧ Q_rmKeepNR Z a1 x2 h0 n0 v U'.heap L ∧ FrameEnd U o U' L ({ frames := 0, cells := 0, slots := 0, locals := 0 } : Room).cells ({ frames := 0, cells := 0, slots := 0, locals := 0 } : Room).slots) := by
  refine MetFree.of_bodySF (plainFor_of_name pn_1) hisR ?_
  intro p e s m args below meth c s₁ Bd hml0 hP hK
  obtain ⟨rfl, hZ, hh⟩ := hP
  have hx := Bd.exec
  have hby := Bd.bytes
  have hml : c.maxLocals = 4 := hml0
  have hown : s.vm.findClass sN0 = some m.cls := findClass_of_methodNamed Bd.named
  have hnm := (name_of_methodNamed Bd.named Bd.method).1
  have X0 : Stand p l e ({ frames := 0, cells := 0, slots := 0, locals := 0 } : Room) s m #[(.ref a1), (.ref x2), .null, .null] below meth c s₁ [] 0 0 := Stand.of_body Bd
  have e0 : s₁.heap = h0 := by rw [← hh, Bd.state]; rfl
  have N0 := Fr.nil n0
  obtain ⟨f0, hf0⟩ : ∃ f : JFrame, f = mkF m 0 #[rv a1, rv x2, .val .null, .val .null] [] := ⟨_, rfl⟩
  have pre0 : ∀ t, Steps p.tables e below (s₁.setTop f0) t → Steps p.tables e below (s₁.setTop (entryFrame m #[(.ref a1), (.ref x2), .null, .null] 4)) t := fun t k => castTop ((ef_rmKeepNR m a1 x2).trans hf0.symm) k
  have R0 : ∀ t, Steps p.tables e below (s₁.setTop (mkF m 0 #[rv a1, rv x2, .val .null, .val .null] [])) t → Steps p.tables e below (s₁.setTop f0) t := by rw [hf0]; exact fun t k => k
  have R1 : ∀ t, Steps p.tables e below (s₁.setTop (mkF m 1 #[rv a1, rv x2, .val .null, .val .null] [(.ref a1)])) t → Steps p.tables e below (s₁.setTop f0) t := fun t k => R0 t (by
    show Steps p.tables e below (s₁.setTop (mkF m 0 #[rv a1, rv x2, .val .null, .val .null] [])) _
    refine XS.aloadN X0.here hx rfl (hb hby d5_0) rfl rfl ?_
    exact k)
  obtain ⟨T2, X2, e2, st2⟩ := getF X0 hx hZ hown (host := "") (Or.inl (hw _ (List.mem_of_getElem? (i := 44) rfl))) Via.refl e0 F_names_a1 (g := (mkF m 1 #[rv a1, rv x2, .val .null, .val .null] [(.ref a1)])) rfl rfl (hb hby d5_1)
  have R3 : ∀ t, Steps p.tables e below (T2.setTop (mkF m 4 #[rv a1, rv x2, .val .null, .val .null] [.null])) t → Steps p.tables e below (s₁.setTop f0) t := fun t k => R1 t (st2 t k)
  have R4 : ∀ t, Steps p.tables e below (T2.setTop (mkF m 10 #[rv a1, rv x2, .val .null, .val .null] [(.ref x2), (.ref a1)])) t → Steps p.tables e below (s₁.setTop f0) t := fun t k => R3 t (by
    show Steps p.tables e below (T2.setTop (mkF m 4 #[rv a1, rv x2, .val .null, .val .null] [.null])) _
    refine XS.aloadN X2.here hx rfl (hb hby d5_4) rfl rfl ?_
    show Steps p.tables e below (T2.setTop (mkF m 5 #[rv a1, rv x2, .val .null, .val .null] [(.ref x2), .null])) _
    refine Jvm.RoadKit.acmp (g := (mkF m 5 #[rv a1, rv x2, .val .null, .val .null] [(.ref x2), .null])) X2 hx rfl rfl rfl (pc0 := 5) (pc' := 8) (same := false) rfl (hb hby d5_5) rfl (decide_eq_false nofun) (by decide) (by decide) ?_
    show Steps p.tables e below (T2.setTop (mkF m 8 #[rv a1, rv x2, .val .null, .val .null] [])) _
    refine XS.aloadN X2.here hx rfl (hb hby d5_8) rfl rfl ?_
    show Steps p.tables e below (T2.setTop (mkF m 9 #[rv a1, rv x2, .val .null, .val .null] [(.ref a1)])) _
    refine XS.aloadN X2.here hx rfl (hb hby d5_9) rfl rfl ?_
    exact k)
  obtain ⟨T5, h5, X5, e5, W5, st5⟩ := putF X2 hx hZ hown (host := "") (Or.inl (hw _ (List.mem_of_getElem? (i := 44) rfl))) Via.refl e2 F_names_a1 E_a1 (Or.inl (hw _ (List.mem_of_getElem? (i := 34) rfl))) (hw _ (List.mem_of_getElem? (i := 21) rfl)) (ty := (.object sN2)) (by decide) rfl rfl (g := (mkF m 10 #[rv a1, rv x2, .val .null, .val .null] [(.ref x2), (.ref a1)])) rfl rfl (hb hby d5_10)
  have fw5 : Fld Z h5 a1 sN0 "names" sN5 (.ref x2) := F_names_a1.same W5
  have f5_E_a1 : Exa Z h5 a1 sN0 := E_a1.wr W5
  have f5_F_reader_a1 : Fld Z h5 a1 sN0 "reader" sN3 .null := F_reader_a1.other W5 (Or.inr (slot_ne (Or.inl (hw _ (List.mem_of_getElem? (i := 36) rfl))) (Or.inl (hw _ (List.mem_of_getElem? (i := 34) rfl))) (by decide) (t := (.object "com/example/biaoji/biaoji/StreamEntityReader")) (t' := (.object sN2)) (by decide) (by decide)))
  have f5_F_scanner_a1 : Fld Z h5 a1 sN0 "scanner" sN4 .null := F_scanner_a1.other W5 (Or.inr (slot_ne (Or.inl (hw _ (List.mem_of_getElem? (i := 38) rfl))) (Or.inl (hw _ (List.mem_of_getElem? (i := 34) rfl))) (by decide) (t := (.object "com/example/biaoji/biaoji/DocumentScanner")) (t' := (.object sN2)) (by decide) (by decide)))
  have z5 : n0 ≤ h5.size := by rw [W5.size]; exact Z0
  have K5 : Keep h0 h5 [a1] := (Keep.refl h0 [a1]).wr W5 (Or.inl (List.mem_of_getElem? (i := 0) rfl))
  have N5 := Fr.snoc X5 N0 g_a1
  have R6 : ∀ t, Steps p.tables e below (T5.setTop (mkF m 13 #[rv a1, rv x2, .val .null, .val .null] [])) t → Steps p.tables e below (s₁.setTop f0) t := fun t k => R4 t (st5 t k)
  have R7 : ∀ t, Steps p.tables e below (T5.setTop (mkF m 14 #[rv a1, rv x2, .val .null, .val .null] [(.ref a1)])) t → Steps p.tables e below (s₁.setTop f0) t := fun t k => R6 t (by
    show Steps p.tables e below (T5.setTop (mkF m 13 #[rv a1, rv x2, .val .null, .val .null] [])) _
    refine XS.aloadN X5.here hx rfl (hb hby d5_13) rfl rfl ?_
    exact k)
  obtain ⟨T8, X8, e8, st8⟩ := getF X5 hx hZ hown (host := "") (Or.inl (hw _ (List.mem_of_getElem? (i := 45) rfl))) Via.refl e5 f5_F_reader_a1 (g := (mkF m 14 #[rv a1, rv x2, .val .null, .val .null] [(.ref a1)])) rfl rfl (hb hby d5_14)
  have R9 : ∀ t, Steps p.tables e below (T8.setTop (mkF m 17 #[rv a1, rv x2, .val .null, .val .null] [.null])) t → Steps p.tables e below (s₁.setTop f0) t := fun t k => R7 t (st8 t k)
  have R10 : ∀ t, Steps p.tables e below (T8.setTop (mkF m 27 #[rv a1, rv x2, .val .null, .val .null] [(.ref a1)])) t → Steps p.tables e below (s₁.setTop f0) t := fun t k => R9 t (by
    show Steps p.tables e below (T8.setTop (mkF m 17 #[rv a1, rv x2, .val .null, .val .null] [.null])) _
    refine XS.aloadN X8.here hx rfl (hb hby d5_17) rfl rfl ?_
    show Steps p.tables e below (T8.setTop (mkF m 18 #[rv a1, rv x2, .val .null, .val .null] [.null, .null])) _
    refine Jvm.RoadKit.acmp (g := (mkF m 18 #[rv a1, rv x2, .val .null, .val .null] [.null, .null])) X8 hx rfl rfl rfl (pc0 := 18) (pc' := 26) (same := true) rfl (hb hby d5_18) rfl (decide_eq_true rfl) (by decide) (by decide) ?_
    show Steps p.tables e below (T8.setTop (mkF m 26 #[rv a1, rv x2, .val .null, .val .null] [])) _
    refine XS.aloadN X8.here hx rfl (hb hby d5_26) rfl rfl ?_
    exact k)
  obtain ⟨T11, X11, e11, st11⟩ := getF X8 hx hZ hown (host := "") (Or.inl (hw _ (List.mem_of_getElem? (i := 46) rfl))) Via.refl e8 f5_F_scanner_a1 (g := (mkF m 27 #[rv a1, rv x2, .val .null, .val .null] [(.ref a1)])) rfl rfl (hb hby d5_27)
  have R12 : ∀ t, Steps p.tables e below (T11.setTop (mkF m 30 #[rv a1, rv x2, .val .null, .val .null] [.null])) t → Steps p.tables e below (s₁.setTop f0) t := fun t k => R10 t (st11 t k)
  have R13 : ∀ t, Steps p.tables e below (T11.setTop (mkF m 39 #[rv a1, rv x2, .val .null, .val .null] [])) t → Steps p.tables e below (s₁.setTop f0) t := fun t k => R12 t (by
    show Steps p.tables e below (T11.setTop (mkF m 30 #[rv a1, rv x2, .val .null, .val .null] [.null])) _
    refine XS.aloadN X11.here hx rfl (hb hby d5_30) rfl rfl ?_
    show Steps p.tables e below (T11.setTop (mkF m 31 #[rv a1, rv x2, .val .null, .val .null] [.null, .null])) _
    refine Jvm.RoadKit.acmp (g := (mkF m 31 #[rv a1, rv x2, .val .null, .val .null] [.null, .null])) X11 hx rfl rfl rfl (pc0 := 31) (pc' := 39) (same := true) rfl (hb hby d5_31) rfl (decide_eq_true rfl) (by decide) (by decide) ?_
    exact k)
  obtain ⟨fs, hr, hrun, hended, hW, hsame⟩ := X11.leave (v := none) (fun _ => rfl)
  refine ⟨_, _, pre0 _ (R13 _ ?_), hrun, hended, _, _, rfl, ?_, ⟨_, rfl⟩, hW, hsame.mono (by decide) (by decide)⟩
  · show Steps p.tables e below (T11.setTop (mkF m 39 #[rv a1, rv x2, .val .null, .val .null] [])) _
    exact X11.returnOut hx Bd.returns (hb hby d5_39) hr
  · show Q_rmKeepNR Z a1 x2 h0 n0 _ T11.heap _
    rw [e11]
    exact ⟨rfl, N5, K5, fw5, f5_F_reader_a1, f5_F_scanner_a1⟩
theorem ef_rmKeepRN (m : MethodId) (x0 : Addr) : entryFrame m #[(.ref x0), .null, .null, .null] 4 = mkF m 0 #[rv x0, .val .null, .val .null, .val .null] [] := by first | (simp [entryFrame, mkF, argsToLocals, Value.category]; done) | rfl
def Q_rmKeepRN (Z : State) (a1 : Addr) (u1 : Addr) (h0 : Heap) (n0 : Nat) (v : Option Value) (h : Heap) (L : List Loc) : Prop := v = none ∧ Fr n0 L ∧ Keep h0 h [a1] ∧ (Fld Z h a1 sN0 "names" sN5 .null) ∧ (Fld Z h a1 sN0 "reader" sN3 .null) ∧ (Fld Z h a1 sN0 "scanner" sN4 .null)
set_option maxRecDepth 65536 in
set_option maxHeartbeats 40000000 in
theorem rmKeepRN (l : Launch) (Z : State) (a0 : Array Value) (hw : ∀ d ∈ tables_1, d.before a0 Z = true) (ws : List Jvm.Cond) (a1 : Addr) (u1 : Addr) (h0 : Heap) (n0 : Nat) (Z0 : n0 ≤ h0.size) (E_a1 : Exa Z h0 a1 sN0) (F_names_a1 : Fld Z h0 a1 sN0 "names" sN5 (.ref u1)) (F_reader_a1 : Fld Z h0 a1 sN0 "reader" sN3 .null) (F_scanner_a1 : Fld Z h0 a1 sN0 "scanner" sN4 .null) (g_a1 : n0 ≤ a1) :
    MetFree l (⟨sN0, "keep", sN1⟩ : MethodName) (head1 (Jvm.Cond.code (⟨sN0, "keep", sN1⟩ : MethodName) prog_62_method_2_code 4 none :: ws) ({ frames := 0, cells := 0, slots := 0, locals := 0 } : Room)) (fun a U => a = #[(.ref a1), .null, .null, .null] ∧ Z.Warmed39 U.vm ∧ U.heap = h0) (fun _ _ _ _ _ => True) (fun _ U o U' => ∃ v L, o = .returned v ∧ Q_rmKeepRN Z a1 u1 h0 n0 v U'.heap L ∧ FrameEnd U o U' L ({ frames := 0, cells := 0, slots := 0, locals := 0 } : Room).cells ({ frames := 0, cells := 0, slots := 0, locals := 0 } : Room).slots) := by
  refine MetFree.of_bodySF (plainFor_of_name pn_1) hisR ?_
  intro p e s m args below meth c s₁ Bd hml0 hP hK
  obtain ⟨rfl, hZ, hh⟩ := hP
  have hx := Bd.exec
  have hby := Bd.bytes
  have hml : c.maxLocals = 4 := hml0
  have hown : s.vm.findClass sN0 = some m.cls := findClass_of_methodNamed Bd.named
  have hnm := (name_of_methodNamed Bd.named Bd.method).1
  have X0 : Stand p l e ({ frames := 0, cells := 0, slots := 0, locals := 0 } : Room) s m #[(.ref a1), .null, .null, .null] below meth c s₁ [] 0 0 := Stand.of_body Bd
  have e0 : s₁.heap = h0 := by rw [← hh, Bd.state]; rfl
  have N0 := Fr.nil n0
  obtain ⟨f0, hf0⟩ : ∃ f : JFrame, f = mkF m 0 #[rv a1, .val .null, .val .null, .val .null] [] := ⟨_, rfl⟩
  have pre0 : ∀ t, Steps p.tables e below (s₁.setTop f0) t → Steps p.tables e below (s₁.setTop (entryFrame m #[(.ref a1), .null, .null, .null] 4)) t := fun t k => castTop ((ef_rmKeepRN m a1).trans hf0.symm) k
  have R0 : ∀ t, Steps p.tables e below (s₁.setTop (mkF m 0 #[rv a1, .val .null, .val .null, .val .null] [])) t → Steps p.tables e below (s₁.setTop f0) t := by rw [hf0]; exact fun t k => k
  have R1 : ∀ t, Steps p.tables e below (s₁.setTop (mkF m 1 #[rv a1, .val .null, .val .null, .val .null] [(.ref a1)])) t → Steps p.tables e below (s₁.setTop f0) t := fun t k => R0 t (by
    show Steps p.tables e below (s₁.setTop (mkF m 0 #[rv a1, .val .null, .val .null, .val .null] [])) _
    refine XS.aloadN X0.here hx rfl (hb hby d5_0) rfl rfl ?_
    exact k)
  obtain ⟨T2, X2, e2, st2⟩ := getF X0 hx hZ hown (host := "") (Or.inl (hw _ (List.mem_of_getElem? (i := 44) rfl))) Via.refl e0 F_names_a1 (g := (mkF m 1 #[rv a1, .val .null, .val .null, .val .null] [(.ref a1)])) rfl rfl (hb hby d5_1)
  have R3 : ∀ t, Steps p.tables e below (T2.setTop (mkF m 4 #[rv a1, .val .null, .val .null, .val .null] [(.ref u1)])) t → Steps p.tables e below (s₁.setTop f0) t := fun t k => R1 t (st2 t k)
  have R4 : ∀ t, Steps p.tables e below (T2.setTop (mkF m 10 #[rv a1, .val .null, .val .null, .val .null] [.null, (.ref a1)])) t → Steps p.tables e below (s₁.setTop f0) t := fun t k => R3 t (by
    show Steps p.tables e below (T2.setTop (mkF m 4 #[rv a1, .val .null, .val .null, .val .null] [(.ref u1)])) _
    refine XS.aloadN X2.here hx rfl (hb hby d5_4) rfl rfl ?_
    show Steps p.tables e below (T2.setTop (mkF m 5 #[rv a1, .val .null, .val .null, .val .null] [.null, (.ref u1)])) _
    refine Jvm.RoadKit.acmp (g := (mkF m 5 #[rv a1, .val .null, .val .null, .val .null] [.null, (.ref u1)])) X2 hx rfl rfl rfl (pc0 := 5) (pc' := 8) (same := false) rfl (hb hby d5_5) rfl (decide_eq_false nofun) (by decide) (by decide) ?_
    show Steps p.tables e below (T2.setTop (mkF m 8 #[rv a1, .val .null, .val .null, .val .null] [])) _
    refine XS.aloadN X2.here hx rfl (hb hby d5_8) rfl rfl ?_
    show Steps p.tables e below (T2.setTop (mkF m 9 #[rv a1, .val .null, .val .null, .val .null] [(.ref a1)])) _
    refine XS.aloadN X2.here hx rfl (hb hby d5_9) rfl rfl ?_
    exact k)
  obtain ⟨T5, h5, X5, e5, W5, st5⟩ := putF X2 hx hZ hown (host := "") (Or.inl (hw _ (List.mem_of_getElem? (i := 44) rfl))) Via.refl e2 F_names_a1 E_a1 (Or.inl (hw _ (List.mem_of_getElem? (i := 34) rfl))) (hw _ (List.mem_of_getElem? (i := 21) rfl)) (ty := (.object sN2)) (by decide) rfl rfl (g := (mkF m 10 #[rv a1, .val .null, .val .null, .val .null] [.null, (.ref a1)])) rfl rfl (hb hby d5_10)
  have fw5 : Fld Z h5 a1 sN0 "names" sN5 .null := F_names_a1.same W5
  have f5_E_a1 : Exa Z h5 a1 sN0 := E_a1.wr W5
  have f5_F_reader_a1 : Fld Z h5 a1 sN0 "reader" sN3 .null := F_reader_a1.other W5 (Or.inr (slot_ne (Or.inl (hw _ (List.mem_of_getElem? (i := 36) rfl))) (Or.inl (hw _ (List.mem_of_getElem? (i := 34) rfl))) (by decide) (t := (.object "com/example/biaoji/biaoji/StreamEntityReader")) (t' := (.object sN2)) (by decide) (by decide)))
  have f5_F_scanner_a1 : Fld Z h5 a1 sN0 "scanner" sN4 .null := F_scanner_a1.other W5 (Or.inr (slot_ne (Or.inl (hw _ (List.mem_of_getElem? (i := 38) rfl))) (Or.inl (hw _ (List.mem_of_getElem? (i := 34) rfl))) (by decide) (t := (.object "com/example/biaoji/biaoji/DocumentScanner")) (t' := (.object sN2)) (by decide) (by decide)))
  have z5 : n0 ≤ h5.size := by rw [W5.size]; exact Z0
  have K5 : Keep h0 h5 [a1] := (Keep.refl h0 [a1]).wr W5 (Or.inl (List.mem_of_getElem? (i := 0) rfl))
  have N5 := Fr.snoc X5 N0 g_a1
  have R6 : ∀ t, Steps p.tables e below (T5.setTop (mkF m 13 #[rv a1, .val .null, .val .null, .val .null] [])) t → Steps p.tables e below (s₁.setTop f0) t := fun t k => R4 t (st5 t k)
  have R7 : ∀ t, Steps p.tables e below (T5.setTop (mkF m 14 #[rv a1, .val .null, .val .null, .val .null] [(.ref a1)])) t → Steps p.tables e below (s₁.setTop f0) t := fun t k => R6 t (by
    show Steps p.tables e below (T5.setTop (mkF m 13 #[rv a1, .val .null, .val .null, .val .null] [])) _
    refine XS.aloadN X5.here hx rfl (hb hby d5_13) rfl rfl ?_
    exact k)
  obtain ⟨T8, X8, e8, st8⟩ := getF X5 hx hZ hown (host := "") (Or.inl (hw _ (List.mem_of_getElem? (i := 45) rfl))) Via.refl e5 f5_F_reader_a1 (g := (mkF m 14 #[rv a1, .val .null, .val .null, .val .null] [(.ref a1)])) rfl rfl (hb hby d5_14)
  have R9 : ∀ t, Steps p.tables e below (T8.setTop (mkF m 17 #[rv a1, .val .null, .val .null, .val .null] [.null])) t → Steps p.tables e below (s₁.setTop f0) t := fun t k => R7 t (st8 t k)
  have R10 : ∀ t, Steps p.tables e below (T8.setTop (mkF m 27 #[rv a1, .val .null, .val .null, .val .null] [(.ref a1)])) t → Steps p.tables e below (s₁.setTop f0) t := fun t k => R9 t (by
    show Steps p.tables e below (T8.setTop (mkF m 17 #[rv a1, .val .null, .val .null, .val .null] [.null])) _
    refine XS.aloadN X8.here hx rfl (hb hby d5_17) rfl rfl ?_
    show Steps p.tables e below (T8.setTop (mkF m 18 #[rv a1, .val .null, .val .null, .val .null] [.null, .null])) _
    refine Jvm.RoadKit.acmp (g := (mkF m 18 #[rv a1, .val .null, .val .null, .val .null] [.null, .null])) X8 hx rfl rfl rfl (pc0 := 18) (pc' := 26) (same := true) rfl (hb hby d5_18) rfl (decide_eq_true rfl) (by decide) (by decide) ?_
    show Steps p.tables e below (T8.setTop (mkF m 26 #[rv a1, .val .null, .val .null, .val .null] [])) _
    refine XS.aloadN X8.here hx rfl (hb hby d5_26) rfl rfl ?_
    exact k)
  obtain ⟨T11, X11, e11, st11⟩ := getF X8 hx hZ hown (host := "") (Or.inl (hw _ (List.mem_of_getElem? (i := 46) rfl))) Via.refl e8 f5_F_scanner_a1 (g := (mkF m 27 #[rv a1, .val .null, .val .null, .val .null] [(.ref a1)])) rfl rfl (hb hby d5_27)
  have R12 : ∀ t, Steps p.tables e below (T11.setTop (mkF m 30 #[rv a1, .val .null, .val .null, .val .null] [.null])) t → Steps p.tables e below (s₁.setTop f0) t := fun t k => R10 t (st11 t k)
  have R13 : ∀ t, Steps p.tables e below (T11.setTop (mkF m 39 #[rv a1, .val .null, .val .null, .val .null] [])) t → Steps p.tables e below (s₁.setTop f0) t := fun t k => R12 t (by
    show Steps p.tables e below (T11.setTop (mkF m 30 #[rv a1, .val .null, .val .null, .val .null] [.null])) _
    refine XS.aloadN X11.here hx rfl (hb hby d5_30) rfl rfl ?_
    show Steps p.tables e below (T11.setTop (mkF m 31 #[rv a1, .val .null, .val .null, .val .null] [.null, .null])) _
    refine Jvm.RoadKit.acmp (g := (mkF m 31 #[rv a1, .val .null, .val .null, .val .null] [.null, .null])) X11 hx rfl rfl rfl (pc0 := 31) (pc' := 39) (same := true) rfl (hb hby d5_31) rfl (decide_eq_true rfl) (by decide) (by decide) ?_
    exact k)
  obtain ⟨fs, hr, hrun, hended, hW, hsame⟩ := X11.leave (v := none) (fun _ => rfl)
  refine ⟨_, _, pre0 _ (R13 _ ?_), hrun, hended, _, _, rfl, ?_, ⟨_, rfl⟩, hW, hsame.mono (by decide) (by decide)⟩
  · show Steps p.tables e below (T11.setTop (mkF m 39 #[rv a1, .val .null, .val .null, .val .null] [])) _
    exact X11.returnOut hx Bd.returns (hb hby d5_39) hr
  · show Q_rmKeepRN Z a1 u1 h0 n0 _ T11.heap _
    rw [e11]
    exact ⟨rfl, N5, K5, fw5, f5_F_reader_a1, f5_F_scanner_a1⟩
theorem ef_rmKeepRR (m : MethodId) (x0 : Addr) (x1 : Addr) : entryFrame m #[(.ref x0), (.ref x1), .null, .null] 4 = mkF m 0 #[rv x0, rv x1, .val .null, .val .null] [] := by first | (simp [entryFrame, mkF, argsToLocals, Value.category]; done) | rfl
def Q_rmKeepRR (Z : State) (a1 : Addr) (u1 : Addr) (x2 : Addr) (h0 : Heap) (n0 : Nat) (v : Option Value) (h : Heap) (L : List Loc) : Prop := v = none ∧ Fr n0 L ∧ Keep h0 h [a1] ∧ (Fld Z h a1 sN0 "names" sN5 (.ref x2)) ∧ (Fld Z h a1 sN0 "reader" sN3 .null) ∧ (Fld Z h a1 sN0 "scanner" sN4 .null)
set_option maxRecDepth 65536 in
set_option maxHeartbeats 40000000 in
theorem rmKeepRR (l : Launch) (Z : State) (a0 : Array Value) (hw : ∀ d ∈ tables_1, d.before a0 Z = true) (ws : List Jvm.Cond) (a1 : Addr) (u1 : Addr) (x2 : Addr) (h0 : Heap) (n0 : Nat) (Z0 : n0 ≤ h0.size) (E_a1 : Exa Z h0 a1 sN0) (F_names_a1 : Fld Z h0 a1 sN0 "names" sN5 (.ref u1)) (F_reader_a1 : Fld Z h0 a1 sN0 "reader" sN3 .null) (F_scanner_a1 : Fld Z h0 a1 sN0 "scanner" sN4 .null) (g_a1 : n0 ≤ a1) :
    MetFree l (⟨sN0, "keep", sN1⟩ : MethodName) (head1 (Jvm.Cond.code (⟨sN0, "keep", sN1⟩ : MethodName) prog_62_method_2_code 4 none :: ws) ({ frames := 0, cells := 0, slots := 0, locals := 0 } : Room)) (fun a U => a = #[(.ref a1), (.ref x2), .null, .null] ∧ Z.Warmed39 U.vm ∧ U.heap = h0) (fun _ _ _ _ _ => True) (fun _ U o U' => ∃ v L, o = .returned v ∧ Q_rmKeepRR Z a1 u1 x2 h0 n0 v U'.heap L ∧ FrameEnd U o U' L ({ frames := 0, cells := 0, slots := 0, locals := 0 } : Room).cells ({ frames := 0, cells := 0, slots := 0, locals := 0 } : Room).slots) := by
  refine MetFree.of_bodySF (plainFor_of_name pn_1) hisR ?_
  intro p e s m args below meth c s₁ Bd hml0 hP hK
  obtain ⟨rfl, hZ, hh⟩ := hP
  have hx := Bd.exec
  have hby := Bd.bytes
  have hml : c.maxLocals = 4 := hml0
  have hown : s.vm.findClass sN0 = some m.cls := findClass_of_methodNamed Bd.named
  have hnm := (name_of_methodNamed Bd.named Bd.method).1
  have X0 : Stand p l e ({ frames := 0, cells := 0, slots := 0, locals := 0 } : Room) s m #[(.ref a1), (.ref x2), .null, .null] below meth c s₁ [] 0 0 := Stand.of_body Bd
  have e0 : s₁.heap = h0 := by rw [← hh, Bd.state]; rfl
  have N0 := Fr.nil n0
  obtain ⟨f0, hf0⟩ : ∃ f : JFrame, f = mkF m 0 #[rv a1, rv x2, .val .null, .val .null] [] := ⟨_, rfl⟩
  have pre0 : ∀ t, Steps p.tables e below (s₁.setTop f0) t → Steps p.tables e below (s₁.setTop (entryFrame m #[(.ref a1), (.ref x2), .null, .null] 4)) t := fun t k => castTop ((ef_rmKeepRR m a1 x2).trans hf0.symm) k
  have R0 : ∀ t, Steps p.tables e below (s₁.setTop (mkF m 0 #[rv a1, rv x2, .val .null, .val .null] [])) t → Steps p.tables e below (s₁.setTop f0) t := by rw [hf0]; exact fun t k => k
  have R1 : ∀ t, Steps p.tables e below (s₁.setTop (mkF m 1 #[rv a1, rv x2, .val .null, .val .null] [(.ref a1)])) t → Steps p.tables e below (s₁.setTop f0) t := fun t k => R0 t (by
    show Steps p.tables e below (s₁.setTop (mkF m 0 #[rv a1, rv x2, .val .null, .val .null] [])) _
    refine XS.aloadN X0.here hx rfl (hb hby d5_0) rfl rfl ?_
    exact k)
  obtain ⟨T2, X2, e2, st2⟩ := getF X0 hx hZ hown (host := "") (Or.inl (hw _ (List.mem_of_getElem? (i := 44) rfl))) Via.refl e0 F_names_a1 (g := (mkF m 1 #[rv a1, rv x2, .val .null, .val .null] [(.ref a1)])) rfl rfl (hb hby d5_1)
  have R3 : ∀ t, Steps p.tables e below (T2.setTop (mkF m 4 #[rv a1, rv x2, .val .null, .val .null] [(.ref u1)])) t → Steps p.tables e below (s₁.setTop f0) t := fun t k => R1 t (st2 t k)
  have R4 : ∀ t, Steps p.tables e below (T2.setTop (mkF m 5 #[rv a1, rv x2, .val .null, .val .null] [(.ref x2), (.ref u1)])) t → Steps p.tables e below (s₁.setTop f0) t := fun t k => R3 t (by
    show Steps p.tables e below (T2.setTop (mkF m 4 #[rv a1, rv x2, .val .null, .val .null] [(.ref u1)])) _
    refine XS.aloadN X2.here hx rfl (hb hby d5_4) rfl rfl ?_
    exact k)
  by_cases hq : u1 = x2
  · skip
    have R5 : ∀ t, Steps p.tables e below (T2.setTop (mkF m 13 #[rv a1, rv x2, .val .null, .val .null] [])) t → Steps p.tables e below (s₁.setTop f0) t := fun t k => R4 t (by
      show Steps p.tables e below (T2.setTop (mkF m 5 #[rv a1, rv x2, .val .null, .val .null] [(.ref x2), (.ref u1)])) _
      refine Jvm.RoadKit.acmp (g := (mkF m 5 #[rv a1, rv x2, .val .null, .val .null] [(.ref x2), (.ref u1)])) X2 hx rfl rfl rfl (pc0 := 5) (pc' := 13) (same := true) rfl (hb hby d5_5) rfl (decide_eq_true (congrArg Value.ref hq)) (by decide) (by decide) ?_
      exact k)
    subst hq
    have R6 : ∀ t, Steps p.tables e below (T2.setTop (mkF m 14 #[rv a1, rv u1, .val .null, .val .null] [(.ref a1)])) t → Steps p.tables e below (s₁.setTop f0) t := fun t k => R5 t (by
      show Steps p.tables e below (T2.setTop (mkF m 13 #[rv a1, rv u1, .val .null, .val .null] [])) _
      refine XS.aloadN X2.here hx rfl (hb hby d5_13) rfl rfl ?_
      exact k)
    obtain ⟨T7, X7, e7, st7⟩ := getF X2 hx hZ hown (host := "") (Or.inl (hw _ (List.mem_of_getElem? (i := 45) rfl))) Via.refl e2 F_reader_a1 (g := (mkF m 14 #[rv a1, rv u1, .val .null, .val .null] [(.ref a1)])) rfl rfl (hb hby d5_14)
    have R8 : ∀ t, Steps p.tables e below (T7.setTop (mkF m 17 #[rv a1, rv u1, .val .null, .val .null] [.null])) t → Steps p.tables e below (s₁.setTop f0) t := fun t k => R6 t (st7 t k)
    have R9 : ∀ t, Steps p.tables e below (T7.setTop (mkF m 27 #[rv a1, rv u1, .val .null, .val .null] [(.ref a1)])) t → Steps p.tables e below (s₁.setTop f0) t := fun t k => R8 t (by
      show Steps p.tables e below (T7.setTop (mkF m 17 #[rv a1, rv u1, .val .null, .val .null] [.null])) _
      refine XS.aloadN X7.here hx rfl (hb hby d5_17) rfl rfl ?_
      show Steps p.tables e below (T7.setTop (mkF m 18 #[rv a1, rv u1, .val .null, .val .null] [.null, .null])) _
      refine Jvm.RoadKit.acmp (g := (mkF m 18 #[rv a1, rv u1, .val .null, .val .null] [.null, .null])) X7 hx rfl rfl rfl (pc0 := 18) (pc' := 26) (same := true) rfl (hb hby d5_18) rfl (decide_eq_true rfl) (by decide) (by decide) ?_
      show Steps p.tables e below (T7.setTop (mkF m 26 #[rv a1, rv u1, .val .null, .val .null] [])) _
      refine XS.aloadN X7.here hx rfl (hb hby d5_26) rfl rfl ?_
      exact k)
    obtain ⟨T10, X10, e10, st10⟩ := getF X7 hx hZ hown (host := "") (Or.inl (hw _ (List.mem_of_getElem? (i := 46) rfl))) Via.refl e7 F_scanner_a1 (g := (mkF m 27 #[rv a1, rv u1, .val .null, .val .null] [(.ref a1)])) rfl rfl (hb hby d5_27)
    have R11 : ∀ t, Steps p.tables e below (T10.setTop (mkF m 30 #[rv a1, rv u1, .val .null, .val .null] [.null])) t → Steps p.tables e below (s₁.setTop f0) t := fun t k => R9 t (st10 t k)
    have R12 : ∀ t, Steps p.tables e below (T10.setTop (mkF m 39 #[rv a1, rv u1, .val .null, .val .null] [])) t → Steps p.tables e below (s₁.setTop f0) t := fun t k => R11 t (by
      show Steps p.tables e below (T10.setTop (mkF m 30 #[rv a1, rv u1, .val .null, .val .null] [.null])) _
      refine XS.aloadN X10.here hx rfl (hb hby d5_30) rfl rfl ?_
      show Steps p.tables e below (T10.setTop (mkF m 31 #[rv a1, rv u1, .val .null, .val .null] [.null, .null])) _
      refine Jvm.RoadKit.acmp (g := (mkF m 31 #[rv a1, rv u1, .val .null, .val .null] [.null, .null])) X10 hx rfl rfl rfl (pc0 := 31) (pc' := 39) (same := true) rfl (hb hby d5_31) rfl (decide_eq_true rfl) (by decide) (by decide) ?_
      exact k)
    obtain ⟨fs, hr, hrun, hended, hW, hsame⟩ := X10.leave (v := none) (fun _ => rfl)
    refine ⟨_, _, pre0 _ (R12 _ ?_), hrun, hended, _, _, rfl, ?_, ⟨_, rfl⟩, hW, hsame.mono (by decide) (by decide)⟩
    · show Steps p.tables e below (T10.setTop (mkF m 39 #[rv a1, rv u1, .val .null, .val .null] [])) _
      exact X10.returnOut hx Bd.returns (hb hby d5_39) hr
    · show Q_rmKeepRR Z a1 u1 u1 h0 n0 _ T10.heap _
      rw [e10]
      exact ⟨rfl, N0, (Keep.refl h0 [a1]), F_names_a1, F_reader_a1, F_scanner_a1⟩
  · skip
    have R13 : ∀ t, Steps p.tables e below (T2.setTop (mkF m 10 #[rv a1, rv x2, .val .null, .val .null] [(.ref x2), (.ref a1)])) t → Steps p.tables e below (s₁.setTop f0) t := fun t k => R4 t (by
      show Steps p.tables e below (T2.setTop (mkF m 5 #[rv a1, rv x2, .val .null, .val .null] [(.ref x2), (.ref u1)])) _
      refine Jvm.RoadKit.acmp (g := (mkF m 5 #[rv a1, rv x2, .val .null, .val .null] [(.ref x2), (.ref u1)])) X2 hx rfl rfl rfl (pc0 := 5) (pc' := 8) (same := false) rfl (hb hby d5_5) rfl (decide_eq_false fun q => hq (Value.ref.inj q)) (by decide) (by decide) ?_
      show Steps p.tables e below (T2.setTop (mkF m 8 #[rv a1, rv x2, .val .null, .val .null] [])) _
      refine XS.aloadN X2.here hx rfl (hb hby d5_8) rfl rfl ?_
      show Steps p.tables e below (T2.setTop (mkF m 9 #[rv a1, rv x2, .val .null, .val .null] [(.ref a1)])) _
      refine XS.aloadN X2.here hx rfl (hb hby d5_9) rfl rfl ?_
      exact k)
    obtain ⟨T14, h14, X14, e14, W14, st14⟩ := putF X2 hx hZ hown (host := "") (Or.inl (hw _ (List.mem_of_getElem? (i := 44) rfl))) Via.refl e2 F_names_a1 E_a1 (Or.inl (hw _ (List.mem_of_getElem? (i := 34) rfl))) (hw _ (List.mem_of_getElem? (i := 21) rfl)) (ty := (.object sN2)) (by decide) rfl rfl (g := (mkF m 10 #[rv a1, rv x2, .val .null, .val .null] [(.ref x2), (.ref a1)])) rfl rfl (hb hby d5_10)
    have fw14 : Fld Z h14 a1 sN0 "names" sN5 (.ref x2) := F_names_a1.same W14
    have f14_E_a1 : Exa Z h14 a1 sN0 := E_a1.wr W14
    have f14_F_reader_a1 : Fld Z h14 a1 sN0 "reader" sN3 .null := F_reader_a1.other W14 (Or.inr (slot_ne (Or.inl (hw _ (List.mem_of_getElem? (i := 36) rfl))) (Or.inl (hw _ (List.mem_of_getElem? (i := 34) rfl))) (by decide) (t := (.object "com/example/biaoji/biaoji/StreamEntityReader")) (t' := (.object sN2)) (by decide) (by decide)))
    have f14_F_scanner_a1 : Fld Z h14 a1 sN0 "scanner" sN4 .null := F_scanner_a1.other W14 (Or.inr (slot_ne (Or.inl (hw _ (List.mem_of_getElem? (i := 38) rfl))) (Or.inl (hw _ (List.mem_of_getElem? (i := 34) rfl))) (by decide) (t := (.object "com/example/biaoji/biaoji/DocumentScanner")) (t' := (.object sN2)) (by decide) (by decide)))
    have z14 : n0 ≤ h14.size := by rw [W14.size]; exact Z0
    have K14 : Keep h0 h14 [a1] := (Keep.refl h0 [a1]).wr W14 (Or.inl (List.mem_of_getElem? (i := 0) rfl))
    have N14 := Fr.snoc X14 N0 g_a1
    have R15 : ∀ t, Steps p.tables e below (T14.setTop (mkF m 13 #[rv a1, rv x2, .val .null, .val .null] [])) t → Steps p.tables e below (s₁.setTop f0) t := fun t k => R13 t (st14 t k)
    have R16 : ∀ t, Steps p.tables e below (T14.setTop (mkF m 14 #[rv a1, rv x2, .val .null, .val .null] [(.ref a1)])) t → Steps p.tables e below (s₁.setTop f0) t := fun t k => R15 t (by
      show Steps p.tables e below (T14.setTop (mkF m 13 #[rv a1, rv x2, .val .null, .val .null] [])) _
      refine XS.aloadN X14.here hx rfl (hb hby d5_13) rfl rfl ?_
      exact k)
    obtain ⟨T17, X17, e17, st17⟩ := getF X14 hx hZ hown (host := "") (Or.inl (hw _ (List.mem_of_getElem? (i := 45) rfl))) Via.refl e14 f14_F_reader_a1 (g := (mkF m 14 #[rv a1, rv x2, .val .null, .val .null] [(.ref a1)])) rfl rfl (hb hby d5_14)
    have R18 : ∀ t, Steps p.tables e below (T17.setTop (mkF m 17 #[rv a1, rv x2, .val .null, .val .null] [.null])) t → Steps p.tables e below (s₁.setTop f0) t := fun t k => R16 t (st17 t k)
    have R19 : ∀ t, Steps p.tables e below (T17.setTop (mkF m 27 #[rv a1, rv x2, .val .null, .val .null] [(.ref a1)])) t → Steps p.tables e below (s₁.setTop f0) t := fun t k => R18 t (by
      show Steps p.tables e below (T17.setTop (mkF m 17 #[rv a1, rv x2, .val .null, .val .null] [.null])) _
      refine XS.aloadN X17.here hx rfl (hb hby d5_17) rfl rfl ?_
      show Steps p.tables e below (T17.setTop (mkF m 18 #[rv a1, rv x2, .val .null, .val .null] [.null, .null])) _
      refine Jvm.RoadKit.acmp (g := (mkF m 18 #[rv a1, rv x2, .val .null, .val .null] [.null, .null])) X17 hx rfl rfl rfl (pc0 := 18) (pc' := 26) (same := true) rfl (hb hby d5_18) rfl (decide_eq_true rfl) (by decide) (by decide) ?_
      show Steps p.tables e below (T17.setTop (mkF m 26 #[rv a1, rv x2, .val .null, .val .null] [])) _
      refine XS.aloadN X17.here hx rfl (hb hby d5_26) rfl rfl ?_
      exact k)
    obtain ⟨T20, X20, e20, st20⟩ := getF X17 hx hZ hown (host := "") (Or.inl (hw _ (List.mem_of_getElem? (i := 46) rfl))) Via.refl e17 f14_F_scanner_a1 (g := (mkF m 27 #[rv a1, rv x2, .val .null, .val .null] [(.ref a1)])) rfl rfl (hb hby d5_27)
    have R21 : ∀ t, Steps p.tables e below (T20.setTop (mkF m 30 #[rv a1, rv x2, .val .null, .val .null] [.null])) t → Steps p.tables e below (s₁.setTop f0) t := fun t k => R19 t (st20 t k)
    have R22 : ∀ t, Steps p.tables e below (T20.setTop (mkF m 39 #[rv a1, rv x2, .val .null, .val .null] [])) t → Steps p.tables e below (s₁.setTop f0) t := fun t k => R21 t (by
      show Steps p.tables e below (T20.setTop (mkF m 30 #[rv a1, rv x2, .val .null, .val .null] [.null])) _
      refine XS.aloadN X20.here hx rfl (hb hby d5_30) rfl rfl ?_
      show Steps p.tables e below (T20.setTop (mkF m 31 #[rv a1, rv x2, .val .null, .val .null] [.null, .null])) _
      refine Jvm.RoadKit.acmp (g := (mkF m 31 #[rv a1, rv x2, .val .null, .val .null] [.null, .null])) X20 hx rfl rfl rfl (pc0 := 31) (pc' := 39) (same := true) rfl (hb hby d5_31) rfl (decide_eq_true rfl) (by decide) (by decide) ?_
      exact k)
    obtain ⟨fs, hr, hrun, hended, hW, hsame⟩ := X20.leave (v := none) (fun _ => rfl)
    refine ⟨_, _, pre0 _ (R22 _ ?_), hrun, hended, _, _, rfl, ?_, ⟨_, rfl⟩, hW, hsame.mono (by decide) (by decide)⟩
    · show Steps p.tables e below (T20.setTop (mkF m 39 #[rv a1, rv x2, .val .null, .val .null] [])) _
      exact X20.returnOut hx Bd.returns (hb hby d5_39) hr
    · show Q_rmKeepRR Z a1 u1 x2 h0 n0 _ T20.heap _
      rw [e20]
      exact ⟨rfl, N14, K14, fw14, f14_F_reader_a1, f14_F_scanner_a1⟩
theorem ef_rmLaw (m : MethodId) (x0 : Int32) (x1 : Int32) (x2 : Int32) : entryFrame m #[(.int x0), (.int x1), (.int x2)] maxLocals = mkF m 0 #[iv x0, iv x1, iv x2, .unset, .unset, .unset, .unset, .unset, .unset] [] := by first | (simp [entryFrame, mkF, argsToLocals, Value.category, maxLocals]; done) | rfl
def Q_rmLaw (Z : State) (p0 : Int32) (p1 : Int32) (p2 : Int32) (h0 : Heap) (n0 : Nat) (v : Option Value) (h : Heap) (L : List Loc) : Prop := v = some (.int (1 : Int32)) ∧ Fr n0 L
set_option maxRecDepth 65536 in
set_option maxHeartbeats 40000000 in
theorem rmLaw (l : Launch) (Z : State) (a0 : Array Value) (hw : ∀ d ∈ tables_1, d.before a0 Z = true) (ws : List Jvm.Cond) (p0 : Int32) (p1 : Int32) (p2 : Int32) (h0 : Heap) (n0 : Nat) (Z0 : n0 ≤ h0.size) :
    MetFree l x (head1 (Jvm.Cond.code x code maxLocals ret :: ws) room_1) (fun a U => a = #[(.int p0), (.int p1), (.int p2)] ∧ Z.Warmed39 U.vm ∧ U.heap = h0) (fun _ _ _ _ _ => True) (fun _ U o U' => ∃ v L, o = .returned v ∧ Q_rmLaw Z p0 p1 p2 h0 n0 v U'.heap L ∧ FrameEnd U o U' L room_1.cells room_1.slots) := by
  refine MetFree.of_bodySF (plainFor_of_name pn_2) hisR ?_
  intro p e s m args below meth c s₁ Bd hml0 hP hK
  obtain ⟨rfl, hZ, hh⟩ := hP
  have hx := Bd.exec
  have hby := Bd.bytes
  have hml : c.maxLocals = 9 := hml0
  have hown : s.vm.findClass "com/example/biaoji/biaoji/SpareKeepPinLaw" = some m.cls := findClass_of_methodNamed Bd.named
  have hnm := (name_of_methodNamed Bd.named Bd.method).1
  have X0 : Stand p l e room_1 s m #[(.int p0), (.int p1), (.int p2)] below meth c s₁ [] 0 0 := Stand.of_body Bd
  have e0 : s₁.heap = h0 := by rw [← hh, Bd.state]; rfl
  have N0 := Fr.nil n0
  obtain ⟨f0, hf0⟩ : ∃ f : JFrame, f = mkF m 0 #[iv p0, iv p1, iv p2, .unset, .unset, .unset, .unset, .unset, .unset] [] := ⟨_, rfl⟩
  have pre0 : ∀ t, Steps p.tables e below (s₁.setTop f0) t → Steps p.tables e below (s₁.setTop (entryFrame m #[(.int p0), (.int p1), (.int p2)] maxLocals)) t := fun t k => castTop ((ef_rmLaw m p0 p1 p2).trans hf0.symm) k
  have R0 : ∀ t, Steps p.tables e below (s₁.setTop (mkF m 0 #[iv p0, iv p1, iv p2, .unset, .unset, .unset, .unset, .unset, .unset] [])) t → Steps p.tables e below (s₁.setTop f0) t := by rw [hf0]; exact fun t k => k
  obtain ⟨T1, h1, X1, e1, E1, A1, D1, -, st1⟩ := newO X0 hx hZ hown (hw _ (List.mem_of_getElem? (i := 0) rfl)) (hw _ (List.mem_of_getElem? (i := 1) rfl)) (hw _ (List.mem_of_getElem? (i := 2) rfl)) e0 (g := (mkF m 0 #[iv p0, iv p1, iv p2, .unset, .unset, .unset, .unset, .unset, .unset] [])) rfl (hb hby at_0) (by decide) (by decide)
  obtain ⟨b1, g1⟩ : ∃ z, z = h0.size := ⟨_, rfl⟩
  rw [← g1] at A1 D1 st1
  have g_b1 : n0 ≤ b1 := Nat.le_trans Z0 (Nat.le_of_eq g1.symm)
  have sz_b1 : h0.size ≤ b1 := Nat.le_trans (Keep.refl h0 []).1 (Nat.le_of_eq g1.symm)
  have z1 : n0 ≤ h1.size := Nat.le_trans Z0 E1.1
  have K1 : Keep h0 h1 [] := (Keep.refl h0 []).ext E1
  have d1_slots : Fld Z h1 b1 sN2 "slots" "[Ljava/lang/String;" .null := D1 (Or.inl (hw _ (List.mem_of_getElem? (i := 12) rfl))) (ty := (.array (.object "java/lang/String"))) (by decide)
  have d1_hashes : Fld Z h1 b1 sN2 "hashes" "[I" .null := D1 (Or.inl (hw _ (List.mem_of_getElem? (i := 15) rfl))) (ty := (.array .int)) (by decide)
  have d1_spellings : Fld Z h1 b1 sN2 "spellings" "[[C" .null := D1 (Or.inl (hw _ (List.mem_of_getElem? (i := 19) rfl))) (ty := (.array (.array .char))) (by decide)
  have R2 : ∀ t, Steps p.tables e below (T1.setTop (mkF m 3 #[iv p0, iv p1, iv p2, .unset, .unset, .unset, .unset, .unset, .unset] [(.ref b1)])) t → Steps p.tables e below (s₁.setTop f0) t := fun t k => R0 t (st1 t k)
  have R3 : ∀ t, Steps p.tables e below (T1.setTop (mkF m 4 #[iv p0, iv p1, iv p2, .unset, .unset, .unset, .unset, .unset, .unset] [(.ref b1), (.ref b1)])) t → Steps p.tables e below (s₁.setTop f0) t := fun t k => R2 t (by
    show Steps p.tables e below (T1.setTop (mkF m 3 #[iv p0, iv p1, iv p2, .unset, .unset, .unset, .unset, .unset, .unset] [(.ref b1)])) _
    refine XS.dup X1.here hx rfl (hb hby at_3) rfl rfl ?_
    exact k)
  obtain ⟨_, _, ⟨T4, L4, k4, n4⟩, -, X4, ⟨Lc4, hQ4, l4, y4, z4⟩, st4⟩ := X1.specialBack hx (y := (⟨sN2, "<init>", "()V"⟩ : MethodName)) rfl hown (mvT hZ (hw _ (List.mem_of_getElem? (i := 3) rfl))) (mvT hZ (hw _ (List.mem_of_getElem? (i := 4) rfl))) (mvT hZ (hw _ (List.mem_of_getElem? (i := 5) rfl))) (by decide) (backOf (W := 1) (rmNT l Z a0 hw [] b1 .null .null .null h1 n0 z1 A1 d1_slots d1_hashes d1_spellings g_b1) hZ (hw _ (List.mem_of_getElem? (i := 5) rfl)) (hw _ (List.mem_of_getElem? (i := 2) rfl)) (by decide) (by decide)) (g := (mkF m 4 #[iv p0, iv p1, iv p2, .unset, .unset, .unset, .unset, .unset, .unset] [(.ref b1), (.ref b1)])) rfl (by rw [hml]; rfl) (Steps.refl _) (a := b1) (argsL := []) (rest := [(.ref b1)]) (lenOf pd_3 rfl) rfl (by show 2 * 0 + _ ≤ _; exact Nat.le_of_eq rfl) (hb hby at_4) (fun _ _ => ⟨rfl, e1, (by decide : 1 + 3 ≤ _), (by decide : 7 + 48 ≤ _)⟩)
  dsimp only [Pt.U, Pt.locs, Pt.cells, Pt.slots] at X4 l4 y4 z4 st4 hQ4
  subst l4 y4 z4
  obtain ⟨rfl, N4q, p4_0⟩ := hQ4
  have N4 := Fr.app N0 N4q
  have f4_E_b1 : Exa Z T4.heap b1 sN2 := A1.keep p4_0
  have z4 : n0 ≤ T4.heap.size := Nat.le_trans z1 p4_0.1
  have K4 : Keep h0 T4.heap [] := K1.trans p4_0 (allS (Or.inr sz_b1) all0)
  have R5 : ∀ t, Steps p.tables e below (T4.setTop (mkF m 7 #[iv p0, iv p1, iv p2, .unset, .unset, .unset, .unset, .unset, .unset] [(.ref b1)])) t → Steps p.tables e below (s₁.setTop f0) t := fun t k => R3 t (st4.trans k)
  have R6 : ∀ t, Steps p.tables e below (T4.setTop (mkF m 8 #[iv p0, iv p1, iv p2, rv b1, .unset, .unset, .unset, .unset, .unset] [])) t → Steps p.tables e below (s₁.setTop f0) t := fun t k => R5 t (by
    show Steps p.tables e below (T4.setTop (mkF m 7 #[iv p0, iv p1, iv p2, .unset, .unset, .unset, .unset, .unset, .unset] [(.ref b1)])) _
    refine XS.astoreN X4.here hx rfl (hb hby at_7) rfl rfl (l' := #[iv p0, iv p1, iv p2, rv b1, .unset, .unset, .unset, .unset, .unset]) rfl ?_
    exact k)
  obtain ⟨T7, h7, X7, e7, E7, A7, D7, -, st7⟩ := newO X4 hx hZ hown (hw _ (List.mem_of_getElem? (i := 0) rfl)) (hw _ (List.mem_of_getElem? (i := 1) rfl)) (hw _ (List.mem_of_getElem? (i := 2) rfl)) rfl (g := (mkF m 8 #[iv p0, iv p1, iv p2, rv b1, .unset, .unset, .unset, .unset, .unset] [])) rfl (hb hby at_8) (by decide) (by decide)
  obtain ⟨b7, g7⟩ : ∃ z, z = T4.heap.size := ⟨_, rfl⟩
  rw [← g7] at A7 D7 st7
  have g_b7 : n0 ≤ b7 := Nat.le_trans z4 (Nat.le_of_eq g7.symm)
  have sz_b7 : h0.size ≤ b7 := Nat.le_trans K4.1 (Nat.le_of_eq g7.symm)
  have ne_b1_b7 : b1 ≠ b7 := Nat.ne_of_lt (Nat.lt_of_lt_of_le f4_E_b1.lt (Nat.le_of_eq g7.symm))
  have f7_E_b1 : Exa Z h7 b1 sN2 := f4_E_b1.ext E7
  have z7 : n0 ≤ h7.size := Nat.le_trans z4 E7.1
  have K7 : Keep h0 h7 [] := K4.ext E7
  have d7_slots : Fld Z h7 b7 sN2 "slots" "[Ljava/lang/String;" .null := D7 (Or.inl (hw _ (List.mem_of_getElem? (i := 12) rfl))) (ty := (.array (.object "java/lang/String"))) (by decide)
  have d7_hashes : Fld Z h7 b7 sN2 "hashes" "[I" .null := D7 (Or.inl (hw _ (List.mem_of_getElem? (i := 15) rfl))) (ty := (.array .int)) (by decide)
  have d7_spellings : Fld Z h7 b7 sN2 "spellings" "[[C" .null := D7 (Or.inl (hw _ (List.mem_of_getElem? (i := 19) rfl))) (ty := (.array (.array .char))) (by decide)
  have R8 : ∀ t, Steps p.tables e below (T7.setTop (mkF m 11 #[iv p0, iv p1, iv p2, rv b1, .unset, .unset, .unset, .unset, .unset] [(.ref b7)])) t → Steps p.tables e below (s₁.setTop f0) t := fun t k => R6 t (st7 t k)
  have R9 : ∀ t, Steps p.tables e below (T7.setTop (mkF m 12 #[iv p0, iv p1, iv p2, rv b1, .unset, .unset, .unset, .unset, .unset] [(.ref b7), (.ref b7)])) t → Steps p.tables e below (s₁.setTop f0) t := fun t k => R8 t (by
    show Steps p.tables e below (T7.setTop (mkF m 11 #[iv p0, iv p1, iv p2, rv b1, .unset, .unset, .unset, .unset, .unset] [(.ref b7)])) _
    refine XS.dup X7.here hx rfl (hb hby at_11) rfl rfl ?_
    exact k)
  obtain ⟨_, _, ⟨T10, L10, k10, n10⟩, -, X10, ⟨Lc10, hQ10, l10, y10, z10⟩, st10⟩ := X7.specialBack hx (y := (⟨sN2, "<init>", "()V"⟩ : MethodName)) rfl hown (mvT hZ (hw _ (List.mem_of_getElem? (i := 3) rfl))) (mvT hZ (hw _ (List.mem_of_getElem? (i := 4) rfl))) (mvT hZ (hw _ (List.mem_of_getElem? (i := 5) rfl))) (by decide) (backOf (W := 1) (rmNT l Z a0 hw [] b7 .null .null .null h7 n0 z7 A7 d7_slots d7_hashes d7_spellings g_b7) hZ (hw _ (List.mem_of_getElem? (i := 5) rfl)) (hw _ (List.mem_of_getElem? (i := 2) rfl)) (by decide) (by decide)) (g := (mkF m 12 #[iv p0, iv p1, iv p2, rv b1, .unset, .unset, .unset, .unset, .unset] [(.ref b7), (.ref b7)])) rfl (by rw [hml]; rfl) (Steps.refl _) (a := b7) (argsL := []) (rest := [(.ref b7)]) (lenOf pd_3 rfl) rfl (by show 2 * 0 + _ ≤ _; exact Nat.le_of_eq rfl) (hb hby at_12) (fun _ _ => ⟨rfl, e7, (by decide : 5 + 3 ≤ _), (by decide : 62 + 48 ≤ _)⟩)
  dsimp only [Pt.U, Pt.locs, Pt.cells, Pt.slots] at X10 l10 y10 z10 st10 hQ10
  subst l10 y10 z10
  obtain ⟨rfl, N10q, p10_0⟩ := hQ10
  have N10 := Fr.app N4 N10q
  have f10_E_b1 : Exa Z T10.heap b1 sN2 := f7_E_b1.keep p10_0
  have f10_E_b7 : Exa Z T10.heap b7 sN2 := A7.keep p10_0
  have z10 : n0 ≤ T10.heap.size := Nat.le_trans z7 p10_0.1
  have K10 : Keep h0 T10.heap [] := K7.trans p10_0 (allS (Or.inr sz_b7) all0)
  have R11 : ∀ t, Steps p.tables e below (T10.setTop (mkF m 15 #[iv p0, iv p1, iv p2, rv b1, .unset, .unset, .unset, .unset, .unset] [(.ref b7)])) t → Steps p.tables e below (s₁.setTop f0) t := fun t k => R9 t (st10.trans k)
  have R12 : ∀ t, Steps p.tables e below (T10.setTop (mkF m 17 #[iv p0, iv p1, iv p2, rv b1, rv b7, .unset, .unset, .unset, .unset] [])) t → Steps p.tables e below (s₁.setTop f0) t := fun t k => R11 t (by
    show Steps p.tables e below (T10.setTop (mkF m 15 #[iv p0, iv p1, iv p2, rv b1, .unset, .unset, .unset, .unset, .unset] [(.ref b7)])) _
    refine XS.astore X10.here hx rfl (hb hby at_15) rfl rfl (l' := #[iv p0, iv p1, iv p2, rv b1, rv b7, .unset, .unset, .unset, .unset]) rfl ?_
    exact k)
  obtain ⟨T13, h13, X13, e13, E13, A13, D13, -, st13⟩ := newO X10 hx hZ hown (hw _ (List.mem_of_getElem? (i := 20) rfl)) (hw _ (List.mem_of_getElem? (i := 21) rfl)) (hw _ (List.mem_of_getElem? (i := 22) rfl)) rfl (g := (mkF m 17 #[iv p0, iv p1, iv p2, rv b1, rv b7, .unset, .unset, .unset, .unset] [])) rfl (hb hby at_17) (by decide) (by decide)
  obtain ⟨b13, g13⟩ : ∃ z, z = T10.heap.size := ⟨_, rfl⟩
  rw [← g13] at A13 D13 st13
  have g_b13 : n0 ≤ b13 := Nat.le_trans z10 (Nat.le_of_eq g13.symm)
  have sz_b13 : h0.size ≤ b13 := Nat.le_trans K10.1 (Nat.le_of_eq g13.symm)
  have ne_b1_b13 : b1 ≠ b13 := Nat.ne_of_lt (Nat.lt_of_lt_of_le f10_E_b1.lt (Nat.le_of_eq g13.symm))
  have ne_b7_b13 : b7 ≠ b13 := Nat.ne_of_lt (Nat.lt_of_lt_of_le f10_E_b7.lt (Nat.le_of_eq g13.symm))
  have f13_E_b1 : Exa Z h13 b1 sN2 := f10_E_b1.ext E13
  have f13_E_b7 : Exa Z h13 b7 sN2 := f10_E_b7.ext E13
  have z13 : n0 ≤ h13.size := Nat.le_trans z10 E13.1
  have K13 : Keep h0 h13 [] := K10.ext E13
  have d13_place : Fld Z h13 b13 sN0 "place" "I" (.int (0 : Int32)) := D13 (Or.inr (hw _ (List.mem_of_getElem? (i := 28) rfl))) (ty := .int) (by decide)
  have d13_names : Fld Z h13 b13 sN0 "names" sN5 .null := D13 (Or.inl (hw _ (List.mem_of_getElem? (i := 34) rfl))) (ty := (.object sN2)) (by decide)
  have d13_reader : Fld Z h13 b13 sN0 "reader" sN3 .null := D13 (Or.inl (hw _ (List.mem_of_getElem? (i := 36) rfl))) (ty := (.object "com/example/biaoji/biaoji/StreamEntityReader")) (by decide)
  have d13_scanner : Fld Z h13 b13 sN0 "scanner" sN4 .null := D13 (Or.inl (hw _ (List.mem_of_getElem? (i := 38) rfl))) (ty := (.object "com/example/biaoji/biaoji/DocumentScanner")) (by decide)
  have R14 : ∀ t, Steps p.tables e below (T13.setTop (mkF m 20 #[iv p0, iv p1, iv p2, rv b1, rv b7, .unset, .unset, .unset, .unset] [(.ref b13)])) t → Steps p.tables e below (s₁.setTop f0) t := fun t k => R12 t (st13 t k)
  have R15 : ∀ t, Steps p.tables e below (T13.setTop (mkF m 22 #[iv p0, iv p1, iv p2, rv b1, rv b7, .unset, .unset, .unset, .unset] [(.int p0), (.ref b13), (.ref b13)])) t → Steps p.tables e below (s₁.setTop f0) t := fun t k => R14 t (by
    show Steps p.tables e below (T13.setTop (mkF m 20 #[iv p0, iv p1, iv p2, rv b1, rv b7, .unset, .unset, .unset, .unset] [(.ref b13)])) _
    refine XS.dup X13.here hx rfl (hb hby at_20) rfl rfl ?_
    show Steps p.tables e below (T13.setTop (mkF m 21 #[iv p0, iv p1, iv p2, rv b1, rv b7, .unset, .unset, .unset, .unset] [(.ref b13), (.ref b13)])) _
    refine XS.iloadN X13.here hx rfl (hb hby at_21) rfl  ?_
    exact k)
  obtain ⟨_, _, ⟨T16, L16, k16, n16⟩, -, X16, ⟨Lc16, hQ16, l16, y16, z16⟩, st16⟩ := X13.specialBack hx (y := (⟨sN0, "<init>", "(I)V"⟩ : MethodName)) rfl hown (mvT hZ (hw _ (List.mem_of_getElem? (i := 23) rfl))) (mvT hZ (hw _ (List.mem_of_getElem? (i := 24) rfl))) (mvT hZ (hw _ (List.mem_of_getElem? (i := 25) rfl))) (by decide) (backOf (W := 1) (rmSp l Z a0 hw [] b13 p0 (.int (0 : Int32)) h13 n0 z13 A13 d13_place d13_names d13_reader d13_scanner g_b13) hZ (hw _ (List.mem_of_getElem? (i := 25) rfl)) (hw _ (List.mem_of_getElem? (i := 22) rfl)) (by decide) (by decide)) (g := (mkF m 22 #[iv p0, iv p1, iv p2, rv b1, rv b7, .unset, .unset, .unset, .unset] [(.int p0), (.ref b13), (.ref b13)])) rfl (by rw [hml]; rfl) (Steps.refl _) (a := b13) (argsL := [(.int p0)]) (rest := [(.ref b13)]) (lenOf pd_4 rfl) rfl (by show 2 * 0 + _ ≤ _; exact Nat.le_of_eq rfl) (hb hby at_22) (fun _ _ => ⟨rfl, e13, (by decide : 9 + 0 ≤ _), (by decide : 114 + 0 ≤ _)⟩)
  dsimp only [Pt.U, Pt.locs, Pt.cells, Pt.slots] at X16 l16 y16 z16 st16 hQ16
  subst l16 y16 z16
  obtain ⟨rfl, N16q, p16_0, p16_1, p16_2, p16_3⟩ := hQ16
  have N16 := Fr.app N10 N16q
  have f16_E_b1 : Exa Z T16.heap b1 sN2 := f13_E_b1.keep p16_0
  have f16_E_b7 : Exa Z T16.heap b7 sN2 := f13_E_b7.keep p16_0
  have f16_E_b13 : Exa Z T16.heap b13 sN0 := A13.keep p16_0
  have z16 : n0 ≤ T16.heap.size := Nat.le_trans z13 p16_0.1
  have K16 : Keep h0 T16.heap [] := K13.trans p16_0 (allS (Or.inr sz_b13) all0)
  have R17 : ∀ t, Steps p.tables e below (T16.setTop (mkF m 25 #[iv p0, iv p1, iv p2, rv b1, rv b7, .unset, .unset, .unset, .unset] [(.ref b13)])) t → Steps p.tables e below (s₁.setTop f0) t := fun t k => R15 t (st16.trans k)
  have R18 : ∀ t, Steps p.tables e below (T16.setTop (mkF m 31 #[iv p0, iv p1, iv p2, rv b1, rv b7, rv b13, .unset, .unset, .unset] [(.ref b7), (.ref b1), (.int p1)])) t → Steps p.tables e below (s₁.setTop f0) t := fun t k => R17 t (by
    show Steps p.tables e below (T16.setTop (mkF m 25 #[iv p0, iv p1, iv p2, rv b1, rv b7, .unset, .unset, .unset, .unset] [(.ref b13)])) _
    refine XS.astore X16.here hx rfl (hb hby at_25) rfl rfl (l' := #[iv p0, iv p1, iv p2, rv b1, rv b7, rv b13, .unset, .unset, .unset]) rfl ?_
    show Steps p.tables e below (T16.setTop (mkF m 27 #[iv p0, iv p1, iv p2, rv b1, rv b7, rv b13, .unset, .unset, .unset] [])) _
    refine XS.iloadN X16.here hx rfl (hb hby at_27) rfl  ?_
    show Steps p.tables e below (T16.setTop (mkF m 28 #[iv p0, iv p1, iv p2, rv b1, rv b7, rv b13, .unset, .unset, .unset] [(.int p1)])) _
    refine XS.aloadN X16.here hx rfl (hb hby at_28) rfl rfl ?_
    show Steps p.tables e below (T16.setTop (mkF m 29 #[iv p0, iv p1, iv p2, rv b1, rv b7, rv b13, .unset, .unset, .unset] [(.ref b1), (.int p1)])) _
    refine XS.aload X16.here hx rfl (hb hby at_29) rfl rfl ?_
    exact k)
  obtain ⟨_, _, ⟨T19, L19, k19, n19⟩, -, X19, ⟨Lc19, hQ19, l19, y19, z19⟩, st19⟩ := Jvm.LawKit.callS X16 hx (y := (⟨"com/example/biaoji/biaoji/SpareKeepPinLaw", "pick", "(ILcom/example/biaoji/biaoji/NameTable;Lcom/example/biaoji/biaoji/NameTable;)Lcom/example/biaoji/biaoji/NameTable;"⟩ : MethodName)) hown (mvT hZ (hw _ (List.mem_of_getElem? (i := 29) rfl))) (mvT hZ (hw _ (List.mem_of_getElem? (i := 30) rfl))) (mvT hZ (hw _ (List.mem_of_getElem? (i := 31) rfl))) (mvT hZ (hw _ (List.mem_of_getElem? (i := 32) rfl))) (by decide) (backOf (W := 0) (rmPick l Z a0 hw [] p1 b1 b7 T16.heap n0 z16) hZ (hw _ (List.mem_of_getElem? (i := 32) rfl)) (hw _ (List.mem_of_getElem? (i := 31) rfl)) (by decide) (by decide)) (g := (mkF m 31 #[iv p0, iv p1, iv p2, rv b1, rv b7, rv b13, .unset, .unset, .unset] [(.ref b7), (.ref b1), (.int p1)])) rfl (by rw [hml]; rfl) (argsL := [(.int p1), (.ref b1), (.ref b7)]) (rest := []) (lenOf pd_5 rfl) rfl (by show 2 * 0 + _ ≤ _; exact Nat.le_of_eq rfl) (hb hby at_31) (fun _ _ => ⟨rfl, rfl, (by decide : 9 + 0 ≤ _), (by decide : 114 + 0 ≤ _)⟩)
  dsimp only [Pt.U, Pt.locs, Pt.cells, Pt.slots] at X19 l19 y19 z19 st19 hQ19
  subst l19 y19 z19
  obtain ⟨rfl, N19q, p19_0⟩ := hQ19
  have N19 := Fr.app N16 N19q
  have R20 : ∀ t, Steps p.tables e below (T19.setTop (mkF m 34 #[iv p0, iv p1, iv p2, rv b1, rv b7, rv b13, .unset, .unset, .unset] [(own_pick p1 b1 b7)])) t → Steps p.tables e below (s₁.setTop f0) t := fun t k => R18 t (st19 t k)
  rcases own_pick3 p1 b1 b7 with hp | hp | hp
  · skip
    have R21 : ∀ t, Steps p.tables e below (T19.setTop (mkF m 34 #[iv p0, iv p1, iv p2, rv b1, rv b7, rv b13, .unset, .unset, .unset] [.null])) t → Steps p.tables e below (s₁.setTop f0) t := by have q := R20; rw [(hp : (own_pick p1 b1 b7) = .null)] at q; exact q
    have R22 : ∀ t, Steps p.tables e below (T19.setTop (mkF m 40 #[iv p0, iv p1, iv p2, rv b1, rv b7, rv b13, .val .null, .unset, .unset] [(.ref b7), (.ref b1), (.int p2)])) t → Steps p.tables e below (s₁.setTop f0) t := fun t k => R21 t (by
      show Steps p.tables e below (T19.setTop (mkF m 34 #[iv p0, iv p1, iv p2, rv b1, rv b7, rv b13, .unset, .unset, .unset] [.null])) _
      refine XS.astore X19.here hx rfl (hb hby at_34) rfl rfl (l' := #[iv p0, iv p1, iv p2, rv b1, rv b7, rv b13, .val .null, .unset, .unset]) rfl ?_
      show Steps p.tables e below (T19.setTop (mkF m 36 #[iv p0, iv p1, iv p2, rv b1, rv b7, rv b13, .val .null, .unset, .unset] [])) _
      refine XS.iloadN X19.here hx rfl (hb hby at_36) rfl  ?_
      show Steps p.tables e below (T19.setTop (mkF m 37 #[iv p0, iv p1, iv p2, rv b1, rv b7, rv b13, .val .null, .unset, .unset] [(.int p2)])) _
      refine XS.aloadN X19.here hx rfl (hb hby at_37) rfl rfl ?_
      show Steps p.tables e below (T19.setTop (mkF m 38 #[iv p0, iv p1, iv p2, rv b1, rv b7, rv b13, .val .null, .unset, .unset] [(.ref b1), (.int p2)])) _
      refine XS.aload X19.here hx rfl (hb hby at_38) rfl rfl ?_
      exact k)
    obtain ⟨_, _, ⟨T23, L23, k23, n23⟩, -, X23, ⟨Lc23, hQ23, l23, y23, z23⟩, st23⟩ := Jvm.LawKit.callS X19 hx (y := (⟨"com/example/biaoji/biaoji/SpareKeepPinLaw", "pick", "(ILcom/example/biaoji/biaoji/NameTable;Lcom/example/biaoji/biaoji/NameTable;)Lcom/example/biaoji/biaoji/NameTable;"⟩ : MethodName)) hown (mvT hZ (hw _ (List.mem_of_getElem? (i := 29) rfl))) (mvT hZ (hw _ (List.mem_of_getElem? (i := 30) rfl))) (mvT hZ (hw _ (List.mem_of_getElem? (i := 31) rfl))) (mvT hZ (hw _ (List.mem_of_getElem? (i := 32) rfl))) (by decide) (backOf (W := 0) (rmPick l Z a0 hw [] p2 b1 b7 T16.heap n0 z16) hZ (hw _ (List.mem_of_getElem? (i := 32) rfl)) (hw _ (List.mem_of_getElem? (i := 31) rfl)) (by decide) (by decide)) (g := (mkF m 40 #[iv p0, iv p1, iv p2, rv b1, rv b7, rv b13, .val .null, .unset, .unset] [(.ref b7), (.ref b1), (.int p2)])) rfl (by rw [hml]; rfl) (argsL := [(.int p2), (.ref b1), (.ref b7)]) (rest := []) (lenOf pd_5 rfl) rfl (by show 2 * 0 + _ ≤ _; exact Nat.le_of_eq rfl) (hb hby at_40) (fun _ _ => ⟨rfl, p19_0, (by decide : 9 + 0 ≤ _), (by decide : 114 + 0 ≤ _)⟩)
    dsimp only [Pt.U, Pt.locs, Pt.cells, Pt.slots] at X23 l23 y23 z23 st23 hQ23
    subst l23 y23 z23
    obtain ⟨rfl, N23q, p23_0⟩ := hQ23
    have N23 := Fr.app N19 N23q
    have R24 : ∀ t, Steps p.tables e below (T23.setTop (mkF m 43 #[iv p0, iv p1, iv p2, rv b1, rv b7, rv b13, .val .null, .unset, .unset] [(own_pick p2 b1 b7)])) t → Steps p.tables e below (s₁.setTop f0) t := fun t k => R22 t (st23 t k)
    rcases own_pick3 p2 b1 b7 with hq | hq | hq
    · skip
      have R25 : ∀ t, Steps p.tables e below (T23.setTop (mkF m 43 #[iv p0, iv p1, iv p2, rv b1, rv b7, rv b13, .val .null, .unset, .unset] [.null])) t → Steps p.tables e below (s₁.setTop f0) t := by have q := R24; rw [(hq : (own_pick p2 b1 b7) = .null)] at q; exact q
      have R26 : ∀ t, Steps p.tables e below (T23.setTop (mkF m 47 #[iv p0, iv p1, iv p2, rv b1, rv b7, rv b13, .val .null, .val .null, .unset] [(.ref b13)])) t → Steps p.tables e below (s₁.setTop f0) t := fun t k => R25 t (by
        show Steps p.tables e below (T23.setTop (mkF m 43 #[iv p0, iv p1, iv p2, rv b1, rv b7, rv b13, .val .null, .unset, .unset] [.null])) _
        refine XS.astore X23.here hx rfl (hb hby at_43) rfl rfl (l' := #[iv p0, iv p1, iv p2, rv b1, rv b7, rv b13, .val .null, .val .null, .unset]) rfl ?_
        show Steps p.tables e below (T23.setTop (mkF m 45 #[iv p0, iv p1, iv p2, rv b1, rv b7, rv b13, .val .null, .val .null, .unset] [])) _
        refine XS.aload X23.here hx rfl (hb hby at_45) rfl rfl ?_
        exact k)
      obtain ⟨T27, X27, e27, st27⟩ := getF X23 hx hZ hown (host := "") (Or.inl (hw _ (List.mem_of_getElem? (i := 33) rfl))) Via.refl p23_0 p16_1 (g := (mkF m 47 #[iv p0, iv p1, iv p2, rv b1, rv b7, rv b13, .val .null, .val .null, .unset] [(.ref b13)])) rfl rfl (hb hby at_47)
      have R28 : ∀ t, Steps p.tables e below (T27.setTop (mkF m 50 #[iv p0, iv p1, iv p2, rv b1, rv b7, rv b13, .val .null, .val .null, .unset] [.null])) t → Steps p.tables e below (s₁.setTop f0) t := fun t k => R26 t (st27 t k)
      have R29 : ∀ t, Steps p.tables e below (T27.setTop (mkF m 55 #[iv p0, iv p1, iv p2, rv b1, rv b7, rv b13, .val .null, .val .null, .unset] [(.ref b13)])) t → Steps p.tables e below (s₁.setTop f0) t := fun t k => R28 t (by
        show Steps p.tables e below (T27.setTop (mkF m 50 #[iv p0, iv p1, iv p2, rv b1, rv b7, rv b13, .val .null, .val .null, .unset] [.null])) _
        refine XS.ifnonnullNo X27.here hx rfl (hb hby at_50) rfl ?_
        show Steps p.tables e below (T27.setTop (mkF m 53 #[iv p0, iv p1, iv p2, rv b1, rv b7, rv b13, .val .null, .val .null, .unset] [])) _
        refine XS.aload X27.here hx rfl (hb hby at_53) rfl rfl ?_
        exact k)
      obtain ⟨T30, X30, e30, st30⟩ := getF X27 hx hZ hown (host := "") (Or.inl (hw _ (List.mem_of_getElem? (i := 35) rfl))) Via.refl e27 p16_2 (g := (mkF m 55 #[iv p0, iv p1, iv p2, rv b1, rv b7, rv b13, .val .null, .val .null, .unset] [(.ref b13)])) rfl rfl (hb hby at_55)
      have R31 : ∀ t, Steps p.tables e below (T30.setTop (mkF m 58 #[iv p0, iv p1, iv p2, rv b1, rv b7, rv b13, .val .null, .val .null, .unset] [.null])) t → Steps p.tables e below (s₁.setTop f0) t := fun t k => R29 t (st30 t k)
      have R32 : ∀ t, Steps p.tables e below (T30.setTop (mkF m 63 #[iv p0, iv p1, iv p2, rv b1, rv b7, rv b13, .val .null, .val .null, .unset] [(.ref b13)])) t → Steps p.tables e below (s₁.setTop f0) t := fun t k => R31 t (by
        show Steps p.tables e below (T30.setTop (mkF m 58 #[iv p0, iv p1, iv p2, rv b1, rv b7, rv b13, .val .null, .val .null, .unset] [.null])) _
        refine XS.ifnonnullNo X30.here hx rfl (hb hby at_58) rfl ?_
        show Steps p.tables e below (T30.setTop (mkF m 61 #[iv p0, iv p1, iv p2, rv b1, rv b7, rv b13, .val .null, .val .null, .unset] [])) _
        refine XS.aload X30.here hx rfl (hb hby at_61) rfl rfl ?_
        exact k)
      obtain ⟨T33, X33, e33, st33⟩ := getF X30 hx hZ hown (host := "") (Or.inl (hw _ (List.mem_of_getElem? (i := 37) rfl))) Via.refl e30 p16_3 (g := (mkF m 63 #[iv p0, iv p1, iv p2, rv b1, rv b7, rv b13, .val .null, .val .null, .unset] [(.ref b13)])) rfl rfl (hb hby at_63)
      have R34 : ∀ t, Steps p.tables e below (T33.setTop (mkF m 66 #[iv p0, iv p1, iv p2, rv b1, rv b7, rv b13, .val .null, .val .null, .unset] [.null])) t → Steps p.tables e below (s₁.setTop f0) t := fun t k => R32 t (st33 t k)
      have R35 : ∀ t, Steps p.tables e below (T33.setTop (mkF m 82 #[iv p0, iv p1, iv p2, rv b1, rv b7, rv b13, .val .null, .val .null, iv (1 : Int32)] [.null, .null, .null, (.ref b13)])) t → Steps p.tables e below (s₁.setTop f0) t := fun t k => R34 t (by
        show Steps p.tables e below (T33.setTop (mkF m 66 #[iv p0, iv p1, iv p2, rv b1, rv b7, rv b13, .val .null, .val .null, .unset] [.null])) _
        refine XS.ifnonnullNo X33.here hx rfl (hb hby at_66) rfl ?_
        show Steps p.tables e below (T33.setTop (mkF m 69 #[iv p0, iv p1, iv p2, rv b1, rv b7, rv b13, .val .null, .val .null, .unset] [])) _
        refine XS.iconst X33.here hx rfl (hb hby at_69) ?_
        show Steps p.tables e below (T33.setTop (mkF m 70 #[iv p0, iv p1, iv p2, rv b1, rv b7, rv b13, .val .null, .val .null, .unset] [(.int (1 : Int32))])) _
        refine XS.goto X33.here hx rfl (pc0 := 70) (pc' := 74) rfl (hb hby at_70) (by decide) (by decide) ?_
        show Steps p.tables e below (T33.setTop (mkF m 74 #[iv p0, iv p1, iv p2, rv b1, rv b7, rv b13, .val .null, .val .null, .unset] [(.int (1 : Int32))])) _
        refine XS.istore X33.here hx rfl (hb hby at_74) rfl (l' := #[iv p0, iv p1, iv p2, rv b1, rv b7, rv b13, .val .null, .val .null, iv (1 : Int32)]) rfl ?_
        show Steps p.tables e below (T33.setTop (mkF m 76 #[iv p0, iv p1, iv p2, rv b1, rv b7, rv b13, .val .null, .val .null, iv (1 : Int32)] [])) _
        refine XS.aload X33.here hx rfl (hb hby at_76) rfl rfl ?_
        show Steps p.tables e below (T33.setTop (mkF m 78 #[iv p0, iv p1, iv p2, rv b1, rv b7, rv b13, .val .null, .val .null, iv (1 : Int32)] [(.ref b13)])) _
        refine XS.aload X33.here hx rfl (hb hby at_78) rfl rfl ?_
        show Steps p.tables e below (T33.setTop (mkF m 80 #[iv p0, iv p1, iv p2, rv b1, rv b7, rv b13, .val .null, .val .null, iv (1 : Int32)] [.null, (.ref b13)])) _
        refine XS.aconstNull X33.here hx rfl (hb hby at_80) ?_
        show Steps p.tables e below (T33.setTop (mkF m 81 #[iv p0, iv p1, iv p2, rv b1, rv b7, rv b13, .val .null, .val .null, iv (1 : Int32)] [.null, .null, (.ref b13)])) _
        refine XS.aconstNull X33.here hx rfl (hb hby at_81) ?_
        exact k)
      obtain ⟨cq36, kq36, q36a, q36b, q36c⟩ := isOf hZ e33 f16_E_b13
      obtain ⟨_, _, ⟨T36, L36, k36, n36⟩, -, X36, ⟨Lc36, hQ36, l36, y36, z36⟩, st36⟩ := X33.virtualBack hx (y := (⟨sN0, "keep", sN1⟩ : MethodName)) (z := (⟨sN0, "keep", sN1⟩ : MethodName)) hown (mvT hZ (hw _ (List.mem_of_getElem? (i := 39) rfl))) (mvT hZ (hw _ (List.mem_of_getElem? (i := 40) rfl))) (notFace_of_selects (args := #[]) (mvT hZ (hw _ (List.mem_of_getElem? (i := 42) rfl)))) (mvT hZ (hw _ (List.mem_of_getElem? (i := 42) rfl))) (mvT hZ (hw _ (List.mem_of_getElem? (i := 41) rfl))) (by decide) (backOf (W := 0) (rmKeepNN l Z a0 hw [] b13 T16.heap n0 z16 f16_E_b13 p16_1 p16_2 p16_3 g_b13) hZ (hw _ (List.mem_of_getElem? (i := 43) rfl)) (hw _ (List.mem_of_getElem? (i := 22) rfl)) (by decide) (by decide)) q36a q36c (g := (mkF m 82 #[iv p0, iv p1, iv p2, rv b1, rv b7, rv b13, .val .null, .val .null, iv (1 : Int32)] [.null, .null, .null, (.ref b13)])) rfl (by rw [hml]; rfl) (Steps.refl _) (argsL := [.null, .null, .null]) (rest := []) (lenOf pd_6 rfl) rfl (by show 2 * 0 + _ ≤ _; exact Nat.le_of_eq rfl) (hb hby at_82) (fun _ _ => ⟨rfl, e33, (by decide : 9 + 0 ≤ _), (by decide : 114 + 0 ≤ _)⟩)
      dsimp only [Pt.U, Pt.locs, Pt.cells, Pt.slots] at X36 l36 y36 z36 st36 hQ36
      subst l36 y36 z36
      obtain ⟨rfl, N36q, p36_0, p36_1, p36_2, p36_3⟩ := hQ36
      have N36 := Fr.app N23 N36q
      have f36_E_b1 : Exa Z T36.heap b1 sN2 := f16_E_b1.keep p36_0
      have f36_E_b7 : Exa Z T36.heap b7 sN2 := f16_E_b7.keep p36_0
      have f36_E_b13 : Exa Z T36.heap b13 sN0 := f16_E_b13.keep p36_0
      have z36 : n0 ≤ T36.heap.size := Nat.le_trans z16 p36_0.1
      have K36 : Keep h0 T36.heap [] := K16.trans p36_0 (allS (Or.inr sz_b13) all0)
      have R37 : ∀ t, Steps p.tables e below (T36.setTop (mkF m 85 #[iv p0, iv p1, iv p2, rv b1, rv b7, rv b13, .val .null, .val .null, iv (1 : Int32)] [])) t → Steps p.tables e below (s₁.setTop f0) t := fun t k => R35 t (st36.trans k)
      have R38 : ∀ t, Steps p.tables e below (T36.setTop (mkF m 92 #[iv p0, iv p1, iv p2, rv b1, rv b7, rv b13, .val .null, .val .null, iv (1 : Int32)] [(.ref b13)])) t → Steps p.tables e below (s₁.setTop f0) t := fun t k => R37 t (by
        show Steps p.tables e below (T36.setTop (mkF m 85 #[iv p0, iv p1, iv p2, rv b1, rv b7, rv b13, .val .null, .val .null, iv (1 : Int32)] [])) _
        refine XS.iload X36.here hx rfl (hb hby at_85) rfl  ?_
        show Steps p.tables e below (T36.setTop (mkF m 87 #[iv p0, iv p1, iv p2, rv b1, rv b7, rv b13, .val .null, .val .null, iv (1 : Int32)] [(.int (1 : Int32))])) _
        refine XS.ifNo X36.here hx rfl (hb hby at_87) rfl ((if0 _ _).trans (feq (by decide : ¬ ((1 : Int32) = (0 : Int32)))).1) ?_
        show Steps p.tables e below (T36.setTop (mkF m 90 #[iv p0, iv p1, iv p2, rv b1, rv b7, rv b13, .val .null, .val .null, iv (1 : Int32)] [])) _
        refine XS.aload X36.here hx rfl (hb hby at_90) rfl rfl ?_
        exact k)
      obtain ⟨T39, X39, e39, st39⟩ := getF X36 hx hZ hown (host := "") (Or.inl (hw _ (List.mem_of_getElem? (i := 33) rfl))) Via.refl rfl p36_1 (g := (mkF m 92 #[iv p0, iv p1, iv p2, rv b1, rv b7, rv b13, .val .null, .val .null, iv (1 : Int32)] [(.ref b13)])) rfl rfl (hb hby at_92)
      have R40 : ∀ t, Steps p.tables e below (T39.setTop (mkF m 95 #[iv p0, iv p1, iv p2, rv b1, rv b7, rv b13, .val .null, .val .null, iv (1 : Int32)] [.null])) t → Steps p.tables e below (s₁.setTop f0) t := fun t k => R38 t (st39 t k)
      have R41 : ∀ t, Steps p.tables e below (T39.setTop (mkF m 102 #[iv p0, iv p1, iv p2, rv b1, rv b7, rv b13, .val .null, .val .null, iv (1 : Int32)] [(.ref b13)])) t → Steps p.tables e below (s₁.setTop f0) t := fun t k => R40 t (by
        show Steps p.tables e below (T39.setTop (mkF m 95 #[iv p0, iv p1, iv p2, rv b1, rv b7, rv b13, .val .null, .val .null, iv (1 : Int32)] [.null])) _
        refine XS.aload X39.here hx rfl (hb hby at_95) rfl rfl ?_
        show Steps p.tables e below (T39.setTop (mkF m 97 #[iv p0, iv p1, iv p2, rv b1, rv b7, rv b13, .val .null, .val .null, iv (1 : Int32)] [.null, .null])) _
        refine Jvm.RoadKit.acmp (g := (mkF m 97 #[iv p0, iv p1, iv p2, rv b1, rv b7, rv b13, .val .null, .val .null, iv (1 : Int32)] [.null, .null])) X39 hx rfl rfl rfl (pc0 := 97) (pc' := 100) (same := true) rfl (hb hby at_97) rfl (decide_eq_true rfl) (by decide) (by decide) ?_
        show Steps p.tables e below (T39.setTop (mkF m 100 #[iv p0, iv p1, iv p2, rv b1, rv b7, rv b13, .val .null, .val .null, iv (1 : Int32)] [])) _
        refine XS.aload X39.here hx rfl (hb hby at_100) rfl rfl ?_
        exact k)
      obtain ⟨T42, X42, e42, st42⟩ := getF X39 hx hZ hown (host := "") (Or.inl (hw _ (List.mem_of_getElem? (i := 35) rfl))) Via.refl e39 p36_2 (g := (mkF m 102 #[iv p0, iv p1, iv p2, rv b1, rv b7, rv b13, .val .null, .val .null, iv (1 : Int32)] [(.ref b13)])) rfl rfl (hb hby at_102)
      have R43 : ∀ t, Steps p.tables e below (T42.setTop (mkF m 105 #[iv p0, iv p1, iv p2, rv b1, rv b7, rv b13, .val .null, .val .null, iv (1 : Int32)] [.null])) t → Steps p.tables e below (s₁.setTop f0) t := fun t k => R41 t (st42 t k)
      have R44 : ∀ t, Steps p.tables e below (T42.setTop (mkF m 110 #[iv p0, iv p1, iv p2, rv b1, rv b7, rv b13, .val .null, .val .null, iv (1 : Int32)] [(.ref b13)])) t → Steps p.tables e below (s₁.setTop f0) t := fun t k => R43 t (by
        show Steps p.tables e below (T42.setTop (mkF m 105 #[iv p0, iv p1, iv p2, rv b1, rv b7, rv b13, .val .null, .val .null, iv (1 : Int32)] [.null])) _
        refine XS.ifnonnullNo X42.here hx rfl (hb hby at_105) rfl ?_
        show Steps p.tables e below (T42.setTop (mkF m 108 #[iv p0, iv p1, iv p2, rv b1, rv b7, rv b13, .val .null, .val .null, iv (1 : Int32)] [])) _
        refine XS.aload X42.here hx rfl (hb hby at_108) rfl rfl ?_
        exact k)
      obtain ⟨T45, X45, e45, st45⟩ := getF X42 hx hZ hown (host := "") (Or.inl (hw _ (List.mem_of_getElem? (i := 37) rfl))) Via.refl e42 p36_3 (g := (mkF m 110 #[iv p0, iv p1, iv p2, rv b1, rv b7, rv b13, .val .null, .val .null, iv (1 : Int32)] [(.ref b13)])) rfl rfl (hb hby at_110)
      have R46 : ∀ t, Steps p.tables e below (T45.setTop (mkF m 113 #[iv p0, iv p1, iv p2, rv b1, rv b7, rv b13, .val .null, .val .null, iv (1 : Int32)] [.null])) t → Steps p.tables e below (s₁.setTop f0) t := fun t k => R44 t (st45 t k)
      have R47 : ∀ t, Steps p.tables e below (T45.setTop (mkF m 129 #[iv p0, iv p1, iv p2, rv b1, rv b7, rv b13, .val .null, .val .null, iv (1 : Int32)] [.null, .null, .null, (.ref b13)])) t → Steps p.tables e below (s₁.setTop f0) t := fun t k => R46 t (by
        show Steps p.tables e below (T45.setTop (mkF m 113 #[iv p0, iv p1, iv p2, rv b1, rv b7, rv b13, .val .null, .val .null, iv (1 : Int32)] [.null])) _
        refine XS.ifnonnullNo X45.here hx rfl (hb hby at_113) rfl ?_
        show Steps p.tables e below (T45.setTop (mkF m 116 #[iv p0, iv p1, iv p2, rv b1, rv b7, rv b13, .val .null, .val .null, iv (1 : Int32)] [])) _
        refine XS.iconst X45.here hx rfl (hb hby at_116) ?_
        show Steps p.tables e below (T45.setTop (mkF m 117 #[iv p0, iv p1, iv p2, rv b1, rv b7, rv b13, .val .null, .val .null, iv (1 : Int32)] [(.int (1 : Int32))])) _
        refine XS.goto X45.here hx rfl (pc0 := 117) (pc' := 121) rfl (hb hby at_117) (by decide) (by decide) ?_
        show Steps p.tables e below (T45.setTop (mkF m 121 #[iv p0, iv p1, iv p2, rv b1, rv b7, rv b13, .val .null, .val .null, iv (1 : Int32)] [(.int (1 : Int32))])) _
        refine XS.istore X45.here hx rfl (hb hby at_121) rfl (l' := #[iv p0, iv p1, iv p2, rv b1, rv b7, rv b13, .val .null, .val .null, iv (1 : Int32)]) rfl ?_
        show Steps p.tables e below (T45.setTop (mkF m 123 #[iv p0, iv p1, iv p2, rv b1, rv b7, rv b13, .val .null, .val .null, iv (1 : Int32)] [])) _
        refine XS.aload X45.here hx rfl (hb hby at_123) rfl rfl ?_
        show Steps p.tables e below (T45.setTop (mkF m 125 #[iv p0, iv p1, iv p2, rv b1, rv b7, rv b13, .val .null, .val .null, iv (1 : Int32)] [(.ref b13)])) _
        refine XS.aload X45.here hx rfl (hb hby at_125) rfl rfl ?_
        show Steps p.tables e below (T45.setTop (mkF m 127 #[iv p0, iv p1, iv p2, rv b1, rv b7, rv b13, .val .null, .val .null, iv (1 : Int32)] [.null, (.ref b13)])) _
        refine XS.aconstNull X45.here hx rfl (hb hby at_127) ?_
        show Steps p.tables e below (T45.setTop (mkF m 128 #[iv p0, iv p1, iv p2, rv b1, rv b7, rv b13, .val .null, .val .null, iv (1 : Int32)] [.null, .null, (.ref b13)])) _
        refine XS.aconstNull X45.here hx rfl (hb hby at_128) ?_
        exact k)
      obtain ⟨cq48, kq48, q48a, q48b, q48c⟩ := isOf hZ e45 f36_E_b13
      obtain ⟨_, _, ⟨T48, L48, k48, n48⟩, -, X48, ⟨Lc48, hQ48, l48, y48, z48⟩, st48⟩ := X45.virtualBack hx (y := (⟨sN0, "keep", sN1⟩ : MethodName)) (z := (⟨sN0, "keep", sN1⟩ : MethodName)) hown (mvT hZ (hw _ (List.mem_of_getElem? (i := 39) rfl))) (mvT hZ (hw _ (List.mem_of_getElem? (i := 40) rfl))) (notFace_of_selects (args := #[]) (mvT hZ (hw _ (List.mem_of_getElem? (i := 42) rfl)))) (mvT hZ (hw _ (List.mem_of_getElem? (i := 42) rfl))) (mvT hZ (hw _ (List.mem_of_getElem? (i := 41) rfl))) (by decide) (backOf (W := 0) (rmKeepNN l Z a0 hw [] b13 T36.heap n0 z36 f36_E_b13 p36_1 p36_2 p36_3 g_b13) hZ (hw _ (List.mem_of_getElem? (i := 43) rfl)) (hw _ (List.mem_of_getElem? (i := 22) rfl)) (by decide) (by decide)) q48a q48c (g := (mkF m 129 #[iv p0, iv p1, iv p2, rv b1, rv b7, rv b13, .val .null, .val .null, iv (1 : Int32)] [.null, .null, .null, (.ref b13)])) rfl (by rw [hml]; rfl) (Steps.refl _) (argsL := [.null, .null, .null]) (rest := []) (lenOf pd_6 rfl) rfl (by show 2 * 0 + _ ≤ _; exact Nat.le_of_eq rfl) (hb hby at_129) (fun _ _ => ⟨rfl, e45, (by decide : 9 + 0 ≤ _), (by decide : 114 + 0 ≤ _)⟩)
      dsimp only [Pt.U, Pt.locs, Pt.cells, Pt.slots] at X48 l48 y48 z48 st48 hQ48
      subst l48 y48 z48
      obtain ⟨rfl, N48q, p48_0, p48_1, p48_2, p48_3⟩ := hQ48
      have N48 := Fr.app N36 N48q
      have f48_E_b1 : Exa Z T48.heap b1 sN2 := f36_E_b1.keep p48_0
      have f48_E_b7 : Exa Z T48.heap b7 sN2 := f36_E_b7.keep p48_0
      have f48_E_b13 : Exa Z T48.heap b13 sN0 := f36_E_b13.keep p48_0
      have z48 : n0 ≤ T48.heap.size := Nat.le_trans z36 p48_0.1
      have K48 : Keep h0 T48.heap [] := K36.trans p48_0 (allS (Or.inr sz_b13) all0)
      have R49 : ∀ t, Steps p.tables e below (T48.setTop (mkF m 132 #[iv p0, iv p1, iv p2, rv b1, rv b7, rv b13, .val .null, .val .null, iv (1 : Int32)] [])) t → Steps p.tables e below (s₁.setTop f0) t := fun t k => R47 t (st48.trans k)
      have R50 : ∀ t, Steps p.tables e below (T48.setTop (mkF m 139 #[iv p0, iv p1, iv p2, rv b1, rv b7, rv b13, .val .null, .val .null, iv (1 : Int32)] [(.ref b13)])) t → Steps p.tables e below (s₁.setTop f0) t := fun t k => R49 t (by
        show Steps p.tables e below (T48.setTop (mkF m 132 #[iv p0, iv p1, iv p2, rv b1, rv b7, rv b13, .val .null, .val .null, iv (1 : Int32)] [])) _
        refine XS.iload X48.here hx rfl (hb hby at_132) rfl  ?_
        show Steps p.tables e below (T48.setTop (mkF m 134 #[iv p0, iv p1, iv p2, rv b1, rv b7, rv b13, .val .null, .val .null, iv (1 : Int32)] [(.int (1 : Int32))])) _
        refine XS.ifNo X48.here hx rfl (hb hby at_134) rfl ((if0 _ _).trans (feq (by decide : ¬ ((1 : Int32) = (0 : Int32)))).1) ?_
        show Steps p.tables e below (T48.setTop (mkF m 137 #[iv p0, iv p1, iv p2, rv b1, rv b7, rv b13, .val .null, .val .null, iv (1 : Int32)] [])) _
        refine XS.aload X48.here hx rfl (hb hby at_137) rfl rfl ?_
        exact k)
      obtain ⟨T51, X51, e51, st51⟩ := getF X48 hx hZ hown (host := "") (Or.inl (hw _ (List.mem_of_getElem? (i := 33) rfl))) Via.refl rfl p48_1 (g := (mkF m 139 #[iv p0, iv p1, iv p2, rv b1, rv b7, rv b13, .val .null, .val .null, iv (1 : Int32)] [(.ref b13)])) rfl rfl (hb hby at_139)
      have R52 : ∀ t, Steps p.tables e below (T51.setTop (mkF m 142 #[iv p0, iv p1, iv p2, rv b1, rv b7, rv b13, .val .null, .val .null, iv (1 : Int32)] [.null])) t → Steps p.tables e below (s₁.setTop f0) t := fun t k => R50 t (st51 t k)
      have R53 : ∀ t, Steps p.tables e below (T51.setTop (mkF m 149 #[iv p0, iv p1, iv p2, rv b1, rv b7, rv b13, .val .null, .val .null, iv (1 : Int32)] [(.ref b13)])) t → Steps p.tables e below (s₁.setTop f0) t := fun t k => R52 t (by
        show Steps p.tables e below (T51.setTop (mkF m 142 #[iv p0, iv p1, iv p2, rv b1, rv b7, rv b13, .val .null, .val .null, iv (1 : Int32)] [.null])) _
        refine XS.aload X51.here hx rfl (hb hby at_142) rfl rfl ?_
        show Steps p.tables e below (T51.setTop (mkF m 144 #[iv p0, iv p1, iv p2, rv b1, rv b7, rv b13, .val .null, .val .null, iv (1 : Int32)] [.null, .null])) _
        refine Jvm.RoadKit.acmp (g := (mkF m 144 #[iv p0, iv p1, iv p2, rv b1, rv b7, rv b13, .val .null, .val .null, iv (1 : Int32)] [.null, .null])) X51 hx rfl rfl rfl (pc0 := 144) (pc' := 147) (same := true) rfl (hb hby at_144) rfl (decide_eq_true rfl) (by decide) (by decide) ?_
        show Steps p.tables e below (T51.setTop (mkF m 147 #[iv p0, iv p1, iv p2, rv b1, rv b7, rv b13, .val .null, .val .null, iv (1 : Int32)] [])) _
        refine XS.aload X51.here hx rfl (hb hby at_147) rfl rfl ?_
        exact k)
      obtain ⟨T54, X54, e54, st54⟩ := getF X51 hx hZ hown (host := "") (Or.inl (hw _ (List.mem_of_getElem? (i := 35) rfl))) Via.refl e51 p48_2 (g := (mkF m 149 #[iv p0, iv p1, iv p2, rv b1, rv b7, rv b13, .val .null, .val .null, iv (1 : Int32)] [(.ref b13)])) rfl rfl (hb hby at_149)
      have R55 : ∀ t, Steps p.tables e below (T54.setTop (mkF m 152 #[iv p0, iv p1, iv p2, rv b1, rv b7, rv b13, .val .null, .val .null, iv (1 : Int32)] [.null])) t → Steps p.tables e below (s₁.setTop f0) t := fun t k => R53 t (st54 t k)
      have R56 : ∀ t, Steps p.tables e below (T54.setTop (mkF m 157 #[iv p0, iv p1, iv p2, rv b1, rv b7, rv b13, .val .null, .val .null, iv (1 : Int32)] [(.ref b13)])) t → Steps p.tables e below (s₁.setTop f0) t := fun t k => R55 t (by
        show Steps p.tables e below (T54.setTop (mkF m 152 #[iv p0, iv p1, iv p2, rv b1, rv b7, rv b13, .val .null, .val .null, iv (1 : Int32)] [.null])) _
        refine XS.ifnonnullNo X54.here hx rfl (hb hby at_152) rfl ?_
        show Steps p.tables e below (T54.setTop (mkF m 155 #[iv p0, iv p1, iv p2, rv b1, rv b7, rv b13, .val .null, .val .null, iv (1 : Int32)] [])) _
        refine XS.aload X54.here hx rfl (hb hby at_155) rfl rfl ?_
        exact k)
      obtain ⟨T57, X57, e57, st57⟩ := getF X54 hx hZ hown (host := "") (Or.inl (hw _ (List.mem_of_getElem? (i := 37) rfl))) Via.refl e54 p48_3 (g := (mkF m 157 #[iv p0, iv p1, iv p2, rv b1, rv b7, rv b13, .val .null, .val .null, iv (1 : Int32)] [(.ref b13)])) rfl rfl (hb hby at_157)
      have R58 : ∀ t, Steps p.tables e below (T57.setTop (mkF m 160 #[iv p0, iv p1, iv p2, rv b1, rv b7, rv b13, .val .null, .val .null, iv (1 : Int32)] [.null])) t → Steps p.tables e below (s₁.setTop f0) t := fun t k => R56 t (st57 t k)
      have R59 : ∀ t, Steps p.tables e below (T57.setTop (mkF m 172 #[iv p0, iv p1, iv p2, rv b1, rv b7, rv b13, .val .null, .val .null, iv (1 : Int32)] [(.int (1 : Int32))])) t → Steps p.tables e below (s₁.setTop f0) t := fun t k => R58 t (by
        show Steps p.tables e below (T57.setTop (mkF m 160 #[iv p0, iv p1, iv p2, rv b1, rv b7, rv b13, .val .null, .val .null, iv (1 : Int32)] [.null])) _
        refine XS.ifnonnullNo X57.here hx rfl (hb hby at_160) rfl ?_
        show Steps p.tables e below (T57.setTop (mkF m 163 #[iv p0, iv p1, iv p2, rv b1, rv b7, rv b13, .val .null, .val .null, iv (1 : Int32)] [])) _
        refine XS.iconst X57.here hx rfl (hb hby at_163) ?_
        show Steps p.tables e below (T57.setTop (mkF m 164 #[iv p0, iv p1, iv p2, rv b1, rv b7, rv b13, .val .null, .val .null, iv (1 : Int32)] [(.int (1 : Int32))])) _
        refine XS.goto X57.here hx rfl (pc0 := 164) (pc' := 168) rfl (hb hby at_164) (by decide) (by decide) ?_
        show Steps p.tables e below (T57.setTop (mkF m 168 #[iv p0, iv p1, iv p2, rv b1, rv b7, rv b13, .val .null, .val .null, iv (1 : Int32)] [(.int (1 : Int32))])) _
        refine XS.istore X57.here hx rfl (hb hby at_168) rfl (l' := #[iv p0, iv p1, iv p2, rv b1, rv b7, rv b13, .val .null, .val .null, iv (1 : Int32)]) rfl ?_
        show Steps p.tables e below (T57.setTop (mkF m 170 #[iv p0, iv p1, iv p2, rv b1, rv b7, rv b13, .val .null, .val .null, iv (1 : Int32)] [])) _
        refine XS.iload X57.here hx rfl (hb hby at_170) rfl  ?_
        exact k)
      obtain ⟨fs, hr, hrun, hended, hW, hsame⟩ := X57.leave (v := some (.int (1 : Int32))) (fun h => by rw [Bd.returns] at h; cases h)
      refine ⟨_, _, pre0 _ (R59 _ ?_), hrun, hended, _, _, rfl, ?_, ⟨_, rfl⟩, hW, hsame.mono (by decide) (by decide)⟩
      · show Steps p.tables e below (T57.setTop (mkF m 172 #[iv p0, iv p1, iv p2, rv b1, rv b7, rv b13, .val .null, .val .null, iv (1 : Int32)] [(.int (1 : Int32))])) _
        exact retN X57 hx (t := .boolean) Bd.returns (by simp) (hb hby at_172) hr
      · show Q_rmLaw Z p0 p1 p2 h0 n0 _ T57.heap _
        rw [e57]
        exact ⟨rfl, N48⟩
    · skip
      have R60 : ∀ t, Steps p.tables e below (T23.setTop (mkF m 43 #[iv p0, iv p1, iv p2, rv b1, rv b7, rv b13, .val .null, .unset, .unset] [(.ref b1)])) t → Steps p.tables e below (s₁.setTop f0) t := by have q := R24; rw [(hq : (own_pick p2 b1 b7) = (.ref b1))] at q; exact q
      have R61 : ∀ t, Steps p.tables e below (T23.setTop (mkF m 47 #[iv p0, iv p1, iv p2, rv b1, rv b7, rv b13, .val .null, rv b1, .unset] [(.ref b13)])) t → Steps p.tables e below (s₁.setTop f0) t := fun t k => R60 t (by
        show Steps p.tables e below (T23.setTop (mkF m 43 #[iv p0, iv p1, iv p2, rv b1, rv b7, rv b13, .val .null, .unset, .unset] [(.ref b1)])) _
        refine XS.astore X23.here hx rfl (hb hby at_43) rfl rfl (l' := #[iv p0, iv p1, iv p2, rv b1, rv b7, rv b13, .val .null, rv b1, .unset]) rfl ?_
        show Steps p.tables e below (T23.setTop (mkF m 45 #[iv p0, iv p1, iv p2, rv b1, rv b7, rv b13, .val .null, rv b1, .unset] [])) _
        refine XS.aload X23.here hx rfl (hb hby at_45) rfl rfl ?_
        exact k)
      obtain ⟨T62, X62, e62, st62⟩ := getF X23 hx hZ hown (host := "") (Or.inl (hw _ (List.mem_of_getElem? (i := 33) rfl))) Via.refl p23_0 p16_1 (g := (mkF m 47 #[iv p0, iv p1, iv p2, rv b1, rv b7, rv b13, .val .null, rv b1, .unset] [(.ref b13)])) rfl rfl (hb hby at_47)
      have R63 : ∀ t, Steps p.tables e below (T62.setTop (mkF m 50 #[iv p0, iv p1, iv p2, rv b1, rv b7, rv b13, .val .null, rv b1, .unset] [.null])) t → Steps p.tables e below (s₁.setTop f0) t := fun t k => R61 t (st62 t k)
      have R64 : ∀ t, Steps p.tables e below (T62.setTop (mkF m 55 #[iv p0, iv p1, iv p2, rv b1, rv b7, rv b13, .val .null, rv b1, .unset] [(.ref b13)])) t → Steps p.tables e below (s₁.setTop f0) t := fun t k => R63 t (by
        show Steps p.tables e below (T62.setTop (mkF m 50 #[iv p0, iv p1, iv p2, rv b1, rv b7, rv b13, .val .null, rv b1, .unset] [.null])) _
        refine XS.ifnonnullNo X62.here hx rfl (hb hby at_50) rfl ?_
        show Steps p.tables e below (T62.setTop (mkF m 53 #[iv p0, iv p1, iv p2, rv b1, rv b7, rv b13, .val .null, rv b1, .unset] [])) _
        refine XS.aload X62.here hx rfl (hb hby at_53) rfl rfl ?_
        exact k)
      obtain ⟨T65, X65, e65, st65⟩ := getF X62 hx hZ hown (host := "") (Or.inl (hw _ (List.mem_of_getElem? (i := 35) rfl))) Via.refl e62 p16_2 (g := (mkF m 55 #[iv p0, iv p1, iv p2, rv b1, rv b7, rv b13, .val .null, rv b1, .unset] [(.ref b13)])) rfl rfl (hb hby at_55)
      have R66 : ∀ t, Steps p.tables e below (T65.setTop (mkF m 58 #[iv p0, iv p1, iv p2, rv b1, rv b7, rv b13, .val .null, rv b1, .unset] [.null])) t → Steps p.tables e below (s₁.setTop f0) t := fun t k => R64 t (st65 t k)
      have R67 : ∀ t, Steps p.tables e below (T65.setTop (mkF m 63 #[iv p0, iv p1, iv p2, rv b1, rv b7, rv b13, .val .null, rv b1, .unset] [(.ref b13)])) t → Steps p.tables e below (s₁.setTop f0) t := fun t k => R66 t (by
        show Steps p.tables e below (T65.setTop (mkF m 58 #[iv p0, iv p1, iv p2, rv b1, rv b7, rv b13, .val .null, rv b1, .unset] [.null])) _
        refine XS.ifnonnullNo X65.here hx rfl (hb hby at_58) rfl ?_
        show Steps p.tables e below (T65.setTop (mkF m 61 #[iv p0, iv p1, iv p2, rv b1, rv b7, rv b13, .val .null, rv b1, .unset] [])) _
        refine XS.aload X65.here hx rfl (hb hby at_61) rfl rfl ?_
        exact k)
      obtain ⟨T68, X68, e68, st68⟩ := getF X65 hx hZ hown (host := "") (Or.inl (hw _ (List.mem_of_getElem? (i := 37) rfl))) Via.refl e65 p16_3 (g := (mkF m 63 #[iv p0, iv p1, iv p2, rv b1, rv b7, rv b13, .val .null, rv b1, .unset] [(.ref b13)])) rfl rfl (hb hby at_63)
      have R69 : ∀ t, Steps p.tables e below (T68.setTop (mkF m 66 #[iv p0, iv p1, iv p2, rv b1, rv b7, rv b13, .val .null, rv b1, .unset] [.null])) t → Steps p.tables e below (s₁.setTop f0) t := fun t k => R67 t (st68 t k)
      have R70 : ∀ t, Steps p.tables e below (T68.setTop (mkF m 82 #[iv p0, iv p1, iv p2, rv b1, rv b7, rv b13, .val .null, rv b1, iv (1 : Int32)] [.null, .null, .null, (.ref b13)])) t → Steps p.tables e below (s₁.setTop f0) t := fun t k => R69 t (by
        show Steps p.tables e below (T68.setTop (mkF m 66 #[iv p0, iv p1, iv p2, rv b1, rv b7, rv b13, .val .null, rv b1, .unset] [.null])) _
        refine XS.ifnonnullNo X68.here hx rfl (hb hby at_66) rfl ?_
        show Steps p.tables e below (T68.setTop (mkF m 69 #[iv p0, iv p1, iv p2, rv b1, rv b7, rv b13, .val .null, rv b1, .unset] [])) _
        refine XS.iconst X68.here hx rfl (hb hby at_69) ?_
        show Steps p.tables e below (T68.setTop (mkF m 70 #[iv p0, iv p1, iv p2, rv b1, rv b7, rv b13, .val .null, rv b1, .unset] [(.int (1 : Int32))])) _
        refine XS.goto X68.here hx rfl (pc0 := 70) (pc' := 74) rfl (hb hby at_70) (by decide) (by decide) ?_
        show Steps p.tables e below (T68.setTop (mkF m 74 #[iv p0, iv p1, iv p2, rv b1, rv b7, rv b13, .val .null, rv b1, .unset] [(.int (1 : Int32))])) _
        refine XS.istore X68.here hx rfl (hb hby at_74) rfl (l' := #[iv p0, iv p1, iv p2, rv b1, rv b7, rv b13, .val .null, rv b1, iv (1 : Int32)]) rfl ?_
        show Steps p.tables e below (T68.setTop (mkF m 76 #[iv p0, iv p1, iv p2, rv b1, rv b7, rv b13, .val .null, rv b1, iv (1 : Int32)] [])) _
        refine XS.aload X68.here hx rfl (hb hby at_76) rfl rfl ?_
        show Steps p.tables e below (T68.setTop (mkF m 78 #[iv p0, iv p1, iv p2, rv b1, rv b7, rv b13, .val .null, rv b1, iv (1 : Int32)] [(.ref b13)])) _
        refine XS.aload X68.here hx rfl (hb hby at_78) rfl rfl ?_
        show Steps p.tables e below (T68.setTop (mkF m 80 #[iv p0, iv p1, iv p2, rv b1, rv b7, rv b13, .val .null, rv b1, iv (1 : Int32)] [.null, (.ref b13)])) _
        refine XS.aconstNull X68.here hx rfl (hb hby at_80) ?_
        show Steps p.tables e below (T68.setTop (mkF m 81 #[iv p0, iv p1, iv p2, rv b1, rv b7, rv b13, .val .null, rv b1, iv (1 : Int32)] [.null, .null, (.ref b13)])) _
        refine XS.aconstNull X68.here hx rfl (hb hby at_81) ?_
        exact k)
      obtain ⟨cq71, kq71, q71a, q71b, q71c⟩ := isOf hZ e68 f16_E_b13
      obtain ⟨_, _, ⟨T71, L71, k71, n71⟩, -, X71, ⟨Lc71, hQ71, l71, y71, z71⟩, st71⟩ := X68.virtualBack hx (y := (⟨sN0, "keep", sN1⟩ : MethodName)) (z := (⟨sN0, "keep", sN1⟩ : MethodName)) hown (mvT hZ (hw _ (List.mem_of_getElem? (i := 39) rfl))) (mvT hZ (hw _ (List.mem_of_getElem? (i := 40) rfl))) (notFace_of_selects (args := #[]) (mvT hZ (hw _ (List.mem_of_getElem? (i := 42) rfl)))) (mvT hZ (hw _ (List.mem_of_getElem? (i := 42) rfl))) (mvT hZ (hw _ (List.mem_of_getElem? (i := 41) rfl))) (by decide) (backOf (W := 0) (rmKeepNN l Z a0 hw [] b13 T16.heap n0 z16 f16_E_b13 p16_1 p16_2 p16_3 g_b13) hZ (hw _ (List.mem_of_getElem? (i := 43) rfl)) (hw _ (List.mem_of_getElem? (i := 22) rfl)) (by decide) (by decide)) q71a q71c (g := (mkF m 82 #[iv p0, iv p1, iv p2, rv b1, rv b7, rv b13, .val .null, rv b1, iv (1 : Int32)] [.null, .null, .null, (.ref b13)])) rfl (by rw [hml]; rfl) (Steps.refl _) (argsL := [.null, .null, .null]) (rest := []) (lenOf pd_6 rfl) rfl (by show 2 * 0 + _ ≤ _; exact Nat.le_of_eq rfl) (hb hby at_82) (fun _ _ => ⟨rfl, e68, (by decide : 9 + 0 ≤ _), (by decide : 114 + 0 ≤ _)⟩)
      dsimp only [Pt.U, Pt.locs, Pt.cells, Pt.slots] at X71 l71 y71 z71 st71 hQ71
      subst l71 y71 z71
      obtain ⟨rfl, N71q, p71_0, p71_1, p71_2, p71_3⟩ := hQ71
      have N71 := Fr.app N23 N71q
      have f71_E_b1 : Exa Z T71.heap b1 sN2 := f16_E_b1.keep p71_0
      have f71_E_b7 : Exa Z T71.heap b7 sN2 := f16_E_b7.keep p71_0
      have f71_E_b13 : Exa Z T71.heap b13 sN0 := f16_E_b13.keep p71_0
      have z71 : n0 ≤ T71.heap.size := Nat.le_trans z16 p71_0.1
      have K71 : Keep h0 T71.heap [] := K16.trans p71_0 (allS (Or.inr sz_b13) all0)
      have R72 : ∀ t, Steps p.tables e below (T71.setTop (mkF m 85 #[iv p0, iv p1, iv p2, rv b1, rv b7, rv b13, .val .null, rv b1, iv (1 : Int32)] [])) t → Steps p.tables e below (s₁.setTop f0) t := fun t k => R70 t (st71.trans k)
      have R73 : ∀ t, Steps p.tables e below (T71.setTop (mkF m 92 #[iv p0, iv p1, iv p2, rv b1, rv b7, rv b13, .val .null, rv b1, iv (1 : Int32)] [(.ref b13)])) t → Steps p.tables e below (s₁.setTop f0) t := fun t k => R72 t (by
        show Steps p.tables e below (T71.setTop (mkF m 85 #[iv p0, iv p1, iv p2, rv b1, rv b7, rv b13, .val .null, rv b1, iv (1 : Int32)] [])) _
        refine XS.iload X71.here hx rfl (hb hby at_85) rfl  ?_
        show Steps p.tables e below (T71.setTop (mkF m 87 #[iv p0, iv p1, iv p2, rv b1, rv b7, rv b13, .val .null, rv b1, iv (1 : Int32)] [(.int (1 : Int32))])) _
        refine XS.ifNo X71.here hx rfl (hb hby at_87) rfl ((if0 _ _).trans (feq (by decide : ¬ ((1 : Int32) = (0 : Int32)))).1) ?_
        show Steps p.tables e below (T71.setTop (mkF m 90 #[iv p0, iv p1, iv p2, rv b1, rv b7, rv b13, .val .null, rv b1, iv (1 : Int32)] [])) _
        refine XS.aload X71.here hx rfl (hb hby at_90) rfl rfl ?_
        exact k)
      obtain ⟨T74, X74, e74, st74⟩ := getF X71 hx hZ hown (host := "") (Or.inl (hw _ (List.mem_of_getElem? (i := 33) rfl))) Via.refl rfl p71_1 (g := (mkF m 92 #[iv p0, iv p1, iv p2, rv b1, rv b7, rv b13, .val .null, rv b1, iv (1 : Int32)] [(.ref b13)])) rfl rfl (hb hby at_92)
      have R75 : ∀ t, Steps p.tables e below (T74.setTop (mkF m 95 #[iv p0, iv p1, iv p2, rv b1, rv b7, rv b13, .val .null, rv b1, iv (1 : Int32)] [.null])) t → Steps p.tables e below (s₁.setTop f0) t := fun t k => R73 t (st74 t k)
      have R76 : ∀ t, Steps p.tables e below (T74.setTop (mkF m 102 #[iv p0, iv p1, iv p2, rv b1, rv b7, rv b13, .val .null, rv b1, iv (1 : Int32)] [(.ref b13)])) t → Steps p.tables e below (s₁.setTop f0) t := fun t k => R75 t (by
        show Steps p.tables e below (T74.setTop (mkF m 95 #[iv p0, iv p1, iv p2, rv b1, rv b7, rv b13, .val .null, rv b1, iv (1 : Int32)] [.null])) _
        refine XS.aload X74.here hx rfl (hb hby at_95) rfl rfl ?_
        show Steps p.tables e below (T74.setTop (mkF m 97 #[iv p0, iv p1, iv p2, rv b1, rv b7, rv b13, .val .null, rv b1, iv (1 : Int32)] [.null, .null])) _
        refine Jvm.RoadKit.acmp (g := (mkF m 97 #[iv p0, iv p1, iv p2, rv b1, rv b7, rv b13, .val .null, rv b1, iv (1 : Int32)] [.null, .null])) X74 hx rfl rfl rfl (pc0 := 97) (pc' := 100) (same := true) rfl (hb hby at_97) rfl (decide_eq_true rfl) (by decide) (by decide) ?_
        show Steps p.tables e below (T74.setTop (mkF m 100 #[iv p0, iv p1, iv p2, rv b1, rv b7, rv b13, .val .null, rv b1, iv (1 : Int32)] [])) _
        refine XS.aload X74.here hx rfl (hb hby at_100) rfl rfl ?_
        exact k)
      obtain ⟨T77, X77, e77, st77⟩ := getF X74 hx hZ hown (host := "") (Or.inl (hw _ (List.mem_of_getElem? (i := 35) rfl))) Via.refl e74 p71_2 (g := (mkF m 102 #[iv p0, iv p1, iv p2, rv b1, rv b7, rv b13, .val .null, rv b1, iv (1 : Int32)] [(.ref b13)])) rfl rfl (hb hby at_102)
      have R78 : ∀ t, Steps p.tables e below (T77.setTop (mkF m 105 #[iv p0, iv p1, iv p2, rv b1, rv b7, rv b13, .val .null, rv b1, iv (1 : Int32)] [.null])) t → Steps p.tables e below (s₁.setTop f0) t := fun t k => R76 t (st77 t k)
      have R79 : ∀ t, Steps p.tables e below (T77.setTop (mkF m 110 #[iv p0, iv p1, iv p2, rv b1, rv b7, rv b13, .val .null, rv b1, iv (1 : Int32)] [(.ref b13)])) t → Steps p.tables e below (s₁.setTop f0) t := fun t k => R78 t (by
        show Steps p.tables e below (T77.setTop (mkF m 105 #[iv p0, iv p1, iv p2, rv b1, rv b7, rv b13, .val .null, rv b1, iv (1 : Int32)] [.null])) _
        refine XS.ifnonnullNo X77.here hx rfl (hb hby at_105) rfl ?_
        show Steps p.tables e below (T77.setTop (mkF m 108 #[iv p0, iv p1, iv p2, rv b1, rv b7, rv b13, .val .null, rv b1, iv (1 : Int32)] [])) _
        refine XS.aload X77.here hx rfl (hb hby at_108) rfl rfl ?_
        exact k)
      obtain ⟨T80, X80, e80, st80⟩ := getF X77 hx hZ hown (host := "") (Or.inl (hw _ (List.mem_of_getElem? (i := 37) rfl))) Via.refl e77 p71_3 (g := (mkF m 110 #[iv p0, iv p1, iv p2, rv b1, rv b7, rv b13, .val .null, rv b1, iv (1 : Int32)] [(.ref b13)])) rfl rfl (hb hby at_110)
      have R81 : ∀ t, Steps p.tables e below (T80.setTop (mkF m 113 #[iv p0, iv p1, iv p2, rv b1, rv b7, rv b13, .val .null, rv b1, iv (1 : Int32)] [.null])) t → Steps p.tables e below (s₁.setTop f0) t := fun t k => R79 t (st80 t k)
      have R82 : ∀ t, Steps p.tables e below (T80.setTop (mkF m 129 #[iv p0, iv p1, iv p2, rv b1, rv b7, rv b13, .val .null, rv b1, iv (1 : Int32)] [.null, .null, (.ref b1), (.ref b13)])) t → Steps p.tables e below (s₁.setTop f0) t := fun t k => R81 t (by
        show Steps p.tables e below (T80.setTop (mkF m 113 #[iv p0, iv p1, iv p2, rv b1, rv b7, rv b13, .val .null, rv b1, iv (1 : Int32)] [.null])) _
        refine XS.ifnonnullNo X80.here hx rfl (hb hby at_113) rfl ?_
        show Steps p.tables e below (T80.setTop (mkF m 116 #[iv p0, iv p1, iv p2, rv b1, rv b7, rv b13, .val .null, rv b1, iv (1 : Int32)] [])) _
        refine XS.iconst X80.here hx rfl (hb hby at_116) ?_
        show Steps p.tables e below (T80.setTop (mkF m 117 #[iv p0, iv p1, iv p2, rv b1, rv b7, rv b13, .val .null, rv b1, iv (1 : Int32)] [(.int (1 : Int32))])) _
        refine XS.goto X80.here hx rfl (pc0 := 117) (pc' := 121) rfl (hb hby at_117) (by decide) (by decide) ?_
        show Steps p.tables e below (T80.setTop (mkF m 121 #[iv p0, iv p1, iv p2, rv b1, rv b7, rv b13, .val .null, rv b1, iv (1 : Int32)] [(.int (1 : Int32))])) _
        refine XS.istore X80.here hx rfl (hb hby at_121) rfl (l' := #[iv p0, iv p1, iv p2, rv b1, rv b7, rv b13, .val .null, rv b1, iv (1 : Int32)]) rfl ?_
        show Steps p.tables e below (T80.setTop (mkF m 123 #[iv p0, iv p1, iv p2, rv b1, rv b7, rv b13, .val .null, rv b1, iv (1 : Int32)] [])) _
        refine XS.aload X80.here hx rfl (hb hby at_123) rfl rfl ?_
        show Steps p.tables e below (T80.setTop (mkF m 125 #[iv p0, iv p1, iv p2, rv b1, rv b7, rv b13, .val .null, rv b1, iv (1 : Int32)] [(.ref b13)])) _
        refine XS.aload X80.here hx rfl (hb hby at_125) rfl rfl ?_
        show Steps p.tables e below (T80.setTop (mkF m 127 #[iv p0, iv p1, iv p2, rv b1, rv b7, rv b13, .val .null, rv b1, iv (1 : Int32)] [(.ref b1), (.ref b13)])) _
        refine XS.aconstNull X80.here hx rfl (hb hby at_127) ?_
        show Steps p.tables e below (T80.setTop (mkF m 128 #[iv p0, iv p1, iv p2, rv b1, rv b7, rv b13, .val .null, rv b1, iv (1 : Int32)] [.null, (.ref b1), (.ref b13)])) _
        refine XS.aconstNull X80.here hx rfl (hb hby at_128) ?_
        exact k)
      obtain ⟨cq83, kq83, q83a, q83b, q83c⟩ := isOf hZ e80 f71_E_b13
      obtain ⟨_, _, ⟨T83, L83, k83, n83⟩, -, X83, ⟨Lc83, hQ83, l83, y83, z83⟩, st83⟩ := X80.virtualBack hx (y := (⟨sN0, "keep", sN1⟩ : MethodName)) (z := (⟨sN0, "keep", sN1⟩ : MethodName)) hown (mvT hZ (hw _ (List.mem_of_getElem? (i := 39) rfl))) (mvT hZ (hw _ (List.mem_of_getElem? (i := 40) rfl))) (notFace_of_selects (args := #[]) (mvT hZ (hw _ (List.mem_of_getElem? (i := 42) rfl)))) (mvT hZ (hw _ (List.mem_of_getElem? (i := 42) rfl))) (mvT hZ (hw _ (List.mem_of_getElem? (i := 41) rfl))) (by decide) (backOf (W := 0) (rmKeepNR l Z a0 hw [] b13 b1 T71.heap n0 z71 f71_E_b13 p71_1 p71_2 p71_3 g_b13) hZ (hw _ (List.mem_of_getElem? (i := 43) rfl)) (hw _ (List.mem_of_getElem? (i := 22) rfl)) (by decide) (by decide)) q83a q83c (g := (mkF m 129 #[iv p0, iv p1, iv p2, rv b1, rv b7, rv b13, .val .null, rv b1, iv (1 : Int32)] [.null, .null, (.ref b1), (.ref b13)])) rfl (by rw [hml]; rfl) (Steps.refl _) (argsL := [(.ref b1), .null, .null]) (rest := []) (lenOf pd_6 rfl) rfl (by show 2 * 0 + _ ≤ _; exact Nat.le_of_eq rfl) (hb hby at_129) (fun _ _ => ⟨rfl, e80, (by decide : 9 + 0 ≤ _), (by decide : 114 + 0 ≤ _)⟩)
      dsimp only [Pt.U, Pt.locs, Pt.cells, Pt.slots] at X83 l83 y83 z83 st83 hQ83
      subst l83 y83 z83
      obtain ⟨rfl, N83q, p83_0, p83_1, p83_2, p83_3⟩ := hQ83
      have N83 := Fr.app N71 N83q
      have f83_E_b1 : Exa Z T83.heap b1 sN2 := f71_E_b1.keep p83_0
      have f83_E_b7 : Exa Z T83.heap b7 sN2 := f71_E_b7.keep p83_0
      have f83_E_b13 : Exa Z T83.heap b13 sN0 := f71_E_b13.keep p83_0
      have z83 : n0 ≤ T83.heap.size := Nat.le_trans z71 p83_0.1
      have K83 : Keep h0 T83.heap [] := K71.trans p83_0 (allS (Or.inr sz_b13) all0)
      have R84 : ∀ t, Steps p.tables e below (T83.setTop (mkF m 132 #[iv p0, iv p1, iv p2, rv b1, rv b7, rv b13, .val .null, rv b1, iv (1 : Int32)] [])) t → Steps p.tables e below (s₁.setTop f0) t := fun t k => R82 t (st83.trans k)
      have R85 : ∀ t, Steps p.tables e below (T83.setTop (mkF m 139 #[iv p0, iv p1, iv p2, rv b1, rv b7, rv b13, .val .null, rv b1, iv (1 : Int32)] [(.ref b13)])) t → Steps p.tables e below (s₁.setTop f0) t := fun t k => R84 t (by
        show Steps p.tables e below (T83.setTop (mkF m 132 #[iv p0, iv p1, iv p2, rv b1, rv b7, rv b13, .val .null, rv b1, iv (1 : Int32)] [])) _
        refine XS.iload X83.here hx rfl (hb hby at_132) rfl  ?_
        show Steps p.tables e below (T83.setTop (mkF m 134 #[iv p0, iv p1, iv p2, rv b1, rv b7, rv b13, .val .null, rv b1, iv (1 : Int32)] [(.int (1 : Int32))])) _
        refine XS.ifNo X83.here hx rfl (hb hby at_134) rfl ((if0 _ _).trans (feq (by decide : ¬ ((1 : Int32) = (0 : Int32)))).1) ?_
        show Steps p.tables e below (T83.setTop (mkF m 137 #[iv p0, iv p1, iv p2, rv b1, rv b7, rv b13, .val .null, rv b1, iv (1 : Int32)] [])) _
        refine XS.aload X83.here hx rfl (hb hby at_137) rfl rfl ?_
        exact k)
      obtain ⟨T86, X86, e86, st86⟩ := getF X83 hx hZ hown (host := "") (Or.inl (hw _ (List.mem_of_getElem? (i := 33) rfl))) Via.refl rfl p83_1 (g := (mkF m 139 #[iv p0, iv p1, iv p2, rv b1, rv b7, rv b13, .val .null, rv b1, iv (1 : Int32)] [(.ref b13)])) rfl rfl (hb hby at_139)
      have R87 : ∀ t, Steps p.tables e below (T86.setTop (mkF m 142 #[iv p0, iv p1, iv p2, rv b1, rv b7, rv b13, .val .null, rv b1, iv (1 : Int32)] [(.ref b1)])) t → Steps p.tables e below (s₁.setTop f0) t := fun t k => R85 t (st86 t k)
      have R88 : ∀ t, Steps p.tables e below (T86.setTop (mkF m 149 #[iv p0, iv p1, iv p2, rv b1, rv b7, rv b13, .val .null, rv b1, iv (1 : Int32)] [(.ref b13)])) t → Steps p.tables e below (s₁.setTop f0) t := fun t k => R87 t (by
        show Steps p.tables e below (T86.setTop (mkF m 142 #[iv p0, iv p1, iv p2, rv b1, rv b7, rv b13, .val .null, rv b1, iv (1 : Int32)] [(.ref b1)])) _
        refine XS.aload X86.here hx rfl (hb hby at_142) rfl rfl ?_
        show Steps p.tables e below (T86.setTop (mkF m 144 #[iv p0, iv p1, iv p2, rv b1, rv b7, rv b13, .val .null, rv b1, iv (1 : Int32)] [(.ref b1), (.ref b1)])) _
        refine Jvm.RoadKit.acmp (g := (mkF m 144 #[iv p0, iv p1, iv p2, rv b1, rv b7, rv b13, .val .null, rv b1, iv (1 : Int32)] [(.ref b1), (.ref b1)])) X86 hx rfl rfl rfl (pc0 := 144) (pc' := 147) (same := true) rfl (hb hby at_144) rfl (decide_eq_true rfl) (by decide) (by decide) ?_
        show Steps p.tables e below (T86.setTop (mkF m 147 #[iv p0, iv p1, iv p2, rv b1, rv b7, rv b13, .val .null, rv b1, iv (1 : Int32)] [])) _
        refine XS.aload X86.here hx rfl (hb hby at_147) rfl rfl ?_
        exact k)
      obtain ⟨T89, X89, e89, st89⟩ := getF X86 hx hZ hown (host := "") (Or.inl (hw _ (List.mem_of_getElem? (i := 35) rfl))) Via.refl e86 p83_2 (g := (mkF m 149 #[iv p0, iv p1, iv p2, rv b1, rv b7, rv b13, .val .null, rv b1, iv (1 : Int32)] [(.ref b13)])) rfl rfl (hb hby at_149)
      have R90 : ∀ t, Steps p.tables e below (T89.setTop (mkF m 152 #[iv p0, iv p1, iv p2, rv b1, rv b7, rv b13, .val .null, rv b1, iv (1 : Int32)] [.null])) t → Steps p.tables e below (s₁.setTop f0) t := fun t k => R88 t (st89 t k)
      have R91 : ∀ t, Steps p.tables e below (T89.setTop (mkF m 157 #[iv p0, iv p1, iv p2, rv b1, rv b7, rv b13, .val .null, rv b1, iv (1 : Int32)] [(.ref b13)])) t → Steps p.tables e below (s₁.setTop f0) t := fun t k => R90 t (by
        show Steps p.tables e below (T89.setTop (mkF m 152 #[iv p0, iv p1, iv p2, rv b1, rv b7, rv b13, .val .null, rv b1, iv (1 : Int32)] [.null])) _
        refine XS.ifnonnullNo X89.here hx rfl (hb hby at_152) rfl ?_
        show Steps p.tables e below (T89.setTop (mkF m 155 #[iv p0, iv p1, iv p2, rv b1, rv b7, rv b13, .val .null, rv b1, iv (1 : Int32)] [])) _
        refine XS.aload X89.here hx rfl (hb hby at_155) rfl rfl ?_
        exact k)
      obtain ⟨T92, X92, e92, st92⟩ := getF X89 hx hZ hown (host := "") (Or.inl (hw _ (List.mem_of_getElem? (i := 37) rfl))) Via.refl e89 p83_3 (g := (mkF m 157 #[iv p0, iv p1, iv p2, rv b1, rv b7, rv b13, .val .null, rv b1, iv (1 : Int32)] [(.ref b13)])) rfl rfl (hb hby at_157)
      have R93 : ∀ t, Steps p.tables e below (T92.setTop (mkF m 160 #[iv p0, iv p1, iv p2, rv b1, rv b7, rv b13, .val .null, rv b1, iv (1 : Int32)] [.null])) t → Steps p.tables e below (s₁.setTop f0) t := fun t k => R91 t (st92 t k)
      have R94 : ∀ t, Steps p.tables e below (T92.setTop (mkF m 172 #[iv p0, iv p1, iv p2, rv b1, rv b7, rv b13, .val .null, rv b1, iv (1 : Int32)] [(.int (1 : Int32))])) t → Steps p.tables e below (s₁.setTop f0) t := fun t k => R93 t (by
        show Steps p.tables e below (T92.setTop (mkF m 160 #[iv p0, iv p1, iv p2, rv b1, rv b7, rv b13, .val .null, rv b1, iv (1 : Int32)] [.null])) _
        refine XS.ifnonnullNo X92.here hx rfl (hb hby at_160) rfl ?_
        show Steps p.tables e below (T92.setTop (mkF m 163 #[iv p0, iv p1, iv p2, rv b1, rv b7, rv b13, .val .null, rv b1, iv (1 : Int32)] [])) _
        refine XS.iconst X92.here hx rfl (hb hby at_163) ?_
        show Steps p.tables e below (T92.setTop (mkF m 164 #[iv p0, iv p1, iv p2, rv b1, rv b7, rv b13, .val .null, rv b1, iv (1 : Int32)] [(.int (1 : Int32))])) _
        refine XS.goto X92.here hx rfl (pc0 := 164) (pc' := 168) rfl (hb hby at_164) (by decide) (by decide) ?_
        show Steps p.tables e below (T92.setTop (mkF m 168 #[iv p0, iv p1, iv p2, rv b1, rv b7, rv b13, .val .null, rv b1, iv (1 : Int32)] [(.int (1 : Int32))])) _
        refine XS.istore X92.here hx rfl (hb hby at_168) rfl (l' := #[iv p0, iv p1, iv p2, rv b1, rv b7, rv b13, .val .null, rv b1, iv (1 : Int32)]) rfl ?_
        show Steps p.tables e below (T92.setTop (mkF m 170 #[iv p0, iv p1, iv p2, rv b1, rv b7, rv b13, .val .null, rv b1, iv (1 : Int32)] [])) _
        refine XS.iload X92.here hx rfl (hb hby at_170) rfl  ?_
        exact k)
      obtain ⟨fs, hr, hrun, hended, hW, hsame⟩ := X92.leave (v := some (.int (1 : Int32))) (fun h => by rw [Bd.returns] at h; cases h)
      refine ⟨_, _, pre0 _ (R94 _ ?_), hrun, hended, _, _, rfl, ?_, ⟨_, rfl⟩, hW, hsame.mono (by decide) (by decide)⟩
      · show Steps p.tables e below (T92.setTop (mkF m 172 #[iv p0, iv p1, iv p2, rv b1, rv b7, rv b13, .val .null, rv b1, iv (1 : Int32)] [(.int (1 : Int32))])) _
        exact retN X92 hx (t := .boolean) Bd.returns (by simp) (hb hby at_172) hr
      · show Q_rmLaw Z p0 p1 p2 h0 n0 _ T92.heap _
        rw [e92]
        exact ⟨rfl, N83⟩
    · skip
      have R95 : ∀ t, Steps p.tables e below (T23.setTop (mkF m 43 #[iv p0, iv p1, iv p2, rv b1, rv b7, rv b13, .val .null, .unset, .unset] [(.ref b7)])) t → Steps p.tables e below (s₁.setTop f0) t := by have q := R24; rw [(hq : (own_pick p2 b1 b7) = (.ref b7))] at q; exact q
      have R96 : ∀ t, Steps p.tables e below (T23.setTop (mkF m 47 #[iv p0, iv p1, iv p2, rv b1, rv b7, rv b13, .val .null, rv b7, .unset] [(.ref b13)])) t → Steps p.tables e below (s₁.setTop f0) t := fun t k => R95 t (by
        show Steps p.tables e below (T23.setTop (mkF m 43 #[iv p0, iv p1, iv p2, rv b1, rv b7, rv b13, .val .null, .unset, .unset] [(.ref b7)])) _
        refine XS.astore X23.here hx rfl (hb hby at_43) rfl rfl (l' := #[iv p0, iv p1, iv p2, rv b1, rv b7, rv b13, .val .null, rv b7, .unset]) rfl ?_
        show Steps p.tables e below (T23.setTop (mkF m 45 #[iv p0, iv p1, iv p2, rv b1, rv b7, rv b13, .val .null, rv b7, .unset] [])) _
        refine XS.aload X23.here hx rfl (hb hby at_45) rfl rfl ?_
        exact k)
      obtain ⟨T97, X97, e97, st97⟩ := getF X23 hx hZ hown (host := "") (Or.inl (hw _ (List.mem_of_getElem? (i := 33) rfl))) Via.refl p23_0 p16_1 (g := (mkF m 47 #[iv p0, iv p1, iv p2, rv b1, rv b7, rv b13, .val .null, rv b7, .unset] [(.ref b13)])) rfl rfl (hb hby at_47)
      have R98 : ∀ t, Steps p.tables e below (T97.setTop (mkF m 50 #[iv p0, iv p1, iv p2, rv b1, rv b7, rv b13, .val .null, rv b7, .unset] [.null])) t → Steps p.tables e below (s₁.setTop f0) t := fun t k => R96 t (st97 t k)
      have R99 : ∀ t, Steps p.tables e below (T97.setTop (mkF m 55 #[iv p0, iv p1, iv p2, rv b1, rv b7, rv b13, .val .null, rv b7, .unset] [(.ref b13)])) t → Steps p.tables e below (s₁.setTop f0) t := fun t k => R98 t (by
        show Steps p.tables e below (T97.setTop (mkF m 50 #[iv p0, iv p1, iv p2, rv b1, rv b7, rv b13, .val .null, rv b7, .unset] [.null])) _
        refine XS.ifnonnullNo X97.here hx rfl (hb hby at_50) rfl ?_
        show Steps p.tables e below (T97.setTop (mkF m 53 #[iv p0, iv p1, iv p2, rv b1, rv b7, rv b13, .val .null, rv b7, .unset] [])) _
        refine XS.aload X97.here hx rfl (hb hby at_53) rfl rfl ?_
        exact k)
      obtain ⟨T100, X100, e100, st100⟩ := getF X97 hx hZ hown (host := "") (Or.inl (hw _ (List.mem_of_getElem? (i := 35) rfl))) Via.refl e97 p16_2 (g := (mkF m 55 #[iv p0, iv p1, iv p2, rv b1, rv b7, rv b13, .val .null, rv b7, .unset] [(.ref b13)])) rfl rfl (hb hby at_55)
      have R101 : ∀ t, Steps p.tables e below (T100.setTop (mkF m 58 #[iv p0, iv p1, iv p2, rv b1, rv b7, rv b13, .val .null, rv b7, .unset] [.null])) t → Steps p.tables e below (s₁.setTop f0) t := fun t k => R99 t (st100 t k)
      have R102 : ∀ t, Steps p.tables e below (T100.setTop (mkF m 63 #[iv p0, iv p1, iv p2, rv b1, rv b7, rv b13, .val .null, rv b7, .unset] [(.ref b13)])) t → Steps p.tables e below (s₁.setTop f0) t := fun t k => R101 t (by
        show Steps p.tables e below (T100.setTop (mkF m 58 #[iv p0, iv p1, iv p2, rv b1, rv b7, rv b13, .val .null, rv b7, .unset] [.null])) _
        refine XS.ifnonnullNo X100.here hx rfl (hb hby at_58) rfl ?_
        show Steps p.tables e below (T100.setTop (mkF m 61 #[iv p0, iv p1, iv p2, rv b1, rv b7, rv b13, .val .null, rv b7, .unset] [])) _
        refine XS.aload X100.here hx rfl (hb hby at_61) rfl rfl ?_
        exact k)
      obtain ⟨T103, X103, e103, st103⟩ := getF X100 hx hZ hown (host := "") (Or.inl (hw _ (List.mem_of_getElem? (i := 37) rfl))) Via.refl e100 p16_3 (g := (mkF m 63 #[iv p0, iv p1, iv p2, rv b1, rv b7, rv b13, .val .null, rv b7, .unset] [(.ref b13)])) rfl rfl (hb hby at_63)
      have R104 : ∀ t, Steps p.tables e below (T103.setTop (mkF m 66 #[iv p0, iv p1, iv p2, rv b1, rv b7, rv b13, .val .null, rv b7, .unset] [.null])) t → Steps p.tables e below (s₁.setTop f0) t := fun t k => R102 t (st103 t k)
      have R105 : ∀ t, Steps p.tables e below (T103.setTop (mkF m 82 #[iv p0, iv p1, iv p2, rv b1, rv b7, rv b13, .val .null, rv b7, iv (1 : Int32)] [.null, .null, .null, (.ref b13)])) t → Steps p.tables e below (s₁.setTop f0) t := fun t k => R104 t (by
        show Steps p.tables e below (T103.setTop (mkF m 66 #[iv p0, iv p1, iv p2, rv b1, rv b7, rv b13, .val .null, rv b7, .unset] [.null])) _
        refine XS.ifnonnullNo X103.here hx rfl (hb hby at_66) rfl ?_
        show Steps p.tables e below (T103.setTop (mkF m 69 #[iv p0, iv p1, iv p2, rv b1, rv b7, rv b13, .val .null, rv b7, .unset] [])) _
        refine XS.iconst X103.here hx rfl (hb hby at_69) ?_
        show Steps p.tables e below (T103.setTop (mkF m 70 #[iv p0, iv p1, iv p2, rv b1, rv b7, rv b13, .val .null, rv b7, .unset] [(.int (1 : Int32))])) _
        refine XS.goto X103.here hx rfl (pc0 := 70) (pc' := 74) rfl (hb hby at_70) (by decide) (by decide) ?_
        show Steps p.tables e below (T103.setTop (mkF m 74 #[iv p0, iv p1, iv p2, rv b1, rv b7, rv b13, .val .null, rv b7, .unset] [(.int (1 : Int32))])) _
        refine XS.istore X103.here hx rfl (hb hby at_74) rfl (l' := #[iv p0, iv p1, iv p2, rv b1, rv b7, rv b13, .val .null, rv b7, iv (1 : Int32)]) rfl ?_
        show Steps p.tables e below (T103.setTop (mkF m 76 #[iv p0, iv p1, iv p2, rv b1, rv b7, rv b13, .val .null, rv b7, iv (1 : Int32)] [])) _
        refine XS.aload X103.here hx rfl (hb hby at_76) rfl rfl ?_
        show Steps p.tables e below (T103.setTop (mkF m 78 #[iv p0, iv p1, iv p2, rv b1, rv b7, rv b13, .val .null, rv b7, iv (1 : Int32)] [(.ref b13)])) _
        refine XS.aload X103.here hx rfl (hb hby at_78) rfl rfl ?_
        show Steps p.tables e below (T103.setTop (mkF m 80 #[iv p0, iv p1, iv p2, rv b1, rv b7, rv b13, .val .null, rv b7, iv (1 : Int32)] [.null, (.ref b13)])) _
        refine XS.aconstNull X103.here hx rfl (hb hby at_80) ?_
        show Steps p.tables e below (T103.setTop (mkF m 81 #[iv p0, iv p1, iv p2, rv b1, rv b7, rv b13, .val .null, rv b7, iv (1 : Int32)] [.null, .null, (.ref b13)])) _
        refine XS.aconstNull X103.here hx rfl (hb hby at_81) ?_
        exact k)
      obtain ⟨cq106, kq106, q106a, q106b, q106c⟩ := isOf hZ e103 f16_E_b13
      obtain ⟨_, _, ⟨T106, L106, k106, n106⟩, -, X106, ⟨Lc106, hQ106, l106, y106, z106⟩, st106⟩ := X103.virtualBack hx (y := (⟨sN0, "keep", sN1⟩ : MethodName)) (z := (⟨sN0, "keep", sN1⟩ : MethodName)) hown (mvT hZ (hw _ (List.mem_of_getElem? (i := 39) rfl))) (mvT hZ (hw _ (List.mem_of_getElem? (i := 40) rfl))) (notFace_of_selects (args := #[]) (mvT hZ (hw _ (List.mem_of_getElem? (i := 42) rfl)))) (mvT hZ (hw _ (List.mem_of_getElem? (i := 42) rfl))) (mvT hZ (hw _ (List.mem_of_getElem? (i := 41) rfl))) (by decide) (backOf (W := 0) (rmKeepNN l Z a0 hw [] b13 T16.heap n0 z16 f16_E_b13 p16_1 p16_2 p16_3 g_b13) hZ (hw _ (List.mem_of_getElem? (i := 43) rfl)) (hw _ (List.mem_of_getElem? (i := 22) rfl)) (by decide) (by decide)) q106a q106c (g := (mkF m 82 #[iv p0, iv p1, iv p2, rv b1, rv b7, rv b13, .val .null, rv b7, iv (1 : Int32)] [.null, .null, .null, (.ref b13)])) rfl (by rw [hml]; rfl) (Steps.refl _) (argsL := [.null, .null, .null]) (rest := []) (lenOf pd_6 rfl) rfl (by show 2 * 0 + _ ≤ _; exact Nat.le_of_eq rfl) (hb hby at_82) (fun _ _ => ⟨rfl, e103, (by decide : 9 + 0 ≤ _), (by decide : 114 + 0 ≤ _)⟩)
      dsimp only [Pt.U, Pt.locs, Pt.cells, Pt.slots] at X106 l106 y106 z106 st106 hQ106
      subst l106 y106 z106
      obtain ⟨rfl, N106q, p106_0, p106_1, p106_2, p106_3⟩ := hQ106
      have N106 := Fr.app N23 N106q
      have f106_E_b1 : Exa Z T106.heap b1 sN2 := f16_E_b1.keep p106_0
      have f106_E_b7 : Exa Z T106.heap b7 sN2 := f16_E_b7.keep p106_0
      have f106_E_b13 : Exa Z T106.heap b13 sN0 := f16_E_b13.keep p106_0
      have z106 : n0 ≤ T106.heap.size := Nat.le_trans z16 p106_0.1
      have K106 : Keep h0 T106.heap [] := K16.trans p106_0 (allS (Or.inr sz_b13) all0)
      have R107 : ∀ t, Steps p.tables e below (T106.setTop (mkF m 85 #[iv p0, iv p1, iv p2, rv b1, rv b7, rv b13, .val .null, rv b7, iv (1 : Int32)] [])) t → Steps p.tables e below (s₁.setTop f0) t := fun t k => R105 t (st106.trans k)
      have R108 : ∀ t, Steps p.tables e below (T106.setTop (mkF m 92 #[iv p0, iv p1, iv p2, rv b1, rv b7, rv b13, .val .null, rv b7, iv (1 : Int32)] [(.ref b13)])) t → Steps p.tables e below (s₁.setTop f0) t := fun t k => R107 t (by
        show Steps p.tables e below (T106.setTop (mkF m 85 #[iv p0, iv p1, iv p2, rv b1, rv b7, rv b13, .val .null, rv b7, iv (1 : Int32)] [])) _
        refine XS.iload X106.here hx rfl (hb hby at_85) rfl  ?_
        show Steps p.tables e below (T106.setTop (mkF m 87 #[iv p0, iv p1, iv p2, rv b1, rv b7, rv b13, .val .null, rv b7, iv (1 : Int32)] [(.int (1 : Int32))])) _
        refine XS.ifNo X106.here hx rfl (hb hby at_87) rfl ((if0 _ _).trans (feq (by decide : ¬ ((1 : Int32) = (0 : Int32)))).1) ?_
        show Steps p.tables e below (T106.setTop (mkF m 90 #[iv p0, iv p1, iv p2, rv b1, rv b7, rv b13, .val .null, rv b7, iv (1 : Int32)] [])) _
        refine XS.aload X106.here hx rfl (hb hby at_90) rfl rfl ?_
        exact k)
      obtain ⟨T109, X109, e109, st109⟩ := getF X106 hx hZ hown (host := "") (Or.inl (hw _ (List.mem_of_getElem? (i := 33) rfl))) Via.refl rfl p106_1 (g := (mkF m 92 #[iv p0, iv p1, iv p2, rv b1, rv b7, rv b13, .val .null, rv b7, iv (1 : Int32)] [(.ref b13)])) rfl rfl (hb hby at_92)
      have R110 : ∀ t, Steps p.tables e below (T109.setTop (mkF m 95 #[iv p0, iv p1, iv p2, rv b1, rv b7, rv b13, .val .null, rv b7, iv (1 : Int32)] [.null])) t → Steps p.tables e below (s₁.setTop f0) t := fun t k => R108 t (st109 t k)
      have R111 : ∀ t, Steps p.tables e below (T109.setTop (mkF m 102 #[iv p0, iv p1, iv p2, rv b1, rv b7, rv b13, .val .null, rv b7, iv (1 : Int32)] [(.ref b13)])) t → Steps p.tables e below (s₁.setTop f0) t := fun t k => R110 t (by
        show Steps p.tables e below (T109.setTop (mkF m 95 #[iv p0, iv p1, iv p2, rv b1, rv b7, rv b13, .val .null, rv b7, iv (1 : Int32)] [.null])) _
        refine XS.aload X109.here hx rfl (hb hby at_95) rfl rfl ?_
        show Steps p.tables e below (T109.setTop (mkF m 97 #[iv p0, iv p1, iv p2, rv b1, rv b7, rv b13, .val .null, rv b7, iv (1 : Int32)] [.null, .null])) _
        refine Jvm.RoadKit.acmp (g := (mkF m 97 #[iv p0, iv p1, iv p2, rv b1, rv b7, rv b13, .val .null, rv b7, iv (1 : Int32)] [.null, .null])) X109 hx rfl rfl rfl (pc0 := 97) (pc' := 100) (same := true) rfl (hb hby at_97) rfl (decide_eq_true rfl) (by decide) (by decide) ?_
        show Steps p.tables e below (T109.setTop (mkF m 100 #[iv p0, iv p1, iv p2, rv b1, rv b7, rv b13, .val .null, rv b7, iv (1 : Int32)] [])) _
        refine XS.aload X109.here hx rfl (hb hby at_100) rfl rfl ?_
        exact k)
      obtain ⟨T112, X112, e112, st112⟩ := getF X109 hx hZ hown (host := "") (Or.inl (hw _ (List.mem_of_getElem? (i := 35) rfl))) Via.refl e109 p106_2 (g := (mkF m 102 #[iv p0, iv p1, iv p2, rv b1, rv b7, rv b13, .val .null, rv b7, iv (1 : Int32)] [(.ref b13)])) rfl rfl (hb hby at_102)
      have R113 : ∀ t, Steps p.tables e below (T112.setTop (mkF m 105 #[iv p0, iv p1, iv p2, rv b1, rv b7, rv b13, .val .null, rv b7, iv (1 : Int32)] [.null])) t → Steps p.tables e below (s₁.setTop f0) t := fun t k => R111 t (st112 t k)
      have R114 : ∀ t, Steps p.tables e below (T112.setTop (mkF m 110 #[iv p0, iv p1, iv p2, rv b1, rv b7, rv b13, .val .null, rv b7, iv (1 : Int32)] [(.ref b13)])) t → Steps p.tables e below (s₁.setTop f0) t := fun t k => R113 t (by
        show Steps p.tables e below (T112.setTop (mkF m 105 #[iv p0, iv p1, iv p2, rv b1, rv b7, rv b13, .val .null, rv b7, iv (1 : Int32)] [.null])) _
        refine XS.ifnonnullNo X112.here hx rfl (hb hby at_105) rfl ?_
        show Steps p.tables e below (T112.setTop (mkF m 108 #[iv p0, iv p1, iv p2, rv b1, rv b7, rv b13, .val .null, rv b7, iv (1 : Int32)] [])) _
        refine XS.aload X112.here hx rfl (hb hby at_108) rfl rfl ?_
        exact k)
      obtain ⟨T115, X115, e115, st115⟩ := getF X112 hx hZ hown (host := "") (Or.inl (hw _ (List.mem_of_getElem? (i := 37) rfl))) Via.refl e112 p106_3 (g := (mkF m 110 #[iv p0, iv p1, iv p2, rv b1, rv b7, rv b13, .val .null, rv b7, iv (1 : Int32)] [(.ref b13)])) rfl rfl (hb hby at_110)
      have R116 : ∀ t, Steps p.tables e below (T115.setTop (mkF m 113 #[iv p0, iv p1, iv p2, rv b1, rv b7, rv b13, .val .null, rv b7, iv (1 : Int32)] [.null])) t → Steps p.tables e below (s₁.setTop f0) t := fun t k => R114 t (st115 t k)
      have R117 : ∀ t, Steps p.tables e below (T115.setTop (mkF m 129 #[iv p0, iv p1, iv p2, rv b1, rv b7, rv b13, .val .null, rv b7, iv (1 : Int32)] [.null, .null, (.ref b7), (.ref b13)])) t → Steps p.tables e below (s₁.setTop f0) t := fun t k => R116 t (by
        show Steps p.tables e below (T115.setTop (mkF m 113 #[iv p0, iv p1, iv p2, rv b1, rv b7, rv b13, .val .null, rv b7, iv (1 : Int32)] [.null])) _
        refine XS.ifnonnullNo X115.here hx rfl (hb hby at_113) rfl ?_
        show Steps p.tables e below (T115.setTop (mkF m 116 #[iv p0, iv p1, iv p2, rv b1, rv b7, rv b13, .val .null, rv b7, iv (1 : Int32)] [])) _
        refine XS.iconst X115.here hx rfl (hb hby at_116) ?_
        show Steps p.tables e below (T115.setTop (mkF m 117 #[iv p0, iv p1, iv p2, rv b1, rv b7, rv b13, .val .null, rv b7, iv (1 : Int32)] [(.int (1 : Int32))])) _
        refine XS.goto X115.here hx rfl (pc0 := 117) (pc' := 121) rfl (hb hby at_117) (by decide) (by decide) ?_
        show Steps p.tables e below (T115.setTop (mkF m 121 #[iv p0, iv p1, iv p2, rv b1, rv b7, rv b13, .val .null, rv b7, iv (1 : Int32)] [(.int (1 : Int32))])) _
        refine XS.istore X115.here hx rfl (hb hby at_121) rfl (l' := #[iv p0, iv p1, iv p2, rv b1, rv b7, rv b13, .val .null, rv b7, iv (1 : Int32)]) rfl ?_
        show Steps p.tables e below (T115.setTop (mkF m 123 #[iv p0, iv p1, iv p2, rv b1, rv b7, rv b13, .val .null, rv b7, iv (1 : Int32)] [])) _
        refine XS.aload X115.here hx rfl (hb hby at_123) rfl rfl ?_
        show Steps p.tables e below (T115.setTop (mkF m 125 #[iv p0, iv p1, iv p2, rv b1, rv b7, rv b13, .val .null, rv b7, iv (1 : Int32)] [(.ref b13)])) _
        refine XS.aload X115.here hx rfl (hb hby at_125) rfl rfl ?_
        show Steps p.tables e below (T115.setTop (mkF m 127 #[iv p0, iv p1, iv p2, rv b1, rv b7, rv b13, .val .null, rv b7, iv (1 : Int32)] [(.ref b7), (.ref b13)])) _
        refine XS.aconstNull X115.here hx rfl (hb hby at_127) ?_
        show Steps p.tables e below (T115.setTop (mkF m 128 #[iv p0, iv p1, iv p2, rv b1, rv b7, rv b13, .val .null, rv b7, iv (1 : Int32)] [.null, (.ref b7), (.ref b13)])) _
        refine XS.aconstNull X115.here hx rfl (hb hby at_128) ?_
        exact k)
      obtain ⟨cq118, kq118, q118a, q118b, q118c⟩ := isOf hZ e115 f106_E_b13
      obtain ⟨_, _, ⟨T118, L118, k118, n118⟩, -, X118, ⟨Lc118, hQ118, l118, y118, z118⟩, st118⟩ := X115.virtualBack hx (y := (⟨sN0, "keep", sN1⟩ : MethodName)) (z := (⟨sN0, "keep", sN1⟩ : MethodName)) hown (mvT hZ (hw _ (List.mem_of_getElem? (i := 39) rfl))) (mvT hZ (hw _ (List.mem_of_getElem? (i := 40) rfl))) (notFace_of_selects (args := #[]) (mvT hZ (hw _ (List.mem_of_getElem? (i := 42) rfl)))) (mvT hZ (hw _ (List.mem_of_getElem? (i := 42) rfl))) (mvT hZ (hw _ (List.mem_of_getElem? (i := 41) rfl))) (by decide) (backOf (W := 0) (rmKeepNR l Z a0 hw [] b13 b7 T106.heap n0 z106 f106_E_b13 p106_1 p106_2 p106_3 g_b13) hZ (hw _ (List.mem_of_getElem? (i := 43) rfl)) (hw _ (List.mem_of_getElem? (i := 22) rfl)) (by decide) (by decide)) q118a q118c (g := (mkF m 129 #[iv p0, iv p1, iv p2, rv b1, rv b7, rv b13, .val .null, rv b7, iv (1 : Int32)] [.null, .null, (.ref b7), (.ref b13)])) rfl (by rw [hml]; rfl) (Steps.refl _) (argsL := [(.ref b7), .null, .null]) (rest := []) (lenOf pd_6 rfl) rfl (by show 2 * 0 + _ ≤ _; exact Nat.le_of_eq rfl) (hb hby at_129) (fun _ _ => ⟨rfl, e115, (by decide : 9 + 0 ≤ _), (by decide : 114 + 0 ≤ _)⟩)
      dsimp only [Pt.U, Pt.locs, Pt.cells, Pt.slots] at X118 l118 y118 z118 st118 hQ118
      subst l118 y118 z118
      obtain ⟨rfl, N118q, p118_0, p118_1, p118_2, p118_3⟩ := hQ118
      have N118 := Fr.app N106 N118q
      have f118_E_b1 : Exa Z T118.heap b1 sN2 := f106_E_b1.keep p118_0
      have f118_E_b7 : Exa Z T118.heap b7 sN2 := f106_E_b7.keep p118_0
      have f118_E_b13 : Exa Z T118.heap b13 sN0 := f106_E_b13.keep p118_0
      have z118 : n0 ≤ T118.heap.size := Nat.le_trans z106 p118_0.1
      have K118 : Keep h0 T118.heap [] := K106.trans p118_0 (allS (Or.inr sz_b13) all0)
      have R119 : ∀ t, Steps p.tables e below (T118.setTop (mkF m 132 #[iv p0, iv p1, iv p2, rv b1, rv b7, rv b13, .val .null, rv b7, iv (1 : Int32)] [])) t → Steps p.tables e below (s₁.setTop f0) t := fun t k => R117 t (st118.trans k)
      have R120 : ∀ t, Steps p.tables e below (T118.setTop (mkF m 139 #[iv p0, iv p1, iv p2, rv b1, rv b7, rv b13, .val .null, rv b7, iv (1 : Int32)] [(.ref b13)])) t → Steps p.tables e below (s₁.setTop f0) t := fun t k => R119 t (by
        show Steps p.tables e below (T118.setTop (mkF m 132 #[iv p0, iv p1, iv p2, rv b1, rv b7, rv b13, .val .null, rv b7, iv (1 : Int32)] [])) _
        refine XS.iload X118.here hx rfl (hb hby at_132) rfl  ?_
        show Steps p.tables e below (T118.setTop (mkF m 134 #[iv p0, iv p1, iv p2, rv b1, rv b7, rv b13, .val .null, rv b7, iv (1 : Int32)] [(.int (1 : Int32))])) _
        refine XS.ifNo X118.here hx rfl (hb hby at_134) rfl ((if0 _ _).trans (feq (by decide : ¬ ((1 : Int32) = (0 : Int32)))).1) ?_
        show Steps p.tables e below (T118.setTop (mkF m 137 #[iv p0, iv p1, iv p2, rv b1, rv b7, rv b13, .val .null, rv b7, iv (1 : Int32)] [])) _
        refine XS.aload X118.here hx rfl (hb hby at_137) rfl rfl ?_
        exact k)
      obtain ⟨T121, X121, e121, st121⟩ := getF X118 hx hZ hown (host := "") (Or.inl (hw _ (List.mem_of_getElem? (i := 33) rfl))) Via.refl rfl p118_1 (g := (mkF m 139 #[iv p0, iv p1, iv p2, rv b1, rv b7, rv b13, .val .null, rv b7, iv (1 : Int32)] [(.ref b13)])) rfl rfl (hb hby at_139)
      have R122 : ∀ t, Steps p.tables e below (T121.setTop (mkF m 142 #[iv p0, iv p1, iv p2, rv b1, rv b7, rv b13, .val .null, rv b7, iv (1 : Int32)] [(.ref b7)])) t → Steps p.tables e below (s₁.setTop f0) t := fun t k => R120 t (st121 t k)
      have R123 : ∀ t, Steps p.tables e below (T121.setTop (mkF m 149 #[iv p0, iv p1, iv p2, rv b1, rv b7, rv b13, .val .null, rv b7, iv (1 : Int32)] [(.ref b13)])) t → Steps p.tables e below (s₁.setTop f0) t := fun t k => R122 t (by
        show Steps p.tables e below (T121.setTop (mkF m 142 #[iv p0, iv p1, iv p2, rv b1, rv b7, rv b13, .val .null, rv b7, iv (1 : Int32)] [(.ref b7)])) _
        refine XS.aload X121.here hx rfl (hb hby at_142) rfl rfl ?_
        show Steps p.tables e below (T121.setTop (mkF m 144 #[iv p0, iv p1, iv p2, rv b1, rv b7, rv b13, .val .null, rv b7, iv (1 : Int32)] [(.ref b7), (.ref b7)])) _
        refine Jvm.RoadKit.acmp (g := (mkF m 144 #[iv p0, iv p1, iv p2, rv b1, rv b7, rv b13, .val .null, rv b7, iv (1 : Int32)] [(.ref b7), (.ref b7)])) X121 hx rfl rfl rfl (pc0 := 144) (pc' := 147) (same := true) rfl (hb hby at_144) rfl (decide_eq_true rfl) (by decide) (by decide) ?_
        show Steps p.tables e below (T121.setTop (mkF m 147 #[iv p0, iv p1, iv p2, rv b1, rv b7, rv b13, .val .null, rv b7, iv (1 : Int32)] [])) _
        refine XS.aload X121.here hx rfl (hb hby at_147) rfl rfl ?_
        exact k)
      obtain ⟨T124, X124, e124, st124⟩ := getF X121 hx hZ hown (host := "") (Or.inl (hw _ (List.mem_of_getElem? (i := 35) rfl))) Via.refl e121 p118_2 (g := (mkF m 149 #[iv p0, iv p1, iv p2, rv b1, rv b7, rv b13, .val .null, rv b7, iv (1 : Int32)] [(.ref b13)])) rfl rfl (hb hby at_149)
      have R125 : ∀ t, Steps p.tables e below (T124.setTop (mkF m 152 #[iv p0, iv p1, iv p2, rv b1, rv b7, rv b13, .val .null, rv b7, iv (1 : Int32)] [.null])) t → Steps p.tables e below (s₁.setTop f0) t := fun t k => R123 t (st124 t k)
      have R126 : ∀ t, Steps p.tables e below (T124.setTop (mkF m 157 #[iv p0, iv p1, iv p2, rv b1, rv b7, rv b13, .val .null, rv b7, iv (1 : Int32)] [(.ref b13)])) t → Steps p.tables e below (s₁.setTop f0) t := fun t k => R125 t (by
        show Steps p.tables e below (T124.setTop (mkF m 152 #[iv p0, iv p1, iv p2, rv b1, rv b7, rv b13, .val .null, rv b7, iv (1 : Int32)] [.null])) _
        refine XS.ifnonnullNo X124.here hx rfl (hb hby at_152) rfl ?_
        show Steps p.tables e below (T124.setTop (mkF m 155 #[iv p0, iv p1, iv p2, rv b1, rv b7, rv b13, .val .null, rv b7, iv (1 : Int32)] [])) _
        refine XS.aload X124.here hx rfl (hb hby at_155) rfl rfl ?_
        exact k)
      obtain ⟨T127, X127, e127, st127⟩ := getF X124 hx hZ hown (host := "") (Or.inl (hw _ (List.mem_of_getElem? (i := 37) rfl))) Via.refl e124 p118_3 (g := (mkF m 157 #[iv p0, iv p1, iv p2, rv b1, rv b7, rv b13, .val .null, rv b7, iv (1 : Int32)] [(.ref b13)])) rfl rfl (hb hby at_157)
      have R128 : ∀ t, Steps p.tables e below (T127.setTop (mkF m 160 #[iv p0, iv p1, iv p2, rv b1, rv b7, rv b13, .val .null, rv b7, iv (1 : Int32)] [.null])) t → Steps p.tables e below (s₁.setTop f0) t := fun t k => R126 t (st127 t k)
      have R129 : ∀ t, Steps p.tables e below (T127.setTop (mkF m 172 #[iv p0, iv p1, iv p2, rv b1, rv b7, rv b13, .val .null, rv b7, iv (1 : Int32)] [(.int (1 : Int32))])) t → Steps p.tables e below (s₁.setTop f0) t := fun t k => R128 t (by
        show Steps p.tables e below (T127.setTop (mkF m 160 #[iv p0, iv p1, iv p2, rv b1, rv b7, rv b13, .val .null, rv b7, iv (1 : Int32)] [.null])) _
        refine XS.ifnonnullNo X127.here hx rfl (hb hby at_160) rfl ?_
        show Steps p.tables e below (T127.setTop (mkF m 163 #[iv p0, iv p1, iv p2, rv b1, rv b7, rv b13, .val .null, rv b7, iv (1 : Int32)] [])) _
        refine XS.iconst X127.here hx rfl (hb hby at_163) ?_
        show Steps p.tables e below (T127.setTop (mkF m 164 #[iv p0, iv p1, iv p2, rv b1, rv b7, rv b13, .val .null, rv b7, iv (1 : Int32)] [(.int (1 : Int32))])) _
        refine XS.goto X127.here hx rfl (pc0 := 164) (pc' := 168) rfl (hb hby at_164) (by decide) (by decide) ?_
        show Steps p.tables e below (T127.setTop (mkF m 168 #[iv p0, iv p1, iv p2, rv b1, rv b7, rv b13, .val .null, rv b7, iv (1 : Int32)] [(.int (1 : Int32))])) _
        refine XS.istore X127.here hx rfl (hb hby at_168) rfl (l' := #[iv p0, iv p1, iv p2, rv b1, rv b7, rv b13, .val .null, rv b7, iv (1 : Int32)]) rfl ?_
        show Steps p.tables e below (T127.setTop (mkF m 170 #[iv p0, iv p1, iv p2, rv b1, rv b7, rv b13, .val .null, rv b7, iv (1 : Int32)] [])) _
        refine XS.iload X127.here hx rfl (hb hby at_170) rfl  ?_
        exact k)
      obtain ⟨fs, hr, hrun, hended, hW, hsame⟩ := X127.leave (v := some (.int (1 : Int32))) (fun h => by rw [Bd.returns] at h; cases h)
      refine ⟨_, _, pre0 _ (R129 _ ?_), hrun, hended, _, _, rfl, ?_, ⟨_, rfl⟩, hW, hsame.mono (by decide) (by decide)⟩
      · show Steps p.tables e below (T127.setTop (mkF m 172 #[iv p0, iv p1, iv p2, rv b1, rv b7, rv b13, .val .null, rv b7, iv (1 : Int32)] [(.int (1 : Int32))])) _
        exact retN X127 hx (t := .boolean) Bd.returns (by simp) (hb hby at_172) hr
      · show Q_rmLaw Z p0 p1 p2 h0 n0 _ T127.heap _
        rw [e127]
        exact ⟨rfl, N118⟩
  · skip
    have R130 : ∀ t, Steps p.tables e below (T19.setTop (mkF m 34 #[iv p0, iv p1, iv p2, rv b1, rv b7, rv b13, .unset, .unset, .unset] [(.ref b1)])) t → Steps p.tables e below (s₁.setTop f0) t := by have q := R20; rw [(hp : (own_pick p1 b1 b7) = (.ref b1))] at q; exact q
    have R131 : ∀ t, Steps p.tables e below (T19.setTop (mkF m 40 #[iv p0, iv p1, iv p2, rv b1, rv b7, rv b13, rv b1, .unset, .unset] [(.ref b7), (.ref b1), (.int p2)])) t → Steps p.tables e below (s₁.setTop f0) t := fun t k => R130 t (by
      show Steps p.tables e below (T19.setTop (mkF m 34 #[iv p0, iv p1, iv p2, rv b1, rv b7, rv b13, .unset, .unset, .unset] [(.ref b1)])) _
      refine XS.astore X19.here hx rfl (hb hby at_34) rfl rfl (l' := #[iv p0, iv p1, iv p2, rv b1, rv b7, rv b13, rv b1, .unset, .unset]) rfl ?_
      show Steps p.tables e below (T19.setTop (mkF m 36 #[iv p0, iv p1, iv p2, rv b1, rv b7, rv b13, rv b1, .unset, .unset] [])) _
      refine XS.iloadN X19.here hx rfl (hb hby at_36) rfl  ?_
      show Steps p.tables e below (T19.setTop (mkF m 37 #[iv p0, iv p1, iv p2, rv b1, rv b7, rv b13, rv b1, .unset, .unset] [(.int p2)])) _
      refine XS.aloadN X19.here hx rfl (hb hby at_37) rfl rfl ?_
      show Steps p.tables e below (T19.setTop (mkF m 38 #[iv p0, iv p1, iv p2, rv b1, rv b7, rv b13, rv b1, .unset, .unset] [(.ref b1), (.int p2)])) _
      refine XS.aload X19.here hx rfl (hb hby at_38) rfl rfl ?_
      exact k)
    obtain ⟨_, _, ⟨T132, L132, k132, n132⟩, -, X132, ⟨Lc132, hQ132, l132, y132, z132⟩, st132⟩ := Jvm.LawKit.callS X19 hx (y := (⟨"com/example/biaoji/biaoji/SpareKeepPinLaw", "pick", "(ILcom/example/biaoji/biaoji/NameTable;Lcom/example/biaoji/biaoji/NameTable;)Lcom/example/biaoji/biaoji/NameTable;"⟩ : MethodName)) hown (mvT hZ (hw _ (List.mem_of_getElem? (i := 29) rfl))) (mvT hZ (hw _ (List.mem_of_getElem? (i := 30) rfl))) (mvT hZ (hw _ (List.mem_of_getElem? (i := 31) rfl))) (mvT hZ (hw _ (List.mem_of_getElem? (i := 32) rfl))) (by decide) (backOf (W := 0) (rmPick l Z a0 hw [] p2 b1 b7 T16.heap n0 z16) hZ (hw _ (List.mem_of_getElem? (i := 32) rfl)) (hw _ (List.mem_of_getElem? (i := 31) rfl)) (by decide) (by decide)) (g := (mkF m 40 #[iv p0, iv p1, iv p2, rv b1, rv b7, rv b13, rv b1, .unset, .unset] [(.ref b7), (.ref b1), (.int p2)])) rfl (by rw [hml]; rfl) (argsL := [(.int p2), (.ref b1), (.ref b7)]) (rest := []) (lenOf pd_5 rfl) rfl (by show 2 * 0 + _ ≤ _; exact Nat.le_of_eq rfl) (hb hby at_40) (fun _ _ => ⟨rfl, p19_0, (by decide : 9 + 0 ≤ _), (by decide : 114 + 0 ≤ _)⟩)
    dsimp only [Pt.U, Pt.locs, Pt.cells, Pt.slots] at X132 l132 y132 z132 st132 hQ132
    subst l132 y132 z132
    obtain ⟨rfl, N132q, p132_0⟩ := hQ132
    have N132 := Fr.app N19 N132q
    have R133 : ∀ t, Steps p.tables e below (T132.setTop (mkF m 43 #[iv p0, iv p1, iv p2, rv b1, rv b7, rv b13, rv b1, .unset, .unset] [(own_pick p2 b1 b7)])) t → Steps p.tables e below (s₁.setTop f0) t := fun t k => R131 t (st132 t k)
    rcases own_pick3 p2 b1 b7 with hq | hq | hq
    · skip
      have R134 : ∀ t, Steps p.tables e below (T132.setTop (mkF m 43 #[iv p0, iv p1, iv p2, rv b1, rv b7, rv b13, rv b1, .unset, .unset] [.null])) t → Steps p.tables e below (s₁.setTop f0) t := by have q := R133; rw [(hq : (own_pick p2 b1 b7) = .null)] at q; exact q
      have R135 : ∀ t, Steps p.tables e below (T132.setTop (mkF m 47 #[iv p0, iv p1, iv p2, rv b1, rv b7, rv b13, rv b1, .val .null, .unset] [(.ref b13)])) t → Steps p.tables e below (s₁.setTop f0) t := fun t k => R134 t (by
        show Steps p.tables e below (T132.setTop (mkF m 43 #[iv p0, iv p1, iv p2, rv b1, rv b7, rv b13, rv b1, .unset, .unset] [.null])) _
        refine XS.astore X132.here hx rfl (hb hby at_43) rfl rfl (l' := #[iv p0, iv p1, iv p2, rv b1, rv b7, rv b13, rv b1, .val .null, .unset]) rfl ?_
        show Steps p.tables e below (T132.setTop (mkF m 45 #[iv p0, iv p1, iv p2, rv b1, rv b7, rv b13, rv b1, .val .null, .unset] [])) _
        refine XS.aload X132.here hx rfl (hb hby at_45) rfl rfl ?_
        exact k)
      obtain ⟨T136, X136, e136, st136⟩ := getF X132 hx hZ hown (host := "") (Or.inl (hw _ (List.mem_of_getElem? (i := 33) rfl))) Via.refl p132_0 p16_1 (g := (mkF m 47 #[iv p0, iv p1, iv p2, rv b1, rv b7, rv b13, rv b1, .val .null, .unset] [(.ref b13)])) rfl rfl (hb hby at_47)
      have R137 : ∀ t, Steps p.tables e below (T136.setTop (mkF m 50 #[iv p0, iv p1, iv p2, rv b1, rv b7, rv b13, rv b1, .val .null, .unset] [.null])) t → Steps p.tables e below (s₁.setTop f0) t := fun t k => R135 t (st136 t k)
      have R138 : ∀ t, Steps p.tables e below (T136.setTop (mkF m 55 #[iv p0, iv p1, iv p2, rv b1, rv b7, rv b13, rv b1, .val .null, .unset] [(.ref b13)])) t → Steps p.tables e below (s₁.setTop f0) t := fun t k => R137 t (by
        show Steps p.tables e below (T136.setTop (mkF m 50 #[iv p0, iv p1, iv p2, rv b1, rv b7, rv b13, rv b1, .val .null, .unset] [.null])) _
        refine XS.ifnonnullNo X136.here hx rfl (hb hby at_50) rfl ?_
        show Steps p.tables e below (T136.setTop (mkF m 53 #[iv p0, iv p1, iv p2, rv b1, rv b7, rv b13, rv b1, .val .null, .unset] [])) _
        refine XS.aload X136.here hx rfl (hb hby at_53) rfl rfl ?_
        exact k)
      obtain ⟨T139, X139, e139, st139⟩ := getF X136 hx hZ hown (host := "") (Or.inl (hw _ (List.mem_of_getElem? (i := 35) rfl))) Via.refl e136 p16_2 (g := (mkF m 55 #[iv p0, iv p1, iv p2, rv b1, rv b7, rv b13, rv b1, .val .null, .unset] [(.ref b13)])) rfl rfl (hb hby at_55)
      have R140 : ∀ t, Steps p.tables e below (T139.setTop (mkF m 58 #[iv p0, iv p1, iv p2, rv b1, rv b7, rv b13, rv b1, .val .null, .unset] [.null])) t → Steps p.tables e below (s₁.setTop f0) t := fun t k => R138 t (st139 t k)
      have R141 : ∀ t, Steps p.tables e below (T139.setTop (mkF m 63 #[iv p0, iv p1, iv p2, rv b1, rv b7, rv b13, rv b1, .val .null, .unset] [(.ref b13)])) t → Steps p.tables e below (s₁.setTop f0) t := fun t k => R140 t (by
        show Steps p.tables e below (T139.setTop (mkF m 58 #[iv p0, iv p1, iv p2, rv b1, rv b7, rv b13, rv b1, .val .null, .unset] [.null])) _
        refine XS.ifnonnullNo X139.here hx rfl (hb hby at_58) rfl ?_
        show Steps p.tables e below (T139.setTop (mkF m 61 #[iv p0, iv p1, iv p2, rv b1, rv b7, rv b13, rv b1, .val .null, .unset] [])) _
        refine XS.aload X139.here hx rfl (hb hby at_61) rfl rfl ?_
        exact k)
      obtain ⟨T142, X142, e142, st142⟩ := getF X139 hx hZ hown (host := "") (Or.inl (hw _ (List.mem_of_getElem? (i := 37) rfl))) Via.refl e139 p16_3 (g := (mkF m 63 #[iv p0, iv p1, iv p2, rv b1, rv b7, rv b13, rv b1, .val .null, .unset] [(.ref b13)])) rfl rfl (hb hby at_63)
      have R143 : ∀ t, Steps p.tables e below (T142.setTop (mkF m 66 #[iv p0, iv p1, iv p2, rv b1, rv b7, rv b13, rv b1, .val .null, .unset] [.null])) t → Steps p.tables e below (s₁.setTop f0) t := fun t k => R141 t (st142 t k)
      have R144 : ∀ t, Steps p.tables e below (T142.setTop (mkF m 82 #[iv p0, iv p1, iv p2, rv b1, rv b7, rv b13, rv b1, .val .null, iv (1 : Int32)] [.null, .null, (.ref b1), (.ref b13)])) t → Steps p.tables e below (s₁.setTop f0) t := fun t k => R143 t (by
        show Steps p.tables e below (T142.setTop (mkF m 66 #[iv p0, iv p1, iv p2, rv b1, rv b7, rv b13, rv b1, .val .null, .unset] [.null])) _
        refine XS.ifnonnullNo X142.here hx rfl (hb hby at_66) rfl ?_
        show Steps p.tables e below (T142.setTop (mkF m 69 #[iv p0, iv p1, iv p2, rv b1, rv b7, rv b13, rv b1, .val .null, .unset] [])) _
        refine XS.iconst X142.here hx rfl (hb hby at_69) ?_
        show Steps p.tables e below (T142.setTop (mkF m 70 #[iv p0, iv p1, iv p2, rv b1, rv b7, rv b13, rv b1, .val .null, .unset] [(.int (1 : Int32))])) _
        refine XS.goto X142.here hx rfl (pc0 := 70) (pc' := 74) rfl (hb hby at_70) (by decide) (by decide) ?_
        show Steps p.tables e below (T142.setTop (mkF m 74 #[iv p0, iv p1, iv p2, rv b1, rv b7, rv b13, rv b1, .val .null, .unset] [(.int (1 : Int32))])) _
        refine XS.istore X142.here hx rfl (hb hby at_74) rfl (l' := #[iv p0, iv p1, iv p2, rv b1, rv b7, rv b13, rv b1, .val .null, iv (1 : Int32)]) rfl ?_
        show Steps p.tables e below (T142.setTop (mkF m 76 #[iv p0, iv p1, iv p2, rv b1, rv b7, rv b13, rv b1, .val .null, iv (1 : Int32)] [])) _
        refine XS.aload X142.here hx rfl (hb hby at_76) rfl rfl ?_
        show Steps p.tables e below (T142.setTop (mkF m 78 #[iv p0, iv p1, iv p2, rv b1, rv b7, rv b13, rv b1, .val .null, iv (1 : Int32)] [(.ref b13)])) _
        refine XS.aload X142.here hx rfl (hb hby at_78) rfl rfl ?_
        show Steps p.tables e below (T142.setTop (mkF m 80 #[iv p0, iv p1, iv p2, rv b1, rv b7, rv b13, rv b1, .val .null, iv (1 : Int32)] [(.ref b1), (.ref b13)])) _
        refine XS.aconstNull X142.here hx rfl (hb hby at_80) ?_
        show Steps p.tables e below (T142.setTop (mkF m 81 #[iv p0, iv p1, iv p2, rv b1, rv b7, rv b13, rv b1, .val .null, iv (1 : Int32)] [.null, (.ref b1), (.ref b13)])) _
        refine XS.aconstNull X142.here hx rfl (hb hby at_81) ?_
        exact k)
      obtain ⟨cq145, kq145, q145a, q145b, q145c⟩ := isOf hZ e142 f16_E_b13
      obtain ⟨_, _, ⟨T145, L145, k145, n145⟩, -, X145, ⟨Lc145, hQ145, l145, y145, z145⟩, st145⟩ := X142.virtualBack hx (y := (⟨sN0, "keep", sN1⟩ : MethodName)) (z := (⟨sN0, "keep", sN1⟩ : MethodName)) hown (mvT hZ (hw _ (List.mem_of_getElem? (i := 39) rfl))) (mvT hZ (hw _ (List.mem_of_getElem? (i := 40) rfl))) (notFace_of_selects (args := #[]) (mvT hZ (hw _ (List.mem_of_getElem? (i := 42) rfl)))) (mvT hZ (hw _ (List.mem_of_getElem? (i := 42) rfl))) (mvT hZ (hw _ (List.mem_of_getElem? (i := 41) rfl))) (by decide) (backOf (W := 0) (rmKeepNR l Z a0 hw [] b13 b1 T16.heap n0 z16 f16_E_b13 p16_1 p16_2 p16_3 g_b13) hZ (hw _ (List.mem_of_getElem? (i := 43) rfl)) (hw _ (List.mem_of_getElem? (i := 22) rfl)) (by decide) (by decide)) q145a q145c (g := (mkF m 82 #[iv p0, iv p1, iv p2, rv b1, rv b7, rv b13, rv b1, .val .null, iv (1 : Int32)] [.null, .null, (.ref b1), (.ref b13)])) rfl (by rw [hml]; rfl) (Steps.refl _) (argsL := [(.ref b1), .null, .null]) (rest := []) (lenOf pd_6 rfl) rfl (by show 2 * 0 + _ ≤ _; exact Nat.le_of_eq rfl) (hb hby at_82) (fun _ _ => ⟨rfl, e142, (by decide : 9 + 0 ≤ _), (by decide : 114 + 0 ≤ _)⟩)
      dsimp only [Pt.U, Pt.locs, Pt.cells, Pt.slots] at X145 l145 y145 z145 st145 hQ145
      subst l145 y145 z145
      obtain ⟨rfl, N145q, p145_0, p145_1, p145_2, p145_3⟩ := hQ145
      have N145 := Fr.app N132 N145q
      have f145_E_b1 : Exa Z T145.heap b1 sN2 := f16_E_b1.keep p145_0
      have f145_E_b7 : Exa Z T145.heap b7 sN2 := f16_E_b7.keep p145_0
      have f145_E_b13 : Exa Z T145.heap b13 sN0 := f16_E_b13.keep p145_0
      have z145 : n0 ≤ T145.heap.size := Nat.le_trans z16 p145_0.1
      have K145 : Keep h0 T145.heap [] := K16.trans p145_0 (allS (Or.inr sz_b13) all0)
      have R146 : ∀ t, Steps p.tables e below (T145.setTop (mkF m 85 #[iv p0, iv p1, iv p2, rv b1, rv b7, rv b13, rv b1, .val .null, iv (1 : Int32)] [])) t → Steps p.tables e below (s₁.setTop f0) t := fun t k => R144 t (st145.trans k)
      have R147 : ∀ t, Steps p.tables e below (T145.setTop (mkF m 92 #[iv p0, iv p1, iv p2, rv b1, rv b7, rv b13, rv b1, .val .null, iv (1 : Int32)] [(.ref b13)])) t → Steps p.tables e below (s₁.setTop f0) t := fun t k => R146 t (by
        show Steps p.tables e below (T145.setTop (mkF m 85 #[iv p0, iv p1, iv p2, rv b1, rv b7, rv b13, rv b1, .val .null, iv (1 : Int32)] [])) _
        refine XS.iload X145.here hx rfl (hb hby at_85) rfl  ?_
        show Steps p.tables e below (T145.setTop (mkF m 87 #[iv p0, iv p1, iv p2, rv b1, rv b7, rv b13, rv b1, .val .null, iv (1 : Int32)] [(.int (1 : Int32))])) _
        refine XS.ifNo X145.here hx rfl (hb hby at_87) rfl ((if0 _ _).trans (feq (by decide : ¬ ((1 : Int32) = (0 : Int32)))).1) ?_
        show Steps p.tables e below (T145.setTop (mkF m 90 #[iv p0, iv p1, iv p2, rv b1, rv b7, rv b13, rv b1, .val .null, iv (1 : Int32)] [])) _
        refine XS.aload X145.here hx rfl (hb hby at_90) rfl rfl ?_
        exact k)
      obtain ⟨T148, X148, e148, st148⟩ := getF X145 hx hZ hown (host := "") (Or.inl (hw _ (List.mem_of_getElem? (i := 33) rfl))) Via.refl rfl p145_1 (g := (mkF m 92 #[iv p0, iv p1, iv p2, rv b1, rv b7, rv b13, rv b1, .val .null, iv (1 : Int32)] [(.ref b13)])) rfl rfl (hb hby at_92)
      have R149 : ∀ t, Steps p.tables e below (T148.setTop (mkF m 95 #[iv p0, iv p1, iv p2, rv b1, rv b7, rv b13, rv b1, .val .null, iv (1 : Int32)] [(.ref b1)])) t → Steps p.tables e below (s₁.setTop f0) t := fun t k => R147 t (st148 t k)
      have R150 : ∀ t, Steps p.tables e below (T148.setTop (mkF m 102 #[iv p0, iv p1, iv p2, rv b1, rv b7, rv b13, rv b1, .val .null, iv (1 : Int32)] [(.ref b13)])) t → Steps p.tables e below (s₁.setTop f0) t := fun t k => R149 t (by
        show Steps p.tables e below (T148.setTop (mkF m 95 #[iv p0, iv p1, iv p2, rv b1, rv b7, rv b13, rv b1, .val .null, iv (1 : Int32)] [(.ref b1)])) _
        refine XS.aload X148.here hx rfl (hb hby at_95) rfl rfl ?_
        show Steps p.tables e below (T148.setTop (mkF m 97 #[iv p0, iv p1, iv p2, rv b1, rv b7, rv b13, rv b1, .val .null, iv (1 : Int32)] [(.ref b1), (.ref b1)])) _
        refine Jvm.RoadKit.acmp (g := (mkF m 97 #[iv p0, iv p1, iv p2, rv b1, rv b7, rv b13, rv b1, .val .null, iv (1 : Int32)] [(.ref b1), (.ref b1)])) X148 hx rfl rfl rfl (pc0 := 97) (pc' := 100) (same := true) rfl (hb hby at_97) rfl (decide_eq_true rfl) (by decide) (by decide) ?_
        show Steps p.tables e below (T148.setTop (mkF m 100 #[iv p0, iv p1, iv p2, rv b1, rv b7, rv b13, rv b1, .val .null, iv (1 : Int32)] [])) _
        refine XS.aload X148.here hx rfl (hb hby at_100) rfl rfl ?_
        exact k)
      obtain ⟨T151, X151, e151, st151⟩ := getF X148 hx hZ hown (host := "") (Or.inl (hw _ (List.mem_of_getElem? (i := 35) rfl))) Via.refl e148 p145_2 (g := (mkF m 102 #[iv p0, iv p1, iv p2, rv b1, rv b7, rv b13, rv b1, .val .null, iv (1 : Int32)] [(.ref b13)])) rfl rfl (hb hby at_102)
      have R152 : ∀ t, Steps p.tables e below (T151.setTop (mkF m 105 #[iv p0, iv p1, iv p2, rv b1, rv b7, rv b13, rv b1, .val .null, iv (1 : Int32)] [.null])) t → Steps p.tables e below (s₁.setTop f0) t := fun t k => R150 t (st151 t k)
      have R153 : ∀ t, Steps p.tables e below (T151.setTop (mkF m 110 #[iv p0, iv p1, iv p2, rv b1, rv b7, rv b13, rv b1, .val .null, iv (1 : Int32)] [(.ref b13)])) t → Steps p.tables e below (s₁.setTop f0) t := fun t k => R152 t (by
        show Steps p.tables e below (T151.setTop (mkF m 105 #[iv p0, iv p1, iv p2, rv b1, rv b7, rv b13, rv b1, .val .null, iv (1 : Int32)] [.null])) _
        refine XS.ifnonnullNo X151.here hx rfl (hb hby at_105) rfl ?_
        show Steps p.tables e below (T151.setTop (mkF m 108 #[iv p0, iv p1, iv p2, rv b1, rv b7, rv b13, rv b1, .val .null, iv (1 : Int32)] [])) _
        refine XS.aload X151.here hx rfl (hb hby at_108) rfl rfl ?_
        exact k)
      obtain ⟨T154, X154, e154, st154⟩ := getF X151 hx hZ hown (host := "") (Or.inl (hw _ (List.mem_of_getElem? (i := 37) rfl))) Via.refl e151 p145_3 (g := (mkF m 110 #[iv p0, iv p1, iv p2, rv b1, rv b7, rv b13, rv b1, .val .null, iv (1 : Int32)] [(.ref b13)])) rfl rfl (hb hby at_110)
      have R155 : ∀ t, Steps p.tables e below (T154.setTop (mkF m 113 #[iv p0, iv p1, iv p2, rv b1, rv b7, rv b13, rv b1, .val .null, iv (1 : Int32)] [.null])) t → Steps p.tables e below (s₁.setTop f0) t := fun t k => R153 t (st154 t k)
      have R156 : ∀ t, Steps p.tables e below (T154.setTop (mkF m 129 #[iv p0, iv p1, iv p2, rv b1, rv b7, rv b13, rv b1, .val .null, iv (1 : Int32)] [.null, .null, .null, (.ref b13)])) t → Steps p.tables e below (s₁.setTop f0) t := fun t k => R155 t (by
        show Steps p.tables e below (T154.setTop (mkF m 113 #[iv p0, iv p1, iv p2, rv b1, rv b7, rv b13, rv b1, .val .null, iv (1 : Int32)] [.null])) _
        refine XS.ifnonnullNo X154.here hx rfl (hb hby at_113) rfl ?_
        show Steps p.tables e below (T154.setTop (mkF m 116 #[iv p0, iv p1, iv p2, rv b1, rv b7, rv b13, rv b1, .val .null, iv (1 : Int32)] [])) _
        refine XS.iconst X154.here hx rfl (hb hby at_116) ?_
        show Steps p.tables e below (T154.setTop (mkF m 117 #[iv p0, iv p1, iv p2, rv b1, rv b7, rv b13, rv b1, .val .null, iv (1 : Int32)] [(.int (1 : Int32))])) _
        refine XS.goto X154.here hx rfl (pc0 := 117) (pc' := 121) rfl (hb hby at_117) (by decide) (by decide) ?_
        show Steps p.tables e below (T154.setTop (mkF m 121 #[iv p0, iv p1, iv p2, rv b1, rv b7, rv b13, rv b1, .val .null, iv (1 : Int32)] [(.int (1 : Int32))])) _
        refine XS.istore X154.here hx rfl (hb hby at_121) rfl (l' := #[iv p0, iv p1, iv p2, rv b1, rv b7, rv b13, rv b1, .val .null, iv (1 : Int32)]) rfl ?_
        show Steps p.tables e below (T154.setTop (mkF m 123 #[iv p0, iv p1, iv p2, rv b1, rv b7, rv b13, rv b1, .val .null, iv (1 : Int32)] [])) _
        refine XS.aload X154.here hx rfl (hb hby at_123) rfl rfl ?_
        show Steps p.tables e below (T154.setTop (mkF m 125 #[iv p0, iv p1, iv p2, rv b1, rv b7, rv b13, rv b1, .val .null, iv (1 : Int32)] [(.ref b13)])) _
        refine XS.aload X154.here hx rfl (hb hby at_125) rfl rfl ?_
        show Steps p.tables e below (T154.setTop (mkF m 127 #[iv p0, iv p1, iv p2, rv b1, rv b7, rv b13, rv b1, .val .null, iv (1 : Int32)] [.null, (.ref b13)])) _
        refine XS.aconstNull X154.here hx rfl (hb hby at_127) ?_
        show Steps p.tables e below (T154.setTop (mkF m 128 #[iv p0, iv p1, iv p2, rv b1, rv b7, rv b13, rv b1, .val .null, iv (1 : Int32)] [.null, .null, (.ref b13)])) _
        refine XS.aconstNull X154.here hx rfl (hb hby at_128) ?_
        exact k)
      obtain ⟨cq157, kq157, q157a, q157b, q157c⟩ := isOf hZ e154 f145_E_b13
      obtain ⟨_, _, ⟨T157, L157, k157, n157⟩, -, X157, ⟨Lc157, hQ157, l157, y157, z157⟩, st157⟩ := X154.virtualBack hx (y := (⟨sN0, "keep", sN1⟩ : MethodName)) (z := (⟨sN0, "keep", sN1⟩ : MethodName)) hown (mvT hZ (hw _ (List.mem_of_getElem? (i := 39) rfl))) (mvT hZ (hw _ (List.mem_of_getElem? (i := 40) rfl))) (notFace_of_selects (args := #[]) (mvT hZ (hw _ (List.mem_of_getElem? (i := 42) rfl)))) (mvT hZ (hw _ (List.mem_of_getElem? (i := 42) rfl))) (mvT hZ (hw _ (List.mem_of_getElem? (i := 41) rfl))) (by decide) (backOf (W := 0) (rmKeepRN l Z a0 hw [] b13 b1 T145.heap n0 z145 f145_E_b13 p145_1 p145_2 p145_3 g_b13) hZ (hw _ (List.mem_of_getElem? (i := 43) rfl)) (hw _ (List.mem_of_getElem? (i := 22) rfl)) (by decide) (by decide)) q157a q157c (g := (mkF m 129 #[iv p0, iv p1, iv p2, rv b1, rv b7, rv b13, rv b1, .val .null, iv (1 : Int32)] [.null, .null, .null, (.ref b13)])) rfl (by rw [hml]; rfl) (Steps.refl _) (argsL := [.null, .null, .null]) (rest := []) (lenOf pd_6 rfl) rfl (by show 2 * 0 + _ ≤ _; exact Nat.le_of_eq rfl) (hb hby at_129) (fun _ _ => ⟨rfl, e154, (by decide : 9 + 0 ≤ _), (by decide : 114 + 0 ≤ _)⟩)
      dsimp only [Pt.U, Pt.locs, Pt.cells, Pt.slots] at X157 l157 y157 z157 st157 hQ157
      subst l157 y157 z157
      obtain ⟨rfl, N157q, p157_0, p157_1, p157_2, p157_3⟩ := hQ157
      have N157 := Fr.app N145 N157q
      have f157_E_b1 : Exa Z T157.heap b1 sN2 := f145_E_b1.keep p157_0
      have f157_E_b7 : Exa Z T157.heap b7 sN2 := f145_E_b7.keep p157_0
      have f157_E_b13 : Exa Z T157.heap b13 sN0 := f145_E_b13.keep p157_0
      have z157 : n0 ≤ T157.heap.size := Nat.le_trans z145 p157_0.1
      have K157 : Keep h0 T157.heap [] := K145.trans p157_0 (allS (Or.inr sz_b13) all0)
      have R158 : ∀ t, Steps p.tables e below (T157.setTop (mkF m 132 #[iv p0, iv p1, iv p2, rv b1, rv b7, rv b13, rv b1, .val .null, iv (1 : Int32)] [])) t → Steps p.tables e below (s₁.setTop f0) t := fun t k => R156 t (st157.trans k)
      have R159 : ∀ t, Steps p.tables e below (T157.setTop (mkF m 139 #[iv p0, iv p1, iv p2, rv b1, rv b7, rv b13, rv b1, .val .null, iv (1 : Int32)] [(.ref b13)])) t → Steps p.tables e below (s₁.setTop f0) t := fun t k => R158 t (by
        show Steps p.tables e below (T157.setTop (mkF m 132 #[iv p0, iv p1, iv p2, rv b1, rv b7, rv b13, rv b1, .val .null, iv (1 : Int32)] [])) _
        refine XS.iload X157.here hx rfl (hb hby at_132) rfl  ?_
        show Steps p.tables e below (T157.setTop (mkF m 134 #[iv p0, iv p1, iv p2, rv b1, rv b7, rv b13, rv b1, .val .null, iv (1 : Int32)] [(.int (1 : Int32))])) _
        refine XS.ifNo X157.here hx rfl (hb hby at_134) rfl ((if0 _ _).trans (feq (by decide : ¬ ((1 : Int32) = (0 : Int32)))).1) ?_
        show Steps p.tables e below (T157.setTop (mkF m 137 #[iv p0, iv p1, iv p2, rv b1, rv b7, rv b13, rv b1, .val .null, iv (1 : Int32)] [])) _
        refine XS.aload X157.here hx rfl (hb hby at_137) rfl rfl ?_
        exact k)
      obtain ⟨T160, X160, e160, st160⟩ := getF X157 hx hZ hown (host := "") (Or.inl (hw _ (List.mem_of_getElem? (i := 33) rfl))) Via.refl rfl p157_1 (g := (mkF m 139 #[iv p0, iv p1, iv p2, rv b1, rv b7, rv b13, rv b1, .val .null, iv (1 : Int32)] [(.ref b13)])) rfl rfl (hb hby at_139)
      have R161 : ∀ t, Steps p.tables e below (T160.setTop (mkF m 142 #[iv p0, iv p1, iv p2, rv b1, rv b7, rv b13, rv b1, .val .null, iv (1 : Int32)] [.null])) t → Steps p.tables e below (s₁.setTop f0) t := fun t k => R159 t (st160 t k)
      have R162 : ∀ t, Steps p.tables e below (T160.setTop (mkF m 149 #[iv p0, iv p1, iv p2, rv b1, rv b7, rv b13, rv b1, .val .null, iv (1 : Int32)] [(.ref b13)])) t → Steps p.tables e below (s₁.setTop f0) t := fun t k => R161 t (by
        show Steps p.tables e below (T160.setTop (mkF m 142 #[iv p0, iv p1, iv p2, rv b1, rv b7, rv b13, rv b1, .val .null, iv (1 : Int32)] [.null])) _
        refine XS.aload X160.here hx rfl (hb hby at_142) rfl rfl ?_
        show Steps p.tables e below (T160.setTop (mkF m 144 #[iv p0, iv p1, iv p2, rv b1, rv b7, rv b13, rv b1, .val .null, iv (1 : Int32)] [.null, .null])) _
        refine Jvm.RoadKit.acmp (g := (mkF m 144 #[iv p0, iv p1, iv p2, rv b1, rv b7, rv b13, rv b1, .val .null, iv (1 : Int32)] [.null, .null])) X160 hx rfl rfl rfl (pc0 := 144) (pc' := 147) (same := true) rfl (hb hby at_144) rfl (decide_eq_true rfl) (by decide) (by decide) ?_
        show Steps p.tables e below (T160.setTop (mkF m 147 #[iv p0, iv p1, iv p2, rv b1, rv b7, rv b13, rv b1, .val .null, iv (1 : Int32)] [])) _
        refine XS.aload X160.here hx rfl (hb hby at_147) rfl rfl ?_
        exact k)
      obtain ⟨T163, X163, e163, st163⟩ := getF X160 hx hZ hown (host := "") (Or.inl (hw _ (List.mem_of_getElem? (i := 35) rfl))) Via.refl e160 p157_2 (g := (mkF m 149 #[iv p0, iv p1, iv p2, rv b1, rv b7, rv b13, rv b1, .val .null, iv (1 : Int32)] [(.ref b13)])) rfl rfl (hb hby at_149)
      have R164 : ∀ t, Steps p.tables e below (T163.setTop (mkF m 152 #[iv p0, iv p1, iv p2, rv b1, rv b7, rv b13, rv b1, .val .null, iv (1 : Int32)] [.null])) t → Steps p.tables e below (s₁.setTop f0) t := fun t k => R162 t (st163 t k)
      have R165 : ∀ t, Steps p.tables e below (T163.setTop (mkF m 157 #[iv p0, iv p1, iv p2, rv b1, rv b7, rv b13, rv b1, .val .null, iv (1 : Int32)] [(.ref b13)])) t → Steps p.tables e below (s₁.setTop f0) t := fun t k => R164 t (by
        show Steps p.tables e below (T163.setTop (mkF m 152 #[iv p0, iv p1, iv p2, rv b1, rv b7, rv b13, rv b1, .val .null, iv (1 : Int32)] [.null])) _
        refine XS.ifnonnullNo X163.here hx rfl (hb hby at_152) rfl ?_
        show Steps p.tables e below (T163.setTop (mkF m 155 #[iv p0, iv p1, iv p2, rv b1, rv b7, rv b13, rv b1, .val .null, iv (1 : Int32)] [])) _
        refine XS.aload X163.here hx rfl (hb hby at_155) rfl rfl ?_
        exact k)
      obtain ⟨T166, X166, e166, st166⟩ := getF X163 hx hZ hown (host := "") (Or.inl (hw _ (List.mem_of_getElem? (i := 37) rfl))) Via.refl e163 p157_3 (g := (mkF m 157 #[iv p0, iv p1, iv p2, rv b1, rv b7, rv b13, rv b1, .val .null, iv (1 : Int32)] [(.ref b13)])) rfl rfl (hb hby at_157)
      have R167 : ∀ t, Steps p.tables e below (T166.setTop (mkF m 160 #[iv p0, iv p1, iv p2, rv b1, rv b7, rv b13, rv b1, .val .null, iv (1 : Int32)] [.null])) t → Steps p.tables e below (s₁.setTop f0) t := fun t k => R165 t (st166 t k)
      have R168 : ∀ t, Steps p.tables e below (T166.setTop (mkF m 172 #[iv p0, iv p1, iv p2, rv b1, rv b7, rv b13, rv b1, .val .null, iv (1 : Int32)] [(.int (1 : Int32))])) t → Steps p.tables e below (s₁.setTop f0) t := fun t k => R167 t (by
        show Steps p.tables e below (T166.setTop (mkF m 160 #[iv p0, iv p1, iv p2, rv b1, rv b7, rv b13, rv b1, .val .null, iv (1 : Int32)] [.null])) _
        refine XS.ifnonnullNo X166.here hx rfl (hb hby at_160) rfl ?_
        show Steps p.tables e below (T166.setTop (mkF m 163 #[iv p0, iv p1, iv p2, rv b1, rv b7, rv b13, rv b1, .val .null, iv (1 : Int32)] [])) _
        refine XS.iconst X166.here hx rfl (hb hby at_163) ?_
        show Steps p.tables e below (T166.setTop (mkF m 164 #[iv p0, iv p1, iv p2, rv b1, rv b7, rv b13, rv b1, .val .null, iv (1 : Int32)] [(.int (1 : Int32))])) _
        refine XS.goto X166.here hx rfl (pc0 := 164) (pc' := 168) rfl (hb hby at_164) (by decide) (by decide) ?_
        show Steps p.tables e below (T166.setTop (mkF m 168 #[iv p0, iv p1, iv p2, rv b1, rv b7, rv b13, rv b1, .val .null, iv (1 : Int32)] [(.int (1 : Int32))])) _
        refine XS.istore X166.here hx rfl (hb hby at_168) rfl (l' := #[iv p0, iv p1, iv p2, rv b1, rv b7, rv b13, rv b1, .val .null, iv (1 : Int32)]) rfl ?_
        show Steps p.tables e below (T166.setTop (mkF m 170 #[iv p0, iv p1, iv p2, rv b1, rv b7, rv b13, rv b1, .val .null, iv (1 : Int32)] [])) _
        refine XS.iload X166.here hx rfl (hb hby at_170) rfl  ?_
        exact k)
      obtain ⟨fs, hr, hrun, hended, hW, hsame⟩ := X166.leave (v := some (.int (1 : Int32))) (fun h => by rw [Bd.returns] at h; cases h)
      refine ⟨_, _, pre0 _ (R168 _ ?_), hrun, hended, _, _, rfl, ?_, ⟨_, rfl⟩, hW, hsame.mono (by decide) (by decide)⟩
      · show Steps p.tables e below (T166.setTop (mkF m 172 #[iv p0, iv p1, iv p2, rv b1, rv b7, rv b13, rv b1, .val .null, iv (1 : Int32)] [(.int (1 : Int32))])) _
        exact retN X166 hx (t := .boolean) Bd.returns (by simp) (hb hby at_172) hr
      · show Q_rmLaw Z p0 p1 p2 h0 n0 _ T166.heap _
        rw [e166]
        exact ⟨rfl, N157⟩
    · skip
      have R169 : ∀ t, Steps p.tables e below (T132.setTop (mkF m 43 #[iv p0, iv p1, iv p2, rv b1, rv b7, rv b13, rv b1, .unset, .unset] [(.ref b1)])) t → Steps p.tables e below (s₁.setTop f0) t := by have q := R133; rw [(hq : (own_pick p2 b1 b7) = (.ref b1))] at q; exact q
      have R170 : ∀ t, Steps p.tables e below (T132.setTop (mkF m 47 #[iv p0, iv p1, iv p2, rv b1, rv b7, rv b13, rv b1, rv b1, .unset] [(.ref b13)])) t → Steps p.tables e below (s₁.setTop f0) t := fun t k => R169 t (by
        show Steps p.tables e below (T132.setTop (mkF m 43 #[iv p0, iv p1, iv p2, rv b1, rv b7, rv b13, rv b1, .unset, .unset] [(.ref b1)])) _
        refine XS.astore X132.here hx rfl (hb hby at_43) rfl rfl (l' := #[iv p0, iv p1, iv p2, rv b1, rv b7, rv b13, rv b1, rv b1, .unset]) rfl ?_
        show Steps p.tables e below (T132.setTop (mkF m 45 #[iv p0, iv p1, iv p2, rv b1, rv b7, rv b13, rv b1, rv b1, .unset] [])) _
        refine XS.aload X132.here hx rfl (hb hby at_45) rfl rfl ?_
        exact k)
      obtain ⟨T171, X171, e171, st171⟩ := getF X132 hx hZ hown (host := "") (Or.inl (hw _ (List.mem_of_getElem? (i := 33) rfl))) Via.refl p132_0 p16_1 (g := (mkF m 47 #[iv p0, iv p1, iv p2, rv b1, rv b7, rv b13, rv b1, rv b1, .unset] [(.ref b13)])) rfl rfl (hb hby at_47)
      have R172 : ∀ t, Steps p.tables e below (T171.setTop (mkF m 50 #[iv p0, iv p1, iv p2, rv b1, rv b7, rv b13, rv b1, rv b1, .unset] [.null])) t → Steps p.tables e below (s₁.setTop f0) t := fun t k => R170 t (st171 t k)
      have R173 : ∀ t, Steps p.tables e below (T171.setTop (mkF m 55 #[iv p0, iv p1, iv p2, rv b1, rv b7, rv b13, rv b1, rv b1, .unset] [(.ref b13)])) t → Steps p.tables e below (s₁.setTop f0) t := fun t k => R172 t (by
        show Steps p.tables e below (T171.setTop (mkF m 50 #[iv p0, iv p1, iv p2, rv b1, rv b7, rv b13, rv b1, rv b1, .unset] [.null])) _
        refine XS.ifnonnullNo X171.here hx rfl (hb hby at_50) rfl ?_
        show Steps p.tables e below (T171.setTop (mkF m 53 #[iv p0, iv p1, iv p2, rv b1, rv b7, rv b13, rv b1, rv b1, .unset] [])) _
        refine XS.aload X171.here hx rfl (hb hby at_53) rfl rfl ?_
        exact k)
      obtain ⟨T174, X174, e174, st174⟩ := getF X171 hx hZ hown (host := "") (Or.inl (hw _ (List.mem_of_getElem? (i := 35) rfl))) Via.refl e171 p16_2 (g := (mkF m 55 #[iv p0, iv p1, iv p2, rv b1, rv b7, rv b13, rv b1, rv b1, .unset] [(.ref b13)])) rfl rfl (hb hby at_55)
      have R175 : ∀ t, Steps p.tables e below (T174.setTop (mkF m 58 #[iv p0, iv p1, iv p2, rv b1, rv b7, rv b13, rv b1, rv b1, .unset] [.null])) t → Steps p.tables e below (s₁.setTop f0) t := fun t k => R173 t (st174 t k)
      have R176 : ∀ t, Steps p.tables e below (T174.setTop (mkF m 63 #[iv p0, iv p1, iv p2, rv b1, rv b7, rv b13, rv b1, rv b1, .unset] [(.ref b13)])) t → Steps p.tables e below (s₁.setTop f0) t := fun t k => R175 t (by
        show Steps p.tables e below (T174.setTop (mkF m 58 #[iv p0, iv p1, iv p2, rv b1, rv b7, rv b13, rv b1, rv b1, .unset] [.null])) _
        refine XS.ifnonnullNo X174.here hx rfl (hb hby at_58) rfl ?_
        show Steps p.tables e below (T174.setTop (mkF m 61 #[iv p0, iv p1, iv p2, rv b1, rv b7, rv b13, rv b1, rv b1, .unset] [])) _
        refine XS.aload X174.here hx rfl (hb hby at_61) rfl rfl ?_
        exact k)
      obtain ⟨T177, X177, e177, st177⟩ := getF X174 hx hZ hown (host := "") (Or.inl (hw _ (List.mem_of_getElem? (i := 37) rfl))) Via.refl e174 p16_3 (g := (mkF m 63 #[iv p0, iv p1, iv p2, rv b1, rv b7, rv b13, rv b1, rv b1, .unset] [(.ref b13)])) rfl rfl (hb hby at_63)
      have R178 : ∀ t, Steps p.tables e below (T177.setTop (mkF m 66 #[iv p0, iv p1, iv p2, rv b1, rv b7, rv b13, rv b1, rv b1, .unset] [.null])) t → Steps p.tables e below (s₁.setTop f0) t := fun t k => R176 t (st177 t k)
      have R179 : ∀ t, Steps p.tables e below (T177.setTop (mkF m 82 #[iv p0, iv p1, iv p2, rv b1, rv b7, rv b13, rv b1, rv b1, iv (1 : Int32)] [.null, .null, (.ref b1), (.ref b13)])) t → Steps p.tables e below (s₁.setTop f0) t := fun t k => R178 t (by
        show Steps p.tables e below (T177.setTop (mkF m 66 #[iv p0, iv p1, iv p2, rv b1, rv b7, rv b13, rv b1, rv b1, .unset] [.null])) _
        refine XS.ifnonnullNo X177.here hx rfl (hb hby at_66) rfl ?_
        show Steps p.tables e below (T177.setTop (mkF m 69 #[iv p0, iv p1, iv p2, rv b1, rv b7, rv b13, rv b1, rv b1, .unset] [])) _
        refine XS.iconst X177.here hx rfl (hb hby at_69) ?_
        show Steps p.tables e below (T177.setTop (mkF m 70 #[iv p0, iv p1, iv p2, rv b1, rv b7, rv b13, rv b1, rv b1, .unset] [(.int (1 : Int32))])) _
        refine XS.goto X177.here hx rfl (pc0 := 70) (pc' := 74) rfl (hb hby at_70) (by decide) (by decide) ?_
        show Steps p.tables e below (T177.setTop (mkF m 74 #[iv p0, iv p1, iv p2, rv b1, rv b7, rv b13, rv b1, rv b1, .unset] [(.int (1 : Int32))])) _
        refine XS.istore X177.here hx rfl (hb hby at_74) rfl (l' := #[iv p0, iv p1, iv p2, rv b1, rv b7, rv b13, rv b1, rv b1, iv (1 : Int32)]) rfl ?_
        show Steps p.tables e below (T177.setTop (mkF m 76 #[iv p0, iv p1, iv p2, rv b1, rv b7, rv b13, rv b1, rv b1, iv (1 : Int32)] [])) _
        refine XS.aload X177.here hx rfl (hb hby at_76) rfl rfl ?_
        show Steps p.tables e below (T177.setTop (mkF m 78 #[iv p0, iv p1, iv p2, rv b1, rv b7, rv b13, rv b1, rv b1, iv (1 : Int32)] [(.ref b13)])) _
        refine XS.aload X177.here hx rfl (hb hby at_78) rfl rfl ?_
        show Steps p.tables e below (T177.setTop (mkF m 80 #[iv p0, iv p1, iv p2, rv b1, rv b7, rv b13, rv b1, rv b1, iv (1 : Int32)] [(.ref b1), (.ref b13)])) _
        refine XS.aconstNull X177.here hx rfl (hb hby at_80) ?_
        show Steps p.tables e below (T177.setTop (mkF m 81 #[iv p0, iv p1, iv p2, rv b1, rv b7, rv b13, rv b1, rv b1, iv (1 : Int32)] [.null, (.ref b1), (.ref b13)])) _
        refine XS.aconstNull X177.here hx rfl (hb hby at_81) ?_
        exact k)
      obtain ⟨cq180, kq180, q180a, q180b, q180c⟩ := isOf hZ e177 f16_E_b13
      obtain ⟨_, _, ⟨T180, L180, k180, n180⟩, -, X180, ⟨Lc180, hQ180, l180, y180, z180⟩, st180⟩ := X177.virtualBack hx (y := (⟨sN0, "keep", sN1⟩ : MethodName)) (z := (⟨sN0, "keep", sN1⟩ : MethodName)) hown (mvT hZ (hw _ (List.mem_of_getElem? (i := 39) rfl))) (mvT hZ (hw _ (List.mem_of_getElem? (i := 40) rfl))) (notFace_of_selects (args := #[]) (mvT hZ (hw _ (List.mem_of_getElem? (i := 42) rfl)))) (mvT hZ (hw _ (List.mem_of_getElem? (i := 42) rfl))) (mvT hZ (hw _ (List.mem_of_getElem? (i := 41) rfl))) (by decide) (backOf (W := 0) (rmKeepNR l Z a0 hw [] b13 b1 T16.heap n0 z16 f16_E_b13 p16_1 p16_2 p16_3 g_b13) hZ (hw _ (List.mem_of_getElem? (i := 43) rfl)) (hw _ (List.mem_of_getElem? (i := 22) rfl)) (by decide) (by decide)) q180a q180c (g := (mkF m 82 #[iv p0, iv p1, iv p2, rv b1, rv b7, rv b13, rv b1, rv b1, iv (1 : Int32)] [.null, .null, (.ref b1), (.ref b13)])) rfl (by rw [hml]; rfl) (Steps.refl _) (argsL := [(.ref b1), .null, .null]) (rest := []) (lenOf pd_6 rfl) rfl (by show 2 * 0 + _ ≤ _; exact Nat.le_of_eq rfl) (hb hby at_82) (fun _ _ => ⟨rfl, e177, (by decide : 9 + 0 ≤ _), (by decide : 114 + 0 ≤ _)⟩)
      dsimp only [Pt.U, Pt.locs, Pt.cells, Pt.slots] at X180 l180 y180 z180 st180 hQ180
      subst l180 y180 z180
      obtain ⟨rfl, N180q, p180_0, p180_1, p180_2, p180_3⟩ := hQ180
      have N180 := Fr.app N132 N180q
      have f180_E_b1 : Exa Z T180.heap b1 sN2 := f16_E_b1.keep p180_0
      have f180_E_b7 : Exa Z T180.heap b7 sN2 := f16_E_b7.keep p180_0
      have f180_E_b13 : Exa Z T180.heap b13 sN0 := f16_E_b13.keep p180_0
      have z180 : n0 ≤ T180.heap.size := Nat.le_trans z16 p180_0.1
      have K180 : Keep h0 T180.heap [] := K16.trans p180_0 (allS (Or.inr sz_b13) all0)
      have R181 : ∀ t, Steps p.tables e below (T180.setTop (mkF m 85 #[iv p0, iv p1, iv p2, rv b1, rv b7, rv b13, rv b1, rv b1, iv (1 : Int32)] [])) t → Steps p.tables e below (s₁.setTop f0) t := fun t k => R179 t (st180.trans k)
      have R182 : ∀ t, Steps p.tables e below (T180.setTop (mkF m 92 #[iv p0, iv p1, iv p2, rv b1, rv b7, rv b13, rv b1, rv b1, iv (1 : Int32)] [(.ref b13)])) t → Steps p.tables e below (s₁.setTop f0) t := fun t k => R181 t (by
        show Steps p.tables e below (T180.setTop (mkF m 85 #[iv p0, iv p1, iv p2, rv b1, rv b7, rv b13, rv b1, rv b1, iv (1 : Int32)] [])) _
        refine XS.iload X180.here hx rfl (hb hby at_85) rfl  ?_
        show Steps p.tables e below (T180.setTop (mkF m 87 #[iv p0, iv p1, iv p2, rv b1, rv b7, rv b13, rv b1, rv b1, iv (1 : Int32)] [(.int (1 : Int32))])) _
        refine XS.ifNo X180.here hx rfl (hb hby at_87) rfl ((if0 _ _).trans (feq (by decide : ¬ ((1 : Int32) = (0 : Int32)))).1) ?_
        show Steps p.tables e below (T180.setTop (mkF m 90 #[iv p0, iv p1, iv p2, rv b1, rv b7, rv b13, rv b1, rv b1, iv (1 : Int32)] [])) _
        refine XS.aload X180.here hx rfl (hb hby at_90) rfl rfl ?_
        exact k)
      obtain ⟨T183, X183, e183, st183⟩ := getF X180 hx hZ hown (host := "") (Or.inl (hw _ (List.mem_of_getElem? (i := 33) rfl))) Via.refl rfl p180_1 (g := (mkF m 92 #[iv p0, iv p1, iv p2, rv b1, rv b7, rv b13, rv b1, rv b1, iv (1 : Int32)] [(.ref b13)])) rfl rfl (hb hby at_92)
      have R184 : ∀ t, Steps p.tables e below (T183.setTop (mkF m 95 #[iv p0, iv p1, iv p2, rv b1, rv b7, rv b13, rv b1, rv b1, iv (1 : Int32)] [(.ref b1)])) t → Steps p.tables e below (s₁.setTop f0) t := fun t k => R182 t (st183 t k)
      have R185 : ∀ t, Steps p.tables e below (T183.setTop (mkF m 102 #[iv p0, iv p1, iv p2, rv b1, rv b7, rv b13, rv b1, rv b1, iv (1 : Int32)] [(.ref b13)])) t → Steps p.tables e below (s₁.setTop f0) t := fun t k => R184 t (by
        show Steps p.tables e below (T183.setTop (mkF m 95 #[iv p0, iv p1, iv p2, rv b1, rv b7, rv b13, rv b1, rv b1, iv (1 : Int32)] [(.ref b1)])) _
        refine XS.aload X183.here hx rfl (hb hby at_95) rfl rfl ?_
        show Steps p.tables e below (T183.setTop (mkF m 97 #[iv p0, iv p1, iv p2, rv b1, rv b7, rv b13, rv b1, rv b1, iv (1 : Int32)] [(.ref b1), (.ref b1)])) _
        refine Jvm.RoadKit.acmp (g := (mkF m 97 #[iv p0, iv p1, iv p2, rv b1, rv b7, rv b13, rv b1, rv b1, iv (1 : Int32)] [(.ref b1), (.ref b1)])) X183 hx rfl rfl rfl (pc0 := 97) (pc' := 100) (same := true) rfl (hb hby at_97) rfl (decide_eq_true rfl) (by decide) (by decide) ?_
        show Steps p.tables e below (T183.setTop (mkF m 100 #[iv p0, iv p1, iv p2, rv b1, rv b7, rv b13, rv b1, rv b1, iv (1 : Int32)] [])) _
        refine XS.aload X183.here hx rfl (hb hby at_100) rfl rfl ?_
        exact k)
      obtain ⟨T186, X186, e186, st186⟩ := getF X183 hx hZ hown (host := "") (Or.inl (hw _ (List.mem_of_getElem? (i := 35) rfl))) Via.refl e183 p180_2 (g := (mkF m 102 #[iv p0, iv p1, iv p2, rv b1, rv b7, rv b13, rv b1, rv b1, iv (1 : Int32)] [(.ref b13)])) rfl rfl (hb hby at_102)
      have R187 : ∀ t, Steps p.tables e below (T186.setTop (mkF m 105 #[iv p0, iv p1, iv p2, rv b1, rv b7, rv b13, rv b1, rv b1, iv (1 : Int32)] [.null])) t → Steps p.tables e below (s₁.setTop f0) t := fun t k => R185 t (st186 t k)
      have R188 : ∀ t, Steps p.tables e below (T186.setTop (mkF m 110 #[iv p0, iv p1, iv p2, rv b1, rv b7, rv b13, rv b1, rv b1, iv (1 : Int32)] [(.ref b13)])) t → Steps p.tables e below (s₁.setTop f0) t := fun t k => R187 t (by
        show Steps p.tables e below (T186.setTop (mkF m 105 #[iv p0, iv p1, iv p2, rv b1, rv b7, rv b13, rv b1, rv b1, iv (1 : Int32)] [.null])) _
        refine XS.ifnonnullNo X186.here hx rfl (hb hby at_105) rfl ?_
        show Steps p.tables e below (T186.setTop (mkF m 108 #[iv p0, iv p1, iv p2, rv b1, rv b7, rv b13, rv b1, rv b1, iv (1 : Int32)] [])) _
        refine XS.aload X186.here hx rfl (hb hby at_108) rfl rfl ?_
        exact k)
      obtain ⟨T189, X189, e189, st189⟩ := getF X186 hx hZ hown (host := "") (Or.inl (hw _ (List.mem_of_getElem? (i := 37) rfl))) Via.refl e186 p180_3 (g := (mkF m 110 #[iv p0, iv p1, iv p2, rv b1, rv b7, rv b13, rv b1, rv b1, iv (1 : Int32)] [(.ref b13)])) rfl rfl (hb hby at_110)
      have R190 : ∀ t, Steps p.tables e below (T189.setTop (mkF m 113 #[iv p0, iv p1, iv p2, rv b1, rv b7, rv b13, rv b1, rv b1, iv (1 : Int32)] [.null])) t → Steps p.tables e below (s₁.setTop f0) t := fun t k => R188 t (st189 t k)
      have R191 : ∀ t, Steps p.tables e below (T189.setTop (mkF m 129 #[iv p0, iv p1, iv p2, rv b1, rv b7, rv b13, rv b1, rv b1, iv (1 : Int32)] [.null, .null, (.ref b1), (.ref b13)])) t → Steps p.tables e below (s₁.setTop f0) t := fun t k => R190 t (by
        show Steps p.tables e below (T189.setTop (mkF m 113 #[iv p0, iv p1, iv p2, rv b1, rv b7, rv b13, rv b1, rv b1, iv (1 : Int32)] [.null])) _
        refine XS.ifnonnullNo X189.here hx rfl (hb hby at_113) rfl ?_
        show Steps p.tables e below (T189.setTop (mkF m 116 #[iv p0, iv p1, iv p2, rv b1, rv b7, rv b13, rv b1, rv b1, iv (1 : Int32)] [])) _
        refine XS.iconst X189.here hx rfl (hb hby at_116) ?_
        show Steps p.tables e below (T189.setTop (mkF m 117 #[iv p0, iv p1, iv p2, rv b1, rv b7, rv b13, rv b1, rv b1, iv (1 : Int32)] [(.int (1 : Int32))])) _
        refine XS.goto X189.here hx rfl (pc0 := 117) (pc' := 121) rfl (hb hby at_117) (by decide) (by decide) ?_
        show Steps p.tables e below (T189.setTop (mkF m 121 #[iv p0, iv p1, iv p2, rv b1, rv b7, rv b13, rv b1, rv b1, iv (1 : Int32)] [(.int (1 : Int32))])) _
        refine XS.istore X189.here hx rfl (hb hby at_121) rfl (l' := #[iv p0, iv p1, iv p2, rv b1, rv b7, rv b13, rv b1, rv b1, iv (1 : Int32)]) rfl ?_
        show Steps p.tables e below (T189.setTop (mkF m 123 #[iv p0, iv p1, iv p2, rv b1, rv b7, rv b13, rv b1, rv b1, iv (1 : Int32)] [])) _
        refine XS.aload X189.here hx rfl (hb hby at_123) rfl rfl ?_
        show Steps p.tables e below (T189.setTop (mkF m 125 #[iv p0, iv p1, iv p2, rv b1, rv b7, rv b13, rv b1, rv b1, iv (1 : Int32)] [(.ref b13)])) _
        refine XS.aload X189.here hx rfl (hb hby at_125) rfl rfl ?_
        show Steps p.tables e below (T189.setTop (mkF m 127 #[iv p0, iv p1, iv p2, rv b1, rv b7, rv b13, rv b1, rv b1, iv (1 : Int32)] [(.ref b1), (.ref b13)])) _
        refine XS.aconstNull X189.here hx rfl (hb hby at_127) ?_
        show Steps p.tables e below (T189.setTop (mkF m 128 #[iv p0, iv p1, iv p2, rv b1, rv b7, rv b13, rv b1, rv b1, iv (1 : Int32)] [.null, (.ref b1), (.ref b13)])) _
        refine XS.aconstNull X189.here hx rfl (hb hby at_128) ?_
        exact k)
      obtain ⟨cq192, kq192, q192a, q192b, q192c⟩ := isOf hZ e189 f180_E_b13
      obtain ⟨_, _, ⟨T192, L192, k192, n192⟩, -, X192, ⟨Lc192, hQ192, l192, y192, z192⟩, st192⟩ := X189.virtualBack hx (y := (⟨sN0, "keep", sN1⟩ : MethodName)) (z := (⟨sN0, "keep", sN1⟩ : MethodName)) hown (mvT hZ (hw _ (List.mem_of_getElem? (i := 39) rfl))) (mvT hZ (hw _ (List.mem_of_getElem? (i := 40) rfl))) (notFace_of_selects (args := #[]) (mvT hZ (hw _ (List.mem_of_getElem? (i := 42) rfl)))) (mvT hZ (hw _ (List.mem_of_getElem? (i := 42) rfl))) (mvT hZ (hw _ (List.mem_of_getElem? (i := 41) rfl))) (by decide) (backOf (W := 0) (rmKeepRR l Z a0 hw [] b13 b1 b1 T180.heap n0 z180 f180_E_b13 p180_1 p180_2 p180_3 g_b13) hZ (hw _ (List.mem_of_getElem? (i := 43) rfl)) (hw _ (List.mem_of_getElem? (i := 22) rfl)) (by decide) (by decide)) q192a q192c (g := (mkF m 129 #[iv p0, iv p1, iv p2, rv b1, rv b7, rv b13, rv b1, rv b1, iv (1 : Int32)] [.null, .null, (.ref b1), (.ref b13)])) rfl (by rw [hml]; rfl) (Steps.refl _) (argsL := [(.ref b1), .null, .null]) (rest := []) (lenOf pd_6 rfl) rfl (by show 2 * 0 + _ ≤ _; exact Nat.le_of_eq rfl) (hb hby at_129) (fun _ _ => ⟨rfl, e189, (by decide : 9 + 0 ≤ _), (by decide : 114 + 0 ≤ _)⟩)
      dsimp only [Pt.U, Pt.locs, Pt.cells, Pt.slots] at X192 l192 y192 z192 st192 hQ192
      subst l192 y192 z192
      obtain ⟨rfl, N192q, p192_0, p192_1, p192_2, p192_3⟩ := hQ192
      have N192 := Fr.app N180 N192q
      have f192_E_b1 : Exa Z T192.heap b1 sN2 := f180_E_b1.keep p192_0
      have f192_E_b7 : Exa Z T192.heap b7 sN2 := f180_E_b7.keep p192_0
      have f192_E_b13 : Exa Z T192.heap b13 sN0 := f180_E_b13.keep p192_0
      have z192 : n0 ≤ T192.heap.size := Nat.le_trans z180 p192_0.1
      have K192 : Keep h0 T192.heap [] := K180.trans p192_0 (allS (Or.inr sz_b13) all0)
      have R193 : ∀ t, Steps p.tables e below (T192.setTop (mkF m 132 #[iv p0, iv p1, iv p2, rv b1, rv b7, rv b13, rv b1, rv b1, iv (1 : Int32)] [])) t → Steps p.tables e below (s₁.setTop f0) t := fun t k => R191 t (st192.trans k)
      have R194 : ∀ t, Steps p.tables e below (T192.setTop (mkF m 139 #[iv p0, iv p1, iv p2, rv b1, rv b7, rv b13, rv b1, rv b1, iv (1 : Int32)] [(.ref b13)])) t → Steps p.tables e below (s₁.setTop f0) t := fun t k => R193 t (by
        show Steps p.tables e below (T192.setTop (mkF m 132 #[iv p0, iv p1, iv p2, rv b1, rv b7, rv b13, rv b1, rv b1, iv (1 : Int32)] [])) _
        refine XS.iload X192.here hx rfl (hb hby at_132) rfl  ?_
        show Steps p.tables e below (T192.setTop (mkF m 134 #[iv p0, iv p1, iv p2, rv b1, rv b7, rv b13, rv b1, rv b1, iv (1 : Int32)] [(.int (1 : Int32))])) _
        refine XS.ifNo X192.here hx rfl (hb hby at_134) rfl ((if0 _ _).trans (feq (by decide : ¬ ((1 : Int32) = (0 : Int32)))).1) ?_
        show Steps p.tables e below (T192.setTop (mkF m 137 #[iv p0, iv p1, iv p2, rv b1, rv b7, rv b13, rv b1, rv b1, iv (1 : Int32)] [])) _
        refine XS.aload X192.here hx rfl (hb hby at_137) rfl rfl ?_
        exact k)
      obtain ⟨T195, X195, e195, st195⟩ := getF X192 hx hZ hown (host := "") (Or.inl (hw _ (List.mem_of_getElem? (i := 33) rfl))) Via.refl rfl p192_1 (g := (mkF m 139 #[iv p0, iv p1, iv p2, rv b1, rv b7, rv b13, rv b1, rv b1, iv (1 : Int32)] [(.ref b13)])) rfl rfl (hb hby at_139)
      have R196 : ∀ t, Steps p.tables e below (T195.setTop (mkF m 142 #[iv p0, iv p1, iv p2, rv b1, rv b7, rv b13, rv b1, rv b1, iv (1 : Int32)] [(.ref b1)])) t → Steps p.tables e below (s₁.setTop f0) t := fun t k => R194 t (st195 t k)
      have R197 : ∀ t, Steps p.tables e below (T195.setTop (mkF m 149 #[iv p0, iv p1, iv p2, rv b1, rv b7, rv b13, rv b1, rv b1, iv (1 : Int32)] [(.ref b13)])) t → Steps p.tables e below (s₁.setTop f0) t := fun t k => R196 t (by
        show Steps p.tables e below (T195.setTop (mkF m 142 #[iv p0, iv p1, iv p2, rv b1, rv b7, rv b13, rv b1, rv b1, iv (1 : Int32)] [(.ref b1)])) _
        refine XS.aload X195.here hx rfl (hb hby at_142) rfl rfl ?_
        show Steps p.tables e below (T195.setTop (mkF m 144 #[iv p0, iv p1, iv p2, rv b1, rv b7, rv b13, rv b1, rv b1, iv (1 : Int32)] [(.ref b1), (.ref b1)])) _
        refine Jvm.RoadKit.acmp (g := (mkF m 144 #[iv p0, iv p1, iv p2, rv b1, rv b7, rv b13, rv b1, rv b1, iv (1 : Int32)] [(.ref b1), (.ref b1)])) X195 hx rfl rfl rfl (pc0 := 144) (pc' := 147) (same := true) rfl (hb hby at_144) rfl (decide_eq_true rfl) (by decide) (by decide) ?_
        show Steps p.tables e below (T195.setTop (mkF m 147 #[iv p0, iv p1, iv p2, rv b1, rv b7, rv b13, rv b1, rv b1, iv (1 : Int32)] [])) _
        refine XS.aload X195.here hx rfl (hb hby at_147) rfl rfl ?_
        exact k)
      obtain ⟨T198, X198, e198, st198⟩ := getF X195 hx hZ hown (host := "") (Or.inl (hw _ (List.mem_of_getElem? (i := 35) rfl))) Via.refl e195 p192_2 (g := (mkF m 149 #[iv p0, iv p1, iv p2, rv b1, rv b7, rv b13, rv b1, rv b1, iv (1 : Int32)] [(.ref b13)])) rfl rfl (hb hby at_149)
      have R199 : ∀ t, Steps p.tables e below (T198.setTop (mkF m 152 #[iv p0, iv p1, iv p2, rv b1, rv b7, rv b13, rv b1, rv b1, iv (1 : Int32)] [.null])) t → Steps p.tables e below (s₁.setTop f0) t := fun t k => R197 t (st198 t k)
      have R200 : ∀ t, Steps p.tables e below (T198.setTop (mkF m 157 #[iv p0, iv p1, iv p2, rv b1, rv b7, rv b13, rv b1, rv b1, iv (1 : Int32)] [(.ref b13)])) t → Steps p.tables e below (s₁.setTop f0) t := fun t k => R199 t (by
        show Steps p.tables e below (T198.setTop (mkF m 152 #[iv p0, iv p1, iv p2, rv b1, rv b7, rv b13, rv b1, rv b1, iv (1 : Int32)] [.null])) _
        refine XS.ifnonnullNo X198.here hx rfl (hb hby at_152) rfl ?_
        show Steps p.tables e below (T198.setTop (mkF m 155 #[iv p0, iv p1, iv p2, rv b1, rv b7, rv b13, rv b1, rv b1, iv (1 : Int32)] [])) _
        refine XS.aload X198.here hx rfl (hb hby at_155) rfl rfl ?_
        exact k)
      obtain ⟨T201, X201, e201, st201⟩ := getF X198 hx hZ hown (host := "") (Or.inl (hw _ (List.mem_of_getElem? (i := 37) rfl))) Via.refl e198 p192_3 (g := (mkF m 157 #[iv p0, iv p1, iv p2, rv b1, rv b7, rv b13, rv b1, rv b1, iv (1 : Int32)] [(.ref b13)])) rfl rfl (hb hby at_157)
      have R202 : ∀ t, Steps p.tables e below (T201.setTop (mkF m 160 #[iv p0, iv p1, iv p2, rv b1, rv b7, rv b13, rv b1, rv b1, iv (1 : Int32)] [.null])) t → Steps p.tables e below (s₁.setTop f0) t := fun t k => R200 t (st201 t k)
      have R203 : ∀ t, Steps p.tables e below (T201.setTop (mkF m 172 #[iv p0, iv p1, iv p2, rv b1, rv b7, rv b13, rv b1, rv b1, iv (1 : Int32)] [(.int (1 : Int32))])) t → Steps p.tables e below (s₁.setTop f0) t := fun t k => R202 t (by
        show Steps p.tables e below (T201.setTop (mkF m 160 #[iv p0, iv p1, iv p2, rv b1, rv b7, rv b13, rv b1, rv b1, iv (1 : Int32)] [.null])) _
        refine XS.ifnonnullNo X201.here hx rfl (hb hby at_160) rfl ?_
        show Steps p.tables e below (T201.setTop (mkF m 163 #[iv p0, iv p1, iv p2, rv b1, rv b7, rv b13, rv b1, rv b1, iv (1 : Int32)] [])) _
        refine XS.iconst X201.here hx rfl (hb hby at_163) ?_
        show Steps p.tables e below (T201.setTop (mkF m 164 #[iv p0, iv p1, iv p2, rv b1, rv b7, rv b13, rv b1, rv b1, iv (1 : Int32)] [(.int (1 : Int32))])) _
        refine XS.goto X201.here hx rfl (pc0 := 164) (pc' := 168) rfl (hb hby at_164) (by decide) (by decide) ?_
        show Steps p.tables e below (T201.setTop (mkF m 168 #[iv p0, iv p1, iv p2, rv b1, rv b7, rv b13, rv b1, rv b1, iv (1 : Int32)] [(.int (1 : Int32))])) _
        refine XS.istore X201.here hx rfl (hb hby at_168) rfl (l' := #[iv p0, iv p1, iv p2, rv b1, rv b7, rv b13, rv b1, rv b1, iv (1 : Int32)]) rfl ?_
        show Steps p.tables e below (T201.setTop (mkF m 170 #[iv p0, iv p1, iv p2, rv b1, rv b7, rv b13, rv b1, rv b1, iv (1 : Int32)] [])) _
        refine XS.iload X201.here hx rfl (hb hby at_170) rfl  ?_
        exact k)
      obtain ⟨fs, hr, hrun, hended, hW, hsame⟩ := X201.leave (v := some (.int (1 : Int32))) (fun h => by rw [Bd.returns] at h; cases h)
      refine ⟨_, _, pre0 _ (R203 _ ?_), hrun, hended, _, _, rfl, ?_, ⟨_, rfl⟩, hW, hsame.mono (by decide) (by decide)⟩
      · show Steps p.tables e below (T201.setTop (mkF m 172 #[iv p0, iv p1, iv p2, rv b1, rv b7, rv b13, rv b1, rv b1, iv (1 : Int32)] [(.int (1 : Int32))])) _
        exact retN X201 hx (t := .boolean) Bd.returns (by simp) (hb hby at_172) hr
      · show Q_rmLaw Z p0 p1 p2 h0 n0 _ T201.heap _
        rw [e201]
        exact ⟨rfl, N192⟩
    · skip
      have R204 : ∀ t, Steps p.tables e below (T132.setTop (mkF m 43 #[iv p0, iv p1, iv p2, rv b1, rv b7, rv b13, rv b1, .unset, .unset] [(.ref b7)])) t → Steps p.tables e below (s₁.setTop f0) t := by have q := R133; rw [(hq : (own_pick p2 b1 b7) = (.ref b7))] at q; exact q
      have R205 : ∀ t, Steps p.tables e below (T132.setTop (mkF m 47 #[iv p0, iv p1, iv p2, rv b1, rv b7, rv b13, rv b1, rv b7, .unset] [(.ref b13)])) t → Steps p.tables e below (s₁.setTop f0) t := fun t k => R204 t (by
        show Steps p.tables e below (T132.setTop (mkF m 43 #[iv p0, iv p1, iv p2, rv b1, rv b7, rv b13, rv b1, .unset, .unset] [(.ref b7)])) _
        refine XS.astore X132.here hx rfl (hb hby at_43) rfl rfl (l' := #[iv p0, iv p1, iv p2, rv b1, rv b7, rv b13, rv b1, rv b7, .unset]) rfl ?_
        show Steps p.tables e below (T132.setTop (mkF m 45 #[iv p0, iv p1, iv p2, rv b1, rv b7, rv b13, rv b1, rv b7, .unset] [])) _
        refine XS.aload X132.here hx rfl (hb hby at_45) rfl rfl ?_
        exact k)
      obtain ⟨T206, X206, e206, st206⟩ := getF X132 hx hZ hown (host := "") (Or.inl (hw _ (List.mem_of_getElem? (i := 33) rfl))) Via.refl p132_0 p16_1 (g := (mkF m 47 #[iv p0, iv p1, iv p2, rv b1, rv b7, rv b13, rv b1, rv b7, .unset] [(.ref b13)])) rfl rfl (hb hby at_47)
      have R207 : ∀ t, Steps p.tables e below (T206.setTop (mkF m 50 #[iv p0, iv p1, iv p2, rv b1, rv b7, rv b13, rv b1, rv b7, .unset] [.null])) t → Steps p.tables e below (s₁.setTop f0) t := fun t k => R205 t (st206 t k)
      have R208 : ∀ t, Steps p.tables e below (T206.setTop (mkF m 55 #[iv p0, iv p1, iv p2, rv b1, rv b7, rv b13, rv b1, rv b7, .unset] [(.ref b13)])) t → Steps p.tables e below (s₁.setTop f0) t := fun t k => R207 t (by
        show Steps p.tables e below (T206.setTop (mkF m 50 #[iv p0, iv p1, iv p2, rv b1, rv b7, rv b13, rv b1, rv b7, .unset] [.null])) _
        refine XS.ifnonnullNo X206.here hx rfl (hb hby at_50) rfl ?_
        show Steps p.tables e below (T206.setTop (mkF m 53 #[iv p0, iv p1, iv p2, rv b1, rv b7, rv b13, rv b1, rv b7, .unset] [])) _
        refine XS.aload X206.here hx rfl (hb hby at_53) rfl rfl ?_
        exact k)
      obtain ⟨T209, X209, e209, st209⟩ := getF X206 hx hZ hown (host := "") (Or.inl (hw _ (List.mem_of_getElem? (i := 35) rfl))) Via.refl e206 p16_2 (g := (mkF m 55 #[iv p0, iv p1, iv p2, rv b1, rv b7, rv b13, rv b1, rv b7, .unset] [(.ref b13)])) rfl rfl (hb hby at_55)
      have R210 : ∀ t, Steps p.tables e below (T209.setTop (mkF m 58 #[iv p0, iv p1, iv p2, rv b1, rv b7, rv b13, rv b1, rv b7, .unset] [.null])) t → Steps p.tables e below (s₁.setTop f0) t := fun t k => R208 t (st209 t k)
      have R211 : ∀ t, Steps p.tables e below (T209.setTop (mkF m 63 #[iv p0, iv p1, iv p2, rv b1, rv b7, rv b13, rv b1, rv b7, .unset] [(.ref b13)])) t → Steps p.tables e below (s₁.setTop f0) t := fun t k => R210 t (by
        show Steps p.tables e below (T209.setTop (mkF m 58 #[iv p0, iv p1, iv p2, rv b1, rv b7, rv b13, rv b1, rv b7, .unset] [.null])) _
        refine XS.ifnonnullNo X209.here hx rfl (hb hby at_58) rfl ?_
        show Steps p.tables e below (T209.setTop (mkF m 61 #[iv p0, iv p1, iv p2, rv b1, rv b7, rv b13, rv b1, rv b7, .unset] [])) _
        refine XS.aload X209.here hx rfl (hb hby at_61) rfl rfl ?_
        exact k)
      obtain ⟨T212, X212, e212, st212⟩ := getF X209 hx hZ hown (host := "") (Or.inl (hw _ (List.mem_of_getElem? (i := 37) rfl))) Via.refl e209 p16_3 (g := (mkF m 63 #[iv p0, iv p1, iv p2, rv b1, rv b7, rv b13, rv b1, rv b7, .unset] [(.ref b13)])) rfl rfl (hb hby at_63)
      have R213 : ∀ t, Steps p.tables e below (T212.setTop (mkF m 66 #[iv p0, iv p1, iv p2, rv b1, rv b7, rv b13, rv b1, rv b7, .unset] [.null])) t → Steps p.tables e below (s₁.setTop f0) t := fun t k => R211 t (st212 t k)
      have R214 : ∀ t, Steps p.tables e below (T212.setTop (mkF m 82 #[iv p0, iv p1, iv p2, rv b1, rv b7, rv b13, rv b1, rv b7, iv (1 : Int32)] [.null, .null, (.ref b1), (.ref b13)])) t → Steps p.tables e below (s₁.setTop f0) t := fun t k => R213 t (by
        show Steps p.tables e below (T212.setTop (mkF m 66 #[iv p0, iv p1, iv p2, rv b1, rv b7, rv b13, rv b1, rv b7, .unset] [.null])) _
        refine XS.ifnonnullNo X212.here hx rfl (hb hby at_66) rfl ?_
        show Steps p.tables e below (T212.setTop (mkF m 69 #[iv p0, iv p1, iv p2, rv b1, rv b7, rv b13, rv b1, rv b7, .unset] [])) _
        refine XS.iconst X212.here hx rfl (hb hby at_69) ?_
        show Steps p.tables e below (T212.setTop (mkF m 70 #[iv p0, iv p1, iv p2, rv b1, rv b7, rv b13, rv b1, rv b7, .unset] [(.int (1 : Int32))])) _
        refine XS.goto X212.here hx rfl (pc0 := 70) (pc' := 74) rfl (hb hby at_70) (by decide) (by decide) ?_
        show Steps p.tables e below (T212.setTop (mkF m 74 #[iv p0, iv p1, iv p2, rv b1, rv b7, rv b13, rv b1, rv b7, .unset] [(.int (1 : Int32))])) _
        refine XS.istore X212.here hx rfl (hb hby at_74) rfl (l' := #[iv p0, iv p1, iv p2, rv b1, rv b7, rv b13, rv b1, rv b7, iv (1 : Int32)]) rfl ?_
        show Steps p.tables e below (T212.setTop (mkF m 76 #[iv p0, iv p1, iv p2, rv b1, rv b7, rv b13, rv b1, rv b7, iv (1 : Int32)] [])) _
        refine XS.aload X212.here hx rfl (hb hby at_76) rfl rfl ?_
        show Steps p.tables e below (T212.setTop (mkF m 78 #[iv p0, iv p1, iv p2, rv b1, rv b7, rv b13, rv b1, rv b7, iv (1 : Int32)] [(.ref b13)])) _
        refine XS.aload X212.here hx rfl (hb hby at_78) rfl rfl ?_
        show Steps p.tables e below (T212.setTop (mkF m 80 #[iv p0, iv p1, iv p2, rv b1, rv b7, rv b13, rv b1, rv b7, iv (1 : Int32)] [(.ref b1), (.ref b13)])) _
        refine XS.aconstNull X212.here hx rfl (hb hby at_80) ?_
        show Steps p.tables e below (T212.setTop (mkF m 81 #[iv p0, iv p1, iv p2, rv b1, rv b7, rv b13, rv b1, rv b7, iv (1 : Int32)] [.null, (.ref b1), (.ref b13)])) _
        refine XS.aconstNull X212.here hx rfl (hb hby at_81) ?_
        exact k)
      obtain ⟨cq215, kq215, q215a, q215b, q215c⟩ := isOf hZ e212 f16_E_b13
      obtain ⟨_, _, ⟨T215, L215, k215, n215⟩, -, X215, ⟨Lc215, hQ215, l215, y215, z215⟩, st215⟩ := X212.virtualBack hx (y := (⟨sN0, "keep", sN1⟩ : MethodName)) (z := (⟨sN0, "keep", sN1⟩ : MethodName)) hown (mvT hZ (hw _ (List.mem_of_getElem? (i := 39) rfl))) (mvT hZ (hw _ (List.mem_of_getElem? (i := 40) rfl))) (notFace_of_selects (args := #[]) (mvT hZ (hw _ (List.mem_of_getElem? (i := 42) rfl)))) (mvT hZ (hw _ (List.mem_of_getElem? (i := 42) rfl))) (mvT hZ (hw _ (List.mem_of_getElem? (i := 41) rfl))) (by decide) (backOf (W := 0) (rmKeepNR l Z a0 hw [] b13 b1 T16.heap n0 z16 f16_E_b13 p16_1 p16_2 p16_3 g_b13) hZ (hw _ (List.mem_of_getElem? (i := 43) rfl)) (hw _ (List.mem_of_getElem? (i := 22) rfl)) (by decide) (by decide)) q215a q215c (g := (mkF m 82 #[iv p0, iv p1, iv p2, rv b1, rv b7, rv b13, rv b1, rv b7, iv (1 : Int32)] [.null, .null, (.ref b1), (.ref b13)])) rfl (by rw [hml]; rfl) (Steps.refl _) (argsL := [(.ref b1), .null, .null]) (rest := []) (lenOf pd_6 rfl) rfl (by show 2 * 0 + _ ≤ _; exact Nat.le_of_eq rfl) (hb hby at_82) (fun _ _ => ⟨rfl, e212, (by decide : 9 + 0 ≤ _), (by decide : 114 + 0 ≤ _)⟩)
      dsimp only [Pt.U, Pt.locs, Pt.cells, Pt.slots] at X215 l215 y215 z215 st215 hQ215
      subst l215 y215 z215
      obtain ⟨rfl, N215q, p215_0, p215_1, p215_2, p215_3⟩ := hQ215
      have N215 := Fr.app N132 N215q
      have f215_E_b1 : Exa Z T215.heap b1 sN2 := f16_E_b1.keep p215_0
      have f215_E_b7 : Exa Z T215.heap b7 sN2 := f16_E_b7.keep p215_0
      have f215_E_b13 : Exa Z T215.heap b13 sN0 := f16_E_b13.keep p215_0
      have z215 : n0 ≤ T215.heap.size := Nat.le_trans z16 p215_0.1
      have K215 : Keep h0 T215.heap [] := K16.trans p215_0 (allS (Or.inr sz_b13) all0)
      have R216 : ∀ t, Steps p.tables e below (T215.setTop (mkF m 85 #[iv p0, iv p1, iv p2, rv b1, rv b7, rv b13, rv b1, rv b7, iv (1 : Int32)] [])) t → Steps p.tables e below (s₁.setTop f0) t := fun t k => R214 t (st215.trans k)
      have R217 : ∀ t, Steps p.tables e below (T215.setTop (mkF m 92 #[iv p0, iv p1, iv p2, rv b1, rv b7, rv b13, rv b1, rv b7, iv (1 : Int32)] [(.ref b13)])) t → Steps p.tables e below (s₁.setTop f0) t := fun t k => R216 t (by
        show Steps p.tables e below (T215.setTop (mkF m 85 #[iv p0, iv p1, iv p2, rv b1, rv b7, rv b13, rv b1, rv b7, iv (1 : Int32)] [])) _
        refine XS.iload X215.here hx rfl (hb hby at_85) rfl  ?_
        show Steps p.tables e below (T215.setTop (mkF m 87 #[iv p0, iv p1, iv p2, rv b1, rv b7, rv b13, rv b1, rv b7, iv (1 : Int32)] [(.int (1 : Int32))])) _
        refine XS.ifNo X215.here hx rfl (hb hby at_87) rfl ((if0 _ _).trans (feq (by decide : ¬ ((1 : Int32) = (0 : Int32)))).1) ?_
        show Steps p.tables e below (T215.setTop (mkF m 90 #[iv p0, iv p1, iv p2, rv b1, rv b7, rv b13, rv b1, rv b7, iv (1 : Int32)] [])) _
        refine XS.aload X215.here hx rfl (hb hby at_90) rfl rfl ?_
        exact k)
      obtain ⟨T218, X218, e218, st218⟩ := getF X215 hx hZ hown (host := "") (Or.inl (hw _ (List.mem_of_getElem? (i := 33) rfl))) Via.refl rfl p215_1 (g := (mkF m 92 #[iv p0, iv p1, iv p2, rv b1, rv b7, rv b13, rv b1, rv b7, iv (1 : Int32)] [(.ref b13)])) rfl rfl (hb hby at_92)
      have R219 : ∀ t, Steps p.tables e below (T218.setTop (mkF m 95 #[iv p0, iv p1, iv p2, rv b1, rv b7, rv b13, rv b1, rv b7, iv (1 : Int32)] [(.ref b1)])) t → Steps p.tables e below (s₁.setTop f0) t := fun t k => R217 t (st218 t k)
      have R220 : ∀ t, Steps p.tables e below (T218.setTop (mkF m 102 #[iv p0, iv p1, iv p2, rv b1, rv b7, rv b13, rv b1, rv b7, iv (1 : Int32)] [(.ref b13)])) t → Steps p.tables e below (s₁.setTop f0) t := fun t k => R219 t (by
        show Steps p.tables e below (T218.setTop (mkF m 95 #[iv p0, iv p1, iv p2, rv b1, rv b7, rv b13, rv b1, rv b7, iv (1 : Int32)] [(.ref b1)])) _
        refine XS.aload X218.here hx rfl (hb hby at_95) rfl rfl ?_
        show Steps p.tables e below (T218.setTop (mkF m 97 #[iv p0, iv p1, iv p2, rv b1, rv b7, rv b13, rv b1, rv b7, iv (1 : Int32)] [(.ref b1), (.ref b1)])) _
        refine Jvm.RoadKit.acmp (g := (mkF m 97 #[iv p0, iv p1, iv p2, rv b1, rv b7, rv b13, rv b1, rv b7, iv (1 : Int32)] [(.ref b1), (.ref b1)])) X218 hx rfl rfl rfl (pc0 := 97) (pc' := 100) (same := true) rfl (hb hby at_97) rfl (decide_eq_true rfl) (by decide) (by decide) ?_
        show Steps p.tables e below (T218.setTop (mkF m 100 #[iv p0, iv p1, iv p2, rv b1, rv b7, rv b13, rv b1, rv b7, iv (1 : Int32)] [])) _
        refine XS.aload X218.here hx rfl (hb hby at_100) rfl rfl ?_
        exact k)
      obtain ⟨T221, X221, e221, st221⟩ := getF X218 hx hZ hown (host := "") (Or.inl (hw _ (List.mem_of_getElem? (i := 35) rfl))) Via.refl e218 p215_2 (g := (mkF m 102 #[iv p0, iv p1, iv p2, rv b1, rv b7, rv b13, rv b1, rv b7, iv (1 : Int32)] [(.ref b13)])) rfl rfl (hb hby at_102)
      have R222 : ∀ t, Steps p.tables e below (T221.setTop (mkF m 105 #[iv p0, iv p1, iv p2, rv b1, rv b7, rv b13, rv b1, rv b7, iv (1 : Int32)] [.null])) t → Steps p.tables e below (s₁.setTop f0) t := fun t k => R220 t (st221 t k)
      have R223 : ∀ t, Steps p.tables e below (T221.setTop (mkF m 110 #[iv p0, iv p1, iv p2, rv b1, rv b7, rv b13, rv b1, rv b7, iv (1 : Int32)] [(.ref b13)])) t → Steps p.tables e below (s₁.setTop f0) t := fun t k => R222 t (by
        show Steps p.tables e below (T221.setTop (mkF m 105 #[iv p0, iv p1, iv p2, rv b1, rv b7, rv b13, rv b1, rv b7, iv (1 : Int32)] [.null])) _
        refine XS.ifnonnullNo X221.here hx rfl (hb hby at_105) rfl ?_
        show Steps p.tables e below (T221.setTop (mkF m 108 #[iv p0, iv p1, iv p2, rv b1, rv b7, rv b13, rv b1, rv b7, iv (1 : Int32)] [])) _
        refine XS.aload X221.here hx rfl (hb hby at_108) rfl rfl ?_
        exact k)
      obtain ⟨T224, X224, e224, st224⟩ := getF X221 hx hZ hown (host := "") (Or.inl (hw _ (List.mem_of_getElem? (i := 37) rfl))) Via.refl e221 p215_3 (g := (mkF m 110 #[iv p0, iv p1, iv p2, rv b1, rv b7, rv b13, rv b1, rv b7, iv (1 : Int32)] [(.ref b13)])) rfl rfl (hb hby at_110)
      have R225 : ∀ t, Steps p.tables e below (T224.setTop (mkF m 113 #[iv p0, iv p1, iv p2, rv b1, rv b7, rv b13, rv b1, rv b7, iv (1 : Int32)] [.null])) t → Steps p.tables e below (s₁.setTop f0) t := fun t k => R223 t (st224 t k)
      have R226 : ∀ t, Steps p.tables e below (T224.setTop (mkF m 129 #[iv p0, iv p1, iv p2, rv b1, rv b7, rv b13, rv b1, rv b7, iv (1 : Int32)] [.null, .null, (.ref b7), (.ref b13)])) t → Steps p.tables e below (s₁.setTop f0) t := fun t k => R225 t (by
        show Steps p.tables e below (T224.setTop (mkF m 113 #[iv p0, iv p1, iv p2, rv b1, rv b7, rv b13, rv b1, rv b7, iv (1 : Int32)] [.null])) _
        refine XS.ifnonnullNo X224.here hx rfl (hb hby at_113) rfl ?_
        show Steps p.tables e below (T224.setTop (mkF m 116 #[iv p0, iv p1, iv p2, rv b1, rv b7, rv b13, rv b1, rv b7, iv (1 : Int32)] [])) _
        refine XS.iconst X224.here hx rfl (hb hby at_116) ?_
        show Steps p.tables e below (T224.setTop (mkF m 117 #[iv p0, iv p1, iv p2, rv b1, rv b7, rv b13, rv b1, rv b7, iv (1 : Int32)] [(.int (1 : Int32))])) _
        refine XS.goto X224.here hx rfl (pc0 := 117) (pc' := 121) rfl (hb hby at_117) (by decide) (by decide) ?_
        show Steps p.tables e below (T224.setTop (mkF m 121 #[iv p0, iv p1, iv p2, rv b1, rv b7, rv b13, rv b1, rv b7, iv (1 : Int32)] [(.int (1 : Int32))])) _
        refine XS.istore X224.here hx rfl (hb hby at_121) rfl (l' := #[iv p0, iv p1, iv p2, rv b1, rv b7, rv b13, rv b1, rv b7, iv (1 : Int32)]) rfl ?_
        show Steps p.tables e below (T224.setTop (mkF m 123 #[iv p0, iv p1, iv p2, rv b1, rv b7, rv b13, rv b1, rv b7, iv (1 : Int32)] [])) _
        refine XS.aload X224.here hx rfl (hb hby at_123) rfl rfl ?_
        show Steps p.tables e below (T224.setTop (mkF m 125 #[iv p0, iv p1, iv p2, rv b1, rv b7, rv b13, rv b1, rv b7, iv (1 : Int32)] [(.ref b13)])) _
        refine XS.aload X224.here hx rfl (hb hby at_125) rfl rfl ?_
        show Steps p.tables e below (T224.setTop (mkF m 127 #[iv p0, iv p1, iv p2, rv b1, rv b7, rv b13, rv b1, rv b7, iv (1 : Int32)] [(.ref b7), (.ref b13)])) _
        refine XS.aconstNull X224.here hx rfl (hb hby at_127) ?_
        show Steps p.tables e below (T224.setTop (mkF m 128 #[iv p0, iv p1, iv p2, rv b1, rv b7, rv b13, rv b1, rv b7, iv (1 : Int32)] [.null, (.ref b7), (.ref b13)])) _
        refine XS.aconstNull X224.here hx rfl (hb hby at_128) ?_
        exact k)
      obtain ⟨cq227, kq227, q227a, q227b, q227c⟩ := isOf hZ e224 f215_E_b13
      obtain ⟨_, _, ⟨T227, L227, k227, n227⟩, -, X227, ⟨Lc227, hQ227, l227, y227, z227⟩, st227⟩ := X224.virtualBack hx (y := (⟨sN0, "keep", sN1⟩ : MethodName)) (z := (⟨sN0, "keep", sN1⟩ : MethodName)) hown (mvT hZ (hw _ (List.mem_of_getElem? (i := 39) rfl))) (mvT hZ (hw _ (List.mem_of_getElem? (i := 40) rfl))) (notFace_of_selects (args := #[]) (mvT hZ (hw _ (List.mem_of_getElem? (i := 42) rfl)))) (mvT hZ (hw _ (List.mem_of_getElem? (i := 42) rfl))) (mvT hZ (hw _ (List.mem_of_getElem? (i := 41) rfl))) (by decide) (backOf (W := 0) (rmKeepRR l Z a0 hw [] b13 b1 b7 T215.heap n0 z215 f215_E_b13 p215_1 p215_2 p215_3 g_b13) hZ (hw _ (List.mem_of_getElem? (i := 43) rfl)) (hw _ (List.mem_of_getElem? (i := 22) rfl)) (by decide) (by decide)) q227a q227c (g := (mkF m 129 #[iv p0, iv p1, iv p2, rv b1, rv b7, rv b13, rv b1, rv b7, iv (1 : Int32)] [.null, .null, (.ref b7), (.ref b13)])) rfl (by rw [hml]; rfl) (Steps.refl _) (argsL := [(.ref b7), .null, .null]) (rest := []) (lenOf pd_6 rfl) rfl (by show 2 * 0 + _ ≤ _; exact Nat.le_of_eq rfl) (hb hby at_129) (fun _ _ => ⟨rfl, e224, (by decide : 9 + 0 ≤ _), (by decide : 114 + 0 ≤ _)⟩)
      dsimp only [Pt.U, Pt.locs, Pt.cells, Pt.slots] at X227 l227 y227 z227 st227 hQ227
      subst l227 y227 z227
      obtain ⟨rfl, N227q, p227_0, p227_1, p227_2, p227_3⟩ := hQ227
      have N227 := Fr.app N215 N227q
      have f227_E_b1 : Exa Z T227.heap b1 sN2 := f215_E_b1.keep p227_0
      have f227_E_b7 : Exa Z T227.heap b7 sN2 := f215_E_b7.keep p227_0
      have f227_E_b13 : Exa Z T227.heap b13 sN0 := f215_E_b13.keep p227_0
      have z227 : n0 ≤ T227.heap.size := Nat.le_trans z215 p227_0.1
      have K227 : Keep h0 T227.heap [] := K215.trans p227_0 (allS (Or.inr sz_b13) all0)
      have R228 : ∀ t, Steps p.tables e below (T227.setTop (mkF m 132 #[iv p0, iv p1, iv p2, rv b1, rv b7, rv b13, rv b1, rv b7, iv (1 : Int32)] [])) t → Steps p.tables e below (s₁.setTop f0) t := fun t k => R226 t (st227.trans k)
      have R229 : ∀ t, Steps p.tables e below (T227.setTop (mkF m 139 #[iv p0, iv p1, iv p2, rv b1, rv b7, rv b13, rv b1, rv b7, iv (1 : Int32)] [(.ref b13)])) t → Steps p.tables e below (s₁.setTop f0) t := fun t k => R228 t (by
        show Steps p.tables e below (T227.setTop (mkF m 132 #[iv p0, iv p1, iv p2, rv b1, rv b7, rv b13, rv b1, rv b7, iv (1 : Int32)] [])) _
        refine XS.iload X227.here hx rfl (hb hby at_132) rfl  ?_
        show Steps p.tables e below (T227.setTop (mkF m 134 #[iv p0, iv p1, iv p2, rv b1, rv b7, rv b13, rv b1, rv b7, iv (1 : Int32)] [(.int (1 : Int32))])) _
        refine XS.ifNo X227.here hx rfl (hb hby at_134) rfl ((if0 _ _).trans (feq (by decide : ¬ ((1 : Int32) = (0 : Int32)))).1) ?_
        show Steps p.tables e below (T227.setTop (mkF m 137 #[iv p0, iv p1, iv p2, rv b1, rv b7, rv b13, rv b1, rv b7, iv (1 : Int32)] [])) _
        refine XS.aload X227.here hx rfl (hb hby at_137) rfl rfl ?_
        exact k)
      obtain ⟨T230, X230, e230, st230⟩ := getF X227 hx hZ hown (host := "") (Or.inl (hw _ (List.mem_of_getElem? (i := 33) rfl))) Via.refl rfl p227_1 (g := (mkF m 139 #[iv p0, iv p1, iv p2, rv b1, rv b7, rv b13, rv b1, rv b7, iv (1 : Int32)] [(.ref b13)])) rfl rfl (hb hby at_139)
      have R231 : ∀ t, Steps p.tables e below (T230.setTop (mkF m 142 #[iv p0, iv p1, iv p2, rv b1, rv b7, rv b13, rv b1, rv b7, iv (1 : Int32)] [(.ref b7)])) t → Steps p.tables e below (s₁.setTop f0) t := fun t k => R229 t (st230 t k)
      have R232 : ∀ t, Steps p.tables e below (T230.setTop (mkF m 149 #[iv p0, iv p1, iv p2, rv b1, rv b7, rv b13, rv b1, rv b7, iv (1 : Int32)] [(.ref b13)])) t → Steps p.tables e below (s₁.setTop f0) t := fun t k => R231 t (by
        show Steps p.tables e below (T230.setTop (mkF m 142 #[iv p0, iv p1, iv p2, rv b1, rv b7, rv b13, rv b1, rv b7, iv (1 : Int32)] [(.ref b7)])) _
        refine XS.aload X230.here hx rfl (hb hby at_142) rfl rfl ?_
        show Steps p.tables e below (T230.setTop (mkF m 144 #[iv p0, iv p1, iv p2, rv b1, rv b7, rv b13, rv b1, rv b7, iv (1 : Int32)] [(.ref b7), (.ref b7)])) _
        refine Jvm.RoadKit.acmp (g := (mkF m 144 #[iv p0, iv p1, iv p2, rv b1, rv b7, rv b13, rv b1, rv b7, iv (1 : Int32)] [(.ref b7), (.ref b7)])) X230 hx rfl rfl rfl (pc0 := 144) (pc' := 147) (same := true) rfl (hb hby at_144) rfl (decide_eq_true rfl) (by decide) (by decide) ?_
        show Steps p.tables e below (T230.setTop (mkF m 147 #[iv p0, iv p1, iv p2, rv b1, rv b7, rv b13, rv b1, rv b7, iv (1 : Int32)] [])) _
        refine XS.aload X230.here hx rfl (hb hby at_147) rfl rfl ?_
        exact k)
      obtain ⟨T233, X233, e233, st233⟩ := getF X230 hx hZ hown (host := "") (Or.inl (hw _ (List.mem_of_getElem? (i := 35) rfl))) Via.refl e230 p227_2 (g := (mkF m 149 #[iv p0, iv p1, iv p2, rv b1, rv b7, rv b13, rv b1, rv b7, iv (1 : Int32)] [(.ref b13)])) rfl rfl (hb hby at_149)
      have R234 : ∀ t, Steps p.tables e below (T233.setTop (mkF m 152 #[iv p0, iv p1, iv p2, rv b1, rv b7, rv b13, rv b1, rv b7, iv (1 : Int32)] [.null])) t → Steps p.tables e below (s₁.setTop f0) t := fun t k => R232 t (st233 t k)
      have R235 : ∀ t, Steps p.tables e below (T233.setTop (mkF m 157 #[iv p0, iv p1, iv p2, rv b1, rv b7, rv b13, rv b1, rv b7, iv (1 : Int32)] [(.ref b13)])) t → Steps p.tables e below (s₁.setTop f0) t := fun t k => R234 t (by
        show Steps p.tables e below (T233.setTop (mkF m 152 #[iv p0, iv p1, iv p2, rv b1, rv b7, rv b13, rv b1, rv b7, iv (1 : Int32)] [.null])) _
        refine XS.ifnonnullNo X233.here hx rfl (hb hby at_152) rfl ?_
        show Steps p.tables e below (T233.setTop (mkF m 155 #[iv p0, iv p1, iv p2, rv b1, rv b7, rv b13, rv b1, rv b7, iv (1 : Int32)] [])) _
        refine XS.aload X233.here hx rfl (hb hby at_155) rfl rfl ?_
        exact k)
      obtain ⟨T236, X236, e236, st236⟩ := getF X233 hx hZ hown (host := "") (Or.inl (hw _ (List.mem_of_getElem? (i := 37) rfl))) Via.refl e233 p227_3 (g := (mkF m 157 #[iv p0, iv p1, iv p2, rv b1, rv b7, rv b13, rv b1, rv b7, iv (1 : Int32)] [(.ref b13)])) rfl rfl (hb hby at_157)
      have R237 : ∀ t, Steps p.tables e below (T236.setTop (mkF m 160 #[iv p0, iv p1, iv p2, rv b1, rv b7, rv b13, rv b1, rv b7, iv (1 : Int32)] [.null])) t → Steps p.tables e below (s₁.setTop f0) t := fun t k => R235 t (st236 t k)
      have R238 : ∀ t, Steps p.tables e below (T236.setTop (mkF m 172 #[iv p0, iv p1, iv p2, rv b1, rv b7, rv b13, rv b1, rv b7, iv (1 : Int32)] [(.int (1 : Int32))])) t → Steps p.tables e below (s₁.setTop f0) t := fun t k => R237 t (by
        show Steps p.tables e below (T236.setTop (mkF m 160 #[iv p0, iv p1, iv p2, rv b1, rv b7, rv b13, rv b1, rv b7, iv (1 : Int32)] [.null])) _
        refine XS.ifnonnullNo X236.here hx rfl (hb hby at_160) rfl ?_
        show Steps p.tables e below (T236.setTop (mkF m 163 #[iv p0, iv p1, iv p2, rv b1, rv b7, rv b13, rv b1, rv b7, iv (1 : Int32)] [])) _
        refine XS.iconst X236.here hx rfl (hb hby at_163) ?_
        show Steps p.tables e below (T236.setTop (mkF m 164 #[iv p0, iv p1, iv p2, rv b1, rv b7, rv b13, rv b1, rv b7, iv (1 : Int32)] [(.int (1 : Int32))])) _
        refine XS.goto X236.here hx rfl (pc0 := 164) (pc' := 168) rfl (hb hby at_164) (by decide) (by decide) ?_
        show Steps p.tables e below (T236.setTop (mkF m 168 #[iv p0, iv p1, iv p2, rv b1, rv b7, rv b13, rv b1, rv b7, iv (1 : Int32)] [(.int (1 : Int32))])) _
        refine XS.istore X236.here hx rfl (hb hby at_168) rfl (l' := #[iv p0, iv p1, iv p2, rv b1, rv b7, rv b13, rv b1, rv b7, iv (1 : Int32)]) rfl ?_
        show Steps p.tables e below (T236.setTop (mkF m 170 #[iv p0, iv p1, iv p2, rv b1, rv b7, rv b13, rv b1, rv b7, iv (1 : Int32)] [])) _
        refine XS.iload X236.here hx rfl (hb hby at_170) rfl  ?_
        exact k)
      obtain ⟨fs, hr, hrun, hended, hW, hsame⟩ := X236.leave (v := some (.int (1 : Int32))) (fun h => by rw [Bd.returns] at h; cases h)
      refine ⟨_, _, pre0 _ (R238 _ ?_), hrun, hended, _, _, rfl, ?_, ⟨_, rfl⟩, hW, hsame.mono (by decide) (by decide)⟩
      · show Steps p.tables e below (T236.setTop (mkF m 172 #[iv p0, iv p1, iv p2, rv b1, rv b7, rv b13, rv b1, rv b7, iv (1 : Int32)] [(.int (1 : Int32))])) _
        exact retN X236 hx (t := .boolean) Bd.returns (by simp) (hb hby at_172) hr
      · show Q_rmLaw Z p0 p1 p2 h0 n0 _ T236.heap _
        rw [e236]
        exact ⟨rfl, N227⟩
  · skip
    have R239 : ∀ t, Steps p.tables e below (T19.setTop (mkF m 34 #[iv p0, iv p1, iv p2, rv b1, rv b7, rv b13, .unset, .unset, .unset] [(.ref b7)])) t → Steps p.tables e below (s₁.setTop f0) t := by have q := R20; rw [(hp : (own_pick p1 b1 b7) = (.ref b7))] at q; exact q
    have R240 : ∀ t, Steps p.tables e below (T19.setTop (mkF m 40 #[iv p0, iv p1, iv p2, rv b1, rv b7, rv b13, rv b7, .unset, .unset] [(.ref b7), (.ref b1), (.int p2)])) t → Steps p.tables e below (s₁.setTop f0) t := fun t k => R239 t (by
      show Steps p.tables e below (T19.setTop (mkF m 34 #[iv p0, iv p1, iv p2, rv b1, rv b7, rv b13, .unset, .unset, .unset] [(.ref b7)])) _
      refine XS.astore X19.here hx rfl (hb hby at_34) rfl rfl (l' := #[iv p0, iv p1, iv p2, rv b1, rv b7, rv b13, rv b7, .unset, .unset]) rfl ?_
      show Steps p.tables e below (T19.setTop (mkF m 36 #[iv p0, iv p1, iv p2, rv b1, rv b7, rv b13, rv b7, .unset, .unset] [])) _
      refine XS.iloadN X19.here hx rfl (hb hby at_36) rfl  ?_
      show Steps p.tables e below (T19.setTop (mkF m 37 #[iv p0, iv p1, iv p2, rv b1, rv b7, rv b13, rv b7, .unset, .unset] [(.int p2)])) _
      refine XS.aloadN X19.here hx rfl (hb hby at_37) rfl rfl ?_
      show Steps p.tables e below (T19.setTop (mkF m 38 #[iv p0, iv p1, iv p2, rv b1, rv b7, rv b13, rv b7, .unset, .unset] [(.ref b1), (.int p2)])) _
      refine XS.aload X19.here hx rfl (hb hby at_38) rfl rfl ?_
      exact k)
    obtain ⟨_, _, ⟨T241, L241, k241, n241⟩, -, X241, ⟨Lc241, hQ241, l241, y241, z241⟩, st241⟩ := Jvm.LawKit.callS X19 hx (y := (⟨"com/example/biaoji/biaoji/SpareKeepPinLaw", "pick", "(ILcom/example/biaoji/biaoji/NameTable;Lcom/example/biaoji/biaoji/NameTable;)Lcom/example/biaoji/biaoji/NameTable;"⟩ : MethodName)) hown (mvT hZ (hw _ (List.mem_of_getElem? (i := 29) rfl))) (mvT hZ (hw _ (List.mem_of_getElem? (i := 30) rfl))) (mvT hZ (hw _ (List.mem_of_getElem? (i := 31) rfl))) (mvT hZ (hw _ (List.mem_of_getElem? (i := 32) rfl))) (by decide) (backOf (W := 0) (rmPick l Z a0 hw [] p2 b1 b7 T16.heap n0 z16) hZ (hw _ (List.mem_of_getElem? (i := 32) rfl)) (hw _ (List.mem_of_getElem? (i := 31) rfl)) (by decide) (by decide)) (g := (mkF m 40 #[iv p0, iv p1, iv p2, rv b1, rv b7, rv b13, rv b7, .unset, .unset] [(.ref b7), (.ref b1), (.int p2)])) rfl (by rw [hml]; rfl) (argsL := [(.int p2), (.ref b1), (.ref b7)]) (rest := []) (lenOf pd_5 rfl) rfl (by show 2 * 0 + _ ≤ _; exact Nat.le_of_eq rfl) (hb hby at_40) (fun _ _ => ⟨rfl, p19_0, (by decide : 9 + 0 ≤ _), (by decide : 114 + 0 ≤ _)⟩)
    dsimp only [Pt.U, Pt.locs, Pt.cells, Pt.slots] at X241 l241 y241 z241 st241 hQ241
    subst l241 y241 z241
    obtain ⟨rfl, N241q, p241_0⟩ := hQ241
    have N241 := Fr.app N19 N241q
    have R242 : ∀ t, Steps p.tables e below (T241.setTop (mkF m 43 #[iv p0, iv p1, iv p2, rv b1, rv b7, rv b13, rv b7, .unset, .unset] [(own_pick p2 b1 b7)])) t → Steps p.tables e below (s₁.setTop f0) t := fun t k => R240 t (st241 t k)
    rcases own_pick3 p2 b1 b7 with hq | hq | hq
    · skip
      have R243 : ∀ t, Steps p.tables e below (T241.setTop (mkF m 43 #[iv p0, iv p1, iv p2, rv b1, rv b7, rv b13, rv b7, .unset, .unset] [.null])) t → Steps p.tables e below (s₁.setTop f0) t := by have q := R242; rw [(hq : (own_pick p2 b1 b7) = .null)] at q; exact q
      have R244 : ∀ t, Steps p.tables e below (T241.setTop (mkF m 47 #[iv p0, iv p1, iv p2, rv b1, rv b7, rv b13, rv b7, .val .null, .unset] [(.ref b13)])) t → Steps p.tables e below (s₁.setTop f0) t := fun t k => R243 t (by
        show Steps p.tables e below (T241.setTop (mkF m 43 #[iv p0, iv p1, iv p2, rv b1, rv b7, rv b13, rv b7, .unset, .unset] [.null])) _
        refine XS.astore X241.here hx rfl (hb hby at_43) rfl rfl (l' := #[iv p0, iv p1, iv p2, rv b1, rv b7, rv b13, rv b7, .val .null, .unset]) rfl ?_
        show Steps p.tables e below (T241.setTop (mkF m 45 #[iv p0, iv p1, iv p2, rv b1, rv b7, rv b13, rv b7, .val .null, .unset] [])) _
        refine XS.aload X241.here hx rfl (hb hby at_45) rfl rfl ?_
        exact k)
      obtain ⟨T245, X245, e245, st245⟩ := getF X241 hx hZ hown (host := "") (Or.inl (hw _ (List.mem_of_getElem? (i := 33) rfl))) Via.refl p241_0 p16_1 (g := (mkF m 47 #[iv p0, iv p1, iv p2, rv b1, rv b7, rv b13, rv b7, .val .null, .unset] [(.ref b13)])) rfl rfl (hb hby at_47)
      have R246 : ∀ t, Steps p.tables e below (T245.setTop (mkF m 50 #[iv p0, iv p1, iv p2, rv b1, rv b7, rv b13, rv b7, .val .null, .unset] [.null])) t → Steps p.tables e below (s₁.setTop f0) t := fun t k => R244 t (st245 t k)
      have R247 : ∀ t, Steps p.tables e below (T245.setTop (mkF m 55 #[iv p0, iv p1, iv p2, rv b1, rv b7, rv b13, rv b7, .val .null, .unset] [(.ref b13)])) t → Steps p.tables e below (s₁.setTop f0) t := fun t k => R246 t (by
        show Steps p.tables e below (T245.setTop (mkF m 50 #[iv p0, iv p1, iv p2, rv b1, rv b7, rv b13, rv b7, .val .null, .unset] [.null])) _
        refine XS.ifnonnullNo X245.here hx rfl (hb hby at_50) rfl ?_
        show Steps p.tables e below (T245.setTop (mkF m 53 #[iv p0, iv p1, iv p2, rv b1, rv b7, rv b13, rv b7, .val .null, .unset] [])) _
        refine XS.aload X245.here hx rfl (hb hby at_53) rfl rfl ?_
        exact k)
      obtain ⟨T248, X248, e248, st248⟩ := getF X245 hx hZ hown (host := "") (Or.inl (hw _ (List.mem_of_getElem? (i := 35) rfl))) Via.refl e245 p16_2 (g := (mkF m 55 #[iv p0, iv p1, iv p2, rv b1, rv b7, rv b13, rv b7, .val .null, .unset] [(.ref b13)])) rfl rfl (hb hby at_55)
      have R249 : ∀ t, Steps p.tables e below (T248.setTop (mkF m 58 #[iv p0, iv p1, iv p2, rv b1, rv b7, rv b13, rv b7, .val .null, .unset] [.null])) t → Steps p.tables e below (s₁.setTop f0) t := fun t k => R247 t (st248 t k)
      have R250 : ∀ t, Steps p.tables e below (T248.setTop (mkF m 63 #[iv p0, iv p1, iv p2, rv b1, rv b7, rv b13, rv b7, .val .null, .unset] [(.ref b13)])) t → Steps p.tables e below (s₁.setTop f0) t := fun t k => R249 t (by
        show Steps p.tables e below (T248.setTop (mkF m 58 #[iv p0, iv p1, iv p2, rv b1, rv b7, rv b13, rv b7, .val .null, .unset] [.null])) _
        refine XS.ifnonnullNo X248.here hx rfl (hb hby at_58) rfl ?_
        show Steps p.tables e below (T248.setTop (mkF m 61 #[iv p0, iv p1, iv p2, rv b1, rv b7, rv b13, rv b7, .val .null, .unset] [])) _
        refine XS.aload X248.here hx rfl (hb hby at_61) rfl rfl ?_
        exact k)
      obtain ⟨T251, X251, e251, st251⟩ := getF X248 hx hZ hown (host := "") (Or.inl (hw _ (List.mem_of_getElem? (i := 37) rfl))) Via.refl e248 p16_3 (g := (mkF m 63 #[iv p0, iv p1, iv p2, rv b1, rv b7, rv b13, rv b7, .val .null, .unset] [(.ref b13)])) rfl rfl (hb hby at_63)
      have R252 : ∀ t, Steps p.tables e below (T251.setTop (mkF m 66 #[iv p0, iv p1, iv p2, rv b1, rv b7, rv b13, rv b7, .val .null, .unset] [.null])) t → Steps p.tables e below (s₁.setTop f0) t := fun t k => R250 t (st251 t k)
      have R253 : ∀ t, Steps p.tables e below (T251.setTop (mkF m 82 #[iv p0, iv p1, iv p2, rv b1, rv b7, rv b13, rv b7, .val .null, iv (1 : Int32)] [.null, .null, (.ref b7), (.ref b13)])) t → Steps p.tables e below (s₁.setTop f0) t := fun t k => R252 t (by
        show Steps p.tables e below (T251.setTop (mkF m 66 #[iv p0, iv p1, iv p2, rv b1, rv b7, rv b13, rv b7, .val .null, .unset] [.null])) _
        refine XS.ifnonnullNo X251.here hx rfl (hb hby at_66) rfl ?_
        show Steps p.tables e below (T251.setTop (mkF m 69 #[iv p0, iv p1, iv p2, rv b1, rv b7, rv b13, rv b7, .val .null, .unset] [])) _
        refine XS.iconst X251.here hx rfl (hb hby at_69) ?_
        show Steps p.tables e below (T251.setTop (mkF m 70 #[iv p0, iv p1, iv p2, rv b1, rv b7, rv b13, rv b7, .val .null, .unset] [(.int (1 : Int32))])) _
        refine XS.goto X251.here hx rfl (pc0 := 70) (pc' := 74) rfl (hb hby at_70) (by decide) (by decide) ?_
        show Steps p.tables e below (T251.setTop (mkF m 74 #[iv p0, iv p1, iv p2, rv b1, rv b7, rv b13, rv b7, .val .null, .unset] [(.int (1 : Int32))])) _
        refine XS.istore X251.here hx rfl (hb hby at_74) rfl (l' := #[iv p0, iv p1, iv p2, rv b1, rv b7, rv b13, rv b7, .val .null, iv (1 : Int32)]) rfl ?_
        show Steps p.tables e below (T251.setTop (mkF m 76 #[iv p0, iv p1, iv p2, rv b1, rv b7, rv b13, rv b7, .val .null, iv (1 : Int32)] [])) _
        refine XS.aload X251.here hx rfl (hb hby at_76) rfl rfl ?_
        show Steps p.tables e below (T251.setTop (mkF m 78 #[iv p0, iv p1, iv p2, rv b1, rv b7, rv b13, rv b7, .val .null, iv (1 : Int32)] [(.ref b13)])) _
        refine XS.aload X251.here hx rfl (hb hby at_78) rfl rfl ?_
        show Steps p.tables e below (T251.setTop (mkF m 80 #[iv p0, iv p1, iv p2, rv b1, rv b7, rv b13, rv b7, .val .null, iv (1 : Int32)] [(.ref b7), (.ref b13)])) _
        refine XS.aconstNull X251.here hx rfl (hb hby at_80) ?_
        show Steps p.tables e below (T251.setTop (mkF m 81 #[iv p0, iv p1, iv p2, rv b1, rv b7, rv b13, rv b7, .val .null, iv (1 : Int32)] [.null, (.ref b7), (.ref b13)])) _
        refine XS.aconstNull X251.here hx rfl (hb hby at_81) ?_
        exact k)
      obtain ⟨cq254, kq254, q254a, q254b, q254c⟩ := isOf hZ e251 f16_E_b13
      obtain ⟨_, _, ⟨T254, L254, k254, n254⟩, -, X254, ⟨Lc254, hQ254, l254, y254, z254⟩, st254⟩ := X251.virtualBack hx (y := (⟨sN0, "keep", sN1⟩ : MethodName)) (z := (⟨sN0, "keep", sN1⟩ : MethodName)) hown (mvT hZ (hw _ (List.mem_of_getElem? (i := 39) rfl))) (mvT hZ (hw _ (List.mem_of_getElem? (i := 40) rfl))) (notFace_of_selects (args := #[]) (mvT hZ (hw _ (List.mem_of_getElem? (i := 42) rfl)))) (mvT hZ (hw _ (List.mem_of_getElem? (i := 42) rfl))) (mvT hZ (hw _ (List.mem_of_getElem? (i := 41) rfl))) (by decide) (backOf (W := 0) (rmKeepNR l Z a0 hw [] b13 b7 T16.heap n0 z16 f16_E_b13 p16_1 p16_2 p16_3 g_b13) hZ (hw _ (List.mem_of_getElem? (i := 43) rfl)) (hw _ (List.mem_of_getElem? (i := 22) rfl)) (by decide) (by decide)) q254a q254c (g := (mkF m 82 #[iv p0, iv p1, iv p2, rv b1, rv b7, rv b13, rv b7, .val .null, iv (1 : Int32)] [.null, .null, (.ref b7), (.ref b13)])) rfl (by rw [hml]; rfl) (Steps.refl _) (argsL := [(.ref b7), .null, .null]) (rest := []) (lenOf pd_6 rfl) rfl (by show 2 * 0 + _ ≤ _; exact Nat.le_of_eq rfl) (hb hby at_82) (fun _ _ => ⟨rfl, e251, (by decide : 9 + 0 ≤ _), (by decide : 114 + 0 ≤ _)⟩)
      dsimp only [Pt.U, Pt.locs, Pt.cells, Pt.slots] at X254 l254 y254 z254 st254 hQ254
      subst l254 y254 z254
      obtain ⟨rfl, N254q, p254_0, p254_1, p254_2, p254_3⟩ := hQ254
      have N254 := Fr.app N241 N254q
      have f254_E_b1 : Exa Z T254.heap b1 sN2 := f16_E_b1.keep p254_0
      have f254_E_b7 : Exa Z T254.heap b7 sN2 := f16_E_b7.keep p254_0
      have f254_E_b13 : Exa Z T254.heap b13 sN0 := f16_E_b13.keep p254_0
      have z254 : n0 ≤ T254.heap.size := Nat.le_trans z16 p254_0.1
      have K254 : Keep h0 T254.heap [] := K16.trans p254_0 (allS (Or.inr sz_b13) all0)
      have R255 : ∀ t, Steps p.tables e below (T254.setTop (mkF m 85 #[iv p0, iv p1, iv p2, rv b1, rv b7, rv b13, rv b7, .val .null, iv (1 : Int32)] [])) t → Steps p.tables e below (s₁.setTop f0) t := fun t k => R253 t (st254.trans k)
      have R256 : ∀ t, Steps p.tables e below (T254.setTop (mkF m 92 #[iv p0, iv p1, iv p2, rv b1, rv b7, rv b13, rv b7, .val .null, iv (1 : Int32)] [(.ref b13)])) t → Steps p.tables e below (s₁.setTop f0) t := fun t k => R255 t (by
        show Steps p.tables e below (T254.setTop (mkF m 85 #[iv p0, iv p1, iv p2, rv b1, rv b7, rv b13, rv b7, .val .null, iv (1 : Int32)] [])) _
        refine XS.iload X254.here hx rfl (hb hby at_85) rfl  ?_
        show Steps p.tables e below (T254.setTop (mkF m 87 #[iv p0, iv p1, iv p2, rv b1, rv b7, rv b13, rv b7, .val .null, iv (1 : Int32)] [(.int (1 : Int32))])) _
        refine XS.ifNo X254.here hx rfl (hb hby at_87) rfl ((if0 _ _).trans (feq (by decide : ¬ ((1 : Int32) = (0 : Int32)))).1) ?_
        show Steps p.tables e below (T254.setTop (mkF m 90 #[iv p0, iv p1, iv p2, rv b1, rv b7, rv b13, rv b7, .val .null, iv (1 : Int32)] [])) _
        refine XS.aload X254.here hx rfl (hb hby at_90) rfl rfl ?_
        exact k)
      obtain ⟨T257, X257, e257, st257⟩ := getF X254 hx hZ hown (host := "") (Or.inl (hw _ (List.mem_of_getElem? (i := 33) rfl))) Via.refl rfl p254_1 (g := (mkF m 92 #[iv p0, iv p1, iv p2, rv b1, rv b7, rv b13, rv b7, .val .null, iv (1 : Int32)] [(.ref b13)])) rfl rfl (hb hby at_92)
      have R258 : ∀ t, Steps p.tables e below (T257.setTop (mkF m 95 #[iv p0, iv p1, iv p2, rv b1, rv b7, rv b13, rv b7, .val .null, iv (1 : Int32)] [(.ref b7)])) t → Steps p.tables e below (s₁.setTop f0) t := fun t k => R256 t (st257 t k)
      have R259 : ∀ t, Steps p.tables e below (T257.setTop (mkF m 102 #[iv p0, iv p1, iv p2, rv b1, rv b7, rv b13, rv b7, .val .null, iv (1 : Int32)] [(.ref b13)])) t → Steps p.tables e below (s₁.setTop f0) t := fun t k => R258 t (by
        show Steps p.tables e below (T257.setTop (mkF m 95 #[iv p0, iv p1, iv p2, rv b1, rv b7, rv b13, rv b7, .val .null, iv (1 : Int32)] [(.ref b7)])) _
        refine XS.aload X257.here hx rfl (hb hby at_95) rfl rfl ?_
        show Steps p.tables e below (T257.setTop (mkF m 97 #[iv p0, iv p1, iv p2, rv b1, rv b7, rv b13, rv b7, .val .null, iv (1 : Int32)] [(.ref b7), (.ref b7)])) _
        refine Jvm.RoadKit.acmp (g := (mkF m 97 #[iv p0, iv p1, iv p2, rv b1, rv b7, rv b13, rv b7, .val .null, iv (1 : Int32)] [(.ref b7), (.ref b7)])) X257 hx rfl rfl rfl (pc0 := 97) (pc' := 100) (same := true) rfl (hb hby at_97) rfl (decide_eq_true rfl) (by decide) (by decide) ?_
        show Steps p.tables e below (T257.setTop (mkF m 100 #[iv p0, iv p1, iv p2, rv b1, rv b7, rv b13, rv b7, .val .null, iv (1 : Int32)] [])) _
        refine XS.aload X257.here hx rfl (hb hby at_100) rfl rfl ?_
        exact k)
      obtain ⟨T260, X260, e260, st260⟩ := getF X257 hx hZ hown (host := "") (Or.inl (hw _ (List.mem_of_getElem? (i := 35) rfl))) Via.refl e257 p254_2 (g := (mkF m 102 #[iv p0, iv p1, iv p2, rv b1, rv b7, rv b13, rv b7, .val .null, iv (1 : Int32)] [(.ref b13)])) rfl rfl (hb hby at_102)
      have R261 : ∀ t, Steps p.tables e below (T260.setTop (mkF m 105 #[iv p0, iv p1, iv p2, rv b1, rv b7, rv b13, rv b7, .val .null, iv (1 : Int32)] [.null])) t → Steps p.tables e below (s₁.setTop f0) t := fun t k => R259 t (st260 t k)
      have R262 : ∀ t, Steps p.tables e below (T260.setTop (mkF m 110 #[iv p0, iv p1, iv p2, rv b1, rv b7, rv b13, rv b7, .val .null, iv (1 : Int32)] [(.ref b13)])) t → Steps p.tables e below (s₁.setTop f0) t := fun t k => R261 t (by
        show Steps p.tables e below (T260.setTop (mkF m 105 #[iv p0, iv p1, iv p2, rv b1, rv b7, rv b13, rv b7, .val .null, iv (1 : Int32)] [.null])) _
        refine XS.ifnonnullNo X260.here hx rfl (hb hby at_105) rfl ?_
        show Steps p.tables e below (T260.setTop (mkF m 108 #[iv p0, iv p1, iv p2, rv b1, rv b7, rv b13, rv b7, .val .null, iv (1 : Int32)] [])) _
        refine XS.aload X260.here hx rfl (hb hby at_108) rfl rfl ?_
        exact k)
      obtain ⟨T263, X263, e263, st263⟩ := getF X260 hx hZ hown (host := "") (Or.inl (hw _ (List.mem_of_getElem? (i := 37) rfl))) Via.refl e260 p254_3 (g := (mkF m 110 #[iv p0, iv p1, iv p2, rv b1, rv b7, rv b13, rv b7, .val .null, iv (1 : Int32)] [(.ref b13)])) rfl rfl (hb hby at_110)
      have R264 : ∀ t, Steps p.tables e below (T263.setTop (mkF m 113 #[iv p0, iv p1, iv p2, rv b1, rv b7, rv b13, rv b7, .val .null, iv (1 : Int32)] [.null])) t → Steps p.tables e below (s₁.setTop f0) t := fun t k => R262 t (st263 t k)
      have R265 : ∀ t, Steps p.tables e below (T263.setTop (mkF m 129 #[iv p0, iv p1, iv p2, rv b1, rv b7, rv b13, rv b7, .val .null, iv (1 : Int32)] [.null, .null, .null, (.ref b13)])) t → Steps p.tables e below (s₁.setTop f0) t := fun t k => R264 t (by
        show Steps p.tables e below (T263.setTop (mkF m 113 #[iv p0, iv p1, iv p2, rv b1, rv b7, rv b13, rv b7, .val .null, iv (1 : Int32)] [.null])) _
        refine XS.ifnonnullNo X263.here hx rfl (hb hby at_113) rfl ?_
        show Steps p.tables e below (T263.setTop (mkF m 116 #[iv p0, iv p1, iv p2, rv b1, rv b7, rv b13, rv b7, .val .null, iv (1 : Int32)] [])) _
        refine XS.iconst X263.here hx rfl (hb hby at_116) ?_
        show Steps p.tables e below (T263.setTop (mkF m 117 #[iv p0, iv p1, iv p2, rv b1, rv b7, rv b13, rv b7, .val .null, iv (1 : Int32)] [(.int (1 : Int32))])) _
        refine XS.goto X263.here hx rfl (pc0 := 117) (pc' := 121) rfl (hb hby at_117) (by decide) (by decide) ?_
        show Steps p.tables e below (T263.setTop (mkF m 121 #[iv p0, iv p1, iv p2, rv b1, rv b7, rv b13, rv b7, .val .null, iv (1 : Int32)] [(.int (1 : Int32))])) _
        refine XS.istore X263.here hx rfl (hb hby at_121) rfl (l' := #[iv p0, iv p1, iv p2, rv b1, rv b7, rv b13, rv b7, .val .null, iv (1 : Int32)]) rfl ?_
        show Steps p.tables e below (T263.setTop (mkF m 123 #[iv p0, iv p1, iv p2, rv b1, rv b7, rv b13, rv b7, .val .null, iv (1 : Int32)] [])) _
        refine XS.aload X263.here hx rfl (hb hby at_123) rfl rfl ?_
        show Steps p.tables e below (T263.setTop (mkF m 125 #[iv p0, iv p1, iv p2, rv b1, rv b7, rv b13, rv b7, .val .null, iv (1 : Int32)] [(.ref b13)])) _
        refine XS.aload X263.here hx rfl (hb hby at_125) rfl rfl ?_
        show Steps p.tables e below (T263.setTop (mkF m 127 #[iv p0, iv p1, iv p2, rv b1, rv b7, rv b13, rv b7, .val .null, iv (1 : Int32)] [.null, (.ref b13)])) _
        refine XS.aconstNull X263.here hx rfl (hb hby at_127) ?_
        show Steps p.tables e below (T263.setTop (mkF m 128 #[iv p0, iv p1, iv p2, rv b1, rv b7, rv b13, rv b7, .val .null, iv (1 : Int32)] [.null, .null, (.ref b13)])) _
        refine XS.aconstNull X263.here hx rfl (hb hby at_128) ?_
        exact k)
      obtain ⟨cq266, kq266, q266a, q266b, q266c⟩ := isOf hZ e263 f254_E_b13
      obtain ⟨_, _, ⟨T266, L266, k266, n266⟩, -, X266, ⟨Lc266, hQ266, l266, y266, z266⟩, st266⟩ := X263.virtualBack hx (y := (⟨sN0, "keep", sN1⟩ : MethodName)) (z := (⟨sN0, "keep", sN1⟩ : MethodName)) hown (mvT hZ (hw _ (List.mem_of_getElem? (i := 39) rfl))) (mvT hZ (hw _ (List.mem_of_getElem? (i := 40) rfl))) (notFace_of_selects (args := #[]) (mvT hZ (hw _ (List.mem_of_getElem? (i := 42) rfl)))) (mvT hZ (hw _ (List.mem_of_getElem? (i := 42) rfl))) (mvT hZ (hw _ (List.mem_of_getElem? (i := 41) rfl))) (by decide) (backOf (W := 0) (rmKeepRN l Z a0 hw [] b13 b7 T254.heap n0 z254 f254_E_b13 p254_1 p254_2 p254_3 g_b13) hZ (hw _ (List.mem_of_getElem? (i := 43) rfl)) (hw _ (List.mem_of_getElem? (i := 22) rfl)) (by decide) (by decide)) q266a q266c (g := (mkF m 129 #[iv p0, iv p1, iv p2, rv b1, rv b7, rv b13, rv b7, .val .null, iv (1 : Int32)] [.null, .null, .null, (.ref b13)])) rfl (by rw [hml]; rfl) (Steps.refl _) (argsL := [.null, .null, .null]) (rest := []) (lenOf pd_6 rfl) rfl (by show 2 * 0 + _ ≤ _; exact Nat.le_of_eq rfl) (hb hby at_129) (fun _ _ => ⟨rfl, e263, (by decide : 9 + 0 ≤ _), (by decide : 114 + 0 ≤ _)⟩)
      dsimp only [Pt.U, Pt.locs, Pt.cells, Pt.slots] at X266 l266 y266 z266 st266 hQ266
      subst l266 y266 z266
      obtain ⟨rfl, N266q, p266_0, p266_1, p266_2, p266_3⟩ := hQ266
      have N266 := Fr.app N254 N266q
      have f266_E_b1 : Exa Z T266.heap b1 sN2 := f254_E_b1.keep p266_0
      have f266_E_b7 : Exa Z T266.heap b7 sN2 := f254_E_b7.keep p266_0
      have f266_E_b13 : Exa Z T266.heap b13 sN0 := f254_E_b13.keep p266_0
      have z266 : n0 ≤ T266.heap.size := Nat.le_trans z254 p266_0.1
      have K266 : Keep h0 T266.heap [] := K254.trans p266_0 (allS (Or.inr sz_b13) all0)
      have R267 : ∀ t, Steps p.tables e below (T266.setTop (mkF m 132 #[iv p0, iv p1, iv p2, rv b1, rv b7, rv b13, rv b7, .val .null, iv (1 : Int32)] [])) t → Steps p.tables e below (s₁.setTop f0) t := fun t k => R265 t (st266.trans k)
      have R268 : ∀ t, Steps p.tables e below (T266.setTop (mkF m 139 #[iv p0, iv p1, iv p2, rv b1, rv b7, rv b13, rv b7, .val .null, iv (1 : Int32)] [(.ref b13)])) t → Steps p.tables e below (s₁.setTop f0) t := fun t k => R267 t (by
        show Steps p.tables e below (T266.setTop (mkF m 132 #[iv p0, iv p1, iv p2, rv b1, rv b7, rv b13, rv b7, .val .null, iv (1 : Int32)] [])) _
        refine XS.iload X266.here hx rfl (hb hby at_132) rfl  ?_
        show Steps p.tables e below (T266.setTop (mkF m 134 #[iv p0, iv p1, iv p2, rv b1, rv b7, rv b13, rv b7, .val .null, iv (1 : Int32)] [(.int (1 : Int32))])) _
        refine XS.ifNo X266.here hx rfl (hb hby at_134) rfl ((if0 _ _).trans (feq (by decide : ¬ ((1 : Int32) = (0 : Int32)))).1) ?_
        show Steps p.tables e below (T266.setTop (mkF m 137 #[iv p0, iv p1, iv p2, rv b1, rv b7, rv b13, rv b7, .val .null, iv (1 : Int32)] [])) _
        refine XS.aload X266.here hx rfl (hb hby at_137) rfl rfl ?_
        exact k)
      obtain ⟨T269, X269, e269, st269⟩ := getF X266 hx hZ hown (host := "") (Or.inl (hw _ (List.mem_of_getElem? (i := 33) rfl))) Via.refl rfl p266_1 (g := (mkF m 139 #[iv p0, iv p1, iv p2, rv b1, rv b7, rv b13, rv b7, .val .null, iv (1 : Int32)] [(.ref b13)])) rfl rfl (hb hby at_139)
      have R270 : ∀ t, Steps p.tables e below (T269.setTop (mkF m 142 #[iv p0, iv p1, iv p2, rv b1, rv b7, rv b13, rv b7, .val .null, iv (1 : Int32)] [.null])) t → Steps p.tables e below (s₁.setTop f0) t := fun t k => R268 t (st269 t k)
      have R271 : ∀ t, Steps p.tables e below (T269.setTop (mkF m 149 #[iv p0, iv p1, iv p2, rv b1, rv b7, rv b13, rv b7, .val .null, iv (1 : Int32)] [(.ref b13)])) t → Steps p.tables e below (s₁.setTop f0) t := fun t k => R270 t (by
        show Steps p.tables e below (T269.setTop (mkF m 142 #[iv p0, iv p1, iv p2, rv b1, rv b7, rv b13, rv b7, .val .null, iv (1 : Int32)] [.null])) _
        refine XS.aload X269.here hx rfl (hb hby at_142) rfl rfl ?_
        show Steps p.tables e below (T269.setTop (mkF m 144 #[iv p0, iv p1, iv p2, rv b1, rv b7, rv b13, rv b7, .val .null, iv (1 : Int32)] [.null, .null])) _
        refine Jvm.RoadKit.acmp (g := (mkF m 144 #[iv p0, iv p1, iv p2, rv b1, rv b7, rv b13, rv b7, .val .null, iv (1 : Int32)] [.null, .null])) X269 hx rfl rfl rfl (pc0 := 144) (pc' := 147) (same := true) rfl (hb hby at_144) rfl (decide_eq_true rfl) (by decide) (by decide) ?_
        show Steps p.tables e below (T269.setTop (mkF m 147 #[iv p0, iv p1, iv p2, rv b1, rv b7, rv b13, rv b7, .val .null, iv (1 : Int32)] [])) _
        refine XS.aload X269.here hx rfl (hb hby at_147) rfl rfl ?_
        exact k)
      obtain ⟨T272, X272, e272, st272⟩ := getF X269 hx hZ hown (host := "") (Or.inl (hw _ (List.mem_of_getElem? (i := 35) rfl))) Via.refl e269 p266_2 (g := (mkF m 149 #[iv p0, iv p1, iv p2, rv b1, rv b7, rv b13, rv b7, .val .null, iv (1 : Int32)] [(.ref b13)])) rfl rfl (hb hby at_149)
      have R273 : ∀ t, Steps p.tables e below (T272.setTop (mkF m 152 #[iv p0, iv p1, iv p2, rv b1, rv b7, rv b13, rv b7, .val .null, iv (1 : Int32)] [.null])) t → Steps p.tables e below (s₁.setTop f0) t := fun t k => R271 t (st272 t k)
      have R274 : ∀ t, Steps p.tables e below (T272.setTop (mkF m 157 #[iv p0, iv p1, iv p2, rv b1, rv b7, rv b13, rv b7, .val .null, iv (1 : Int32)] [(.ref b13)])) t → Steps p.tables e below (s₁.setTop f0) t := fun t k => R273 t (by
        show Steps p.tables e below (T272.setTop (mkF m 152 #[iv p0, iv p1, iv p2, rv b1, rv b7, rv b13, rv b7, .val .null, iv (1 : Int32)] [.null])) _
        refine XS.ifnonnullNo X272.here hx rfl (hb hby at_152) rfl ?_
        show Steps p.tables e below (T272.setTop (mkF m 155 #[iv p0, iv p1, iv p2, rv b1, rv b7, rv b13, rv b7, .val .null, iv (1 : Int32)] [])) _
        refine XS.aload X272.here hx rfl (hb hby at_155) rfl rfl ?_
        exact k)
      obtain ⟨T275, X275, e275, st275⟩ := getF X272 hx hZ hown (host := "") (Or.inl (hw _ (List.mem_of_getElem? (i := 37) rfl))) Via.refl e272 p266_3 (g := (mkF m 157 #[iv p0, iv p1, iv p2, rv b1, rv b7, rv b13, rv b7, .val .null, iv (1 : Int32)] [(.ref b13)])) rfl rfl (hb hby at_157)
      have R276 : ∀ t, Steps p.tables e below (T275.setTop (mkF m 160 #[iv p0, iv p1, iv p2, rv b1, rv b7, rv b13, rv b7, .val .null, iv (1 : Int32)] [.null])) t → Steps p.tables e below (s₁.setTop f0) t := fun t k => R274 t (st275 t k)
      have R277 : ∀ t, Steps p.tables e below (T275.setTop (mkF m 172 #[iv p0, iv p1, iv p2, rv b1, rv b7, rv b13, rv b7, .val .null, iv (1 : Int32)] [(.int (1 : Int32))])) t → Steps p.tables e below (s₁.setTop f0) t := fun t k => R276 t (by
        show Steps p.tables e below (T275.setTop (mkF m 160 #[iv p0, iv p1, iv p2, rv b1, rv b7, rv b13, rv b7, .val .null, iv (1 : Int32)] [.null])) _
        refine XS.ifnonnullNo X275.here hx rfl (hb hby at_160) rfl ?_
        show Steps p.tables e below (T275.setTop (mkF m 163 #[iv p0, iv p1, iv p2, rv b1, rv b7, rv b13, rv b7, .val .null, iv (1 : Int32)] [])) _
        refine XS.iconst X275.here hx rfl (hb hby at_163) ?_
        show Steps p.tables e below (T275.setTop (mkF m 164 #[iv p0, iv p1, iv p2, rv b1, rv b7, rv b13, rv b7, .val .null, iv (1 : Int32)] [(.int (1 : Int32))])) _
        refine XS.goto X275.here hx rfl (pc0 := 164) (pc' := 168) rfl (hb hby at_164) (by decide) (by decide) ?_
        show Steps p.tables e below (T275.setTop (mkF m 168 #[iv p0, iv p1, iv p2, rv b1, rv b7, rv b13, rv b7, .val .null, iv (1 : Int32)] [(.int (1 : Int32))])) _
        refine XS.istore X275.here hx rfl (hb hby at_168) rfl (l' := #[iv p0, iv p1, iv p2, rv b1, rv b7, rv b13, rv b7, .val .null, iv (1 : Int32)]) rfl ?_
        show Steps p.tables e below (T275.setTop (mkF m 170 #[iv p0, iv p1, iv p2, rv b1, rv b7, rv b13, rv b7, .val .null, iv (1 : Int32)] [])) _
        refine XS.iload X275.here hx rfl (hb hby at_170) rfl  ?_
        exact k)
      obtain ⟨fs, hr, hrun, hended, hW, hsame⟩ := X275.leave (v := some (.int (1 : Int32))) (fun h => by rw [Bd.returns] at h; cases h)
      refine ⟨_, _, pre0 _ (R277 _ ?_), hrun, hended, _, _, rfl, ?_, ⟨_, rfl⟩, hW, hsame.mono (by decide) (by decide)⟩
      · show Steps p.tables e below (T275.setTop (mkF m 172 #[iv p0, iv p1, iv p2, rv b1, rv b7, rv b13, rv b7, .val .null, iv (1 : Int32)] [(.int (1 : Int32))])) _
        exact retN X275 hx (t := .boolean) Bd.returns (by simp) (hb hby at_172) hr
      · show Q_rmLaw Z p0 p1 p2 h0 n0 _ T275.heap _
        rw [e275]
        exact ⟨rfl, N266⟩
    · skip
      have R278 : ∀ t, Steps p.tables e below (T241.setTop (mkF m 43 #[iv p0, iv p1, iv p2, rv b1, rv b7, rv b13, rv b7, .unset, .unset] [(.ref b1)])) t → Steps p.tables e below (s₁.setTop f0) t := by have q := R242; rw [(hq : (own_pick p2 b1 b7) = (.ref b1))] at q; exact q
      have R279 : ∀ t, Steps p.tables e below (T241.setTop (mkF m 47 #[iv p0, iv p1, iv p2, rv b1, rv b7, rv b13, rv b7, rv b1, .unset] [(.ref b13)])) t → Steps p.tables e below (s₁.setTop f0) t := fun t k => R278 t (by
        show Steps p.tables e below (T241.setTop (mkF m 43 #[iv p0, iv p1, iv p2, rv b1, rv b7, rv b13, rv b7, .unset, .unset] [(.ref b1)])) _
        refine XS.astore X241.here hx rfl (hb hby at_43) rfl rfl (l' := #[iv p0, iv p1, iv p2, rv b1, rv b7, rv b13, rv b7, rv b1, .unset]) rfl ?_
        show Steps p.tables e below (T241.setTop (mkF m 45 #[iv p0, iv p1, iv p2, rv b1, rv b7, rv b13, rv b7, rv b1, .unset] [])) _
        refine XS.aload X241.here hx rfl (hb hby at_45) rfl rfl ?_
        exact k)
      obtain ⟨T280, X280, e280, st280⟩ := getF X241 hx hZ hown (host := "") (Or.inl (hw _ (List.mem_of_getElem? (i := 33) rfl))) Via.refl p241_0 p16_1 (g := (mkF m 47 #[iv p0, iv p1, iv p2, rv b1, rv b7, rv b13, rv b7, rv b1, .unset] [(.ref b13)])) rfl rfl (hb hby at_47)
      have R281 : ∀ t, Steps p.tables e below (T280.setTop (mkF m 50 #[iv p0, iv p1, iv p2, rv b1, rv b7, rv b13, rv b7, rv b1, .unset] [.null])) t → Steps p.tables e below (s₁.setTop f0) t := fun t k => R279 t (st280 t k)
      have R282 : ∀ t, Steps p.tables e below (T280.setTop (mkF m 55 #[iv p0, iv p1, iv p2, rv b1, rv b7, rv b13, rv b7, rv b1, .unset] [(.ref b13)])) t → Steps p.tables e below (s₁.setTop f0) t := fun t k => R281 t (by
        show Steps p.tables e below (T280.setTop (mkF m 50 #[iv p0, iv p1, iv p2, rv b1, rv b7, rv b13, rv b7, rv b1, .unset] [.null])) _
        refine XS.ifnonnullNo X280.here hx rfl (hb hby at_50) rfl ?_
        show Steps p.tables e below (T280.setTop (mkF m 53 #[iv p0, iv p1, iv p2, rv b1, rv b7, rv b13, rv b7, rv b1, .unset] [])) _
        refine XS.aload X280.here hx rfl (hb hby at_53) rfl rfl ?_
        exact k)
      obtain ⟨T283, X283, e283, st283⟩ := getF X280 hx hZ hown (host := "") (Or.inl (hw _ (List.mem_of_getElem? (i := 35) rfl))) Via.refl e280 p16_2 (g := (mkF m 55 #[iv p0, iv p1, iv p2, rv b1, rv b7, rv b13, rv b7, rv b1, .unset] [(.ref b13)])) rfl rfl (hb hby at_55)
      have R284 : ∀ t, Steps p.tables e below (T283.setTop (mkF m 58 #[iv p0, iv p1, iv p2, rv b1, rv b7, rv b13, rv b7, rv b1, .unset] [.null])) t → Steps p.tables e below (s₁.setTop f0) t := fun t k => R282 t (st283 t k)
      have R285 : ∀ t, Steps p.tables e below (T283.setTop (mkF m 63 #[iv p0, iv p1, iv p2, rv b1, rv b7, rv b13, rv b7, rv b1, .unset] [(.ref b13)])) t → Steps p.tables e below (s₁.setTop f0) t := fun t k => R284 t (by
        show Steps p.tables e below (T283.setTop (mkF m 58 #[iv p0, iv p1, iv p2, rv b1, rv b7, rv b13, rv b7, rv b1, .unset] [.null])) _
        refine XS.ifnonnullNo X283.here hx rfl (hb hby at_58) rfl ?_
        show Steps p.tables e below (T283.setTop (mkF m 61 #[iv p0, iv p1, iv p2, rv b1, rv b7, rv b13, rv b7, rv b1, .unset] [])) _
        refine XS.aload X283.here hx rfl (hb hby at_61) rfl rfl ?_
        exact k)
      obtain ⟨T286, X286, e286, st286⟩ := getF X283 hx hZ hown (host := "") (Or.inl (hw _ (List.mem_of_getElem? (i := 37) rfl))) Via.refl e283 p16_3 (g := (mkF m 63 #[iv p0, iv p1, iv p2, rv b1, rv b7, rv b13, rv b7, rv b1, .unset] [(.ref b13)])) rfl rfl (hb hby at_63)
      have R287 : ∀ t, Steps p.tables e below (T286.setTop (mkF m 66 #[iv p0, iv p1, iv p2, rv b1, rv b7, rv b13, rv b7, rv b1, .unset] [.null])) t → Steps p.tables e below (s₁.setTop f0) t := fun t k => R285 t (st286 t k)
      have R288 : ∀ t, Steps p.tables e below (T286.setTop (mkF m 82 #[iv p0, iv p1, iv p2, rv b1, rv b7, rv b13, rv b7, rv b1, iv (1 : Int32)] [.null, .null, (.ref b7), (.ref b13)])) t → Steps p.tables e below (s₁.setTop f0) t := fun t k => R287 t (by
        show Steps p.tables e below (T286.setTop (mkF m 66 #[iv p0, iv p1, iv p2, rv b1, rv b7, rv b13, rv b7, rv b1, .unset] [.null])) _
        refine XS.ifnonnullNo X286.here hx rfl (hb hby at_66) rfl ?_
        show Steps p.tables e below (T286.setTop (mkF m 69 #[iv p0, iv p1, iv p2, rv b1, rv b7, rv b13, rv b7, rv b1, .unset] [])) _
        refine XS.iconst X286.here hx rfl (hb hby at_69) ?_
        show Steps p.tables e below (T286.setTop (mkF m 70 #[iv p0, iv p1, iv p2, rv b1, rv b7, rv b13, rv b7, rv b1, .unset] [(.int (1 : Int32))])) _
        refine XS.goto X286.here hx rfl (pc0 := 70) (pc' := 74) rfl (hb hby at_70) (by decide) (by decide) ?_
        show Steps p.tables e below (T286.setTop (mkF m 74 #[iv p0, iv p1, iv p2, rv b1, rv b7, rv b13, rv b7, rv b1, .unset] [(.int (1 : Int32))])) _
        refine XS.istore X286.here hx rfl (hb hby at_74) rfl (l' := #[iv p0, iv p1, iv p2, rv b1, rv b7, rv b13, rv b7, rv b1, iv (1 : Int32)]) rfl ?_
        show Steps p.tables e below (T286.setTop (mkF m 76 #[iv p0, iv p1, iv p2, rv b1, rv b7, rv b13, rv b7, rv b1, iv (1 : Int32)] [])) _
        refine XS.aload X286.here hx rfl (hb hby at_76) rfl rfl ?_
        show Steps p.tables e below (T286.setTop (mkF m 78 #[iv p0, iv p1, iv p2, rv b1, rv b7, rv b13, rv b7, rv b1, iv (1 : Int32)] [(.ref b13)])) _
        refine XS.aload X286.here hx rfl (hb hby at_78) rfl rfl ?_
        show Steps p.tables e below (T286.setTop (mkF m 80 #[iv p0, iv p1, iv p2, rv b1, rv b7, rv b13, rv b7, rv b1, iv (1 : Int32)] [(.ref b7), (.ref b13)])) _
        refine XS.aconstNull X286.here hx rfl (hb hby at_80) ?_
        show Steps p.tables e below (T286.setTop (mkF m 81 #[iv p0, iv p1, iv p2, rv b1, rv b7, rv b13, rv b7, rv b1, iv (1 : Int32)] [.null, (.ref b7), (.ref b13)])) _
        refine XS.aconstNull X286.here hx rfl (hb hby at_81) ?_
        exact k)
      obtain ⟨cq289, kq289, q289a, q289b, q289c⟩ := isOf hZ e286 f16_E_b13
      obtain ⟨_, _, ⟨T289, L289, k289, n289⟩, -, X289, ⟨Lc289, hQ289, l289, y289, z289⟩, st289⟩ := X286.virtualBack hx (y := (⟨sN0, "keep", sN1⟩ : MethodName)) (z := (⟨sN0, "keep", sN1⟩ : MethodName)) hown (mvT hZ (hw _ (List.mem_of_getElem? (i := 39) rfl))) (mvT hZ (hw _ (List.mem_of_getElem? (i := 40) rfl))) (notFace_of_selects (args := #[]) (mvT hZ (hw _ (List.mem_of_getElem? (i := 42) rfl)))) (mvT hZ (hw _ (List.mem_of_getElem? (i := 42) rfl))) (mvT hZ (hw _ (List.mem_of_getElem? (i := 41) rfl))) (by decide) (backOf (W := 0) (rmKeepNR l Z a0 hw [] b13 b7 T16.heap n0 z16 f16_E_b13 p16_1 p16_2 p16_3 g_b13) hZ (hw _ (List.mem_of_getElem? (i := 43) rfl)) (hw _ (List.mem_of_getElem? (i := 22) rfl)) (by decide) (by decide)) q289a q289c (g := (mkF m 82 #[iv p0, iv p1, iv p2, rv b1, rv b7, rv b13, rv b7, rv b1, iv (1 : Int32)] [.null, .null, (.ref b7), (.ref b13)])) rfl (by rw [hml]; rfl) (Steps.refl _) (argsL := [(.ref b7), .null, .null]) (rest := []) (lenOf pd_6 rfl) rfl (by show 2 * 0 + _ ≤ _; exact Nat.le_of_eq rfl) (hb hby at_82) (fun _ _ => ⟨rfl, e286, (by decide : 9 + 0 ≤ _), (by decide : 114 + 0 ≤ _)⟩)
      dsimp only [Pt.U, Pt.locs, Pt.cells, Pt.slots] at X289 l289 y289 z289 st289 hQ289
      subst l289 y289 z289
      obtain ⟨rfl, N289q, p289_0, p289_1, p289_2, p289_3⟩ := hQ289
      have N289 := Fr.app N241 N289q
      have f289_E_b1 : Exa Z T289.heap b1 sN2 := f16_E_b1.keep p289_0
      have f289_E_b7 : Exa Z T289.heap b7 sN2 := f16_E_b7.keep p289_0
      have f289_E_b13 : Exa Z T289.heap b13 sN0 := f16_E_b13.keep p289_0
      have z289 : n0 ≤ T289.heap.size := Nat.le_trans z16 p289_0.1
      have K289 : Keep h0 T289.heap [] := K16.trans p289_0 (allS (Or.inr sz_b13) all0)
      have R290 : ∀ t, Steps p.tables e below (T289.setTop (mkF m 85 #[iv p0, iv p1, iv p2, rv b1, rv b7, rv b13, rv b7, rv b1, iv (1 : Int32)] [])) t → Steps p.tables e below (s₁.setTop f0) t := fun t k => R288 t (st289.trans k)
      have R291 : ∀ t, Steps p.tables e below (T289.setTop (mkF m 92 #[iv p0, iv p1, iv p2, rv b1, rv b7, rv b13, rv b7, rv b1, iv (1 : Int32)] [(.ref b13)])) t → Steps p.tables e below (s₁.setTop f0) t := fun t k => R290 t (by
        show Steps p.tables e below (T289.setTop (mkF m 85 #[iv p0, iv p1, iv p2, rv b1, rv b7, rv b13, rv b7, rv b1, iv (1 : Int32)] [])) _
        refine XS.iload X289.here hx rfl (hb hby at_85) rfl  ?_
        show Steps p.tables e below (T289.setTop (mkF m 87 #[iv p0, iv p1, iv p2, rv b1, rv b7, rv b13, rv b7, rv b1, iv (1 : Int32)] [(.int (1 : Int32))])) _
        refine XS.ifNo X289.here hx rfl (hb hby at_87) rfl ((if0 _ _).trans (feq (by decide : ¬ ((1 : Int32) = (0 : Int32)))).1) ?_
        show Steps p.tables e below (T289.setTop (mkF m 90 #[iv p0, iv p1, iv p2, rv b1, rv b7, rv b13, rv b7, rv b1, iv (1 : Int32)] [])) _
        refine XS.aload X289.here hx rfl (hb hby at_90) rfl rfl ?_
        exact k)
      obtain ⟨T292, X292, e292, st292⟩ := getF X289 hx hZ hown (host := "") (Or.inl (hw _ (List.mem_of_getElem? (i := 33) rfl))) Via.refl rfl p289_1 (g := (mkF m 92 #[iv p0, iv p1, iv p2, rv b1, rv b7, rv b13, rv b7, rv b1, iv (1 : Int32)] [(.ref b13)])) rfl rfl (hb hby at_92)
      have R293 : ∀ t, Steps p.tables e below (T292.setTop (mkF m 95 #[iv p0, iv p1, iv p2, rv b1, rv b7, rv b13, rv b7, rv b1, iv (1 : Int32)] [(.ref b7)])) t → Steps p.tables e below (s₁.setTop f0) t := fun t k => R291 t (st292 t k)
      have R294 : ∀ t, Steps p.tables e below (T292.setTop (mkF m 102 #[iv p0, iv p1, iv p2, rv b1, rv b7, rv b13, rv b7, rv b1, iv (1 : Int32)] [(.ref b13)])) t → Steps p.tables e below (s₁.setTop f0) t := fun t k => R293 t (by
        show Steps p.tables e below (T292.setTop (mkF m 95 #[iv p0, iv p1, iv p2, rv b1, rv b7, rv b13, rv b7, rv b1, iv (1 : Int32)] [(.ref b7)])) _
        refine XS.aload X292.here hx rfl (hb hby at_95) rfl rfl ?_
        show Steps p.tables e below (T292.setTop (mkF m 97 #[iv p0, iv p1, iv p2, rv b1, rv b7, rv b13, rv b7, rv b1, iv (1 : Int32)] [(.ref b7), (.ref b7)])) _
        refine Jvm.RoadKit.acmp (g := (mkF m 97 #[iv p0, iv p1, iv p2, rv b1, rv b7, rv b13, rv b7, rv b1, iv (1 : Int32)] [(.ref b7), (.ref b7)])) X292 hx rfl rfl rfl (pc0 := 97) (pc' := 100) (same := true) rfl (hb hby at_97) rfl (decide_eq_true rfl) (by decide) (by decide) ?_
        show Steps p.tables e below (T292.setTop (mkF m 100 #[iv p0, iv p1, iv p2, rv b1, rv b7, rv b13, rv b7, rv b1, iv (1 : Int32)] [])) _
        refine XS.aload X292.here hx rfl (hb hby at_100) rfl rfl ?_
        exact k)
      obtain ⟨T295, X295, e295, st295⟩ := getF X292 hx hZ hown (host := "") (Or.inl (hw _ (List.mem_of_getElem? (i := 35) rfl))) Via.refl e292 p289_2 (g := (mkF m 102 #[iv p0, iv p1, iv p2, rv b1, rv b7, rv b13, rv b7, rv b1, iv (1 : Int32)] [(.ref b13)])) rfl rfl (hb hby at_102)
      have R296 : ∀ t, Steps p.tables e below (T295.setTop (mkF m 105 #[iv p0, iv p1, iv p2, rv b1, rv b7, rv b13, rv b7, rv b1, iv (1 : Int32)] [.null])) t → Steps p.tables e below (s₁.setTop f0) t := fun t k => R294 t (st295 t k)
      have R297 : ∀ t, Steps p.tables e below (T295.setTop (mkF m 110 #[iv p0, iv p1, iv p2, rv b1, rv b7, rv b13, rv b7, rv b1, iv (1 : Int32)] [(.ref b13)])) t → Steps p.tables e below (s₁.setTop f0) t := fun t k => R296 t (by
        show Steps p.tables e below (T295.setTop (mkF m 105 #[iv p0, iv p1, iv p2, rv b1, rv b7, rv b13, rv b7, rv b1, iv (1 : Int32)] [.null])) _
        refine XS.ifnonnullNo X295.here hx rfl (hb hby at_105) rfl ?_
        show Steps p.tables e below (T295.setTop (mkF m 108 #[iv p0, iv p1, iv p2, rv b1, rv b7, rv b13, rv b7, rv b1, iv (1 : Int32)] [])) _
        refine XS.aload X295.here hx rfl (hb hby at_108) rfl rfl ?_
        exact k)
      obtain ⟨T298, X298, e298, st298⟩ := getF X295 hx hZ hown (host := "") (Or.inl (hw _ (List.mem_of_getElem? (i := 37) rfl))) Via.refl e295 p289_3 (g := (mkF m 110 #[iv p0, iv p1, iv p2, rv b1, rv b7, rv b13, rv b7, rv b1, iv (1 : Int32)] [(.ref b13)])) rfl rfl (hb hby at_110)
      have R299 : ∀ t, Steps p.tables e below (T298.setTop (mkF m 113 #[iv p0, iv p1, iv p2, rv b1, rv b7, rv b13, rv b7, rv b1, iv (1 : Int32)] [.null])) t → Steps p.tables e below (s₁.setTop f0) t := fun t k => R297 t (st298 t k)
      have R300 : ∀ t, Steps p.tables e below (T298.setTop (mkF m 129 #[iv p0, iv p1, iv p2, rv b1, rv b7, rv b13, rv b7, rv b1, iv (1 : Int32)] [.null, .null, (.ref b1), (.ref b13)])) t → Steps p.tables e below (s₁.setTop f0) t := fun t k => R299 t (by
        show Steps p.tables e below (T298.setTop (mkF m 113 #[iv p0, iv p1, iv p2, rv b1, rv b7, rv b13, rv b7, rv b1, iv (1 : Int32)] [.null])) _
        refine XS.ifnonnullNo X298.here hx rfl (hb hby at_113) rfl ?_
        show Steps p.tables e below (T298.setTop (mkF m 116 #[iv p0, iv p1, iv p2, rv b1, rv b7, rv b13, rv b7, rv b1, iv (1 : Int32)] [])) _
        refine XS.iconst X298.here hx rfl (hb hby at_116) ?_
        show Steps p.tables e below (T298.setTop (mkF m 117 #[iv p0, iv p1, iv p2, rv b1, rv b7, rv b13, rv b7, rv b1, iv (1 : Int32)] [(.int (1 : Int32))])) _
        refine XS.goto X298.here hx rfl (pc0 := 117) (pc' := 121) rfl (hb hby at_117) (by decide) (by decide) ?_
        show Steps p.tables e below (T298.setTop (mkF m 121 #[iv p0, iv p1, iv p2, rv b1, rv b7, rv b13, rv b7, rv b1, iv (1 : Int32)] [(.int (1 : Int32))])) _
        refine XS.istore X298.here hx rfl (hb hby at_121) rfl (l' := #[iv p0, iv p1, iv p2, rv b1, rv b7, rv b13, rv b7, rv b1, iv (1 : Int32)]) rfl ?_
        show Steps p.tables e below (T298.setTop (mkF m 123 #[iv p0, iv p1, iv p2, rv b1, rv b7, rv b13, rv b7, rv b1, iv (1 : Int32)] [])) _
        refine XS.aload X298.here hx rfl (hb hby at_123) rfl rfl ?_
        show Steps p.tables e below (T298.setTop (mkF m 125 #[iv p0, iv p1, iv p2, rv b1, rv b7, rv b13, rv b7, rv b1, iv (1 : Int32)] [(.ref b13)])) _
        refine XS.aload X298.here hx rfl (hb hby at_125) rfl rfl ?_
        show Steps p.tables e below (T298.setTop (mkF m 127 #[iv p0, iv p1, iv p2, rv b1, rv b7, rv b13, rv b7, rv b1, iv (1 : Int32)] [(.ref b1), (.ref b13)])) _
        refine XS.aconstNull X298.here hx rfl (hb hby at_127) ?_
        show Steps p.tables e below (T298.setTop (mkF m 128 #[iv p0, iv p1, iv p2, rv b1, rv b7, rv b13, rv b7, rv b1, iv (1 : Int32)] [.null, (.ref b1), (.ref b13)])) _
        refine XS.aconstNull X298.here hx rfl (hb hby at_128) ?_
        exact k)
      obtain ⟨cq301, kq301, q301a, q301b, q301c⟩ := isOf hZ e298 f289_E_b13
      obtain ⟨_, _, ⟨T301, L301, k301, n301⟩, -, X301, ⟨Lc301, hQ301, l301, y301, z301⟩, st301⟩ := X298.virtualBack hx (y := (⟨sN0, "keep", sN1⟩ : MethodName)) (z := (⟨sN0, "keep", sN1⟩ : MethodName)) hown (mvT hZ (hw _ (List.mem_of_getElem? (i := 39) rfl))) (mvT hZ (hw _ (List.mem_of_getElem? (i := 40) rfl))) (notFace_of_selects (args := #[]) (mvT hZ (hw _ (List.mem_of_getElem? (i := 42) rfl)))) (mvT hZ (hw _ (List.mem_of_getElem? (i := 42) rfl))) (mvT hZ (hw _ (List.mem_of_getElem? (i := 41) rfl))) (by decide) (backOf (W := 0) (rmKeepRR l Z a0 hw [] b13 b7 b1 T289.heap n0 z289 f289_E_b13 p289_1 p289_2 p289_3 g_b13) hZ (hw _ (List.mem_of_getElem? (i := 43) rfl)) (hw _ (List.mem_of_getElem? (i := 22) rfl)) (by decide) (by decide)) q301a q301c (g := (mkF m 129 #[iv p0, iv p1, iv p2, rv b1, rv b7, rv b13, rv b7, rv b1, iv (1 : Int32)] [.null, .null, (.ref b1), (.ref b13)])) rfl (by rw [hml]; rfl) (Steps.refl _) (argsL := [(.ref b1), .null, .null]) (rest := []) (lenOf pd_6 rfl) rfl (by show 2 * 0 + _ ≤ _; exact Nat.le_of_eq rfl) (hb hby at_129) (fun _ _ => ⟨rfl, e298, (by decide : 9 + 0 ≤ _), (by decide : 114 + 0 ≤ _)⟩)
      dsimp only [Pt.U, Pt.locs, Pt.cells, Pt.slots] at X301 l301 y301 z301 st301 hQ301
      subst l301 y301 z301
      obtain ⟨rfl, N301q, p301_0, p301_1, p301_2, p301_3⟩ := hQ301
      have N301 := Fr.app N289 N301q
      have f301_E_b1 : Exa Z T301.heap b1 sN2 := f289_E_b1.keep p301_0
      have f301_E_b7 : Exa Z T301.heap b7 sN2 := f289_E_b7.keep p301_0
      have f301_E_b13 : Exa Z T301.heap b13 sN0 := f289_E_b13.keep p301_0
      have z301 : n0 ≤ T301.heap.size := Nat.le_trans z289 p301_0.1
      have K301 : Keep h0 T301.heap [] := K289.trans p301_0 (allS (Or.inr sz_b13) all0)
      have R302 : ∀ t, Steps p.tables e below (T301.setTop (mkF m 132 #[iv p0, iv p1, iv p2, rv b1, rv b7, rv b13, rv b7, rv b1, iv (1 : Int32)] [])) t → Steps p.tables e below (s₁.setTop f0) t := fun t k => R300 t (st301.trans k)
      have R303 : ∀ t, Steps p.tables e below (T301.setTop (mkF m 139 #[iv p0, iv p1, iv p2, rv b1, rv b7, rv b13, rv b7, rv b1, iv (1 : Int32)] [(.ref b13)])) t → Steps p.tables e below (s₁.setTop f0) t := fun t k => R302 t (by
        show Steps p.tables e below (T301.setTop (mkF m 132 #[iv p0, iv p1, iv p2, rv b1, rv b7, rv b13, rv b7, rv b1, iv (1 : Int32)] [])) _
        refine XS.iload X301.here hx rfl (hb hby at_132) rfl  ?_
        show Steps p.tables e below (T301.setTop (mkF m 134 #[iv p0, iv p1, iv p2, rv b1, rv b7, rv b13, rv b7, rv b1, iv (1 : Int32)] [(.int (1 : Int32))])) _
        refine XS.ifNo X301.here hx rfl (hb hby at_134) rfl ((if0 _ _).trans (feq (by decide : ¬ ((1 : Int32) = (0 : Int32)))).1) ?_
        show Steps p.tables e below (T301.setTop (mkF m 137 #[iv p0, iv p1, iv p2, rv b1, rv b7, rv b13, rv b7, rv b1, iv (1 : Int32)] [])) _
        refine XS.aload X301.here hx rfl (hb hby at_137) rfl rfl ?_
        exact k)
      obtain ⟨T304, X304, e304, st304⟩ := getF X301 hx hZ hown (host := "") (Or.inl (hw _ (List.mem_of_getElem? (i := 33) rfl))) Via.refl rfl p301_1 (g := (mkF m 139 #[iv p0, iv p1, iv p2, rv b1, rv b7, rv b13, rv b7, rv b1, iv (1 : Int32)] [(.ref b13)])) rfl rfl (hb hby at_139)
      have R305 : ∀ t, Steps p.tables e below (T304.setTop (mkF m 142 #[iv p0, iv p1, iv p2, rv b1, rv b7, rv b13, rv b7, rv b1, iv (1 : Int32)] [(.ref b1)])) t → Steps p.tables e below (s₁.setTop f0) t := fun t k => R303 t (st304 t k)
      have R306 : ∀ t, Steps p.tables e below (T304.setTop (mkF m 149 #[iv p0, iv p1, iv p2, rv b1, rv b7, rv b13, rv b7, rv b1, iv (1 : Int32)] [(.ref b13)])) t → Steps p.tables e below (s₁.setTop f0) t := fun t k => R305 t (by
        show Steps p.tables e below (T304.setTop (mkF m 142 #[iv p0, iv p1, iv p2, rv b1, rv b7, rv b13, rv b7, rv b1, iv (1 : Int32)] [(.ref b1)])) _
        refine XS.aload X304.here hx rfl (hb hby at_142) rfl rfl ?_
        show Steps p.tables e below (T304.setTop (mkF m 144 #[iv p0, iv p1, iv p2, rv b1, rv b7, rv b13, rv b7, rv b1, iv (1 : Int32)] [(.ref b1), (.ref b1)])) _
        refine Jvm.RoadKit.acmp (g := (mkF m 144 #[iv p0, iv p1, iv p2, rv b1, rv b7, rv b13, rv b7, rv b1, iv (1 : Int32)] [(.ref b1), (.ref b1)])) X304 hx rfl rfl rfl (pc0 := 144) (pc' := 147) (same := true) rfl (hb hby at_144) rfl (decide_eq_true rfl) (by decide) (by decide) ?_
        show Steps p.tables e below (T304.setTop (mkF m 147 #[iv p0, iv p1, iv p2, rv b1, rv b7, rv b13, rv b7, rv b1, iv (1 : Int32)] [])) _
        refine XS.aload X304.here hx rfl (hb hby at_147) rfl rfl ?_
        exact k)
      obtain ⟨T307, X307, e307, st307⟩ := getF X304 hx hZ hown (host := "") (Or.inl (hw _ (List.mem_of_getElem? (i := 35) rfl))) Via.refl e304 p301_2 (g := (mkF m 149 #[iv p0, iv p1, iv p2, rv b1, rv b7, rv b13, rv b7, rv b1, iv (1 : Int32)] [(.ref b13)])) rfl rfl (hb hby at_149)
      have R308 : ∀ t, Steps p.tables e below (T307.setTop (mkF m 152 #[iv p0, iv p1, iv p2, rv b1, rv b7, rv b13, rv b7, rv b1, iv (1 : Int32)] [.null])) t → Steps p.tables e below (s₁.setTop f0) t := fun t k => R306 t (st307 t k)
      have R309 : ∀ t, Steps p.tables e below (T307.setTop (mkF m 157 #[iv p0, iv p1, iv p2, rv b1, rv b7, rv b13, rv b7, rv b1, iv (1 : Int32)] [(.ref b13)])) t → Steps p.tables e below (s₁.setTop f0) t := fun t k => R308 t (by
        show Steps p.tables e below (T307.setTop (mkF m 152 #[iv p0, iv p1, iv p2, rv b1, rv b7, rv b13, rv b7, rv b1, iv (1 : Int32)] [.null])) _
        refine XS.ifnonnullNo X307.here hx rfl (hb hby at_152) rfl ?_
        show Steps p.tables e below (T307.setTop (mkF m 155 #[iv p0, iv p1, iv p2, rv b1, rv b7, rv b13, rv b7, rv b1, iv (1 : Int32)] [])) _
        refine XS.aload X307.here hx rfl (hb hby at_155) rfl rfl ?_
        exact k)
      obtain ⟨T310, X310, e310, st310⟩ := getF X307 hx hZ hown (host := "") (Or.inl (hw _ (List.mem_of_getElem? (i := 37) rfl))) Via.refl e307 p301_3 (g := (mkF m 157 #[iv p0, iv p1, iv p2, rv b1, rv b7, rv b13, rv b7, rv b1, iv (1 : Int32)] [(.ref b13)])) rfl rfl (hb hby at_157)
      have R311 : ∀ t, Steps p.tables e below (T310.setTop (mkF m 160 #[iv p0, iv p1, iv p2, rv b1, rv b7, rv b13, rv b7, rv b1, iv (1 : Int32)] [.null])) t → Steps p.tables e below (s₁.setTop f0) t := fun t k => R309 t (st310 t k)
      have R312 : ∀ t, Steps p.tables e below (T310.setTop (mkF m 172 #[iv p0, iv p1, iv p2, rv b1, rv b7, rv b13, rv b7, rv b1, iv (1 : Int32)] [(.int (1 : Int32))])) t → Steps p.tables e below (s₁.setTop f0) t := fun t k => R311 t (by
        show Steps p.tables e below (T310.setTop (mkF m 160 #[iv p0, iv p1, iv p2, rv b1, rv b7, rv b13, rv b7, rv b1, iv (1 : Int32)] [.null])) _
        refine XS.ifnonnullNo X310.here hx rfl (hb hby at_160) rfl ?_
        show Steps p.tables e below (T310.setTop (mkF m 163 #[iv p0, iv p1, iv p2, rv b1, rv b7, rv b13, rv b7, rv b1, iv (1 : Int32)] [])) _
        refine XS.iconst X310.here hx rfl (hb hby at_163) ?_
        show Steps p.tables e below (T310.setTop (mkF m 164 #[iv p0, iv p1, iv p2, rv b1, rv b7, rv b13, rv b7, rv b1, iv (1 : Int32)] [(.int (1 : Int32))])) _
        refine XS.goto X310.here hx rfl (pc0 := 164) (pc' := 168) rfl (hb hby at_164) (by decide) (by decide) ?_
        show Steps p.tables e below (T310.setTop (mkF m 168 #[iv p0, iv p1, iv p2, rv b1, rv b7, rv b13, rv b7, rv b1, iv (1 : Int32)] [(.int (1 : Int32))])) _
        refine XS.istore X310.here hx rfl (hb hby at_168) rfl (l' := #[iv p0, iv p1, iv p2, rv b1, rv b7, rv b13, rv b7, rv b1, iv (1 : Int32)]) rfl ?_
        show Steps p.tables e below (T310.setTop (mkF m 170 #[iv p0, iv p1, iv p2, rv b1, rv b7, rv b13, rv b7, rv b1, iv (1 : Int32)] [])) _
        refine XS.iload X310.here hx rfl (hb hby at_170) rfl  ?_
        exact k)
      obtain ⟨fs, hr, hrun, hended, hW, hsame⟩ := X310.leave (v := some (.int (1 : Int32))) (fun h => by rw [Bd.returns] at h; cases h)
      refine ⟨_, _, pre0 _ (R312 _ ?_), hrun, hended, _, _, rfl, ?_, ⟨_, rfl⟩, hW, hsame.mono (by decide) (by decide)⟩
      · show Steps p.tables e below (T310.setTop (mkF m 172 #[iv p0, iv p1, iv p2, rv b1, rv b7, rv b13, rv b7, rv b1, iv (1 : Int32)] [(.int (1 : Int32))])) _
        exact retN X310 hx (t := .boolean) Bd.returns (by simp) (hb hby at_172) hr
      · show Q_rmLaw Z p0 p1 p2 h0 n0 _ T310.heap _
        rw [e310]
        exact ⟨rfl, N301⟩
    · skip
      have R313 : ∀ t, Steps p.tables e below (T241.setTop (mkF m 43 #[iv p0, iv p1, iv p2, rv b1, rv b7, rv b13, rv b7, .unset, .unset] [(.ref b7)])) t → Steps p.tables e below (s₁.setTop f0) t := by have q := R242; rw [(hq : (own_pick p2 b1 b7) = (.ref b7))] at q; exact q
      have R314 : ∀ t, Steps p.tables e below (T241.setTop (mkF m 47 #[iv p0, iv p1, iv p2, rv b1, rv b7, rv b13, rv b7, rv b7, .unset] [(.ref b13)])) t → Steps p.tables e below (s₁.setTop f0) t := fun t k => R313 t (by
        show Steps p.tables e below (T241.setTop (mkF m 43 #[iv p0, iv p1, iv p2, rv b1, rv b7, rv b13, rv b7, .unset, .unset] [(.ref b7)])) _
        refine XS.astore X241.here hx rfl (hb hby at_43) rfl rfl (l' := #[iv p0, iv p1, iv p2, rv b1, rv b7, rv b13, rv b7, rv b7, .unset]) rfl ?_
        show Steps p.tables e below (T241.setTop (mkF m 45 #[iv p0, iv p1, iv p2, rv b1, rv b7, rv b13, rv b7, rv b7, .unset] [])) _
        refine XS.aload X241.here hx rfl (hb hby at_45) rfl rfl ?_
        exact k)
      obtain ⟨T315, X315, e315, st315⟩ := getF X241 hx hZ hown (host := "") (Or.inl (hw _ (List.mem_of_getElem? (i := 33) rfl))) Via.refl p241_0 p16_1 (g := (mkF m 47 #[iv p0, iv p1, iv p2, rv b1, rv b7, rv b13, rv b7, rv b7, .unset] [(.ref b13)])) rfl rfl (hb hby at_47)
      have R316 : ∀ t, Steps p.tables e below (T315.setTop (mkF m 50 #[iv p0, iv p1, iv p2, rv b1, rv b7, rv b13, rv b7, rv b7, .unset] [.null])) t → Steps p.tables e below (s₁.setTop f0) t := fun t k => R314 t (st315 t k)
      have R317 : ∀ t, Steps p.tables e below (T315.setTop (mkF m 55 #[iv p0, iv p1, iv p2, rv b1, rv b7, rv b13, rv b7, rv b7, .unset] [(.ref b13)])) t → Steps p.tables e below (s₁.setTop f0) t := fun t k => R316 t (by
        show Steps p.tables e below (T315.setTop (mkF m 50 #[iv p0, iv p1, iv p2, rv b1, rv b7, rv b13, rv b7, rv b7, .unset] [.null])) _
        refine XS.ifnonnullNo X315.here hx rfl (hb hby at_50) rfl ?_
        show Steps p.tables e below (T315.setTop (mkF m 53 #[iv p0, iv p1, iv p2, rv b1, rv b7, rv b13, rv b7, rv b7, .unset] [])) _
        refine XS.aload X315.here hx rfl (hb hby at_53) rfl rfl ?_
        exact k)
      obtain ⟨T318, X318, e318, st318⟩ := getF X315 hx hZ hown (host := "") (Or.inl (hw _ (List.mem_of_getElem? (i := 35) rfl))) Via.refl e315 p16_2 (g := (mkF m 55 #[iv p0, iv p1, iv p2, rv b1, rv b7, rv b13, rv b7, rv b7, .unset] [(.ref b13)])) rfl rfl (hb hby at_55)
      have R319 : ∀ t, Steps p.tables e below (T318.setTop (mkF m 58 #[iv p0, iv p1, iv p2, rv b1, rv b7, rv b13, rv b7, rv b7, .unset] [.null])) t → Steps p.tables e below (s₁.setTop f0) t := fun t k => R317 t (st318 t k)
      have R320 : ∀ t, Steps p.tables e below (T318.setTop (mkF m 63 #[iv p0, iv p1, iv p2, rv b1, rv b7, rv b13, rv b7, rv b7, .unset] [(.ref b13)])) t → Steps p.tables e below (s₁.setTop f0) t := fun t k => R319 t (by
        show Steps p.tables e below (T318.setTop (mkF m 58 #[iv p0, iv p1, iv p2, rv b1, rv b7, rv b13, rv b7, rv b7, .unset] [.null])) _
        refine XS.ifnonnullNo X318.here hx rfl (hb hby at_58) rfl ?_
        show Steps p.tables e below (T318.setTop (mkF m 61 #[iv p0, iv p1, iv p2, rv b1, rv b7, rv b13, rv b7, rv b7, .unset] [])) _
        refine XS.aload X318.here hx rfl (hb hby at_61) rfl rfl ?_
        exact k)
      obtain ⟨T321, X321, e321, st321⟩ := getF X318 hx hZ hown (host := "") (Or.inl (hw _ (List.mem_of_getElem? (i := 37) rfl))) Via.refl e318 p16_3 (g := (mkF m 63 #[iv p0, iv p1, iv p2, rv b1, rv b7, rv b13, rv b7, rv b7, .unset] [(.ref b13)])) rfl rfl (hb hby at_63)
      have R322 : ∀ t, Steps p.tables e below (T321.setTop (mkF m 66 #[iv p0, iv p1, iv p2, rv b1, rv b7, rv b13, rv b7, rv b7, .unset] [.null])) t → Steps p.tables e below (s₁.setTop f0) t := fun t k => R320 t (st321 t k)
      have R323 : ∀ t, Steps p.tables e below (T321.setTop (mkF m 82 #[iv p0, iv p1, iv p2, rv b1, rv b7, rv b13, rv b7, rv b7, iv (1 : Int32)] [.null, .null, (.ref b7), (.ref b13)])) t → Steps p.tables e below (s₁.setTop f0) t := fun t k => R322 t (by
        show Steps p.tables e below (T321.setTop (mkF m 66 #[iv p0, iv p1, iv p2, rv b1, rv b7, rv b13, rv b7, rv b7, .unset] [.null])) _
        refine XS.ifnonnullNo X321.here hx rfl (hb hby at_66) rfl ?_
        show Steps p.tables e below (T321.setTop (mkF m 69 #[iv p0, iv p1, iv p2, rv b1, rv b7, rv b13, rv b7, rv b7, .unset] [])) _
        refine XS.iconst X321.here hx rfl (hb hby at_69) ?_
        show Steps p.tables e below (T321.setTop (mkF m 70 #[iv p0, iv p1, iv p2, rv b1, rv b7, rv b13, rv b7, rv b7, .unset] [(.int (1 : Int32))])) _
        refine XS.goto X321.here hx rfl (pc0 := 70) (pc' := 74) rfl (hb hby at_70) (by decide) (by decide) ?_
        show Steps p.tables e below (T321.setTop (mkF m 74 #[iv p0, iv p1, iv p2, rv b1, rv b7, rv b13, rv b7, rv b7, .unset] [(.int (1 : Int32))])) _
        refine XS.istore X321.here hx rfl (hb hby at_74) rfl (l' := #[iv p0, iv p1, iv p2, rv b1, rv b7, rv b13, rv b7, rv b7, iv (1 : Int32)]) rfl ?_
        show Steps p.tables e below (T321.setTop (mkF m 76 #[iv p0, iv p1, iv p2, rv b1, rv b7, rv b13, rv b7, rv b7, iv (1 : Int32)] [])) _
        refine XS.aload X321.here hx rfl (hb hby at_76) rfl rfl ?_
        show Steps p.tables e below (T321.setTop (mkF m 78 #[iv p0, iv p1, iv p2, rv b1, rv b7, rv b13, rv b7, rv b7, iv (1 : Int32)] [(.ref b13)])) _
        refine XS.aload X321.here hx rfl (hb hby at_78) rfl rfl ?_
        show Steps p.tables e below (T321.setTop (mkF m 80 #[iv p0, iv p1, iv p2, rv b1, rv b7, rv b13, rv b7, rv b7, iv (1 : Int32)] [(.ref b7), (.ref b13)])) _
        refine XS.aconstNull X321.here hx rfl (hb hby at_80) ?_
        show Steps p.tables e below (T321.setTop (mkF m 81 #[iv p0, iv p1, iv p2, rv b1, rv b7, rv b13, rv b7, rv b7, iv (1 : Int32)] [.null, (.ref b7), (.ref b13)])) _
        refine XS.aconstNull X321.here hx rfl (hb hby at_81) ?_
        exact k)
      obtain ⟨cq324, kq324, q324a, q324b, q324c⟩ := isOf hZ e321 f16_E_b13
      obtain ⟨_, _, ⟨T324, L324, k324, n324⟩, -, X324, ⟨Lc324, hQ324, l324, y324, z324⟩, st324⟩ := X321.virtualBack hx (y := (⟨sN0, "keep", sN1⟩ : MethodName)) (z := (⟨sN0, "keep", sN1⟩ : MethodName)) hown (mvT hZ (hw _ (List.mem_of_getElem? (i := 39) rfl))) (mvT hZ (hw _ (List.mem_of_getElem? (i := 40) rfl))) (notFace_of_selects (args := #[]) (mvT hZ (hw _ (List.mem_of_getElem? (i := 42) rfl)))) (mvT hZ (hw _ (List.mem_of_getElem? (i := 42) rfl))) (mvT hZ (hw _ (List.mem_of_getElem? (i := 41) rfl))) (by decide) (backOf (W := 0) (rmKeepNR l Z a0 hw [] b13 b7 T16.heap n0 z16 f16_E_b13 p16_1 p16_2 p16_3 g_b13) hZ (hw _ (List.mem_of_getElem? (i := 43) rfl)) (hw _ (List.mem_of_getElem? (i := 22) rfl)) (by decide) (by decide)) q324a q324c (g := (mkF m 82 #[iv p0, iv p1, iv p2, rv b1, rv b7, rv b13, rv b7, rv b7, iv (1 : Int32)] [.null, .null, (.ref b7), (.ref b13)])) rfl (by rw [hml]; rfl) (Steps.refl _) (argsL := [(.ref b7), .null, .null]) (rest := []) (lenOf pd_6 rfl) rfl (by show 2 * 0 + _ ≤ _; exact Nat.le_of_eq rfl) (hb hby at_82) (fun _ _ => ⟨rfl, e321, (by decide : 9 + 0 ≤ _), (by decide : 114 + 0 ≤ _)⟩)
      dsimp only [Pt.U, Pt.locs, Pt.cells, Pt.slots] at X324 l324 y324 z324 st324 hQ324
      subst l324 y324 z324
      obtain ⟨rfl, N324q, p324_0, p324_1, p324_2, p324_3⟩ := hQ324
      have N324 := Fr.app N241 N324q
      have f324_E_b1 : Exa Z T324.heap b1 sN2 := f16_E_b1.keep p324_0
      have f324_E_b7 : Exa Z T324.heap b7 sN2 := f16_E_b7.keep p324_0
      have f324_E_b13 : Exa Z T324.heap b13 sN0 := f16_E_b13.keep p324_0
      have z324 : n0 ≤ T324.heap.size := Nat.le_trans z16 p324_0.1
      have K324 : Keep h0 T324.heap [] := K16.trans p324_0 (allS (Or.inr sz_b13) all0)
      have R325 : ∀ t, Steps p.tables e below (T324.setTop (mkF m 85 #[iv p0, iv p1, iv p2, rv b1, rv b7, rv b13, rv b7, rv b7, iv (1 : Int32)] [])) t → Steps p.tables e below (s₁.setTop f0) t := fun t k => R323 t (st324.trans k)
      have R326 : ∀ t, Steps p.tables e below (T324.setTop (mkF m 92 #[iv p0, iv p1, iv p2, rv b1, rv b7, rv b13, rv b7, rv b7, iv (1 : Int32)] [(.ref b13)])) t → Steps p.tables e below (s₁.setTop f0) t := fun t k => R325 t (by
        show Steps p.tables e below (T324.setTop (mkF m 85 #[iv p0, iv p1, iv p2, rv b1, rv b7, rv b13, rv b7, rv b7, iv (1 : Int32)] [])) _
        refine XS.iload X324.here hx rfl (hb hby at_85) rfl  ?_
        show Steps p.tables e below (T324.setTop (mkF m 87 #[iv p0, iv p1, iv p2, rv b1, rv b7, rv b13, rv b7, rv b7, iv (1 : Int32)] [(.int (1 : Int32))])) _
        refine XS.ifNo X324.here hx rfl (hb hby at_87) rfl ((if0 _ _).trans (feq (by decide : ¬ ((1 : Int32) = (0 : Int32)))).1) ?_
        show Steps p.tables e below (T324.setTop (mkF m 90 #[iv p0, iv p1, iv p2, rv b1, rv b7, rv b13, rv b7, rv b7, iv (1 : Int32)] [])) _
        refine XS.aload X324.here hx rfl (hb hby at_90) rfl rfl ?_
        exact k)
      obtain ⟨T327, X327, e327, st327⟩ := getF X324 hx hZ hown (host := "") (Or.inl (hw _ (List.mem_of_getElem? (i := 33) rfl))) Via.refl rfl p324_1 (g := (mkF m 92 #[iv p0, iv p1, iv p2, rv b1, rv b7, rv b13, rv b7, rv b7, iv (1 : Int32)] [(.ref b13)])) rfl rfl (hb hby at_92)
      have R328 : ∀ t, Steps p.tables e below (T327.setTop (mkF m 95 #[iv p0, iv p1, iv p2, rv b1, rv b7, rv b13, rv b7, rv b7, iv (1 : Int32)] [(.ref b7)])) t → Steps p.tables e below (s₁.setTop f0) t := fun t k => R326 t (st327 t k)
      have R329 : ∀ t, Steps p.tables e below (T327.setTop (mkF m 102 #[iv p0, iv p1, iv p2, rv b1, rv b7, rv b13, rv b7, rv b7, iv (1 : Int32)] [(.ref b13)])) t → Steps p.tables e below (s₁.setTop f0) t := fun t k => R328 t (by
        show Steps p.tables e below (T327.setTop (mkF m 95 #[iv p0, iv p1, iv p2, rv b1, rv b7, rv b13, rv b7, rv b7, iv (1 : Int32)] [(.ref b7)])) _
        refine XS.aload X327.here hx rfl (hb hby at_95) rfl rfl ?_
        show Steps p.tables e below (T327.setTop (mkF m 97 #[iv p0, iv p1, iv p2, rv b1, rv b7, rv b13, rv b7, rv b7, iv (1 : Int32)] [(.ref b7), (.ref b7)])) _
        refine Jvm.RoadKit.acmp (g := (mkF m 97 #[iv p0, iv p1, iv p2, rv b1, rv b7, rv b13, rv b7, rv b7, iv (1 : Int32)] [(.ref b7), (.ref b7)])) X327 hx rfl rfl rfl (pc0 := 97) (pc' := 100) (same := true) rfl (hb hby at_97) rfl (decide_eq_true rfl) (by decide) (by decide) ?_
        show Steps p.tables e below (T327.setTop (mkF m 100 #[iv p0, iv p1, iv p2, rv b1, rv b7, rv b13, rv b7, rv b7, iv (1 : Int32)] [])) _
        refine XS.aload X327.here hx rfl (hb hby at_100) rfl rfl ?_
        exact k)
      obtain ⟨T330, X330, e330, st330⟩ := getF X327 hx hZ hown (host := "") (Or.inl (hw _ (List.mem_of_getElem? (i := 35) rfl))) Via.refl e327 p324_2 (g := (mkF m 102 #[iv p0, iv p1, iv p2, rv b1, rv b7, rv b13, rv b7, rv b7, iv (1 : Int32)] [(.ref b13)])) rfl rfl (hb hby at_102)
      have R331 : ∀ t, Steps p.tables e below (T330.setTop (mkF m 105 #[iv p0, iv p1, iv p2, rv b1, rv b7, rv b13, rv b7, rv b7, iv (1 : Int32)] [.null])) t → Steps p.tables e below (s₁.setTop f0) t := fun t k => R329 t (st330 t k)
      have R332 : ∀ t, Steps p.tables e below (T330.setTop (mkF m 110 #[iv p0, iv p1, iv p2, rv b1, rv b7, rv b13, rv b7, rv b7, iv (1 : Int32)] [(.ref b13)])) t → Steps p.tables e below (s₁.setTop f0) t := fun t k => R331 t (by
        show Steps p.tables e below (T330.setTop (mkF m 105 #[iv p0, iv p1, iv p2, rv b1, rv b7, rv b13, rv b7, rv b7, iv (1 : Int32)] [.null])) _
        refine XS.ifnonnullNo X330.here hx rfl (hb hby at_105) rfl ?_
        show Steps p.tables e below (T330.setTop (mkF m 108 #[iv p0, iv p1, iv p2, rv b1, rv b7, rv b13, rv b7, rv b7, iv (1 : Int32)] [])) _
        refine XS.aload X330.here hx rfl (hb hby at_108) rfl rfl ?_
        exact k)
      obtain ⟨T333, X333, e333, st333⟩ := getF X330 hx hZ hown (host := "") (Or.inl (hw _ (List.mem_of_getElem? (i := 37) rfl))) Via.refl e330 p324_3 (g := (mkF m 110 #[iv p0, iv p1, iv p2, rv b1, rv b7, rv b13, rv b7, rv b7, iv (1 : Int32)] [(.ref b13)])) rfl rfl (hb hby at_110)
      have R334 : ∀ t, Steps p.tables e below (T333.setTop (mkF m 113 #[iv p0, iv p1, iv p2, rv b1, rv b7, rv b13, rv b7, rv b7, iv (1 : Int32)] [.null])) t → Steps p.tables e below (s₁.setTop f0) t := fun t k => R332 t (st333 t k)
      have R335 : ∀ t, Steps p.tables e below (T333.setTop (mkF m 129 #[iv p0, iv p1, iv p2, rv b1, rv b7, rv b13, rv b7, rv b7, iv (1 : Int32)] [.null, .null, (.ref b7), (.ref b13)])) t → Steps p.tables e below (s₁.setTop f0) t := fun t k => R334 t (by
        show Steps p.tables e below (T333.setTop (mkF m 113 #[iv p0, iv p1, iv p2, rv b1, rv b7, rv b13, rv b7, rv b7, iv (1 : Int32)] [.null])) _
        refine XS.ifnonnullNo X333.here hx rfl (hb hby at_113) rfl ?_
        show Steps p.tables e below (T333.setTop (mkF m 116 #[iv p0, iv p1, iv p2, rv b1, rv b7, rv b13, rv b7, rv b7, iv (1 : Int32)] [])) _
        refine XS.iconst X333.here hx rfl (hb hby at_116) ?_
        show Steps p.tables e below (T333.setTop (mkF m 117 #[iv p0, iv p1, iv p2, rv b1, rv b7, rv b13, rv b7, rv b7, iv (1 : Int32)] [(.int (1 : Int32))])) _
        refine XS.goto X333.here hx rfl (pc0 := 117) (pc' := 121) rfl (hb hby at_117) (by decide) (by decide) ?_
        show Steps p.tables e below (T333.setTop (mkF m 121 #[iv p0, iv p1, iv p2, rv b1, rv b7, rv b13, rv b7, rv b7, iv (1 : Int32)] [(.int (1 : Int32))])) _
        refine XS.istore X333.here hx rfl (hb hby at_121) rfl (l' := #[iv p0, iv p1, iv p2, rv b1, rv b7, rv b13, rv b7, rv b7, iv (1 : Int32)]) rfl ?_
        show Steps p.tables e below (T333.setTop (mkF m 123 #[iv p0, iv p1, iv p2, rv b1, rv b7, rv b13, rv b7, rv b7, iv (1 : Int32)] [])) _
        refine XS.aload X333.here hx rfl (hb hby at_123) rfl rfl ?_
        show Steps p.tables e below (T333.setTop (mkF m 125 #[iv p0, iv p1, iv p2, rv b1, rv b7, rv b13, rv b7, rv b7, iv (1 : Int32)] [(.ref b13)])) _
        refine XS.aload X333.here hx rfl (hb hby at_125) rfl rfl ?_
        show Steps p.tables e below (T333.setTop (mkF m 127 #[iv p0, iv p1, iv p2, rv b1, rv b7, rv b13, rv b7, rv b7, iv (1 : Int32)] [(.ref b7), (.ref b13)])) _
        refine XS.aconstNull X333.here hx rfl (hb hby at_127) ?_
        show Steps p.tables e below (T333.setTop (mkF m 128 #[iv p0, iv p1, iv p2, rv b1, rv b7, rv b13, rv b7, rv b7, iv (1 : Int32)] [.null, (.ref b7), (.ref b13)])) _
        refine XS.aconstNull X333.here hx rfl (hb hby at_128) ?_
        exact k)
      obtain ⟨cq336, kq336, q336a, q336b, q336c⟩ := isOf hZ e333 f324_E_b13
      obtain ⟨_, _, ⟨T336, L336, k336, n336⟩, -, X336, ⟨Lc336, hQ336, l336, y336, z336⟩, st336⟩ := X333.virtualBack hx (y := (⟨sN0, "keep", sN1⟩ : MethodName)) (z := (⟨sN0, "keep", sN1⟩ : MethodName)) hown (mvT hZ (hw _ (List.mem_of_getElem? (i := 39) rfl))) (mvT hZ (hw _ (List.mem_of_getElem? (i := 40) rfl))) (notFace_of_selects (args := #[]) (mvT hZ (hw _ (List.mem_of_getElem? (i := 42) rfl)))) (mvT hZ (hw _ (List.mem_of_getElem? (i := 42) rfl))) (mvT hZ (hw _ (List.mem_of_getElem? (i := 41) rfl))) (by decide) (backOf (W := 0) (rmKeepRR l Z a0 hw [] b13 b7 b7 T324.heap n0 z324 f324_E_b13 p324_1 p324_2 p324_3 g_b13) hZ (hw _ (List.mem_of_getElem? (i := 43) rfl)) (hw _ (List.mem_of_getElem? (i := 22) rfl)) (by decide) (by decide)) q336a q336c (g := (mkF m 129 #[iv p0, iv p1, iv p2, rv b1, rv b7, rv b13, rv b7, rv b7, iv (1 : Int32)] [.null, .null, (.ref b7), (.ref b13)])) rfl (by rw [hml]; rfl) (Steps.refl _) (argsL := [(.ref b7), .null, .null]) (rest := []) (lenOf pd_6 rfl) rfl (by show 2 * 0 + _ ≤ _; exact Nat.le_of_eq rfl) (hb hby at_129) (fun _ _ => ⟨rfl, e333, (by decide : 9 + 0 ≤ _), (by decide : 114 + 0 ≤ _)⟩)
      dsimp only [Pt.U, Pt.locs, Pt.cells, Pt.slots] at X336 l336 y336 z336 st336 hQ336
      subst l336 y336 z336
      obtain ⟨rfl, N336q, p336_0, p336_1, p336_2, p336_3⟩ := hQ336
      have N336 := Fr.app N324 N336q
      have f336_E_b1 : Exa Z T336.heap b1 sN2 := f324_E_b1.keep p336_0
      have f336_E_b7 : Exa Z T336.heap b7 sN2 := f324_E_b7.keep p336_0
      have f336_E_b13 : Exa Z T336.heap b13 sN0 := f324_E_b13.keep p336_0
      have z336 : n0 ≤ T336.heap.size := Nat.le_trans z324 p336_0.1
      have K336 : Keep h0 T336.heap [] := K324.trans p336_0 (allS (Or.inr sz_b13) all0)
      have R337 : ∀ t, Steps p.tables e below (T336.setTop (mkF m 132 #[iv p0, iv p1, iv p2, rv b1, rv b7, rv b13, rv b7, rv b7, iv (1 : Int32)] [])) t → Steps p.tables e below (s₁.setTop f0) t := fun t k => R335 t (st336.trans k)
      have R338 : ∀ t, Steps p.tables e below (T336.setTop (mkF m 139 #[iv p0, iv p1, iv p2, rv b1, rv b7, rv b13, rv b7, rv b7, iv (1 : Int32)] [(.ref b13)])) t → Steps p.tables e below (s₁.setTop f0) t := fun t k => R337 t (by
        show Steps p.tables e below (T336.setTop (mkF m 132 #[iv p0, iv p1, iv p2, rv b1, rv b7, rv b13, rv b7, rv b7, iv (1 : Int32)] [])) _
        refine XS.iload X336.here hx rfl (hb hby at_132) rfl  ?_
        show Steps p.tables e below (T336.setTop (mkF m 134 #[iv p0, iv p1, iv p2, rv b1, rv b7, rv b13, rv b7, rv b7, iv (1 : Int32)] [(.int (1 : Int32))])) _
        refine XS.ifNo X336.here hx rfl (hb hby at_134) rfl ((if0 _ _).trans (feq (by decide : ¬ ((1 : Int32) = (0 : Int32)))).1) ?_
        show Steps p.tables e below (T336.setTop (mkF m 137 #[iv p0, iv p1, iv p2, rv b1, rv b7, rv b13, rv b7, rv b7, iv (1 : Int32)] [])) _
        refine XS.aload X336.here hx rfl (hb hby at_137) rfl rfl ?_
        exact k)
      obtain ⟨T339, X339, e339, st339⟩ := getF X336 hx hZ hown (host := "") (Or.inl (hw _ (List.mem_of_getElem? (i := 33) rfl))) Via.refl rfl p336_1 (g := (mkF m 139 #[iv p0, iv p1, iv p2, rv b1, rv b7, rv b13, rv b7, rv b7, iv (1 : Int32)] [(.ref b13)])) rfl rfl (hb hby at_139)
      have R340 : ∀ t, Steps p.tables e below (T339.setTop (mkF m 142 #[iv p0, iv p1, iv p2, rv b1, rv b7, rv b13, rv b7, rv b7, iv (1 : Int32)] [(.ref b7)])) t → Steps p.tables e below (s₁.setTop f0) t := fun t k => R338 t (st339 t k)
      have R341 : ∀ t, Steps p.tables e below (T339.setTop (mkF m 149 #[iv p0, iv p1, iv p2, rv b1, rv b7, rv b13, rv b7, rv b7, iv (1 : Int32)] [(.ref b13)])) t → Steps p.tables e below (s₁.setTop f0) t := fun t k => R340 t (by
        show Steps p.tables e below (T339.setTop (mkF m 142 #[iv p0, iv p1, iv p2, rv b1, rv b7, rv b13, rv b7, rv b7, iv (1 : Int32)] [(.ref b7)])) _
        refine XS.aload X339.here hx rfl (hb hby at_142) rfl rfl ?_
        show Steps p.tables e below (T339.setTop (mkF m 144 #[iv p0, iv p1, iv p2, rv b1, rv b7, rv b13, rv b7, rv b7, iv (1 : Int32)] [(.ref b7), (.ref b7)])) _
        refine Jvm.RoadKit.acmp (g := (mkF m 144 #[iv p0, iv p1, iv p2, rv b1, rv b7, rv b13, rv b7, rv b7, iv (1 : Int32)] [(.ref b7), (.ref b7)])) X339 hx rfl rfl rfl (pc0 := 144) (pc' := 147) (same := true) rfl (hb hby at_144) rfl (decide_eq_true rfl) (by decide) (by decide) ?_
        show Steps p.tables e below (T339.setTop (mkF m 147 #[iv p0, iv p1, iv p2, rv b1, rv b7, rv b13, rv b7, rv b7, iv (1 : Int32)] [])) _
        refine XS.aload X339.here hx rfl (hb hby at_147) rfl rfl ?_
        exact k)
      obtain ⟨T342, X342, e342, st342⟩ := getF X339 hx hZ hown (host := "") (Or.inl (hw _ (List.mem_of_getElem? (i := 35) rfl))) Via.refl e339 p336_2 (g := (mkF m 149 #[iv p0, iv p1, iv p2, rv b1, rv b7, rv b13, rv b7, rv b7, iv (1 : Int32)] [(.ref b13)])) rfl rfl (hb hby at_149)
      have R343 : ∀ t, Steps p.tables e below (T342.setTop (mkF m 152 #[iv p0, iv p1, iv p2, rv b1, rv b7, rv b13, rv b7, rv b7, iv (1 : Int32)] [.null])) t → Steps p.tables e below (s₁.setTop f0) t := fun t k => R341 t (st342 t k)
      have R344 : ∀ t, Steps p.tables e below (T342.setTop (mkF m 157 #[iv p0, iv p1, iv p2, rv b1, rv b7, rv b13, rv b7, rv b7, iv (1 : Int32)] [(.ref b13)])) t → Steps p.tables e below (s₁.setTop f0) t := fun t k => R343 t (by
        show Steps p.tables e below (T342.setTop (mkF m 152 #[iv p0, iv p1, iv p2, rv b1, rv b7, rv b13, rv b7, rv b7, iv (1 : Int32)] [.null])) _
        refine XS.ifnonnullNo X342.here hx rfl (hb hby at_152) rfl ?_
        show Steps p.tables e below (T342.setTop (mkF m 155 #[iv p0, iv p1, iv p2, rv b1, rv b7, rv b13, rv b7, rv b7, iv (1 : Int32)] [])) _
        refine XS.aload X342.here hx rfl (hb hby at_155) rfl rfl ?_
        exact k)
      obtain ⟨T345, X345, e345, st345⟩ := getF X342 hx hZ hown (host := "") (Or.inl (hw _ (List.mem_of_getElem? (i := 37) rfl))) Via.refl e342 p336_3 (g := (mkF m 157 #[iv p0, iv p1, iv p2, rv b1, rv b7, rv b13, rv b7, rv b7, iv (1 : Int32)] [(.ref b13)])) rfl rfl (hb hby at_157)
      have R346 : ∀ t, Steps p.tables e below (T345.setTop (mkF m 160 #[iv p0, iv p1, iv p2, rv b1, rv b7, rv b13, rv b7, rv b7, iv (1 : Int32)] [.null])) t → Steps p.tables e below (s₁.setTop f0) t := fun t k => R344 t (st345 t k)
      have R347 : ∀ t, Steps p.tables e below (T345.setTop (mkF m 172 #[iv p0, iv p1, iv p2, rv b1, rv b7, rv b13, rv b7, rv b7, iv (1 : Int32)] [(.int (1 : Int32))])) t → Steps p.tables e below (s₁.setTop f0) t := fun t k => R346 t (by
        show Steps p.tables e below (T345.setTop (mkF m 160 #[iv p0, iv p1, iv p2, rv b1, rv b7, rv b13, rv b7, rv b7, iv (1 : Int32)] [.null])) _
        refine XS.ifnonnullNo X345.here hx rfl (hb hby at_160) rfl ?_
        show Steps p.tables e below (T345.setTop (mkF m 163 #[iv p0, iv p1, iv p2, rv b1, rv b7, rv b13, rv b7, rv b7, iv (1 : Int32)] [])) _
        refine XS.iconst X345.here hx rfl (hb hby at_163) ?_
        show Steps p.tables e below (T345.setTop (mkF m 164 #[iv p0, iv p1, iv p2, rv b1, rv b7, rv b13, rv b7, rv b7, iv (1 : Int32)] [(.int (1 : Int32))])) _
        refine XS.goto X345.here hx rfl (pc0 := 164) (pc' := 168) rfl (hb hby at_164) (by decide) (by decide) ?_
        show Steps p.tables e below (T345.setTop (mkF m 168 #[iv p0, iv p1, iv p2, rv b1, rv b7, rv b13, rv b7, rv b7, iv (1 : Int32)] [(.int (1 : Int32))])) _
        refine XS.istore X345.here hx rfl (hb hby at_168) rfl (l' := #[iv p0, iv p1, iv p2, rv b1, rv b7, rv b13, rv b7, rv b7, iv (1 : Int32)]) rfl ?_
        show Steps p.tables e below (T345.setTop (mkF m 170 #[iv p0, iv p1, iv p2, rv b1, rv b7, rv b13, rv b7, rv b7, iv (1 : Int32)] [])) _
        refine XS.iload X345.here hx rfl (hb hby at_170) rfl  ?_
        exact k)
      obtain ⟨fs, hr, hrun, hended, hW, hsame⟩ := X345.leave (v := some (.int (1 : Int32))) (fun h => by rw [Bd.returns] at h; cases h)
      refine ⟨_, _, pre0 _ (R347 _ ?_), hrun, hended, _, _, rfl, ?_, ⟨_, rfl⟩, hW, hsame.mono (by decide) (by decide)⟩
      · show Steps p.tables e below (T345.setTop (mkF m 172 #[iv p0, iv p1, iv p2, rv b1, rv b7, rv b13, rv b7, rv b7, iv (1 : Int32)] [(.int (1 : Int32))])) _
        exact retN X345 hx (t := .boolean) Bd.returns (by simp) (hb hby at_172) hr
      · show Q_rmLaw Z p0 p1 p2 h0 n0 _ T345.heap _
        rw [e345]
        exact ⟨rfl, N336⟩
set_option maxRecDepth 65536 in
set_option maxHeartbeats 40000000 in
theorem comes_1 {Post : Tables → Env → Array Value → State → Outcome → State → Prop} (hpost : ∀ tb e args s v u, (limb_1_1.after args s (.returned v) u = true ∧ limb_1_2.after args s (.returned v) u = true ∧ True) → FrameEnd s (.returned v) u (Jvm.fieldLocs frame_1_writes args s ++ Jvm.arrayLocs frame_1_arrays args s ++ Jvm.staticLocs frame_1_statics s) 32 320 → Post tb e args s (.returned v) u) :
    ArmFor flags0 classFile x code maxLocals ret World_1 tables_1 room_1 Calls_1 rest_1 Pre_1 Post := by
  intro l hfl _ _ p e ha hc hk s m args below hf hA hF happ hP
  obtain ⟨hcalls, hrest, hpre⟩ := hP
  obtain ⟨-, -, -, hnamed, -, -, -, hat⟩ := (Spec.applies_iff hf).mp happ
  obtain ⟨hg, hn⟩ := and_e (Cond.before_iff.mp (show (Jvm.Cond.and given_1 narrow_1).before args s = true from hpre))
  obtain ⟨gg1, gg2⟩ := and_e hg
  obtain ⟨gg3, gg4⟩ := and_e gg2
  obtain ⟨gg5, gg6⟩ := and_e gg4
  obtain ⟨w0, w1, w2, rfl⟩ : ∃ w0 w1 w2 : Value, args = #[w0, w1, w2] := by
    have hs : args.size = 3 := by simpa [Cond.value, given_1] using gg1
    obtain ⟨L⟩ := args
    match L, hs with
    | [w0, w1, w2], _ => exact ⟨w0, w1, w2, rfl⟩
  have hw := fun d (hd : d ∈ tables_1) => atoms_spec (ws := Jvm.Cond.code x code maxLocals ret :: tables_1) hat d (List.mem_cons_of_mem _ hd)
  have hfit : Fit s := fun {y c} hc i hi => by
    obtain ⟨ha, rfl⟩ := Array.getElem?_eq_some_iff.mp hc
    have q := List.all_eq_true.mp ((Array.all_eq_true_iff_forall_mem.mp hF) _ (Array.getElem_mem ha)) i (List.mem_range.mpr hi)
    simpa [Array.getElem?_eq_getElem hi] using q
  obtain ⟨i0, ei0⟩ := is_v gg3
  obtain rfl : w0 = (.int i0) := Option.some.inj ei0
  obtain ⟨i1, ei1⟩ := is_v gg5
  obtain rfl : w1 = (.int i1) := Option.some.inj ei1
  obtain ⟨i2, ei2⟩ := is_v gg6
  obtain rfl : w2 = (.int i2) := Option.some.inj ei2
  obtain ⟨n, o, h1, h2, h3, _, L, rfl, ⟨rfl, N⟩, hq⟩ := rmLaw l s _ hw tables_1 i0 i1 i2 s.heap s.heap.size (Nat.le_refl _) p e ha hc hk s m _ below hf ((Spec.applies_iff_loose hf).mp happ).1 ⟨rfl, State.Warmed39.refl s, rfl⟩ trivial
  refine ⟨n, _, h1, h2, h3, hpost _ _ _ _ _ _ ⟨Cond.after_iff.mpr rfl, Cond.after_iff.mpr (eq_i res_at (Term.int_eval (1)) rfl), trivial⟩ ⟨hq.1, hq.2.1, (hq.2.2.sift fun y hy => Or.inr (N y hy)).mono (by decide) (by decide)⟩⟩
theorem main_1_1 : Claimed_1_1 := comes_1 fun _ _ _ _ _ _ h hF => ⟨h.1, hF⟩
theorem main_1_2 : Claimed_1_2 := comes_1 fun _ _ _ _ _ _ h hF => ⟨h.2.1, hF⟩
end Jvm.Pilot.@@N@@
namespace Jvm.Pilot.@@N@@
open Jvm Jvm.ClassFile Sem Op Lib Jvm.Free Jvm.Stand Jvm.Pilot.@@N@@.Jvm.D
/-! MADE BY PROGRAM (witnessworld.py) out of the Statement's table words and the real class files: 16 classes; the members and pool entries that the words name. The judged class is class 1, her method 2. -/
namespace start1
open Jvm.ClassFile
def u (s : String) : CpInfo := .utf8 (stringToUtf16 s)
/-- a pool by its gaps: so many unusable entries, then the entry; so many at the end -/
def gap : Nat → List CpInfo → List CpInfo
  | 0, r => r
  | n + 1, r => .unusable :: gap n r
def poolList (es : List (Nat × CpInfo)) (last : Nat) : List CpInfo := es.foldr (fun e r => gap e.1 (e.2 :: r)) (gap last [])
def pool (es : List (Nat × CpInfo)) (last : Nat) : Array CpInfo := ⟨poolList es last⟩
def fileOf (pool : Array CpInfo) (this : Nat) (attrs : Array Attribute := #[]) (ms : Array MethodInfo := #[]) (fl : Nat := 33) (sup : Nat := 0) (ifs : Array Nat := #[]) (fds : Array FieldInfo := #[]) : ClassFile where
  minorVersion := 0
  majorVersion := 65
  constantPool := pool
  accessFlags := fl
  thisClass := this
  superClass := sup
  interfaces := ifs
  fields := fds
  methods := ms
  attributes := attrs
def plain (name : String) (sup : Option ClassId) : Class where
  name := name
  kind := .ordinary
  loader := none
  accessFlags := 33
  super := sup
  interfaces := #[]
  cf := none
  fields := #[]
  methods := #[]
  instanceTypes := #[]
  staticTypes := #[]
  resolved := #[]
  callSites := []
  init := .initialized
  statics := none
  mirror := none

def pool0 : Array CpInfo := pool [(5, u "<init>"), (0, u "()V"), (1, .class_ 10), (1, u "java/lang/Object")] 113

def k0c0 : Code := { maxStack := 0, maxLocals := 1, code := object_method_1_code, exceptionTable := #[], attributes := #[] }
def k0m0 : Method := { name := "<init>", desc := "()V", sig := { parameters := [], returnType := none }, accessFlags := 1, code := some k0c0 }
/-- java/lang/Object -/
def k0 : Class := { plain "java/lang/Object" none with
  accessFlags := 33
  interfaces := #[]
  cf := some (fileOf pool0 8 #[] #[{ accessFlags := 1, nameIndex := 5, descriptorIndex := 6, attributes := #[] }] 33 0 #[] #[])
  fields := #[]
  methods := #[k0m0]
  instanceTypes := #[]
  staticTypes := #[]
  resolved := Array.replicate 124 none
  statics := none }

def pool1 : Array CpInfo := pool [(2, .class_ 4), (0, .nameAndType 5 6), (0, u "java/lang/Object"), (0, u "<init>"), (0, u "()V"), (0, .class_ 8), (0, u "com/example/biaoji/biaoji/NameTable"), (0, .methodref 7 3), (0, .class_ 11), (0, u "com/example/biaoji/biaoji/ParserSpares$Spare"), (0, .methodref 10 13), (0, .nameAndType 5 14), (0, u "(I)V"), (0, .methodref 16 17), (0, .class_ 18), (0, .nameAndType 19 20), (0, u "com/example/biaoji/biaoji/SpareKeepPinLaw"), (0, u "pick"), (0, u "(ILcom/example/biaoji/biaoji/NameTable;Lcom/example/biaoji/biaoji/NameTable;)Lcom/example/biaoji/biaoji/NameTable;"), (0, .fieldref 10 22), (0, .nameAndType 23 24), (0, u "names"), (0, u "Lcom/example/biaoji/biaoji/NameTable;"), (0, .fieldref 10 26), (0, .nameAndType 27 28), (0, u "reader"), (0, u "Lcom/example/biaoji/biaoji/StreamEntityReader;"), (0, .fieldref 10 30), (0, .nameAndType 31 32), (0, u "scanner"), (0, u "Lcom/example/biaoji/biaoji/DocumentScanner;"), (0, .methodref 10 34), (0, .nameAndType 35 36), (0, u "keep"), (0, u "(Lcom/example/biaoji/biaoji/NameTable;Lcom/example/biaoji/biaoji/StreamEntityReader;Lcom/example/biaoji/biaoji/DocumentScanner;)V"), (3, u "law"), (0, u "(III)Z")] 6

def k1m0 : Method := { name := "<init>", desc := "()V", sig := { parameters := [], returnType := none }, accessFlags := 1, code := none }
def k1c1 : Code := { maxStack := 2, maxLocals := 4, code := method_2_code, exceptionTable := #[], attributes := #[] }
def k1m1 : Method := { name := "pick", desc := "(ILcom/example/biaoji/biaoji/NameTable;Lcom/example/biaoji/biaoji/NameTable;)Lcom/example/biaoji/biaoji/NameTable;", sig := { parameters := [.int, (.object "com/example/biaoji/biaoji/NameTable"), (.object "com/example/biaoji/biaoji/NameTable")], returnType := some (.object "com/example/biaoji/biaoji/NameTable") }, accessFlags := 10, code := some k1c1 }
def k1c2 : Code := { maxStack := 4, maxLocals := 9, code := code, exceptionTable := #[], attributes := #[] }
def k1m2 : Method := { name := "law", desc := "(III)Z", sig := { parameters := [.int, .int, .int], returnType := some .boolean }, accessFlags := 9, code := some k1c2 }
/-- com/example/biaoji/biaoji/SpareKeepPinLaw -/
def k1 : Class := { plain "com/example/biaoji/biaoji/SpareKeepPinLaw" (some 0) with
  accessFlags := 49
  interfaces := #[]
  cf := some (fileOf pool1 16 #[] #[{ accessFlags := 1, nameIndex := 5, descriptorIndex := 6, attributes := #[] }, { accessFlags := 10, nameIndex := 19, descriptorIndex := 20, attributes := #[] }, { accessFlags := 9, nameIndex := 40, descriptorIndex := 41, attributes := #[] }] 49 2 #[] #[])
  fields := #[]
  methods := #[k1m0, k1m1, k1m2]
  instanceTypes := #[]
  staticTypes := #[]
  resolved := Array.replicate 48 none
  statics := none }

def pool2 : Array CpInfo := pool [(1, .methodref 2 3), (0, .class_ 4), (0, .nameAndType 5 6), (0, u "java/lang/Object"), (0, u "<init>"), (0, u "()V"), (0, .class_ 8), (0, u "java/lang/String"), (0, .fieldref 10 11), (0, .class_ 12), (0, .nameAndType 13 14), (0, u "com/example/biaoji/biaoji/NameTable"), (0, u "slots"), (0, u "[Ljava/lang/String;"), (0, .fieldref 10 16), (0, .nameAndType 17 18), (0, u "hashes"), (0, u "[I"), (0, .class_ 20), (0, u "[C"), (0, .fieldref 10 22), (0, .nameAndType 23 24), (0, u "spellings"), (0, u "[[C"), (2, u "count"), (0, u "I"), (2, u "characters"), (24, u "scratch"), (14, u "takenUp"), (25, u "MAX_NAMES"), (2, u "MAX_NAME_LENGTH"), (1, u "MAX_CHARACTERS")] 13

def k2c0 : Code := { maxStack := 2, maxLocals := 1, code := prog_59_method_1_code, exceptionTable := #[], attributes := #[] }
def k2m0 : Method := { name := "<init>", desc := "()V", sig := { parameters := [], returnType := none }, accessFlags := 0, code := some k2c0 }
/-- com/example/biaoji/biaoji/NameTable -/
def k2 : Class := { plain "com/example/biaoji/biaoji/NameTable" (some 0) with
  accessFlags := 48
  interfaces := #[]
  cf := some (fileOf pool2 10 #[] #[{ accessFlags := 0, nameIndex := 5, descriptorIndex := 6, attributes := #[] }] 48 2 #[] #[{ accessFlags := 26, nameIndex := 97, descriptorIndex := 28, attributes := #[] }, { accessFlags := 24, nameIndex := 100, descriptorIndex := 28, attributes := #[] }, { accessFlags := 24, nameIndex := 102, descriptorIndex := 28, attributes := #[] }, { accessFlags := 2, nameIndex := 13, descriptorIndex := 14, attributes := #[] }, { accessFlags := 2, nameIndex := 17, descriptorIndex := 18, attributes := #[] }, { accessFlags := 2, nameIndex := 23, descriptorIndex := 24, attributes := #[] }, { accessFlags := 2, nameIndex := 27, descriptorIndex := 28, attributes := #[] }, { accessFlags := 2, nameIndex := 31, descriptorIndex := 28, attributes := #[] }, { accessFlags := 2, nameIndex := 71, descriptorIndex := 14, attributes := #[] }, { accessFlags := 2, nameIndex := 56, descriptorIndex := 20, attributes := #[] }])
  fields := #[{ name := "MAX_NAMES", type := .int, accessFlags := 26, slot := 0, constantValue := 0 }, { name := "MAX_NAME_LENGTH", type := .int, accessFlags := 24, slot := 1, constantValue := 0 }, { name := "MAX_CHARACTERS", type := .int, accessFlags := 24, slot := 2, constantValue := 0 }, { name := "slots", type := (.array (.object "java/lang/String")), accessFlags := 2, slot := 0, constantValue := 0 }, { name := "hashes", type := (.array .int), accessFlags := 2, slot := 1, constantValue := 0 }, { name := "spellings", type := (.array (.array .char)), accessFlags := 2, slot := 2, constantValue := 0 }, { name := "count", type := .int, accessFlags := 2, slot := 3, constantValue := 0 }, { name := "characters", type := .int, accessFlags := 2, slot := 4, constantValue := 0 }, { name := "takenUp", type := (.array (.object "java/lang/String")), accessFlags := 2, slot := 5, constantValue := 0 }, { name := "scratch", type := (.array .char), accessFlags := 2, slot := 6, constantValue := 0 }]
  methods := #[k2m0]
  instanceTypes := #[(.array (.object "java/lang/String")), (.array .int), (.array (.array .char)), .int, .int, (.array (.object "java/lang/String")), (.array .char)]
  staticTypes := #[.int, .int, .int]
  resolved := Array.replicate 116 none
  statics := none }

def pool3 : Array CpInfo := pool [(1, .class_ 2), (0, u "java/io/Serializable"), (0, .class_ 4), (0, u "java/lang/Object")] 2

/-- java/io/Serializable -/
def k3 : Class := { plain "java/io/Serializable" (some 0) with
  accessFlags := 1537
  interfaces := #[]
  cf := some (fileOf pool3 1 #[] #[] 1537 3 #[] #[])
  fields := #[]
  methods := #[]
  instanceTypes := #[]
  staticTypes := #[]
  resolved := Array.replicate 7 none
  statics := none }

def pool4 : Array CpInfo := pool [(1, .class_ 2), (0, u "java/lang/Comparable"), (0, .class_ 4), (0, u "java/lang/Object")] 7

/-- java/lang/Comparable -/
def k4 : Class := { plain "java/lang/Comparable" (some 0) with
  accessFlags := 1537
  interfaces := #[]
  cf := some (fileOf pool4 1 #[] #[] 1537 3 #[] #[])
  fields := #[]
  methods := #[]
  instanceTypes := #[]
  staticTypes := #[]
  resolved := Array.replicate 12 none
  statics := none }

def pool5 : Array CpInfo := pool [(2, .class_ 4), (1, u "java/lang/CharSequence"), (42, .class_ 48), (0, u "java/lang/CharSequence$1CodePointIterator"), (10, .class_ 60), (0, u "java/lang/CharSequence$1CharIterator"), (5, .class_ 67), (0, u "java/lang/Object")] 63

/-- java/lang/CharSequence -/
def k5 : Class := { plain "java/lang/CharSequence" (some 0) with
  accessFlags := 1537
  interfaces := #[]
  cf := some (fileOf pool5 2 #[.nestMembers #[47, 59]] #[] 1537 66 #[] #[])
  fields := #[]
  methods := #[]
  instanceTypes := #[]
  staticTypes := #[]
  resolved := Array.replicate 131 none
  statics := none }

def pool6 : Array CpInfo := pool [(1, .class_ 2), (0, u "java/lang/constant/Constable"), (0, .class_ 4), (0, u "java/lang/Object")] 6

/-- java/lang/constant/Constable -/
def k6 : Class := { plain "java/lang/constant/Constable" (some 0) with
  accessFlags := 1537
  interfaces := #[]
  cf := some (fileOf pool6 1 #[] #[] 1537 3 #[] #[])
  fields := #[]
  methods := #[]
  instanceTypes := #[]
  staticTypes := #[]
  resolved := Array.replicate 11 none
  statics := none }

def pool7 : Array CpInfo := pool [(1, .class_ 2), (0, u "java/lang/constant/ConstantDesc"), (0, .class_ 4), (0, u "java/lang/Object")] 32

/-- java/lang/constant/ConstantDesc -/
def k7 : Class := { plain "java/lang/constant/ConstantDesc" (some 0) with
  accessFlags := 1537
  interfaces := #[]
  cf := some (fileOf pool7 1 #[] #[] 1537 3 #[] #[])
  fields := #[]
  methods := #[]
  instanceTypes := #[]
  staticTypes := #[]
  resolved := Array.replicate 37 none
  statics := none }

def pool8 : Array CpInfo := pool [(2, .class_ 4), (1, u "java/lang/Object"), (0, u "<init>"), (0, u "()V"), (3, .class_ 12), (1, u "java/lang/String"), (0, u "value"), (0, u "[B"), (2, u "coder"), (0, u "B"), (2, u "hash"), (0, u "I"), (2, u "hashIsZero"), (0, u "Z"), (13, u "COMPACT_STRINGS"), (534, .class_ 576), (0, u "java/lang/CharSequence"), (22, u "CASE_INSENSITIVE_ORDER"), (0, u "Ljava/util/Comparator;"), (500, u "serialPersistentFields"), (0, u "[Ljava/io/ObjectStreamField;"), (0, .class_ 1104), (0, u "java/lang/String$CaseInsensitiveComparator"), (1, .class_ 1107), (0, u "java/io/Serializable"), (0, .class_ 1109), (0, u "java/lang/Comparable"), (0, .class_ 1111), (0, u "java/lang/constant/Constable"), (0, .class_ 1113), (0, u "java/lang/constant/ConstantDesc"), (2, u "serialVersionUID"), (0, u "J"), (3, u "REPL"), (0, u "C"), (2, u "LATIN1"), (1, u "UTF16")] 323

def k8m0 : Method := { name := "<init>", desc := "()V", sig := { parameters := [], returnType := none }, accessFlags := 1, code := none }
/-- java/lang/String -/
def k8 : Class := { plain "java/lang/String" (some 0) with
  accessFlags := 49
  interfaces := #[3, 4, 5, 6, 7]
  cf := some (fileOf pool8 10 #[.nestMembers #[1103]] #[{ accessFlags := 1, nameIndex := 5, descriptorIndex := 6, attributes := #[] }] 49 2 #[1106, 1108, 575, 1110, 1112] #[{ accessFlags := 18, nameIndex := 13, descriptorIndex := 14, attributes := #[] }, { accessFlags := 18, nameIndex := 17, descriptorIndex := 18, attributes := #[] }, { accessFlags := 2, nameIndex := 21, descriptorIndex := 22, attributes := #[] }, { accessFlags := 2, nameIndex := 25, descriptorIndex := 26, attributes := #[] }, { accessFlags := 26, nameIndex := 1116, descriptorIndex := 1117, attributes := #[] }, { accessFlags := 24, nameIndex := 40, descriptorIndex := 26, attributes := #[] }, { accessFlags := 26, nameIndex := 1101, descriptorIndex := 1102, attributes := #[] }, { accessFlags := 26, nameIndex := 1121, descriptorIndex := 1122, attributes := #[] }, { accessFlags := 25, nameIndex := 599, descriptorIndex := 600, attributes := #[] }, { accessFlags := 24, nameIndex := 1125, descriptorIndex := 18, attributes := #[] }, { accessFlags := 24, nameIndex := 1127, descriptorIndex := 18, attributes := #[] }])
  fields := #[{ name := "value", type := (.array .byte), accessFlags := 18, slot := 0, constantValue := 0 }, { name := "coder", type := .byte, accessFlags := 18, slot := 1, constantValue := 0 }, { name := "hash", type := .int, accessFlags := 2, slot := 2, constantValue := 0 }, { name := "hashIsZero", type := .boolean, accessFlags := 2, slot := 3, constantValue := 0 }, { name := "serialVersionUID", type := .long, accessFlags := 26, slot := 0, constantValue := 0 }, { name := "COMPACT_STRINGS", type := .boolean, accessFlags := 24, slot := 1, constantValue := 0 }, { name := "serialPersistentFields", type := (.array (.object "java/io/ObjectStreamField")), accessFlags := 26, slot := 2, constantValue := 0 }, { name := "REPL", type := .char, accessFlags := 26, slot := 3, constantValue := 0 }, { name := "CASE_INSENSITIVE_ORDER", type := (.object "java/util/Comparator"), accessFlags := 25, slot := 4, constantValue := 0 }, { name := "LATIN1", type := .byte, accessFlags := 24, slot := 5, constantValue := 0 }, { name := "UTF16", type := .byte, accessFlags := 24, slot := 6, constantValue := 0 }]
  methods := #[k8m0]
  instanceTypes := #[(.array .byte), .byte, .int, .boolean]
  staticTypes := #[.long, .boolean, (.array (.object "java/io/ObjectStreamField")), .char, (.object "java/util/Comparator"), .byte, .byte]
  resolved := Array.replicate 1451 none
  statics := none }

def pool9 : Array CpInfo := pool [(1, .methodref 2 3), (0, .class_ 4), (0, .nameAndType 5 6), (0, u "java/lang/Object"), (0, u "<init>"), (0, u "()V"), (0, .fieldref 8 9), (0, .class_ 10), (0, .nameAndType 11 12), (0, u "com/example/biaoji/biaoji/ParserSpares$Spare"), (0, u "place"), (0, u "I"), (0, .fieldref 8 14), (0, .nameAndType 15 16), (0, u "names"), (0, u "Lcom/example/biaoji/biaoji/NameTable;"), (0, .fieldref 8 18), (0, .nameAndType 19 20), (0, u "reader"), (0, u "Lcom/example/biaoji/biaoji/StreamEntityReader;"), (0, .fieldref 8 22), (0, .nameAndType 23 24), (0, u "scanner"), (0, u "Lcom/example/biaoji/biaoji/DocumentScanner;"), (0, u "(I)V"), (2, u "keep"), (0, u "(Lcom/example/biaoji/biaoji/NameTable;Lcom/example/biaoji/biaoji/StreamEntityReader;Lcom/example/biaoji/biaoji/DocumentScanner;)V"), (4, .class_ 35), (0, u "com/example/biaoji/biaoji/ParserSpares")] 2

def k9c0 : Code := { maxStack := 2, maxLocals := 2, code := prog_62_method_1_code, exceptionTable := #[], attributes := #[] }
def k9m0 : Method := { name := "<init>", desc := "(I)V", sig := { parameters := [.int], returnType := none }, accessFlags := 0, code := some k9c0 }
def k9c1 : Code := { maxStack := 2, maxLocals := 4, code := prog_62_method_2_code, exceptionTable := #[], attributes := #[] }
def k9m1 : Method := { name := "keep", desc := "(Lcom/example/biaoji/biaoji/NameTable;Lcom/example/biaoji/biaoji/StreamEntityReader;Lcom/example/biaoji/biaoji/DocumentScanner;)V", sig := { parameters := [(.object "com/example/biaoji/biaoji/NameTable"), (.object "com/example/biaoji/biaoji/StreamEntityReader"), (.object "com/example/biaoji/biaoji/DocumentScanner")], returnType := none }, accessFlags := 0, code := some k9c1 }
/-- com/example/biaoji/biaoji/ParserSpares$Spare -/
def k9 : Class := { plain "com/example/biaoji/biaoji/ParserSpares$Spare" (some 0) with
  accessFlags := 48
  interfaces := #[]
  cf := some (fileOf pool9 8 #[.nestHost 34] #[{ accessFlags := 0, nameIndex := 5, descriptorIndex := 25, attributes := #[] }, { accessFlags := 0, nameIndex := 28, descriptorIndex := 29, attributes := #[] }] 48 2 #[] #[{ accessFlags := 18, nameIndex := 11, descriptorIndex := 12, attributes := #[] }, { accessFlags := 0, nameIndex := 15, descriptorIndex := 16, attributes := #[] }, { accessFlags := 0, nameIndex := 19, descriptorIndex := 20, attributes := #[] }, { accessFlags := 0, nameIndex := 23, descriptorIndex := 24, attributes := #[] }])
  fields := #[{ name := "place", type := .int, accessFlags := 18, slot := 0, constantValue := 0 }, { name := "names", type := (.object "com/example/biaoji/biaoji/NameTable"), accessFlags := 0, slot := 1, constantValue := 0 }, { name := "reader", type := (.object "com/example/biaoji/biaoji/StreamEntityReader"), accessFlags := 0, slot := 2, constantValue := 0 }, { name := "scanner", type := (.object "com/example/biaoji/biaoji/DocumentScanner"), accessFlags := 0, slot := 3, constantValue := 0 }]
  methods := #[k9m0, k9m1]
  instanceTypes := #[.int, (.object "com/example/biaoji/biaoji/NameTable"), (.object "com/example/biaoji/biaoji/StreamEntityReader"), (.object "com/example/biaoji/biaoji/DocumentScanner")]
  staticTypes := #[]
  resolved := Array.replicate 38 none
  statics := none }

def pool10 : Array CpInfo := pool [(1, u "java/lang/Cloneable"), (0, .class_ 1), (0, u "java/lang/Object"), (0, .class_ 3)] 3

/-- java/lang/Cloneable -/
def k10 : Class := { plain "java/lang/Cloneable" (some 0) with
  accessFlags := 1537
  interfaces := #[]
  cf := some (fileOf pool10 2 #[] #[] 1537 4 #[] #[])
  fields := #[]
  methods := #[]
  instanceTypes := #[]
  staticTypes := #[]
  resolved := Array.replicate 8 none
  statics := none }

/-- the primitive byte -/
def k11 : Class := { plain "byte" none with kind := .primitive 'B', accessFlags := 0x411 }
/-- [B -/
def k12 : Class := { plain "[B" (some 0) with kind := .array 11 .byte, interfaces := #[10, 3], accessFlags := 1041 }

/-- the primitive int -/
def k13 : Class := { plain "int" none with kind := .primitive 'I', accessFlags := 0x411 }
/-- [I -/
def k14 : Class := { plain "[I" (some 0) with kind := .array 13 .int, interfaces := #[10, 3], accessFlags := 1041 }

/-- [Ljava/lang/String; -/
def k15 : Class := { plain "[Ljava/lang/String;" (some 0) with kind := .array 8 (.object "java/lang/String"), interfaces := #[10, 3], accessFlags := 1041 }

/-- the primitive char -/
def k16 : Class := { plain "char" none with kind := .primitive 'C', accessFlags := 0x411 }
/-- [C -/
def k17 : Class := { plain "[C" (some 0) with kind := .array 16 .char, interfaces := #[10, 3], accessFlags := 1041 }
/-- [[C -/
def k18 : Class := { plain "[[C" (some 0) with kind := .array 17 (.array .char), interfaces := #[10, 3], accessFlags := 1041 }

def heap : Heap := #[]
def classes : Array Class := #[k0, k1, k2, k3, k4, k5, k6, k7, k8, k9, k10, k11, k12, k13, k14, k15, k16, k17, k18]
def interned : List (Array UInt16 × Addr) := []
def slotsUsed : Nat := 0
def theMethod : MethodId := ⟨1, 2⟩
def args0 : Array Value := #[.int 9, .int 3, .int 7]
def aboutOver (below : List Frame) : State where
  vm := { classes := classes, interned := interned.toArray }
  heap := heap
  slotsUsed := slotsUsed
  threads := #[{ frames := .invoking theMethod args0 :: below }]
def below0 : List Frame := [.native { method := ⟨0, 0⟩, args := #[] }]
def about1 : State := aboutOver below0
def p0 : Program := .bare "" "" ""
def e0 : Env := launch0.env 0 0 0
theorem w_frames : about1.frames = Frame.invoking theMethod args0 :: below0 := rfl
set_option maxRecDepth 65536 in
theorem w_args : argsFit about1.vm theMethod args0 = true := by decide +kernel
set_option maxRecDepth 65536 in
theorem w_heap : heapFits about1 = true := by decide +kernel
set_option maxRecDepth 65536 in
theorem w_runnable : about1.curStatus? = some .runnable := by decide +kernel
set_option maxRecDepth 65536 in
theorem w_alone : about1.alone = true := by decide +kernel
set_option maxRecDepth 65536 in
theorem w_named : about1.methodNamed? x = some theMethod := by decide +kernel
set_option maxRecDepth 65536 in
theorem w_hears : about1.hears theMethod below0 = true := by decide +kernel
set_option maxRecDepth 65536 in
theorem w_ripe : about1.ripe theMethod args0 below0 = true := by decide +kernel
theorem w_running : about1.status = .running := rfl
set_option maxRecDepth 65536 in
theorem w_room : about1.hasRoom e0.platform room_1 = true :=
  launch0.hasRoom_least _ room_1 (by decide +kernel) (by decide +kernel) (by decide +kernel) (by decide +kernel) (by decide +kernel) (by decide +kernel)
theorem allAtoms_all (ts : List Jvm.Cond) (a : Array Jvm.Value) (st : Jvm.State) : (allAtoms ts).before a st = ts.all (fun c => c.before a st) := by
  induction ts with
  | nil => rfl
  | cons c t ih =>
    show (Jvm.Cond.and c (allAtoms t)).before a st = _
    rw [Jvm.Cond.before_and, ih, List.all_cons]
def words1 : List Jvm.Cond := Jvm.Cond.code x code maxLocals ret :: tables_1
/-- a 'code' word, met by the world's own term for the bytes: nothing is compared byte by byte -/
theorem code_word {y : MethodName} {bytes : ByteArray} {mx : Nat} {rt : Option FieldType} {a : Array Value} {s : State} {m : MethodId} {meth : Method} {c : Code} (h1 : s.methodNamed? y = some m) (h2 : s.vm.method? m = some meth) (h3 : meth.code = some c) (h4 : c.code = bytes)
    (h5 : (c.maxLocals == mx && c.exceptionTable.isEmpty && decide (c.maxStack ≤ mostOperands) && decide (meth.sig.returnType = rt) && !meth.locks && decide (parseMethodDescriptor y.desc = some meth.sig)) = true) : (Jvm.Cond.code y bytes mx rt).before a s = true := by
  simp only [Bool.and_eq_true, beq_iff_eq, Bool.not_eq_true', decide_eq_true_eq] at h5
  obtain ⟨⟨⟨⟨⟨g1, g2⟩, g3⟩, g4⟩, g5⟩, g6⟩ := h5
  simp [Cond.before, Cond.holds, Cond.value, h1, h2, h3, h4, g1, g2, g3, g4, g5, g6]
def isCode : Jvm.Cond → Bool
  | .code _ _ _ _ => true
  | _ => false
theorem all_split {L : List Jvm.Cond} {P : Jvm.Cond → Bool} (h1 : L.all (fun c => isCode c || P c) = true) (h2 : ∀ c ∈ L.filter isCode, P c = true) : L.all P = true := by
  refine List.all_eq_true.mpr fun c hc => ?_
  have h := List.all_eq_true.mp h1 c hc
  rcases Bool.eq_false_or_eq_true (isCode c) with hi | hi
  · exact h2 c (List.mem_filter.mpr ⟨hc, hi⟩)
  · simpa [hi] using h
set_option maxRecDepth 65536 in
theorem w_c0 : (Jvm.Cond.code x code maxLocals ret).before args0 about1 = true := code_word (m := ⟨1, 2⟩) (meth := k1m2) (c := k1c2) (by decide +kernel) rfl rfl rfl (by decide +kernel)
set_option maxRecDepth 65536 in
theorem w_c1 : (Jvm.Cond.code ({ cls := "com/example/biaoji/biaoji/NameTable", name := "<init>", desc := "()V" } : Jvm.MethodName) prog_59_method_1_code (1 : Nat) (Option.none : Option Jvm.ClassFile.FieldType)).before args0 about1 = true := code_word (m := ⟨2, 0⟩) (meth := k2m0) (c := k2c0) (by decide +kernel) rfl rfl rfl (by decide +kernel)
set_option maxRecDepth 65536 in
theorem w_c2 : (Jvm.Cond.code ({ cls := "java/lang/Object", name := "<init>", desc := "()V" } : Jvm.MethodName) object_method_1_code (1 : Nat) (Option.none : Option Jvm.ClassFile.FieldType)).before args0 about1 = true := code_word (m := ⟨0, 0⟩) (meth := k0m0) (c := k0c0) (by decide +kernel) rfl rfl rfl (by decide +kernel)
set_option maxRecDepth 65536 in
theorem w_c3 : (Jvm.Cond.code ({ cls := "com/example/biaoji/biaoji/ParserSpares$Spare", name := "<init>", desc := "(I)V" } : Jvm.MethodName) prog_62_method_1_code (2 : Nat) (Option.none : Option Jvm.ClassFile.FieldType)).before args0 about1 = true := code_word (m := ⟨9, 0⟩) (meth := k9m0) (c := k9c0) (by decide +kernel) rfl rfl rfl (by decide +kernel)
set_option maxRecDepth 65536 in
theorem w_c4 : (Jvm.Cond.code ({ cls := "com/example/biaoji/biaoji/SpareKeepPinLaw", name := "pick", desc := "(ILcom/example/biaoji/biaoji/NameTable;Lcom/example/biaoji/biaoji/NameTable;)Lcom/example/biaoji/biaoji/NameTable;" } : Jvm.MethodName) method_2_code (4 : Nat) (Option.some (Jvm.ClassFile.FieldType.object "com/example/biaoji/biaoji/NameTable"))).before args0 about1 = true := code_word (m := ⟨1, 1⟩) (meth := k1m1) (c := k1c1) (by decide +kernel) rfl rfl rfl (by decide +kernel)
set_option maxRecDepth 65536 in
theorem w_c5 : (Jvm.Cond.code ({ cls := "com/example/biaoji/biaoji/ParserSpares$Spare", name := "keep", desc := "(Lcom/example/biaoji/biaoji/NameTable;Lcom/example/biaoji/biaoji/StreamEntityReader;Lcom/example/biaoji/biaoji/DocumentScanner;)V" } : Jvm.MethodName) prog_62_method_2_code (4 : Nat) (Option.none : Option Jvm.ClassFile.FieldType)).before args0 about1 = true := code_word (m := ⟨9, 1⟩) (meth := k9m1) (c := k9c1) (by decide +kernel) rfl rfl rfl (by decide +kernel)
def codes1 : List Jvm.Cond := [Jvm.Cond.code x code maxLocals ret, Jvm.Cond.code ({ cls := "com/example/biaoji/biaoji/NameTable", name := "<init>", desc := "()V" } : Jvm.MethodName) prog_59_method_1_code (1 : Nat) (Option.none : Option Jvm.ClassFile.FieldType), Jvm.Cond.code ({ cls := "java/lang/Object", name := "<init>", desc := "()V" } : Jvm.MethodName) object_method_1_code (1 : Nat) (Option.none : Option Jvm.ClassFile.FieldType), Jvm.Cond.code ({ cls := "com/example/biaoji/biaoji/ParserSpares$Spare", name := "<init>", desc := "(I)V" } : Jvm.MethodName) prog_62_method_1_code (2 : Nat) (Option.none : Option Jvm.ClassFile.FieldType), Jvm.Cond.code ({ cls := "com/example/biaoji/biaoji/SpareKeepPinLaw", name := "pick", desc := "(ILcom/example/biaoji/biaoji/NameTable;Lcom/example/biaoji/biaoji/NameTable;)Lcom/example/biaoji/biaoji/NameTable;" } : Jvm.MethodName) method_2_code (4 : Nat) (Option.some (Jvm.ClassFile.FieldType.object "com/example/biaoji/biaoji/NameTable")), Jvm.Cond.code ({ cls := "com/example/biaoji/biaoji/ParserSpares$Spare", name := "keep", desc := "(Lcom/example/biaoji/biaoji/NameTable;Lcom/example/biaoji/biaoji/StreamEntityReader;Lcom/example/biaoji/biaoji/DocumentScanner;)V" } : Jvm.MethodName) prog_62_method_2_code (4 : Nat) (Option.none : Option Jvm.ClassFile.FieldType)]
set_option maxRecDepth 65536 in
theorem codes_eq : words1.filter isCode = codes1 := rfl
theorem w_codes : ∀ c ∈ words1.filter isCode, c.before args0 about1 = true := by
  rw [codes_eq]
  intro c hc
  simp only [codes1, List.mem_cons, List.not_mem_nil, or_false] at hc
  rcases hc with rfl | rfl | rfl | rfl | rfl | rfl
  · exact w_c0
  · exact w_c1
  · exact w_c2
  · exact w_c3
  · exact w_c4
  · exact w_c5
set_option maxRecDepth 65536 in
theorem w_t1 : (words1.take 24).all (fun c => isCode c || c.before args0 about1) = true := by decide +kernel
set_option maxRecDepth 65536 in
theorem w_t2 : (words1.drop 24).all (fun c => isCode c || c.before args0 about1) = true := by decide +kernel
theorem w_tables : (allAtoms (Jvm.Cond.code x code maxLocals ret :: tables_1)).before args0 about1 = true := by
  rw [allAtoms_all]
  show words1.all (fun c => c.before args0 about1) = true
  refine all_split ?_ w_codes
  rw [← List.take_append_drop 24 words1, List.all_append, w_t1, w_t2]
  rfl
set_option maxRecDepth 65536 in
theorem w_case : (Jvm.Cond.and given_1 narrow_1).before args0 about1 = true := by decide +kernel
theorem w_applies : (headSpec (Jvm.Cond.code x code maxLocals ret :: tables_1) room_1).applies x e0.platform about1 = true :=
  (Spec.applies_iff w_frames).mpr ⟨w_running, w_runnable, w_alone, w_named, w_hears, w_ripe, w_room, w_tables⟩
theorem atStart : AtStart classFile x code maxLocals ret World_1 tables_1 room_1 Calls_1 rest_1 Pre_1 launch0 p0 e0 about1 theMethod args0 below0 :=
  ⟨lists_1, trivial, launch0.admits_env _ _ _, launch0.least_env, fairChoices_fair.cas, fairChoices_fair.clock, w_frames, w_args, w_heap, w_applies, trivial, trivial, w_case⟩
end start1
theorem witness_1 : WitnessClaimed_1 := ⟨start1.p0, start1.e0, start1.about1, start1.theMethod, start1.args0, start1.below0, start1.atStart⟩
end Jvm.Pilot.@@N@@
