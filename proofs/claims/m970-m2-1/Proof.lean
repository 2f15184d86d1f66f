import JvmDerived
import JvmDerived.Pilot.@@N@@Statement
import JvmDerived.Pilot.@@N@@Code
set_option linter.unusedVariables false
set_option linter.unusedSimpArgs false
namespace Jvm.RoadKit
open Sem ClassFile Op Lib Jvm.Stand Jvm.Free Jvm.LawKit
section New
variable {p : Program} {l : Launch} {e : Env} {R : Room} {s : State} {m : MethodId} {args : Array Value} {below : List Frame} {meth : Method} {c : Code} {T : State} {locs : List Loc} {cells slots : Nat}
theorem retI (X : Stand p l e R s m args below meth c T locs cells slots) (hx : p.tables.exec = Jvm.exec) {pc : Nat} {Ls : Array Slot} {z : Int32} {rest : List Value} (hret : meth.sig.returnType = some .int) (hd : decode c.code pc = .ok (.ireturn, 1)) {fs : List Frame}
    (hl : ∀ (f : JFrame) (acts : List Action), f.method = m → f.locked = none → f.entered = [] → (doReturn e (T.setTop f) acts (some (.int z))).1 = T.setFrames fs) : Steps p.tables e below (T.setTop (mkF m pc Ls (.int z :: rest))) (T.setFrames fs) :=
  retOut X hx hret rfl (Or.inl ⟨rfl, Or.inl rfl, _, rfl⟩) hd hl
theorem own_sta_keep {Z : State} {h h' : Heap} {C n d : String} {w : Value} {ws : List Addr} (F : Sta Z h C n d w) (K : Keep h h' ws) (ns : ∀ x ∈ ws, ∀ cell : Cell, h[x]? = some cell → cell.vm.isStatics = false) : Sta Z h' C n d w := by
  obtain ⟨cf, i, k, f, st, cell, h1, h2, h3, h4, h5, h6, h7⟩ := F
  refine ⟨cf, i, k, f, st, cell, h1, h2, h3, h4, K.2.1 st cell h5 (fun hm => ?_), h6, h7⟩
  rw [ns st hm cell h5] at h6
  cases h6
theorem own_selp {s : State} {args : Array Value} {w y : MethodName} (hs : (Cond.selects w.cls w w).before args s = true) (e : w.cls = y.cls) (hp : s.PrivateAt y) (hi : (Cond.instanceMethod y).before args s = true) (hy : y.cls ≠ "java/lang/invoke/MethodHandle" ∧ y.cls ≠ "java/lang/invoke/VarHandle") : (Cond.selects y.cls y y).before args s = true := by
  obtain ⟨c2, r2, m2, q1, q2, q3, q4, kP, hkP, hkPi⟩ := Cond.selects_spec hs
  exact selects_self_of_private (c := m2.cls) (by rw [← e]; exact findClass_of_methodNamed q3) hkP hkPi hp hi hy
end New
end Jvm.RoadKit
namespace Jvm.Pilot.@@N@@
open Jvm Jvm.ClassFile Sem Op Lib Jvm.Free Jvm.Stand Jvm.LawKit Jvm.RoadKit Bundle Jvm.Pilot.@@N@@.Jvm.D
theorem d1_0 : decode prog_4_method_6_code 0 = .ok (.aload_n 0, 1) := by decide +kernel
theorem d1_1 : decode prog_4_method_6_code 1 = .ok (.getstatic 7, 3) := by decide +kernel
theorem d1_4 : decode prog_4_method_6_code 4 = .ok (.if_acmp .eq 7, 3) := by decide +kernel
theorem d1_7 : decode prog_4_method_6_code 7 = .ok (.iconst 1, 1) := by decide +kernel
theorem d1_8 : decode prog_4_method_6_code 8 = .ok (.goto 4, 3) := by decide +kernel
theorem d1_11 : decode prog_4_method_6_code 11 = .ok (.iconst 0, 1) := by decide +kernel
theorem d1_12 : decode prog_4_method_6_code 12 = .ok (.ireturn, 1) := by decide +kernel
theorem pn_0 : plainName "com/example/cartwright/cartwright/core/AddressType" = true := by first | (simp [plainName, overriddenIn]; done) | decide +kernel
theorem pn_1 : plainName "com/example/cartwright/cartwright/core/AddressTypeShipsPinLaw" = true := by first | (simp [plainName, overriddenIn]; done) | decide +kernel
theorem pd_2 : parseMethodDescriptor "()Z" = some ⟨[], some .boolean⟩ := by decide +kernel
def own_b (P : Prop) [Decidable P] : Int32 := if P then 1 else 0
abbrev sN0 : String := "com/example/cartwright/cartwright/core/AddressType"
theorem ef_rmShips (m : MethodId) (x0 : Addr) : entryFrame m #[(.ref x0)] 1 = mkF m 0 #[rv x0] [] := by first | (simp [entryFrame, mkF, argsToLocals, Value.category]; done) | rfl
def Q_rmShips (Z : State) (a1 : Addr) (aB : Addr) (h0 : Heap) (n0 : Nat) (v : Option Value) (h : Heap) (L : List Loc) : Prop := v = some (.int (own_b (¬ (a1 = aB)))) ∧ Fr n0 L ∧ h = h0
set_option maxRecDepth 65536 in
set_option maxHeartbeats 40000000 in
theorem rmShips (l : Launch) (Z : State) (a0 : Array Value) (hw : ∀ d ∈ tables_1, d.before a0 Z = true) (ws : List Jvm.Cond) (a1 : Addr) (aB : Addr) (h0 : Heap) (n0 : Nat) (Z0 : n0 ≤ h0.size) (S_AddressType_BILLING : Sta Z h0 sN0 "BILLING" "Lcom/example/cartwright/cartwright/core/AddressType;" (.ref aB)) :
    MetFree l (⟨sN0, "ships", "()Z"⟩ : MethodName) (head1 (Jvm.Cond.code (⟨sN0, "ships", "()Z"⟩ : MethodName) prog_4_method_6_code 1 (some .boolean) :: ws) ({ frames := 0, cells := 0, slots := 0, locals := 0 } : Room)) (fun a U => a = #[(.ref a1)] ∧ Z.Warmed39 U.vm ∧ U.heap = h0) (fun _ _ _ _ _ => True) (fun _ U o U' => ∃ v L, o = .returned v ∧ Q_rmShips Z a1 aB h0 n0 v U'.heap L ∧ FrameEnd U o U' L ({ frames := 0, cells := 0, slots := 0, locals := 0 } : Room).cells ({ frames := 0, cells := 0, slots := 0, locals := 0 } : Room).slots) := by
  refine MetFree.of_bodySF (plainFor_of_name pn_0) hisR ?_
  intro p e s m args below meth c s₁ Bd hml0 hP hK
  obtain ⟨rfl, hZ, hh⟩ := hP
  have hx := Bd.exec
  have hby := Bd.bytes
  have hml : c.maxLocals = 1 := hml0
  have hown : s.vm.findClass sN0 = some m.cls := findClass_of_methodNamed Bd.named
  have hnm := (name_of_methodNamed Bd.named Bd.method).1
  have X0 : Stand p l e ({ frames := 0, cells := 0, slots := 0, locals := 0 } : Room) s m #[(.ref a1)] below meth c s₁ [] 0 0 := Stand.of_body Bd
  have e0 : s₁.heap = h0 := by rw [← hh, Bd.state]; rfl
  have N0 := Fr.nil n0
  obtain ⟨f0, hf0⟩ : ∃ f : JFrame, f = mkF m 0 #[rv a1] [] := ⟨_, rfl⟩
  have pre0 : ∀ t, Steps p.tables e below (s₁.setTop f0) t → Steps p.tables e below (s₁.setTop (entryFrame m #[(.ref a1)] 1)) t := fun t k => castTop ((ef_rmShips m a1).trans hf0.symm) k
  have R0 : ∀ t, Steps p.tables e below (s₁.setTop (mkF m 0 #[rv a1] [])) t → Steps p.tables e below (s₁.setTop f0) t := by rw [hf0]; exact fun t k => k
  have R1 : ∀ t, Steps p.tables e below (s₁.setTop (mkF m 1 #[rv a1] [(.ref a1)])) t → Steps p.tables e below (s₁.setTop f0) t := fun t k => R0 t (by
    show Steps p.tables e below (s₁.setTop (mkF m 0 #[rv a1] [])) _
    refine XS.aloadN X0.here hx rfl (hb hby d1_0) rfl rfl ?_
    exact k)
  obtain ⟨T2, X2, e2, st2⟩ := getS2 X0 hx hZ hown (host := "") (Or.inl (hw _ (List.mem_of_getElem? (i := 9) rfl))) Via.refl e0 S_AddressType_BILLING (g := (mkF m 1 #[rv a1] [(.ref a1)])) rfl (hb hby d1_1)
  have R3 : ∀ t, Steps p.tables e below (T2.setTop (mkF m 4 #[rv a1] [(.ref aB), (.ref a1)])) t → Steps p.tables e below (s₁.setTop f0) t := fun t k => R1 t (st2 t k)
  by_cases hs1 : a1 = aB
  · skip
    have R4 : ∀ t, Steps p.tables e below (T2.setTop (mkF m 12 #[rv a1] [(.int (0 : Int32))])) t → Steps p.tables e below (s₁.setTop f0) t := fun t k => R3 t (by
      show Steps p.tables e below (T2.setTop (mkF m 4 #[rv a1] [(.ref aB), (.ref a1)])) _
      refine Jvm.RoadKit.acmp (g := (mkF m 4 #[rv a1] [(.ref aB), (.ref a1)])) X2 hx rfl rfl rfl (pc0 := 4) (pc' := 11) (same := true) rfl (hb hby d1_4) rfl (decide_eq_true (congrArg Value.ref hs1)) (by decide) (by decide) ?_
      show Steps p.tables e below (T2.setTop (mkF m 11 #[rv a1] [])) _
      refine XS.iconst X2.here hx rfl (hb hby d1_11) ?_
      exact k)
    obtain ⟨fs, hr, hrun, hended, hW, hsame⟩ := X2.leave (v := some (.int (0 : Int32))) (fun h => by rw [Bd.returns] at h; cases h)
    refine ⟨_, _, pre0 _ (R4 _ ?_), hrun, hended, _, _, rfl, ?_, ⟨_, rfl⟩, hW, hsame.mono (by decide) (by decide)⟩
    · show Steps p.tables e below (T2.setTop (mkF m 12 #[rv a1] [(.int (0 : Int32))])) _
      exact retN X2 hx (t := .boolean) Bd.returns (by simp) (hb hby d1_12) hr
    · show Q_rmShips Z a1 aB h0 n0 _ T2.heap _
      rw [e2]
      exact ⟨(by (try simp only [lw_gt, lw_lt, lw_eq] at hs1); simp [own_b, hs1]), N0, rfl⟩
  · skip
    have R5 : ∀ t, Steps p.tables e below (T2.setTop (mkF m 12 #[rv a1] [(.int (1 : Int32))])) t → Steps p.tables e below (s₁.setTop f0) t := fun t k => R3 t (by
      show Steps p.tables e below (T2.setTop (mkF m 4 #[rv a1] [(.ref aB), (.ref a1)])) _
      refine Jvm.RoadKit.acmp (g := (mkF m 4 #[rv a1] [(.ref aB), (.ref a1)])) X2 hx rfl rfl rfl (pc0 := 4) (pc' := 7) (same := false) rfl (hb hby d1_4) rfl (decide_eq_false fun q => hs1 (Value.ref.inj q)) (by decide) (by decide) ?_
      show Steps p.tables e below (T2.setTop (mkF m 7 #[rv a1] [])) _
      refine XS.iconst X2.here hx rfl (hb hby d1_7) ?_
      show Steps p.tables e below (T2.setTop (mkF m 8 #[rv a1] [(.int (1 : Int32))])) _
      refine XS.goto X2.here hx rfl (pc0 := 8) (pc' := 12) rfl (hb hby d1_8) (by decide) (by decide) ?_
      exact k)
    obtain ⟨fs, hr, hrun, hended, hW, hsame⟩ := X2.leave (v := some (.int (1 : Int32))) (fun h => by rw [Bd.returns] at h; cases h)
    refine ⟨_, _, pre0 _ (R5 _ ?_), hrun, hended, _, _, rfl, ?_, ⟨_, rfl⟩, hW, hsame.mono (by decide) (by decide)⟩
    · show Steps p.tables e below (T2.setTop (mkF m 12 #[rv a1] [(.int (1 : Int32))])) _
      exact retN X2 hx (t := .boolean) Bd.returns (by simp) (hb hby d1_12) hr
    · show Q_rmShips Z a1 aB h0 n0 _ T2.heap _
      rw [e2]
      exact ⟨(by (try simp only [lw_gt, lw_lt, lw_eq] at hs1); simp [own_b, hs1]), N0, rfl⟩
theorem ef_rmLaw (m : MethodId) (x0 : Int32) : entryFrame m #[(.int x0)] maxLocals = mkF m 0 #[iv x0, .unset, .unset, .unset] [] := by first | (simp [entryFrame, mkF, argsToLocals, Value.category, maxLocals]; done) | rfl
def Q_rmLaw (Z : State) (p0 : Int32) (aS : Addr) (aB : Addr) (aC : Addr) (h0 : Heap) (n0 : Nat) (v : Option Value) (h : Heap) (L : List Loc) : Prop := v = some (.int (1 : Int32)) ∧ Fr n0 L
set_option maxRecDepth 65536 in
set_option maxHeartbeats 40000000 in
theorem rmLaw (l : Launch) (Z : State) (a0 : Array Value) (hw : ∀ d ∈ tables_1, d.before a0 Z = true) (ws : List Jvm.Cond) (p0 : Int32) (aS : Addr) (aB : Addr) (aC : Addr) (h0 : Heap) (n0 : Nat) (Z0 : n0 ≤ h0.size) (S_AddressType_SHIPPING : Sta Z h0 sN0 "SHIPPING" "Lcom/example/cartwright/cartwright/core/AddressType;" (.ref aS)) (S_AddressType_BILLING : Sta Z h0 sN0 "BILLING" "Lcom/example/cartwright/cartwright/core/AddressType;" (.ref aB)) (S_AddressType_SHIPPING_AND_BILLING : Sta Z h0 sN0 "SHIPPING_AND_BILLING" "Lcom/example/cartwright/cartwright/core/AddressType;" (.ref aC)) (E_aS : Exa Z h0 aS sN0) (E_aB : Exa Z h0 aB sN0) (E_aC : Exa Z h0 aC sN0) (ne_aS_aB : aS ≠ aB) (ne_aC_aB : aC ≠ aB) :
    MetFree l x (head1 (Jvm.Cond.code x code maxLocals ret :: ws) room_1) (fun a U => a = #[(.int p0)] ∧ Z.Warmed39 U.vm ∧ U.heap = h0) (fun _ _ _ _ _ => True) (fun _ U o U' => ∃ v L, o = .returned v ∧ Q_rmLaw Z p0 aS aB aC h0 n0 v U'.heap L ∧ FrameEnd U o U' L room_1.cells room_1.slots) := by
  refine MetFree.of_bodySF (plainFor_of_name pn_1) hisR ?_
  intro p e s m args below meth c s₁ Bd hml0 hP hK
  obtain ⟨rfl, hZ, hh⟩ := hP
  have hx := Bd.exec
  have hby := Bd.bytes
  have hml : c.maxLocals = 4 := hml0
  have hown : s.vm.findClass "com/example/cartwright/cartwright/core/AddressTypeShipsPinLaw" = some m.cls := findClass_of_methodNamed Bd.named
  have hnm := (name_of_methodNamed Bd.named Bd.method).1
  have X0 : Stand p l e room_1 s m #[(.int p0)] below meth c s₁ [] 0 0 := Stand.of_body Bd
  have e0 : s₁.heap = h0 := by rw [← hh, Bd.state]; rfl
  have N0 := Fr.nil n0
  obtain ⟨f0, hf0⟩ : ∃ f : JFrame, f = mkF m 0 #[iv p0, .unset, .unset, .unset] [] := ⟨_, rfl⟩
  have pre0 : ∀ t, Steps p.tables e below (s₁.setTop f0) t → Steps p.tables e below (s₁.setTop (entryFrame m #[(.int p0)] maxLocals)) t := fun t k => castTop ((ef_rmLaw m p0).trans hf0.symm) k
  have R0 : ∀ t, Steps p.tables e below (s₁.setTop (mkF m 0 #[iv p0, .unset, .unset, .unset] [])) t → Steps p.tables e below (s₁.setTop f0) t := by rw [hf0]; exact fun t k => k
  have R1 : ∀ t, Steps p.tables e below (s₁.setTop (mkF m 6 #[iv p0, .unset, .unset, .unset] [(.int ((p0 &&& (2147483647 : Int32)) % (3 : Int32)))])) t → Steps p.tables e below (s₁.setTop f0) t := fun t k => R0 t (by
    show Steps p.tables e below (s₁.setTop (mkF m 0 #[iv p0, .unset, .unset, .unset] [])) _
    refine XS.iloadN X0.here hx rfl (hb hby at_0) rfl  ?_
    show Steps p.tables e below (s₁.setTop (mkF m 1 #[iv p0, .unset, .unset, .unset] [(.int p0)])) _
    refine X0.ldcInt hx hown (mvT hZ (hw _ (List.mem_of_getElem? (i := 0) rfl))) (g := (mkF m 1 #[iv p0, .unset, .unset, .unset] [(.int p0)])) rfl (hb hby at_1) _ ?_
    show Steps p.tables e below (s₁.setTop (mkF m 3 #[iv p0, .unset, .unset, .unset] [(.int (2147483647 : Int32)), (.int p0)])) _
    refine XS.iand X0.here hx rfl (hb hby at_3) rfl ?_
    show Steps p.tables e below (s₁.setTop (mkF m 4 #[iv p0, .unset, .unset, .unset] [(.int (p0 &&& (2147483647 : Int32)))])) _
    refine XS.iconst X0.here hx rfl (hb hby at_4) ?_
    show Steps p.tables e below (s₁.setTop (mkF m 5 #[iv p0, .unset, .unset, .unset] [(.int (3 : Int32)), (.int (p0 &&& (2147483647 : Int32)))])) _
    refine iremM X0 hx rfl (hb hby at_5) rfl (by decide) ?_
    exact k)
  obtain ⟨i, e_i⟩ : ∃ z : Int32, z = ((p0 &&& (2147483647 : Int32)) % (3 : Int32)) := ⟨_, rfl⟩
  have R2 : ∀ t, Steps p.tables e below (s₁.setTop (mkF m 6 #[iv p0, .unset, .unset, .unset] [(.int i)])) t → Steps p.tables e below (s₁.setTop f0) t := by have q := R1; rw [← e_i] at q; exact q
  have R3 : ∀ t, Steps p.tables e below (s₁.setTop (mkF m 8 #[iv p0, iv i, .unset, .unset] [(.int i)])) t → Steps p.tables e below (s₁.setTop f0) t := fun t k => R2 t (by
    show Steps p.tables e below (s₁.setTop (mkF m 6 #[iv p0, .unset, .unset, .unset] [(.int i)])) _
    refine XS.istoreN X0.here hx rfl (hb hby at_6) rfl (l' := #[iv p0, iv i, .unset, .unset]) rfl ?_
    show Steps p.tables e below (s₁.setTop (mkF m 7 #[iv p0, iv i, .unset, .unset] [])) _
    refine XS.iloadN X0.here hx rfl (hb hby at_7) rfl  ?_
    exact k)
  by_cases hs1 : i = (0 : Int32)
  · skip
    have R4 : ∀ t, Steps p.tables e below (s₁.setTop (mkF m 11 #[iv p0, iv i, .unset, .unset] [])) t → Steps p.tables e below (s₁.setTop f0) t := fun t k => R3 t (by
      show Steps p.tables e below (s₁.setTop (mkF m 8 #[iv p0, iv i, .unset, .unset] [(.int i)])) _
      refine XS.ifNo X0.here hx rfl (hb hby at_8) rfl ((if0 _ _).trans (teq hs1).2) ?_
      exact k)
    obtain ⟨T5, X5, e5, st5⟩ := getS2 X0 hx hZ hown (host := "") (Or.inl (hw _ (List.mem_of_getElem? (i := 1) rfl))) Via.refl e0 S_AddressType_SHIPPING (g := (mkF m 11 #[iv p0, iv i, .unset, .unset] [])) rfl (hb hby at_11)
    have R6 : ∀ t, Steps p.tables e below (T5.setTop (mkF m 14 #[iv p0, iv i, .unset, .unset] [(.ref aS)])) t → Steps p.tables e below (s₁.setTop f0) t := fun t k => R4 t (st5 t k)
    have R7 : ∀ t, Steps p.tables e below (T5.setTop (mkF m 41 #[iv p0, iv i, rv aS, iv (1 : Int32)] [(.ref aS)])) t → Steps p.tables e below (s₁.setTop f0) t := fun t k => R6 t (by
      show Steps p.tables e below (T5.setTop (mkF m 14 #[iv p0, iv i, .unset, .unset] [(.ref aS)])) _
      refine XS.astoreN X5.here hx rfl (hb hby at_14) rfl rfl (l' := #[iv p0, iv i, rv aS, .unset]) rfl ?_
      show Steps p.tables e below (T5.setTop (mkF m 15 #[iv p0, iv i, rv aS, .unset] [])) _
      refine XS.iconst X5.here hx rfl (hb hby at_15) ?_
      show Steps p.tables e below (T5.setTop (mkF m 16 #[iv p0, iv i, rv aS, .unset] [(.int (1 : Int32))])) _
      refine XS.istoreN X5.here hx rfl (hb hby at_16) rfl (l' := #[iv p0, iv i, rv aS, iv (1 : Int32)]) rfl ?_
      show Steps p.tables e below (T5.setTop (mkF m 17 #[iv p0, iv i, rv aS, iv (1 : Int32)] [])) _
      refine XS.goto X5.here hx rfl (pc0 := 17) (pc' := 40) rfl (hb hby at_17) (by decide) (by decide) ?_
      show Steps p.tables e below (T5.setTop (mkF m 40 #[iv p0, iv i, rv aS, iv (1 : Int32)] [])) _
      refine XS.aloadN X5.here hx rfl (hb hby at_40) rfl rfl ?_
      exact k)
    obtain ⟨cq8, kq8, q8a, q8b, q8c⟩ := isOf hZ e5 E_aS
    obtain ⟨_, _, ⟨T8, L8, k8, n8⟩, -, X8, ⟨Lc8, hQ8, l8, y8, z8⟩, st8⟩ := X5.virtualBack hx (y := (⟨sN0, "ships", "()Z"⟩ : MethodName)) (z := (⟨sN0, "ships", "()Z"⟩ : MethodName)) hown (mvT hZ (hw _ (List.mem_of_getElem? (i := 4) rfl))) (mvT hZ (hw _ (List.mem_of_getElem? (i := 5) rfl))) (notFace_of_selects (args := #[]) (mvT hZ (hw _ (List.mem_of_getElem? (i := 7) rfl)))) (mvT hZ (hw _ (List.mem_of_getElem? (i := 7) rfl))) (mvT hZ (hw _ (List.mem_of_getElem? (i := 6) rfl))) (by decide) (backOf (W := 0) (rmShips l Z a0 hw [] aS aB h0 n0 Z0 S_AddressType_BILLING) hZ (hw _ (List.mem_of_getElem? (i := 8) rfl)) (hw _ (List.mem_of_getElem? (i := 2) rfl)) (by decide) (by decide)) q8a q8c (g := (mkF m 41 #[iv p0, iv i, rv aS, iv (1 : Int32)] [(.ref aS)])) rfl (by rw [hml]; rfl) (Steps.refl _) (argsL := []) (rest := []) (lenOf pd_2 rfl) rfl (by show 2 * 0 + _ ≤ _; exact Nat.le_of_eq rfl) (hb hby at_41) (fun _ _ => ⟨rfl, e5, (by decide : 0 + 0 ≤ _), (by decide : 0 + 0 ≤ _)⟩)
    dsimp only [Pt.U, Pt.locs, Pt.cells, Pt.slots] at X8 l8 y8 z8 st8 hQ8
    subst l8 y8 z8
    obtain ⟨rfl, N8q, p8_0⟩ := hQ8
    have N8 := Fr.app N0 N8q
    have R9 : ∀ t, Steps p.tables e below (T8.setTop (mkF m 44 #[iv p0, iv i, rv aS, iv (1 : Int32)] [(.int (own_b (¬ (aS = aB))))])) t → Steps p.tables e below (s₁.setTop f0) t := fun t k => R7 t (st8.trans k)
    have R10 : ∀ t, Steps p.tables e below (T8.setTop (mkF m 53 #[iv p0, iv i, rv aS, iv (1 : Int32)] [(.int (1 : Int32))])) t → Steps p.tables e below (s₁.setTop f0) t := fun t k => R9 t (by
      show Steps p.tables e below (T8.setTop (mkF m 44 #[iv p0, iv i, rv aS, iv (1 : Int32)] [(.int (own_b (¬ (aS = aB))))])) _
      refine XS.iloadN X8.here hx rfl (hb hby at_44) rfl  ?_
      show Steps p.tables e below (T8.setTop (mkF m 45 #[iv p0, iv i, rv aS, iv (1 : Int32)] [(.int (1 : Int32)), (.int (own_b (¬ (aS = aB))))])) _
      refine XS.icmpNo X8.here hx rfl (hb hby at_45) rfl (teq (by simp [own_b, ne_aS_aB] : (own_b (¬ (aS = aB))) = (1 : Int32))).2 ?_
      show Steps p.tables e below (T8.setTop (mkF m 48 #[iv p0, iv i, rv aS, iv (1 : Int32)] [])) _
      refine XS.iconst X8.here hx rfl (hb hby at_48) ?_
      show Steps p.tables e below (T8.setTop (mkF m 49 #[iv p0, iv i, rv aS, iv (1 : Int32)] [(.int (1 : Int32))])) _
      refine XS.goto X8.here hx rfl (pc0 := 49) (pc' := 53) rfl (hb hby at_49) (by decide) (by decide) ?_
      exact k)
    obtain ⟨fs, hr, hrun, hended, hW, hsame⟩ := X8.leave (v := some (.int (1 : Int32))) (fun h => by rw [Bd.returns] at h; cases h)
    refine ⟨_, _, pre0 _ (R10 _ ?_), hrun, hended, _, _, rfl, ?_, ⟨_, rfl⟩, hW, hsame.mono (by decide) (by decide)⟩
    · show Steps p.tables e below (T8.setTop (mkF m 53 #[iv p0, iv i, rv aS, iv (1 : Int32)] [(.int (1 : Int32))])) _
      exact retN X8 hx (t := .boolean) Bd.returns (by simp) (hb hby at_53) hr
    · show Q_rmLaw Z p0 aS aB aC h0 n0 _ T8.heap _
      rw [p8_0]
      exact ⟨rfl, N8⟩
  · skip
    have R11 : ∀ t, Steps p.tables e below (s₁.setTop (mkF m 22 #[iv p0, iv i, .unset, .unset] [(.int (1 : Int32)), (.int i)])) t → Steps p.tables e below (s₁.setTop f0) t := fun t k => R3 t (by
      show Steps p.tables e below (s₁.setTop (mkF m 8 #[iv p0, iv i, .unset, .unset] [(.int i)])) _
      refine XS.ifYes X0.here hx rfl (pc0 := 8) (pc' := 20) rfl (hb hby at_8) rfl ((if0 _ _).trans (feq hs1).2) (by decide) (by decide) ?_
      show Steps p.tables e below (s₁.setTop (mkF m 20 #[iv p0, iv i, .unset, .unset] [])) _
      refine XS.iloadN X0.here hx rfl (hb hby at_20) rfl  ?_
      show Steps p.tables e below (s₁.setTop (mkF m 21 #[iv p0, iv i, .unset, .unset] [(.int i)])) _
      refine XS.iconst X0.here hx rfl (hb hby at_21) ?_
      exact k)
    by_cases hs2 : i = (1 : Int32)
    · skip
      have R12 : ∀ t, Steps p.tables e below (s₁.setTop (mkF m 25 #[iv p0, iv i, .unset, .unset] [])) t → Steps p.tables e below (s₁.setTop f0) t := fun t k => R11 t (by
        show Steps p.tables e below (s₁.setTop (mkF m 22 #[iv p0, iv i, .unset, .unset] [(.int (1 : Int32)), (.int i)])) _
        refine XS.icmpNo X0.here hx rfl (hb hby at_22) rfl (teq hs2).2 ?_
        exact k)
      obtain ⟨T13, X13, e13, st13⟩ := getS2 X0 hx hZ hown (host := "") (Or.inl (hw _ (List.mem_of_getElem? (i := 13) rfl))) Via.refl e0 S_AddressType_BILLING (g := (mkF m 25 #[iv p0, iv i, .unset, .unset] [])) rfl (hb hby at_25)
      have R14 : ∀ t, Steps p.tables e below (T13.setTop (mkF m 28 #[iv p0, iv i, .unset, .unset] [(.ref aB)])) t → Steps p.tables e below (s₁.setTop f0) t := fun t k => R12 t (st13 t k)
      have R15 : ∀ t, Steps p.tables e below (T13.setTop (mkF m 41 #[iv p0, iv i, rv aB, iv (0 : Int32)] [(.ref aB)])) t → Steps p.tables e below (s₁.setTop f0) t := fun t k => R14 t (by
        show Steps p.tables e below (T13.setTop (mkF m 28 #[iv p0, iv i, .unset, .unset] [(.ref aB)])) _
        refine XS.astoreN X13.here hx rfl (hb hby at_28) rfl rfl (l' := #[iv p0, iv i, rv aB, .unset]) rfl ?_
        show Steps p.tables e below (T13.setTop (mkF m 29 #[iv p0, iv i, rv aB, .unset] [])) _
        refine XS.iconst X13.here hx rfl (hb hby at_29) ?_
        show Steps p.tables e below (T13.setTop (mkF m 30 #[iv p0, iv i, rv aB, .unset] [(.int (0 : Int32))])) _
        refine XS.istoreN X13.here hx rfl (hb hby at_30) rfl (l' := #[iv p0, iv i, rv aB, iv (0 : Int32)]) rfl ?_
        show Steps p.tables e below (T13.setTop (mkF m 31 #[iv p0, iv i, rv aB, iv (0 : Int32)] [])) _
        refine XS.goto X13.here hx rfl (pc0 := 31) (pc' := 40) rfl (hb hby at_31) (by decide) (by decide) ?_
        show Steps p.tables e below (T13.setTop (mkF m 40 #[iv p0, iv i, rv aB, iv (0 : Int32)] [])) _
        refine XS.aloadN X13.here hx rfl (hb hby at_40) rfl rfl ?_
        exact k)
      obtain ⟨cq16, kq16, q16a, q16b, q16c⟩ := isOf hZ e13 E_aB
      obtain ⟨_, _, ⟨T16, L16, k16, n16⟩, -, X16, ⟨Lc16, hQ16, l16, y16, z16⟩, st16⟩ := X13.virtualBack hx (y := (⟨sN0, "ships", "()Z"⟩ : MethodName)) (z := (⟨sN0, "ships", "()Z"⟩ : MethodName)) hown (mvT hZ (hw _ (List.mem_of_getElem? (i := 4) rfl))) (mvT hZ (hw _ (List.mem_of_getElem? (i := 5) rfl))) (notFace_of_selects (args := #[]) (mvT hZ (hw _ (List.mem_of_getElem? (i := 7) rfl)))) (mvT hZ (hw _ (List.mem_of_getElem? (i := 7) rfl))) (mvT hZ (hw _ (List.mem_of_getElem? (i := 6) rfl))) (by decide) (backOf (W := 0) (rmShips l Z a0 hw [] aB aB h0 n0 Z0 S_AddressType_BILLING) hZ (hw _ (List.mem_of_getElem? (i := 8) rfl)) (hw _ (List.mem_of_getElem? (i := 2) rfl)) (by decide) (by decide)) q16a q16c (g := (mkF m 41 #[iv p0, iv i, rv aB, iv (0 : Int32)] [(.ref aB)])) rfl (by rw [hml]; rfl) (Steps.refl _) (argsL := []) (rest := []) (lenOf pd_2 rfl) rfl (by show 2 * 0 + _ ≤ _; exact Nat.le_of_eq rfl) (hb hby at_41) (fun _ _ => ⟨rfl, e13, (by decide : 0 + 0 ≤ _), (by decide : 0 + 0 ≤ _)⟩)
      dsimp only [Pt.U, Pt.locs, Pt.cells, Pt.slots] at X16 l16 y16 z16 st16 hQ16
      subst l16 y16 z16
      obtain ⟨rfl, N16q, p16_0⟩ := hQ16
      have N16 := Fr.app N0 N16q
      have R17 : ∀ t, Steps p.tables e below (T16.setTop (mkF m 44 #[iv p0, iv i, rv aB, iv (0 : Int32)] [(.int (own_b (¬ (aB = aB))))])) t → Steps p.tables e below (s₁.setTop f0) t := fun t k => R15 t (st16.trans k)
      have R18 : ∀ t, Steps p.tables e below (T16.setTop (mkF m 53 #[iv p0, iv i, rv aB, iv (0 : Int32)] [(.int (1 : Int32))])) t → Steps p.tables e below (s₁.setTop f0) t := fun t k => R17 t (by
        show Steps p.tables e below (T16.setTop (mkF m 44 #[iv p0, iv i, rv aB, iv (0 : Int32)] [(.int (own_b (¬ (aB = aB))))])) _
        refine XS.iloadN X16.here hx rfl (hb hby at_44) rfl  ?_
        show Steps p.tables e below (T16.setTop (mkF m 45 #[iv p0, iv i, rv aB, iv (0 : Int32)] [(.int (0 : Int32)), (.int (own_b (¬ (aB = aB))))])) _
        refine XS.icmpNo X16.here hx rfl (hb hby at_45) rfl (teq (by simp [own_b] : (own_b (¬ (aB = aB))) = (0 : Int32))).2 ?_
        show Steps p.tables e below (T16.setTop (mkF m 48 #[iv p0, iv i, rv aB, iv (0 : Int32)] [])) _
        refine XS.iconst X16.here hx rfl (hb hby at_48) ?_
        show Steps p.tables e below (T16.setTop (mkF m 49 #[iv p0, iv i, rv aB, iv (0 : Int32)] [(.int (1 : Int32))])) _
        refine XS.goto X16.here hx rfl (pc0 := 49) (pc' := 53) rfl (hb hby at_49) (by decide) (by decide) ?_
        exact k)
      obtain ⟨fs, hr, hrun, hended, hW, hsame⟩ := X16.leave (v := some (.int (1 : Int32))) (fun h => by rw [Bd.returns] at h; cases h)
      refine ⟨_, _, pre0 _ (R18 _ ?_), hrun, hended, _, _, rfl, ?_, ⟨_, rfl⟩, hW, hsame.mono (by decide) (by decide)⟩
      · show Steps p.tables e below (T16.setTop (mkF m 53 #[iv p0, iv i, rv aB, iv (0 : Int32)] [(.int (1 : Int32))])) _
        exact retN X16 hx (t := .boolean) Bd.returns (by simp) (hb hby at_53) hr
      · show Q_rmLaw Z p0 aS aB aC h0 n0 _ T16.heap _
        rw [p16_0]
        exact ⟨rfl, N16⟩
    · skip
      have R19 : ∀ t, Steps p.tables e below (s₁.setTop (mkF m 34 #[iv p0, iv i, .unset, .unset] [])) t → Steps p.tables e below (s₁.setTop f0) t := fun t k => R11 t (by
        show Steps p.tables e below (s₁.setTop (mkF m 22 #[iv p0, iv i, .unset, .unset] [(.int (1 : Int32)), (.int i)])) _
        refine XS.icmpYes X0.here hx rfl (pc0 := 22) (pc' := 34) rfl (hb hby at_22) rfl (feq hs2).2 (by decide) (by decide) ?_
        exact k)
      obtain ⟨T20, X20, e20, st20⟩ := getS2 X0 hx hZ hown (host := "") (Or.inl (hw _ (List.mem_of_getElem? (i := 11) rfl))) Via.refl e0 S_AddressType_SHIPPING_AND_BILLING (g := (mkF m 34 #[iv p0, iv i, .unset, .unset] [])) rfl (hb hby at_34)
      have R21 : ∀ t, Steps p.tables e below (T20.setTop (mkF m 37 #[iv p0, iv i, .unset, .unset] [(.ref aC)])) t → Steps p.tables e below (s₁.setTop f0) t := fun t k => R19 t (st20 t k)
      have R22 : ∀ t, Steps p.tables e below (T20.setTop (mkF m 41 #[iv p0, iv i, rv aC, iv (1 : Int32)] [(.ref aC)])) t → Steps p.tables e below (s₁.setTop f0) t := fun t k => R21 t (by
        show Steps p.tables e below (T20.setTop (mkF m 37 #[iv p0, iv i, .unset, .unset] [(.ref aC)])) _
        refine XS.astoreN X20.here hx rfl (hb hby at_37) rfl rfl (l' := #[iv p0, iv i, rv aC, .unset]) rfl ?_
        show Steps p.tables e below (T20.setTop (mkF m 38 #[iv p0, iv i, rv aC, .unset] [])) _
        refine XS.iconst X20.here hx rfl (hb hby at_38) ?_
        show Steps p.tables e below (T20.setTop (mkF m 39 #[iv p0, iv i, rv aC, .unset] [(.int (1 : Int32))])) _
        refine XS.istoreN X20.here hx rfl (hb hby at_39) rfl (l' := #[iv p0, iv i, rv aC, iv (1 : Int32)]) rfl ?_
        show Steps p.tables e below (T20.setTop (mkF m 40 #[iv p0, iv i, rv aC, iv (1 : Int32)] [])) _
        refine XS.aloadN X20.here hx rfl (hb hby at_40) rfl rfl ?_
        exact k)
      obtain ⟨cq23, kq23, q23a, q23b, q23c⟩ := isOf hZ e20 E_aC
      obtain ⟨_, _, ⟨T23, L23, k23, n23⟩, -, X23, ⟨Lc23, hQ23, l23, y23, z23⟩, st23⟩ := X20.virtualBack hx (y := (⟨sN0, "ships", "()Z"⟩ : MethodName)) (z := (⟨sN0, "ships", "()Z"⟩ : MethodName)) hown (mvT hZ (hw _ (List.mem_of_getElem? (i := 4) rfl))) (mvT hZ (hw _ (List.mem_of_getElem? (i := 5) rfl))) (notFace_of_selects (args := #[]) (mvT hZ (hw _ (List.mem_of_getElem? (i := 7) rfl)))) (mvT hZ (hw _ (List.mem_of_getElem? (i := 7) rfl))) (mvT hZ (hw _ (List.mem_of_getElem? (i := 6) rfl))) (by decide) (backOf (W := 0) (rmShips l Z a0 hw [] aC aB h0 n0 Z0 S_AddressType_BILLING) hZ (hw _ (List.mem_of_getElem? (i := 8) rfl)) (hw _ (List.mem_of_getElem? (i := 2) rfl)) (by decide) (by decide)) q23a q23c (g := (mkF m 41 #[iv p0, iv i, rv aC, iv (1 : Int32)] [(.ref aC)])) rfl (by rw [hml]; rfl) (Steps.refl _) (argsL := []) (rest := []) (lenOf pd_2 rfl) rfl (by show 2 * 0 + _ ≤ _; exact Nat.le_of_eq rfl) (hb hby at_41) (fun _ _ => ⟨rfl, e20, (by decide : 0 + 0 ≤ _), (by decide : 0 + 0 ≤ _)⟩)
      dsimp only [Pt.U, Pt.locs, Pt.cells, Pt.slots] at X23 l23 y23 z23 st23 hQ23
      subst l23 y23 z23
      obtain ⟨rfl, N23q, p23_0⟩ := hQ23
      have N23 := Fr.app N0 N23q
      have R24 : ∀ t, Steps p.tables e below (T23.setTop (mkF m 44 #[iv p0, iv i, rv aC, iv (1 : Int32)] [(.int (own_b (¬ (aC = aB))))])) t → Steps p.tables e below (s₁.setTop f0) t := fun t k => R22 t (st23.trans k)
      have R25 : ∀ t, Steps p.tables e below (T23.setTop (mkF m 53 #[iv p0, iv i, rv aC, iv (1 : Int32)] [(.int (1 : Int32))])) t → Steps p.tables e below (s₁.setTop f0) t := fun t k => R24 t (by
        show Steps p.tables e below (T23.setTop (mkF m 44 #[iv p0, iv i, rv aC, iv (1 : Int32)] [(.int (own_b (¬ (aC = aB))))])) _
        refine XS.iloadN X23.here hx rfl (hb hby at_44) rfl  ?_
        show Steps p.tables e below (T23.setTop (mkF m 45 #[iv p0, iv i, rv aC, iv (1 : Int32)] [(.int (1 : Int32)), (.int (own_b (¬ (aC = aB))))])) _
        refine XS.icmpNo X23.here hx rfl (hb hby at_45) rfl (teq (by simp [own_b, ne_aC_aB] : (own_b (¬ (aC = aB))) = (1 : Int32))).2 ?_
        show Steps p.tables e below (T23.setTop (mkF m 48 #[iv p0, iv i, rv aC, iv (1 : Int32)] [])) _
        refine XS.iconst X23.here hx rfl (hb hby at_48) ?_
        show Steps p.tables e below (T23.setTop (mkF m 49 #[iv p0, iv i, rv aC, iv (1 : Int32)] [(.int (1 : Int32))])) _
        refine XS.goto X23.here hx rfl (pc0 := 49) (pc' := 53) rfl (hb hby at_49) (by decide) (by decide) ?_
        exact k)
      obtain ⟨fs, hr, hrun, hended, hW, hsame⟩ := X23.leave (v := some (.int (1 : Int32))) (fun h => by rw [Bd.returns] at h; cases h)
      refine ⟨_, _, pre0 _ (R25 _ ?_), hrun, hended, _, _, rfl, ?_, ⟨_, rfl⟩, hW, hsame.mono (by decide) (by decide)⟩
      · show Steps p.tables e below (T23.setTop (mkF m 53 #[iv p0, iv i, rv aC, iv (1 : Int32)] [(.int (1 : Int32))])) _
        exact retN X23 hx (t := .boolean) Bd.returns (by simp) (hb hby at_53) hr
      · show Q_rmLaw Z p0 aS aB aC h0 n0 _ T23.heap _
        rw [p23_0]
        exact ⟨rfl, N23⟩
set_option maxRecDepth 65536 in
set_option maxHeartbeats 40000000 in
theorem comes_1 {Post : Tables → Env → Array Value → State → Outcome → State → Prop} (hpost : ∀ tb e args s v u, (limb_1_1.after args s (.returned v) u = true ∧ limb_1_2.after args s (.returned v) u = true ∧ True) → FrameEnd s (.returned v) u (Jvm.fieldLocs frame_1_writes args s ++ Jvm.arrayLocs frame_1_arrays args s ++ Jvm.staticLocs frame_1_statics s) 0 0 → Post tb e args s (.returned v) u) :
    ArmFor flags0 classFile x code maxLocals ret World_1 tables_1 room_1 Calls_1 rest_1 Pre_1 Post := by
  intro l hfl _ _ p e ha hc hk s m args below hf hA hF happ hP
  obtain ⟨hcalls, hrest, hpre⟩ := hP
  obtain ⟨-, -, -, hnamed, -, -, -, hat⟩ := (Spec.applies_iff hf).mp happ
  obtain ⟨hg, hn⟩ := and_e (Cond.before_iff.mp (show (Jvm.Cond.and given_1 narrow_1).before args s = true from hpre))
  obtain ⟨gg1, gg2⟩ := and_e hg
  obtain ⟨w0, rfl⟩ : ∃ w0 : Value, args = #[w0] := by
    have hs : args.size = 1 := by simpa [Cond.value, given_1] using gg1
    obtain ⟨L⟩ := args
    match L, hs with
    | [w0], _ => exact ⟨w0, rfl⟩
  have hw := fun d (hd : d ∈ tables_1) => atoms_spec (ws := Jvm.Cond.code x code maxLocals ret :: tables_1) hat d (List.mem_cons_of_mem _ hd)
  have hfit : Fit s := fun {y c} hc i hi => by
    obtain ⟨ha, rfl⟩ := Array.getElem?_eq_some_iff.mp hc
    have q := List.all_eq_true.mp ((Array.all_eq_true_iff_forall_mem.mp hF) _ (Array.getElem_mem ha)) i (List.mem_range.mpr hi)
    simpa [Array.getElem?_eq_getElem hi] using q
  obtain ⟨i0, ei0⟩ := is_v gg2
  obtain rfl : w0 = (.int i0) := Option.some.inj ei0
  obtain ⟨hn1, hn2⟩ := and_e hn
  obtain ⟨hn3, hn4⟩ := and_e hn2
  obtain ⟨hn5, hn6⟩ := and_e hn4
  obtain ⟨hn7, hn8⟩ := and_e hn6
  obtain ⟨hn9, hn10⟩ := and_e hn8
  obtain ⟨st_AddressType_SHIPPING, ev_st_AddressType_SHIPPING⟩ := exa_v hn1
  have S_st_AddressType_SHIPPING := Sta.start ev_st_AddressType_SHIPPING (Or.inr ⟨(hw _ (List.mem_of_getElem? (i := 2) rfl)), (hw _ (List.mem_of_getElem? (i := 3) rfl))⟩)
  have E_st_AddressType_SHIPPING := Exa.start ev_st_AddressType_SHIPPING hn1
  obtain ⟨st_AddressType_BILLING, ev_st_AddressType_BILLING⟩ := exa_v hn3
  have S_st_AddressType_BILLING := Sta.start ev_st_AddressType_BILLING (Or.inr ⟨(hw _ (List.mem_of_getElem? (i := 2) rfl)), (hw _ (List.mem_of_getElem? (i := 10) rfl))⟩)
  have E_st_AddressType_BILLING := Exa.start ev_st_AddressType_BILLING hn3
  have F_st_AddressType_SHIPPING_ordinal := Fld.start ((fld_at ev_st_AddressType_SHIPPING).symm.trans (eqv_i (Term.int_eval (0 : Int32)) hn5))
  have F_st_AddressType_BILLING_ordinal := Fld.start ((fld_at ev_st_AddressType_BILLING).symm.trans (eqv_i (Term.int_eval (1 : Int32)) hn7))
  obtain ⟨st_AddressType_SHIPPING_AND_BILLING, ev_st_AddressType_SHIPPING_AND_BILLING⟩ := exa_v hn9
  have S_st_AddressType_SHIPPING_AND_BILLING := Sta.start ev_st_AddressType_SHIPPING_AND_BILLING (Or.inr ⟨(hw _ (List.mem_of_getElem? (i := 2) rfl)), (hw _ (List.mem_of_getElem? (i := 12) rfl))⟩)
  have E_st_AddressType_SHIPPING_AND_BILLING := Exa.start ev_st_AddressType_SHIPPING_AND_BILLING hn9
  have F_st_AddressType_SHIPPING_AND_BILLING_ordinal := Fld.start ((fld_at ev_st_AddressType_SHIPPING_AND_BILLING).symm.trans (eqv_i (Term.int_eval (2 : Int32)) hn10))
  obtain ⟨n, o, h1, h2, h3, _, L, rfl, ⟨rfl, N⟩, hq⟩ := rmLaw l s _ hw tables_1 i0 st_AddressType_SHIPPING st_AddressType_BILLING st_AddressType_SHIPPING_AND_BILLING s.heap s.heap.size (Nat.le_refl _) S_st_AddressType_SHIPPING S_st_AddressType_BILLING S_st_AddressType_SHIPPING_AND_BILLING E_st_AddressType_SHIPPING E_st_AddressType_BILLING E_st_AddressType_SHIPPING_AND_BILLING (Fld.ne F_st_AddressType_SHIPPING_ordinal F_st_AddressType_BILLING_ordinal (by decide)) (Fld.ne F_st_AddressType_SHIPPING_AND_BILLING_ordinal F_st_AddressType_BILLING_ordinal (by decide)) p e ha hc hk s m _ below hf ((Spec.applies_iff_loose hf).mp happ).1 ⟨rfl, State.Warmed39.refl s, rfl⟩ trivial
  refine ⟨n, _, h1, h2, h3, hpost _ _ _ _ _ _ ⟨Cond.after_iff.mpr rfl, Cond.after_iff.mpr (eq_i res_at (Term.int_eval (1)) rfl), trivial⟩ ⟨hq.1, hq.2.1, (hq.2.2.sift fun y hy => Or.inr (N y hy)).mono (by decide) (by decide)⟩⟩
theorem main_1_1 : Claimed_1_1 := comes_1 fun _ _ _ _ _ _ h hF => ⟨h.1, hF⟩
theorem main_1_2 : Claimed_1_2 := comes_1 fun _ _ _ _ _ _ h hF => ⟨h.2.1, hF⟩
end Jvm.Pilot.@@N@@
namespace Jvm.Pilot.@@N@@
open Jvm Jvm.ClassFile Sem Op Lib Jvm.Free Jvm.Stand Jvm.Pilot.@@N@@.Jvm.D
/-! MADE BY PROGRAM (witnessworld.py) out of the Statement's table words and the real class files: 12 classes; the members and pool entries that the words name. The judged class is class 1, her method 1. -/
namespace start1
open Jvm.ClassFile
def u (s : String) : CpInfo := .utf8 (stringToUtf16 s)
/-- a pool by its gaps: so many unusable entries, then the entry; so many at the end -/
def gap : Nat → List CpInfo → List CpInfo
  | 0, r => r
  | n + 1, r => .unusable :: gap n r
def poolList (es : List (Nat × CpInfo)) (last : Nat) : List CpInfo := es.foldr (fun e r => gap e.1 (e.2 :: r)) (gap last [])
def pool (es : List (Nat × CpInfo)) (last : Nat) : Array CpInfo := ⟨poolList es last⟩
def fileOf (pool : Array CpInfo) (this : Nat) (attrs : Array Attribute := #[]) (ms : Array MethodInfo := #[]) (fl : Nat := 33) (sup : Nat := 0) (ifs : Array Nat := #[]) (fds : Array FieldInfo := #[]) : ClassFile where
  minorVersion := 0
  majorVersion := 65
  constantPool := pool
  accessFlags := fl
  thisClass := this
  superClass := sup
  interfaces := ifs
  fields := fds
  methods := ms
  attributes := attrs
def plain (name : String) (sup : Option ClassId) : Class where
  name := name
  kind := .ordinary
  loader := none
  accessFlags := 33
  super := sup
  interfaces := #[]
  cf := none
  fields := #[]
  methods := #[]
  instanceTypes := #[]
  staticTypes := #[]
  resolved := #[]
  callSites := []
  init := .initialized
  statics := none
  mirror := none

def pool0 : Array CpInfo := pool [(5, u "<init>"), (0, u "()V"), (1, .class_ 10), (1, u "java/lang/Object")] 113

def k0m0 : Method := { name := "<init>", desc := "()V", sig := { parameters := [], returnType := none }, accessFlags := 1, code := none }
/-- java/lang/Object -/
def k0 : Class := { plain "java/lang/Object" none with
  accessFlags := 33
  interfaces := #[]
  cf := some (fileOf pool0 8 #[] #[{ accessFlags := 1, nameIndex := 5, descriptorIndex := 6, attributes := #[] }] 33 0 #[] #[])
  fields := #[]
  methods := #[k0m0]
  instanceTypes := #[]
  staticTypes := #[]
  resolved := Array.replicate 124 none
  statics := none }

def pool1 : Array CpInfo := pool [(2, .class_ 4), (1, u "java/lang/Object"), (0, u "<init>"), (0, u "()V"), (0, .integer 2147483647), (0, .fieldref 9 10), (0, .class_ 11), (0, .nameAndType 12 13), (0, u "com/example/cartwright/cartwright/core/AddressType"), (0, u "SHIPPING"), (0, u "Lcom/example/cartwright/cartwright/core/AddressType;"), (0, .fieldref 9 15), (0, .nameAndType 16 13), (0, u "BILLING"), (0, .fieldref 9 18), (0, .nameAndType 19 13), (0, u "SHIPPING_AND_BILLING"), (0, .methodref 9 21), (0, .nameAndType 22 23), (0, u "ships"), (0, u "()Z"), (0, .class_ 25), (0, u "com/example/cartwright/cartwright/core/AddressTypeShipsPinLaw"), (2, u "law"), (0, u "(I)Z")] 3

def k1m0 : Method := { name := "<init>", desc := "()V", sig := { parameters := [], returnType := none }, accessFlags := 2, code := none }
def k1c1 : Code := { maxStack := 2, maxLocals := 4, code := code, exceptionTable := #[], attributes := #[] }
def k1m1 : Method := { name := "law", desc := "(I)Z", sig := { parameters := [.int], returnType := some .boolean }, accessFlags := 9, code := some k1c1 }
/-- com/example/cartwright/cartwright/core/AddressTypeShipsPinLaw -/
def k1 : Class := { plain "com/example/cartwright/cartwright/core/AddressTypeShipsPinLaw" (some 0) with
  accessFlags := 49
  interfaces := #[]
  cf := some (fileOf pool1 24 #[] #[{ accessFlags := 2, nameIndex := 5, descriptorIndex := 6, attributes := #[] }, { accessFlags := 9, nameIndex := 28, descriptorIndex := 29, attributes := #[] }] 49 2 #[] #[])
  fields := #[]
  methods := #[k1m0, k1m1]
  instanceTypes := #[]
  staticTypes := #[]
  resolved := Array.replicate 33 none
  statics := none }

def pool2 : Array CpInfo := pool [(1, .class_ 2), (0, u "java/lang/constant/Constable"), (0, .class_ 4), (0, u "java/lang/Object")] 6

/-- java/lang/constant/Constable -/
def k2 : Class := { plain "java/lang/constant/Constable" (some 0) with
  accessFlags := 1537
  interfaces := #[]
  cf := some (fileOf pool2 1 #[] #[] 1537 3 #[] #[])
  fields := #[]
  methods := #[]
  instanceTypes := #[]
  staticTypes := #[]
  resolved := Array.replicate 11 none
  statics := none }

def pool3 : Array CpInfo := pool [(1, .class_ 2), (0, u "java/lang/Comparable"), (0, .class_ 4), (0, u "java/lang/Object")] 7

/-- java/lang/Comparable -/
def k3 : Class := { plain "java/lang/Comparable" (some 0) with
  accessFlags := 1537
  interfaces := #[]
  cf := some (fileOf pool3 1 #[] #[] 1537 3 #[] #[])
  fields := #[]
  methods := #[]
  instanceTypes := #[]
  staticTypes := #[]
  resolved := Array.replicate 12 none
  statics := none }

def pool4 : Array CpInfo := pool [(1, .class_ 2), (0, u "java/io/Serializable"), (0, .class_ 4), (0, u "java/lang/Object")] 2

/-- java/io/Serializable -/
def k4 : Class := { plain "java/io/Serializable" (some 0) with
  accessFlags := 1537
  interfaces := #[]
  cf := some (fileOf pool4 1 #[] #[] 1537 3 #[] #[])
  fields := #[]
  methods := #[]
  instanceTypes := #[]
  staticTypes := #[]
  resolved := Array.replicate 7 none
  statics := none }

def pool5 : Array CpInfo := pool [(2, .class_ 4), (1, u "java/lang/Enum"), (0, u "name"), (0, u "Ljava/lang/String;"), (2, u "ordinal"), (0, u "I"), (1, .class_ 14), (1, u "java/lang/Object"), (4, u "hash"), (86, .class_ 108), (1, u "java/lang/Enum$EnumDesc"), (2, .class_ 112), (0, u "java/lang/constant/Constable"), (0, .class_ 114), (0, u "java/lang/Comparable"), (0, .class_ 116), (0, u "java/io/Serializable")] 87

/-- java/lang/Enum -/
def k5 : Class := { plain "java/lang/Enum" (some 0) with
  accessFlags := 1057
  interfaces := #[2, 3, 4]
  cf := some (fileOf pool5 2 #[.nestMembers #[106]] #[] 1057 12 #[111, 113, 115] #[{ accessFlags := 18, nameIndex := 5, descriptorIndex := 6, attributes := #[] }, { accessFlags := 18, nameIndex := 9, descriptorIndex := 10, attributes := #[] }, { accessFlags := 2, nameIndex := 19, descriptorIndex := 10, attributes := #[] }])
  fields := #[{ name := "name", type := (.object "java/lang/String"), accessFlags := 18, slot := 0, constantValue := 0 }, { name := "ordinal", type := .int, accessFlags := 18, slot := 1, constantValue := 0 }, { name := "hash", type := .int, accessFlags := 2, slot := 2, constantValue := 0 }]
  methods := #[]
  instanceTypes := #[(.object "java/lang/String"), .int, .int]
  staticTypes := #[]
  resolved := Array.replicate 204 none
  statics := none }

def pool6 : Array CpInfo := pool [(1, .class_ 2), (0, u "com/example/cartwright/cartwright/core/AddressType"), (2, u "SHIPPING"), (0, u "Lcom/example/cartwright/cartwright/core/AddressType;"), (0, .fieldref 1 8), (0, .nameAndType 9 6), (0, u "BILLING"), (2, u "SHIPPING_AND_BILLING"), (2, u "$VALUES"), (0, u "[Lcom/example/cartwright/cartwright/core/AddressType;"), (6, .class_ 25), (1, u "java/lang/Enum"), (8, u "code"), (0, u "Ljava/lang/String;"), (45, u "ships"), (0, u "()Z")] 6

def k6c0 : Code := { maxStack := 2, maxLocals := 1, code := prog_4_method_6_code, exceptionTable := #[], attributes := #[] }
def k6m0 : Method := { name := "ships", desc := "()Z", sig := { parameters := [], returnType := some .boolean }, accessFlags := 1, code := some k6c0 }
/-- com/example/cartwright/cartwright/core/AddressType -/
def k6 : Class := { plain "com/example/cartwright/cartwright/core/AddressType" (some 5) with
  accessFlags := 16433
  interfaces := #[]
  cf := some (fileOf pool6 1 #[] #[{ accessFlags := 1, nameIndex := 81, descriptorIndex := 82, attributes := #[] }] 16433 23 #[] #[{ accessFlags := 16409, nameIndex := 5, descriptorIndex := 6, attributes := #[] }, { accessFlags := 16409, nameIndex := 9, descriptorIndex := 6, attributes := #[] }, { accessFlags := 16409, nameIndex := 12, descriptorIndex := 6, attributes := #[] }, { accessFlags := 18, nameIndex := 34, descriptorIndex := 35, attributes := #[] }, { accessFlags := 4122, nameIndex := 15, descriptorIndex := 16, attributes := #[] }])
  fields := #[{ name := "SHIPPING", type := (.object "com/example/cartwright/cartwright/core/AddressType"), accessFlags := 16409, slot := 0, constantValue := 0 }, { name := "BILLING", type := (.object "com/example/cartwright/cartwright/core/AddressType"), accessFlags := 16409, slot := 1, constantValue := 0 }, { name := "SHIPPING_AND_BILLING", type := (.object "com/example/cartwright/cartwright/core/AddressType"), accessFlags := 16409, slot := 2, constantValue := 0 }, { name := "code", type := (.object "java/lang/String"), accessFlags := 18, slot := 3, constantValue := 0 }, { name := "$VALUES", type := (.array (.object "com/example/cartwright/cartwright/core/AddressType")), accessFlags := 4122, slot := 3, constantValue := 0 }]
  methods := #[k6m0]
  instanceTypes := #[(.object "java/lang/String"), .int, .int, (.object "java/lang/String")]
  staticTypes := #[(.object "com/example/cartwright/cartwright/core/AddressType"), (.object "com/example/cartwright/cartwright/core/AddressType"), (.object "com/example/cartwright/cartwright/core/AddressType"), (.array (.object "com/example/cartwright/cartwright/core/AddressType"))]
  resolved := Array.replicate 89 none
  statics := some 0 }

def pool7 : Array CpInfo := pool [(1, u "java/lang/Cloneable"), (0, .class_ 1), (0, u "java/lang/Object"), (0, .class_ 3)] 3

/-- java/lang/Cloneable -/
def k7 : Class := { plain "java/lang/Cloneable" (some 0) with
  accessFlags := 1537
  interfaces := #[]
  cf := some (fileOf pool7 2 #[] #[] 1537 4 #[] #[])
  fields := #[]
  methods := #[]
  instanceTypes := #[]
  staticTypes := #[]
  resolved := Array.replicate 8 none
  statics := none }

/-- the primitive byte -/
def k8 : Class := { plain "byte" none with kind := .primitive 'B', accessFlags := 0x411 }
/-- [B -/
def k9 : Class := { plain "[B" (some 0) with kind := .array 8 .byte, interfaces := #[7, 4], accessFlags := 1041 }

/-- the primitive int -/
def k10 : Class := { plain "int" none with kind := .primitive 'I', accessFlags := 0x411 }
/-- [I -/
def k11 : Class := { plain "[I" (some 0) with kind := .array 10 .int, interfaces := #[7, 4], accessFlags := 1041 }

def heap : Heap := #[{ cls := 6, slots := #[.ref 1, .ref 2, .ref 3, .null], vm := .statics 6 },
  { cls := 6, slots := #[.null, .int 0, .int 0, .null], vm := .none },
  { cls := 6, slots := #[.null, .int 1, .int 0, .null], vm := .none },
  { cls := 6, slots := #[.null, .int 2, .int 0, .null], vm := .none }]
def classes : Array Class := #[k0, k1, k2, k3, k4, k5, k6, k7, k8, k9, k10, k11]
def interned : List (Array UInt16 × Addr) := []
def slotsUsed : Nat := 16
def theMethod : MethodId := ⟨1, 1⟩
def args0 : Array Value := #[.int 9]
def aboutOver (below : List Frame) : State where
  vm := { classes := classes, interned := interned.toArray }
  heap := heap
  slotsUsed := slotsUsed
  threads := #[{ frames := .invoking theMethod args0 :: below }]
def below0 : List Frame := [.native { method := ⟨0, 0⟩, args := #[] }]
def about1 : State := aboutOver below0
def p0 : Program := .bare "" "" ""
def e0 : Env := launch0.env 0 0 0
theorem w_frames : about1.frames = Frame.invoking theMethod args0 :: below0 := rfl
set_option maxRecDepth 65536 in
theorem w_args : argsFit about1.vm theMethod args0 = true := by decide +kernel
set_option maxRecDepth 65536 in
theorem w_heap : heapFits about1 = true := by decide +kernel
set_option maxRecDepth 65536 in
theorem w_runnable : about1.curStatus? = some .runnable := by decide +kernel
set_option maxRecDepth 65536 in
theorem w_alone : about1.alone = true := by decide +kernel
set_option maxRecDepth 65536 in
theorem w_named : about1.methodNamed? x = some theMethod := by decide +kernel
set_option maxRecDepth 65536 in
theorem w_hears : about1.hears theMethod below0 = true := by decide +kernel
set_option maxRecDepth 65536 in
theorem w_ripe : about1.ripe theMethod args0 below0 = true := by decide +kernel
theorem w_running : about1.status = .running := rfl
set_option maxRecDepth 65536 in
theorem w_room : about1.hasRoom e0.platform room_1 = true :=
  launch0.hasRoom_least _ room_1 (by decide +kernel) (by decide +kernel) (by decide +kernel) (by decide +kernel) (by decide +kernel) (by decide +kernel)
theorem allAtoms_all (ts : List Jvm.Cond) (a : Array Jvm.Value) (st : Jvm.State) : (allAtoms ts).before a st = ts.all (fun c => c.before a st) := by
  induction ts with
  | nil => rfl
  | cons c t ih =>
    show (Jvm.Cond.and c (allAtoms t)).before a st = _
    rw [Jvm.Cond.before_and, ih, List.all_cons]
def words1 : List Jvm.Cond := Jvm.Cond.code x code maxLocals ret :: tables_1
/-- a 'code' word, met by the world's own term for the bytes: nothing is compared byte by byte -/
theorem code_word {y : MethodName} {bytes : ByteArray} {mx : Nat} {rt : Option FieldType} {a : Array Value} {s : State} {m : MethodId} {meth : Method} {c : Code} (h1 : s.methodNamed? y = some m) (h2 : s.vm.method? m = some meth) (h3 : meth.code = some c) (h4 : c.code = bytes)
    (h5 : (c.maxLocals == mx && c.exceptionTable.isEmpty && decide (c.maxStack ≤ mostOperands) && decide (meth.sig.returnType = rt) && !meth.locks && decide (parseMethodDescriptor y.desc = some meth.sig)) = true) : (Jvm.Cond.code y bytes mx rt).before a s = true := by
  simp only [Bool.and_eq_true, beq_iff_eq, Bool.not_eq_true', decide_eq_true_eq] at h5
  obtain ⟨⟨⟨⟨⟨g1, g2⟩, g3⟩, g4⟩, g5⟩, g6⟩ := h5
  simp [Cond.before, Cond.holds, Cond.value, h1, h2, h3, h4, g1, g2, g3, g4, g5, g6]
def isCode : Jvm.Cond → Bool
  | .code _ _ _ _ => true
  | _ => false
theorem all_split {L : List Jvm.Cond} {P : Jvm.Cond → Bool} (h1 : L.all (fun c => isCode c || P c) = true) (h2 : ∀ c ∈ L.filter isCode, P c = true) : L.all P = true := by
  refine List.all_eq_true.mpr fun c hc => ?_
  have h := List.all_eq_true.mp h1 c hc
  rcases Bool.eq_false_or_eq_true (isCode c) with hi | hi
  · exact h2 c (List.mem_filter.mpr ⟨hc, hi⟩)
  · simpa [hi] using h
set_option maxRecDepth 65536 in
theorem w_c0 : (Jvm.Cond.code x code maxLocals ret).before args0 about1 = true := code_word (m := ⟨1, 1⟩) (meth := k1m1) (c := k1c1) (by decide +kernel) rfl rfl rfl (by decide +kernel)
set_option maxRecDepth 65536 in
theorem w_c1 : (Jvm.Cond.code ({ cls := "com/example/cartwright/cartwright/core/AddressType", name := "ships", desc := "()Z" } : Jvm.MethodName) prog_4_method_6_code (1 : Nat) (Option.some Jvm.ClassFile.FieldType.boolean)).before args0 about1 = true := code_word (m := ⟨6, 0⟩) (meth := k6m0) (c := k6c0) (by decide +kernel) rfl rfl rfl (by decide +kernel)
def codes1 : List Jvm.Cond := [Jvm.Cond.code x code maxLocals ret, Jvm.Cond.code ({ cls := "com/example/cartwright/cartwright/core/AddressType", name := "ships", desc := "()Z" } : Jvm.MethodName) prog_4_method_6_code (1 : Nat) (Option.some Jvm.ClassFile.FieldType.boolean)]
set_option maxRecDepth 65536 in
theorem codes_eq : words1.filter isCode = codes1 := rfl
theorem w_codes : ∀ c ∈ words1.filter isCode, c.before args0 about1 = true := by
  rw [codes_eq]
  intro c hc
  simp only [codes1, List.mem_cons, List.not_mem_nil, or_false] at hc
  rcases hc with rfl | rfl
  · exact w_c0
  · exact w_c1
set_option maxRecDepth 65536 in
theorem w_t1 : words1.all (fun c => isCode c || c.before args0 about1) = true := by decide +kernel
theorem w_tables : (allAtoms (Jvm.Cond.code x code maxLocals ret :: tables_1)).before args0 about1 = true := by
  rw [allAtoms_all]
  show words1.all (fun c => c.before args0 about1) = true
  refine all_split ?_ w_codes
  rw [w_t1]
set_option maxRecDepth 65536 in
theorem w_case : (Jvm.Cond.and given_1 narrow_1).before args0 about1 = true := by decide +kernel
theorem w_applies : (headSpec (Jvm.Cond.code x code maxLocals ret :: tables_1) room_1).applies x e0.platform about1 = true :=
  (Spec.applies_iff w_frames).mpr ⟨w_running, w_runnable, w_alone, w_named, w_hears, w_ripe, w_room, w_tables⟩
theorem atStart : AtStart classFile x code maxLocals ret World_1 tables_1 room_1 Calls_1 rest_1 Pre_1 launch0 p0 e0 about1 theMethod args0 below0 :=
  ⟨lists_1, trivial, launch0.admits_env _ _ _, launch0.least_env, fairChoices_fair.cas, fairChoices_fair.clock, w_frames, w_args, w_heap, w_applies, trivial, trivial, w_case⟩
end start1
theorem witness_1 : WitnessClaimed_1 := ⟨start1.p0, start1.e0, start1.about1, start1.theMethod, start1.args0, start1.below0, start1.atStart⟩
end Jvm.Pilot.@@N@@
