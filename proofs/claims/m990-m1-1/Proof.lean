import JvmDerived
import JvmDerived.Pilot.@@N@@Statement
import JvmDerived.Pilot.@@N@@Code
set_option linter.unusedVariables false
set_option linter.unusedSimpArgs false
namespace Jvm.RoadKit
open Sem ClassFile Op Lib Jvm.Stand Jvm.Free Jvm.LawKit
section New
variable {p : Program} {l : Launch} {e : Env} {R : Room} {s : State} {m : MethodId} {args : Array Value} {below : List Frame} {meth : Method} {c : Code} {T : State} {locs : List Loc} {cells slots : Nat}
theorem retI (X : Stand p l e R s m args below meth c T locs cells slots) (hx : p.tables.exec = Jvm.exec) {pc : Nat} {Ls : Array Slot} {z : Int32} {rest : List Value} (hret : meth.sig.returnType = some .int) (hd : decode c.code pc = .ok (.ireturn, 1)) {fs : List Frame}
    (hl : ∀ (f : JFrame) (acts : List Action), f.method = m → f.locked = none → f.entered = [] → (doReturn e (T.setTop f) acts (some (.int z))).1 = T.setFrames fs) : Steps p.tables e below (T.setTop (mkF m pc Ls (.int z :: rest))) (T.setFrames fs) :=
  retOut X hx hret rfl (Or.inl ⟨rfl, Or.inl rfl, _, rfl⟩) hd hl
theorem own_sta_keep {Z : State} {h h' : Heap} {C n d : String} {w : Value} {ws : List Addr} (F : Sta Z h C n d w) (K : Keep h h' ws) (ns : ∀ x ∈ ws, ∀ cell : Cell, h[x]? = some cell → cell.vm.isStatics = false) : Sta Z h' C n d w := by
  obtain ⟨cf, i, k, f, st, cell, h1, h2, h3, h4, h5, h6, h7⟩ := F
  refine ⟨cf, i, k, f, st, cell, h1, h2, h3, h4, K.2.1 st cell h5 (fun hm => ?_), h6, h7⟩
  rw [ns st hm cell h5] at h6
  cases h6
theorem own_selp {s : State} {args : Array Value} {w y : MethodName} (hs : (Cond.selects w.cls w w).before args s = true) (e : w.cls = y.cls) (hp : s.PrivateAt y) (hi : (Cond.instanceMethod y).before args s = true) (hy : y.cls ≠ "java/lang/invoke/MethodHandle" ∧ y.cls ≠ "java/lang/invoke/VarHandle") : (Cond.selects y.cls y y).before args s = true := by
  obtain ⟨c2, r2, m2, q1, q2, q3, q4, kP, hkP, hkPi⟩ := Cond.selects_spec hs
  exact selects_self_of_private (c := m2.cls) (by rw [← e]; exact findClass_of_methodNamed q3) hkP hkPi hp hi hy
end New
end Jvm.RoadKit
namespace Jvm.Pilot.@@N@@
open Jvm Jvm.ClassFile Sem Op Lib Jvm.Free Jvm.Stand Jvm.LawKit Jvm.RoadKit Bundle Jvm.Pilot.@@N@@.Jvm.D
theorem d1_0 : decode prog_17_method_1_code 0 = .ok (.aload_n 0, 1) := by decide +kernel
theorem d1_1 : decode prog_17_method_1_code 1 = .ok (.invokespecial 1, 3) := by decide +kernel
theorem d1_4 : decode prog_17_method_1_code 4 = .ok (.aload_n 0, 1) := by decide +kernel
theorem d1_5 : decode prog_17_method_1_code 5 = .ok (.lload_n 1, 1) := by decide +kernel
theorem d1_6 : decode prog_17_method_1_code 6 = .ok (.putfield 7, 3) := by decide +kernel
theorem d1_9 : decode prog_17_method_1_code 9 = .ok (.aload_n 0, 1) := by decide +kernel
theorem d1_10 : decode prog_17_method_1_code 10 = .ok (.lload_n 3, 1) := by decide +kernel
theorem d1_11 : decode prog_17_method_1_code 11 = .ok (.putfield 13, 3) := by decide +kernel
theorem d1_14 : decode prog_17_method_1_code 14 = .ok (.return_, 1) := by decide +kernel
theorem d3_0 : decode prog_17_method_4_code 0 = .ok (.aload_n 0, 1) := by decide +kernel
theorem d3_1 : decode prog_17_method_4_code 1 = .ok (.getfield 7, 3) := by decide +kernel
theorem d3_4 : decode prog_17_method_4_code 4 = .ok (.aload_n 1, 1) := by decide +kernel
theorem d3_5 : decode prog_17_method_4_code 5 = .ok (.getfield 7, 3) := by decide +kernel
theorem d3_8 : decode prog_17_method_4_code 8 = .ok (.lsub, 1) := by decide +kernel
theorem d3_9 : decode prog_17_method_4_code 9 = .ok (.lconst 0, 1) := by decide +kernel
theorem d3_10 : decode prog_17_method_4_code 10 = .ok (.lcmp, 1) := by decide +kernel
theorem d3_11 : decode prog_17_method_4_code 11 = .ok (.ifCond .le 7, 3) := by decide +kernel
theorem d3_14 : decode prog_17_method_4_code 14 = .ok (.iconst 1, 1) := by decide +kernel
theorem d3_15 : decode prog_17_method_4_code 15 = .ok (.goto 4, 3) := by decide +kernel
theorem d3_18 : decode prog_17_method_4_code 18 = .ok (.iconst 0, 1) := by decide +kernel
theorem d3_19 : decode prog_17_method_4_code 19 = .ok (.ireturn, 1) := by decide +kernel
theorem pn_0 : plainName "com/example/dvarapala/dvarapala/session/Moment" = true := by first | (simp [plainName, overriddenIn]; done) | decide +kernel
theorem pn_1 : plainName "com/example/dvarapala/dvarapala/session/MomentIsAfterPinLaw" = true := by first | (simp [plainName, overriddenIn]; done) | decide +kernel
theorem pd_2 : parseMethodDescriptor "(JJ)V" = some ⟨[.long, .long], none⟩ := by decide +kernel
theorem pd_3 : parseMethodDescriptor "(Lcom/example/dvarapala/dvarapala/session/Moment;)Z" = some ⟨[(.object "com/example/dvarapala/dvarapala/session/Moment")], some .boolean⟩ := by decide +kernel
def own_b (P : Prop) [Decidable P] : Int32 := if P then 1 else 0
theorem own_bv1 {P : Prop} [Decidable P] (h : P) : some (Value.int 1) = some (Value.int (own_b P)) := by simp [own_b, h]
theorem own_bv0 {P : Prop} [Decidable P] (h : ¬ P) : some (Value.int 0) = some (Value.int (own_b P)) := by simp [own_b, h]
theorem own_bc {P Q : Prop} [Decidable P] [Decidable Q] (h : P ↔ Q) : own_b P = own_b Q := by simp [own_b, h]
theorem own_m1 (b d : Int64) : own_b (0 < b + d - b) = own_b (0 < d) := own_bc (by
  simp only [Int64.lt_iff_toInt_lt]
  have h1 := c_lsub (b + d) b; have h2 := c_ladd b d; have r1 := rng64 b; have r2 := rng64 d; have r3 := rng64 (b + d - b); have r4 := rng64 (b + d)
  omega)
theorem own_m2 (b d : Int64) : own_b (0 < b - (b + d)) = own_b (d < 0 ∧ ¬ d = (-9223372036854775808 : Int64)) := own_bc (by
  rw [← Int64.toInt_inj]; simp only [Int64.lt_iff_toInt_lt]
  have h1 := c_lsub b (b + d); have h2 := c_ladd b d; have r1 := rng64 b; have r2 := rng64 d; have r3 := rng64 (b - (b + d)); have r4 := rng64 (b + d)
  have z : (0 : Int64).toInt = 0 := rfl
  have z2 : (-9223372036854775808 : Int64).toInt = -9223372036854775808 := rfl
  omega)
theorem own_m3 (b d : Int64) : own_b (0 < (b + d) - (b + d)) = 0 := by
  have : ¬ (0 < (b + d) - (b + d)) := by rw [Int64.sub_self]; decide
  simp [own_b, this]
abbrev sN0 : String := "com/example/dvarapala/dvarapala/session/Moment"
theorem ef_rmInit (m : MethodId) (x0 : Addr) (x1 : Int64) (x2 : Int64) : entryFrame m #[(.ref x0), (.long x1), (.long x2)] 5 = mkF m 0 #[rv x0, .val (.long x1), .second, .val (.long x2), .second] [] := by first | (simp [entryFrame, mkF, argsToLocals, Value.category]; done) | rfl
def Q_rmInit (Z : State) (a1 : Addr) (q2 : Int64) (q3 : Int64) (u1 : Value) (u2 : Value) (h0 : Heap) (n0 : Nat) (v : Option Value) (h : Heap) (L : List Loc) : Prop := v = none ∧ Fr n0 L ∧ Keep h0 h [a1] ∧ Exa Z h a1 sN0 ∧ Fld Z h a1 sN0 "nanos" "J" (.long q2) ∧ Fld Z h a1 sN0 "wallMillis" "J" (.long q3)
set_option maxRecDepth 65536 in
set_option maxHeartbeats 40000000 in
theorem rmInit (l : Launch) (Z : State) (a0 : Array Value) (hw : ∀ d ∈ tables_1, d.before a0 Z = true) (ws : List Jvm.Cond) (a1 : Addr) (q2 : Int64) (q3 : Int64) (u1 : Value) (u2 : Value) (h0 : Heap) (n0 : Nat) (Z0 : n0 ≤ h0.size) (E_a1 : Exa Z h0 a1 sN0) (F_nanos_a1 : Fld Z h0 a1 sN0 "nanos" "J" u1) (F_wallMillis_a1 : Fld Z h0 a1 sN0 "wallMillis" "J" u2) (g_a1 : n0 ≤ a1) :
    MetFree l (⟨sN0, "<init>", "(JJ)V"⟩ : MethodName) (head1 (Jvm.Cond.code (⟨sN0, "<init>", "(JJ)V"⟩ : MethodName) prog_17_method_1_code 5 none :: ws) ({ frames := 1, cells := 0, slots := 0, locals := 12 } : Room)) (fun a U => a = #[(.ref a1), (.long q2), (.long q3)] ∧ Z.Warmed39 U.vm ∧ U.heap = h0) (fun _ _ _ _ _ => True) (fun _ U o U' => ∃ v L, o = .returned v ∧ Q_rmInit Z a1 q2 q3 u1 u2 h0 n0 v U'.heap L ∧ FrameEnd U o U' L ({ frames := 1, cells := 0, slots := 0, locals := 12 } : Room).cells ({ frames := 1, cells := 0, slots := 0, locals := 12 } : Room).slots) := by
  refine MetFree.of_bodySF (plainFor_of_name pn_0) hisR ?_
  intro p e s m args below meth c s₁ Bd hml0 hP hK
  obtain ⟨rfl, hZ, hh⟩ := hP
  have hx := Bd.exec
  have hby := Bd.bytes
  have hml : c.maxLocals = 5 := hml0
  have hown : s.vm.findClass sN0 = some m.cls := findClass_of_methodNamed Bd.named
  have hnm := (name_of_methodNamed Bd.named Bd.method).1
  have X0 : Stand p l e ({ frames := 1, cells := 0, slots := 0, locals := 12 } : Room) s m #[(.ref a1), (.long q2), (.long q3)] below meth c s₁ [] 0 0 := Stand.of_body Bd
  have e0 : s₁.heap = h0 := by rw [← hh, Bd.state]; rfl
  have N0 := Fr.nil n0
  obtain ⟨f0, hf0⟩ : ∃ f : JFrame, f = mkF m 0 #[rv a1, .val (.long q2), .second, .val (.long q3), .second] [] := ⟨_, rfl⟩
  have pre0 : ∀ t, Steps p.tables e below (s₁.setTop f0) t → Steps p.tables e below (s₁.setTop (entryFrame m #[(.ref a1), (.long q2), (.long q3)] 5)) t := fun t k => castTop ((ef_rmInit m a1 q2 q3).trans hf0.symm) k
  have R0 : ∀ t, Steps p.tables e below (s₁.setTop (mkF m 0 #[rv a1, .val (.long q2), .second, .val (.long q3), .second] [])) t → Steps p.tables e below (s₁.setTop f0) t := by rw [hf0]; exact fun t k => k
  have R1 : ∀ t, Steps p.tables e below (s₁.setTop (mkF m 1 #[rv a1, .val (.long q2), .second, .val (.long q3), .second] [(.ref a1)])) t → Steps p.tables e below (s₁.setTop f0) t := fun t k => R0 t (by
    show Steps p.tables e below (s₁.setTop (mkF m 0 #[rv a1, .val (.long q2), .second, .val (.long q3), .second] [])) _
    refine XS.aloadN X0.here hx rfl (hb hby d1_0) rfl rfl ?_
    exact k)
  obtain ⟨T2, X2, e2, st2⟩ := initO X0 hx hZ hown (hw _ (List.mem_of_getElem? (i := 6) rfl)) (hw _ (List.mem_of_getElem? (i := 7) rfl)) (hw _ (List.mem_of_getElem? (i := 8) rfl)) e0 (g := (mkF m 1 #[rv a1, .val (.long q2), .second, .val (.long q3), .second] [(.ref a1)])) rfl (by rw [hml]; rfl) rfl (hb hby d1_1) (by decide) (W := 0) (by show 2 * 0 + _ ≤ _; exact Nat.le_of_eq rfl) (by decide)
  have R3 : ∀ t, Steps p.tables e below (T2.setTop (mkF m 4 #[rv a1, .val (.long q2), .second, .val (.long q3), .second] [])) t → Steps p.tables e below (s₁.setTop f0) t := fun t k => R1 t (st2 t k)
  have R4 : ∀ t, Steps p.tables e below (T2.setTop (mkF m 6 #[rv a1, .val (.long q2), .second, .val (.long q3), .second] [(.long q2), (.ref a1)])) t → Steps p.tables e below (s₁.setTop f0) t := fun t k => R3 t (by
    show Steps p.tables e below (T2.setTop (mkF m 4 #[rv a1, .val (.long q2), .second, .val (.long q3), .second] [])) _
    refine XS.aloadN X2.here hx rfl (hb hby d1_4) rfl rfl ?_
    show Steps p.tables e below (T2.setTop (mkF m 5 #[rv a1, .val (.long q2), .second, .val (.long q3), .second] [(.ref a1)])) _
    refine XS.lloadN X2.here hx rfl (hb hby d1_5) rfl  ?_
    exact k)
  obtain ⟨T5, h5, X5, e5, W5, st5⟩ := putF X2 hx hZ hown (host := "") (Or.inl (hw _ (List.mem_of_getElem? (i := 9) rfl))) Via.refl e2 F_nanos_a1 E_a1 (Or.inr ⟨(hw _ (List.mem_of_getElem? (i := 10) rfl)), rfl, hnm⟩) (hw _ (List.mem_of_getElem? (i := 1) rfl)) (ty := .long) (by decide) rfl rfl (g := (mkF m 6 #[rv a1, .val (.long q2), .second, .val (.long q3), .second] [(.long q2), (.ref a1)])) rfl rfl (hb hby d1_6)
  have fw5 : Fld Z h5 a1 sN0 "nanos" "J" (.long q2) := F_nanos_a1.same W5
  have f5_E_a1 : Exa Z h5 a1 sN0 := E_a1.wr W5
  have f5_F_wallMillis_a1 : Fld Z h5 a1 sN0 "wallMillis" "J" u2 := F_wallMillis_a1.other W5 (Or.inr (slot_ne (Or.inr (hw _ (List.mem_of_getElem? (i := 12) rfl))) (Or.inr (hw _ (List.mem_of_getElem? (i := 10) rfl))) (by decide) (t := .long) (t' := .long) (by decide) (by decide)))
  have z5 : n0 ≤ h5.size := by rw [W5.size]; exact Z0
  have K5 : Keep h0 h5 [a1] := (Keep.refl h0 [a1]).wr W5 (Or.inl (List.mem_of_getElem? (i := 0) rfl))
  have N5 := Fr.snoc X5 N0 g_a1
  have R6 : ∀ t, Steps p.tables e below (T5.setTop (mkF m 9 #[rv a1, .val (.long q2), .second, .val (.long q3), .second] [])) t → Steps p.tables e below (s₁.setTop f0) t := fun t k => R4 t (st5 t k)
  have R7 : ∀ t, Steps p.tables e below (T5.setTop (mkF m 11 #[rv a1, .val (.long q2), .second, .val (.long q3), .second] [(.long q3), (.ref a1)])) t → Steps p.tables e below (s₁.setTop f0) t := fun t k => R6 t (by
    show Steps p.tables e below (T5.setTop (mkF m 9 #[rv a1, .val (.long q2), .second, .val (.long q3), .second] [])) _
    refine XS.aloadN X5.here hx rfl (hb hby d1_9) rfl rfl ?_
    show Steps p.tables e below (T5.setTop (mkF m 10 #[rv a1, .val (.long q2), .second, .val (.long q3), .second] [(.ref a1)])) _
    refine XS.lloadN X5.here hx rfl (hb hby d1_10) rfl  ?_
    exact k)
  obtain ⟨T8, h8, X8, e8, W8, st8⟩ := putF X5 hx hZ hown (host := "") (Or.inl (hw _ (List.mem_of_getElem? (i := 11) rfl))) Via.refl e5 f5_F_wallMillis_a1 f5_E_a1 (Or.inr ⟨(hw _ (List.mem_of_getElem? (i := 12) rfl)), rfl, hnm⟩) (hw _ (List.mem_of_getElem? (i := 1) rfl)) (ty := .long) (by decide) rfl rfl (g := (mkF m 11 #[rv a1, .val (.long q2), .second, .val (.long q3), .second] [(.long q3), (.ref a1)])) rfl rfl (hb hby d1_11)
  have fw8 : Fld Z h8 a1 sN0 "wallMillis" "J" (.long q3) := f5_F_wallMillis_a1.same W8
  have f8_E_a1 : Exa Z h8 a1 sN0 := f5_E_a1.wr W8
  have f8_F_nanos_a1 : Fld Z h8 a1 sN0 "nanos" "J" (.long q2) := fw5.other W8 (Or.inr (slot_ne (Or.inr (hw _ (List.mem_of_getElem? (i := 10) rfl))) (Or.inr (hw _ (List.mem_of_getElem? (i := 12) rfl))) (by decide) (t := .long) (t' := .long) (by decide) (by decide)))
  have z8 : n0 ≤ h8.size := by rw [W8.size]; exact z5
  have K8 : Keep h0 h8 [a1] := K5.wr W8 (Or.inl (List.mem_of_getElem? (i := 0) rfl))
  have N8 := Fr.snoc X8 N5 g_a1
  have R9 : ∀ t, Steps p.tables e below (T8.setTop (mkF m 14 #[rv a1, .val (.long q2), .second, .val (.long q3), .second] [])) t → Steps p.tables e below (s₁.setTop f0) t := fun t k => R7 t (st8 t k)
  obtain ⟨fs, hr, hrun, hended, hW, hsame⟩ := X8.leave (v := none) (fun _ => rfl)
  refine ⟨_, _, pre0 _ (R9 _ ?_), hrun, hended, _, _, rfl, ?_, ⟨_, rfl⟩, hW, hsame.mono (by decide) (by decide)⟩
  · show Steps p.tables e below (T8.setTop (mkF m 14 #[rv a1, .val (.long q2), .second, .val (.long q3), .second] [])) _
    exact X8.returnOut hx Bd.returns (hb hby d1_14) hr
  · show Q_rmInit Z a1 q2 q3 u1 u2 h0 n0 _ T8.heap _
    rw [e8]
    exact ⟨rfl, N8, K8, f8_E_a1, f8_F_nanos_a1, fw8⟩
theorem ef_rmAfter (m : MethodId) (x0 : Addr) (x1 : Addr) : entryFrame m #[(.ref x0), (.ref x1)] 2 = mkF m 0 #[rv x0, rv x1] [] := by first | (simp [entryFrame, mkF, argsToLocals, Value.category]; done) | rfl
def Q_rmAfter (Z : State) (a1 : Addr) (a2 : Addr) (q1 : Int64) (q2 : Int64) (h0 : Heap) (n0 : Nat) (v : Option Value) (h : Heap) (L : List Loc) : Prop := v = some (.int (own_b (0 < q1 - q2))) ∧ Fr n0 L ∧ h = h0
set_option maxRecDepth 65536 in
set_option maxHeartbeats 40000000 in
theorem rmAfter (l : Launch) (Z : State) (a0 : Array Value) (hw : ∀ d ∈ tables_1, d.before a0 Z = true) (ws : List Jvm.Cond) (a1 : Addr) (a2 : Addr) (q1 : Int64) (q2 : Int64) (h0 : Heap) (n0 : Nat) (Z0 : n0 ≤ h0.size) (F_nanos_a1 : Fld Z h0 a1 sN0 "nanos" "J" (.long q1)) (F_nanos_a2 : Fld Z h0 a2 sN0 "nanos" "J" (.long q2)) :
    MetFree l (⟨sN0, "isAfter", "(Lcom/example/dvarapala/dvarapala/session/Moment;)Z"⟩ : MethodName) (head1 (Jvm.Cond.code (⟨sN0, "isAfter", "(Lcom/example/dvarapala/dvarapala/session/Moment;)Z"⟩ : MethodName) prog_17_method_4_code 2 (some .boolean) :: ws) ({ frames := 0, cells := 0, slots := 0, locals := 0 } : Room)) (fun a U => a = #[(.ref a1), (.ref a2)] ∧ Z.Warmed39 U.vm ∧ U.heap = h0) (fun _ _ _ _ _ => True) (fun _ U o U' => ∃ v L, o = .returned v ∧ Q_rmAfter Z a1 a2 q1 q2 h0 n0 v U'.heap L ∧ FrameEnd U o U' L ({ frames := 0, cells := 0, slots := 0, locals := 0 } : Room).cells ({ frames := 0, cells := 0, slots := 0, locals := 0 } : Room).slots) := by
  refine MetFree.of_bodySF (plainFor_of_name pn_0) hisR ?_
  intro p e s m args below meth c s₁ Bd hml0 hP hK
  obtain ⟨rfl, hZ, hh⟩ := hP
  have hx := Bd.exec
  have hby := Bd.bytes
  have hml : c.maxLocals = 2 := hml0
  have hown : s.vm.findClass sN0 = some m.cls := findClass_of_methodNamed Bd.named
  have hnm := (name_of_methodNamed Bd.named Bd.method).1
  have X0 : Stand p l e ({ frames := 0, cells := 0, slots := 0, locals := 0 } : Room) s m #[(.ref a1), (.ref a2)] below meth c s₁ [] 0 0 := Stand.of_body Bd
  have e0 : s₁.heap = h0 := by rw [← hh, Bd.state]; rfl
  have N0 := Fr.nil n0
  obtain ⟨f0, hf0⟩ : ∃ f : JFrame, f = mkF m 0 #[rv a1, rv a2] [] := ⟨_, rfl⟩
  have pre0 : ∀ t, Steps p.tables e below (s₁.setTop f0) t → Steps p.tables e below (s₁.setTop (entryFrame m #[(.ref a1), (.ref a2)] 2)) t := fun t k => castTop ((ef_rmAfter m a1 a2).trans hf0.symm) k
  have R0 : ∀ t, Steps p.tables e below (s₁.setTop (mkF m 0 #[rv a1, rv a2] [])) t → Steps p.tables e below (s₁.setTop f0) t := by rw [hf0]; exact fun t k => k
  have R1 : ∀ t, Steps p.tables e below (s₁.setTop (mkF m 1 #[rv a1, rv a2] [(.ref a1)])) t → Steps p.tables e below (s₁.setTop f0) t := fun t k => R0 t (by
    show Steps p.tables e below (s₁.setTop (mkF m 0 #[rv a1, rv a2] [])) _
    refine XS.aloadN X0.here hx rfl (hb hby d3_0) rfl rfl ?_
    exact k)
  obtain ⟨T2, X2, e2, st2⟩ := getF X0 hx hZ hown (host := "") (Or.inl (hw _ (List.mem_of_getElem? (i := 9) rfl))) Via.refl e0 F_nanos_a1 (g := (mkF m 1 #[rv a1, rv a2] [(.ref a1)])) rfl rfl (hb hby d3_1)
  have R3 : ∀ t, Steps p.tables e below (T2.setTop (mkF m 4 #[rv a1, rv a2] [(.long q1)])) t → Steps p.tables e below (s₁.setTop f0) t := fun t k => R1 t (st2 t k)
  have R4 : ∀ t, Steps p.tables e below (T2.setTop (mkF m 5 #[rv a1, rv a2] [(.ref a2), (.long q1)])) t → Steps p.tables e below (s₁.setTop f0) t := fun t k => R3 t (by
    show Steps p.tables e below (T2.setTop (mkF m 4 #[rv a1, rv a2] [(.long q1)])) _
    refine XS.aloadN X2.here hx rfl (hb hby d3_4) rfl rfl ?_
    exact k)
  obtain ⟨T5, X5, e5, st5⟩ := getF X2 hx hZ hown (host := "") (Or.inl (hw _ (List.mem_of_getElem? (i := 9) rfl))) Via.refl e2 F_nanos_a2 (g := (mkF m 5 #[rv a1, rv a2] [(.ref a2), (.long q1)])) rfl rfl (hb hby d3_5)
  have R6 : ∀ t, Steps p.tables e below (T5.setTop (mkF m 8 #[rv a1, rv a2] [(.long q2), (.long q1)])) t → Steps p.tables e below (s₁.setTop f0) t := fun t k => R4 t (st5 t k)
  have R7 : ∀ t, Steps p.tables e below (T5.setTop (mkF m 11 #[rv a1, rv a2] [(.int (lcmpW (q1 - q2) (0 : Int64)))])) t → Steps p.tables e below (s₁.setTop f0) t := fun t k => R6 t (by
    show Steps p.tables e below (T5.setTop (mkF m 8 #[rv a1, rv a2] [(.long q2), (.long q1)])) _
    refine XS.lsub X5.here hx rfl (hb hby d3_8) rfl ?_
    show Steps p.tables e below (T5.setTop (mkF m 9 #[rv a1, rv a2] [(.long (q1 - q2))])) _
    refine XS.lconst X5.here hx rfl (hb hby d3_9) ?_
    show Steps p.tables e below (T5.setTop (mkF m 10 #[rv a1, rv a2] [(.long (0 : Int64)), (.long (q1 - q2))])) _
    refine XS.lcmp X5.here hx rfl (hb hby d3_10) rfl ?_
    exact k)
  by_cases h1 : (0 : Int32) < (lcmpW (q1 - q2) (0 : Int64))
  · skip
    have R8 : ∀ t, Steps p.tables e below (T5.setTop (mkF m 19 #[rv a1, rv a2] [(.int (1 : Int32))])) t → Steps p.tables e below (s₁.setTop f0) t := fun t k => R7 t (by
      show Steps p.tables e below (T5.setTop (mkF m 11 #[rv a1, rv a2] [(.int (lcmpW (q1 - q2) (0 : Int64)))])) _
      refine XS.ifNo X5.here hx rfl (hb hby d3_11) rfl ((if0 _ _).trans (tlt h1).2.2.2) ?_
      show Steps p.tables e below (T5.setTop (mkF m 14 #[rv a1, rv a2] [])) _
      refine XS.iconst X5.here hx rfl (hb hby d3_14) ?_
      show Steps p.tables e below (T5.setTop (mkF m 15 #[rv a1, rv a2] [(.int (1 : Int32))])) _
      refine XS.goto X5.here hx rfl (pc0 := 15) (pc' := 19) rfl (hb hby d3_15) (by decide) (by decide) ?_
      exact k)
    obtain ⟨fs, hr, hrun, hended, hW, hsame⟩ := X5.leave (v := some (.int (1 : Int32))) (fun h => by rw [Bd.returns] at h; cases h)
    refine ⟨_, _, pre0 _ (R8 _ ?_), hrun, hended, _, _, rfl, ?_, ⟨_, rfl⟩, hW, hsame.mono (by decide) (by decide)⟩
    · show Steps p.tables e below (T5.setTop (mkF m 19 #[rv a1, rv a2] [(.int (1 : Int32))])) _
      exact retN X5 hx (t := .boolean) Bd.returns (by simp) (hb hby d3_19) hr
    · show Q_rmAfter Z a1 a2 q1 q2 h0 n0 _ T5.heap _
      rw [e5]
      exact ⟨own_bv1 ((lw_gt _ _).mp h1), N0, rfl⟩
  · skip
    have R9 : ∀ t, Steps p.tables e below (T5.setTop (mkF m 19 #[rv a1, rv a2] [(.int (0 : Int32))])) t → Steps p.tables e below (s₁.setTop f0) t := fun t k => R7 t (by
      show Steps p.tables e below (T5.setTop (mkF m 11 #[rv a1, rv a2] [(.int (lcmpW (q1 - q2) (0 : Int64)))])) _
      refine XS.ifYes X5.here hx rfl (pc0 := 11) (pc' := 18) rfl (hb hby d3_11) rfl ((if0 _ _).trans (flt h1).2.2.2) (by decide) (by decide) ?_
      show Steps p.tables e below (T5.setTop (mkF m 18 #[rv a1, rv a2] [])) _
      refine XS.iconst X5.here hx rfl (hb hby d3_18) ?_
      exact k)
    obtain ⟨fs, hr, hrun, hended, hW, hsame⟩ := X5.leave (v := some (.int (0 : Int32))) (fun h => by rw [Bd.returns] at h; cases h)
    refine ⟨_, _, pre0 _ (R9 _ ?_), hrun, hended, _, _, rfl, ?_, ⟨_, rfl⟩, hW, hsame.mono (by decide) (by decide)⟩
    · show Steps p.tables e below (T5.setTop (mkF m 19 #[rv a1, rv a2] [(.int (0 : Int32))])) _
      exact retN X5 hx (t := .boolean) Bd.returns (by simp) (hb hby d3_19) hr
    · show Q_rmAfter Z a1 a2 q1 q2 h0 n0 _ T5.heap _
      rw [e5]
      exact ⟨own_bv0 (fun q => h1 ((lw_gt _ _).mpr q)), N0, rfl⟩
theorem ef_rmLaw (m : MethodId) (x0 : Int64) (x1 : Int64) (x2 : Int64) (x3 : Int64) : entryFrame m #[(.long x0), (.long x1), (.long x2), (.long x3)] maxLocals = mkF m 0 #[.val (.long x0), .second, .val (.long x1), .second, .val (.long x2), .second, .val (.long x3), .second, .unset, .unset, .unset, .unset, .unset, .unset, .unset] [] := by first | (simp [entryFrame, mkF, argsToLocals, Value.category, maxLocals]; done) | rfl
def Q_rmLaw (Z : State) (q0 : Int64) (q1 : Int64) (q2 : Int64) (q3 : Int64) (h0 : Heap) (n0 : Nat) (v : Option Value) (h : Heap) (L : List Loc) : Prop := v = some (.int (1 : Int32)) ∧ Fr n0 L
set_option maxRecDepth 65536 in
set_option maxHeartbeats 40000000 in
theorem rmLaw (l : Launch) (Z : State) (a0 : Array Value) (hw : ∀ d ∈ tables_1, d.before a0 Z = true) (ws : List Jvm.Cond) (q0 : Int64) (q1 : Int64) (q2 : Int64) (q3 : Int64) (h0 : Heap) (n0 : Nat) (Z0 : n0 ≤ h0.size) :
    MetFree l x (head1 (Jvm.Cond.code x code maxLocals ret :: ws) room_1) (fun a U => a = #[(.long q0), (.long q1), (.long q2), (.long q3)] ∧ Z.Warmed39 U.vm ∧ U.heap = h0) (fun _ _ _ _ _ => True) (fun _ U o U' => ∃ v L, o = .returned v ∧ Q_rmLaw Z q0 q1 q2 q3 h0 n0 v U'.heap L ∧ FrameEnd U o U' L room_1.cells room_1.slots) := by
  refine MetFree.of_bodySF (plainFor_of_name pn_1) hisR ?_
  intro p e s m args below meth c s₁ Bd hml0 hP hK
  obtain ⟨rfl, hZ, hh⟩ := hP
  have hx := Bd.exec
  have hby := Bd.bytes
  have hml : c.maxLocals = 15 := hml0
  have hown : s.vm.findClass "com/example/dvarapala/dvarapala/session/MomentIsAfterPinLaw" = some m.cls := findClass_of_methodNamed Bd.named
  have hnm := (name_of_methodNamed Bd.named Bd.method).1
  have X0 : Stand p l e room_1 s m #[(.long q0), (.long q1), (.long q2), (.long q3)] below meth c s₁ [] 0 0 := Stand.of_body Bd
  have e0 : s₁.heap = h0 := by rw [← hh, Bd.state]; rfl
  have N0 := Fr.nil n0
  obtain ⟨f0, hf0⟩ : ∃ f : JFrame, f = mkF m 0 #[.val (.long q0), .second, .val (.long q1), .second, .val (.long q2), .second, .val (.long q3), .second, .unset, .unset, .unset, .unset, .unset, .unset, .unset] [] := ⟨_, rfl⟩
  have pre0 : ∀ t, Steps p.tables e below (s₁.setTop f0) t → Steps p.tables e below (s₁.setTop (entryFrame m #[(.long q0), (.long q1), (.long q2), (.long q3)] maxLocals)) t := fun t k => castTop ((ef_rmLaw m q0 q1 q2 q3).trans hf0.symm) k
  have R0 : ∀ t, Steps p.tables e below (s₁.setTop (mkF m 0 #[.val (.long q0), .second, .val (.long q1), .second, .val (.long q2), .second, .val (.long q3), .second, .unset, .unset, .unset, .unset, .unset, .unset, .unset] [])) t → Steps p.tables e below (s₁.setTop f0) t := by rw [hf0]; exact fun t k => k
  obtain ⟨T1, h1, X1, e1, E1, A1, D1, -, st1⟩ := newO X0 hx hZ hown (hw _ (List.mem_of_getElem? (i := 0) rfl)) (hw _ (List.mem_of_getElem? (i := 1) rfl)) (hw _ (List.mem_of_getElem? (i := 2) rfl)) e0 (g := (mkF m 0 #[.val (.long q0), .second, .val (.long q1), .second, .val (.long q2), .second, .val (.long q3), .second, .unset, .unset, .unset, .unset, .unset, .unset, .unset] [])) rfl (hb hby at_0) (by decide) (by decide)
  obtain ⟨b1, g1⟩ : ∃ z, z = h0.size := ⟨_, rfl⟩
  rw [← g1] at A1 D1 st1
  have g_b1 : n0 ≤ b1 := Nat.le_trans Z0 (Nat.le_of_eq g1.symm)
  have sz_b1 : h0.size ≤ b1 := Nat.le_trans (Keep.refl h0 []).1 (Nat.le_of_eq g1.symm)
  have z1 : n0 ≤ h1.size := Nat.le_trans Z0 E1.1
  have K1 : Keep h0 h1 [] := (Keep.refl h0 []).ext E1
  have d1_nanos : Fld Z h1 b1 sN0 "nanos" "J" (.long (0 : Int64)) := D1 (Or.inr (hw _ (List.mem_of_getElem? (i := 10) rfl))) (ty := .long) (by decide)
  have d1_wallMillis : Fld Z h1 b1 sN0 "wallMillis" "J" (.long (0 : Int64)) := D1 (Or.inr (hw _ (List.mem_of_getElem? (i := 12) rfl))) (ty := .long) (by decide)
  have R2 : ∀ t, Steps p.tables e below (T1.setTop (mkF m 3 #[.val (.long q0), .second, .val (.long q1), .second, .val (.long q2), .second, .val (.long q3), .second, .unset, .unset, .unset, .unset, .unset, .unset, .unset] [(.ref b1)])) t → Steps p.tables e below (s₁.setTop f0) t := fun t k => R0 t (st1 t k)
  have R3 : ∀ t, Steps p.tables e below (T1.setTop (mkF m 7 #[.val (.long q0), .second, .val (.long q1), .second, .val (.long q2), .second, .val (.long q3), .second, .unset, .unset, .unset, .unset, .unset, .unset, .unset] [(.long q2), (.long q0), (.ref b1), (.ref b1)])) t → Steps p.tables e below (s₁.setTop f0) t := fun t k => R2 t (by
    show Steps p.tables e below (T1.setTop (mkF m 3 #[.val (.long q0), .second, .val (.long q1), .second, .val (.long q2), .second, .val (.long q3), .second, .unset, .unset, .unset, .unset, .unset, .unset, .unset] [(.ref b1)])) _
    refine XS.dup X1.here hx rfl (hb hby at_3) rfl rfl ?_
    show Steps p.tables e below (T1.setTop (mkF m 4 #[.val (.long q0), .second, .val (.long q1), .second, .val (.long q2), .second, .val (.long q3), .second, .unset, .unset, .unset, .unset, .unset, .unset, .unset] [(.ref b1), (.ref b1)])) _
    refine XS.lloadN X1.here hx rfl (hb hby at_4) rfl  ?_
    show Steps p.tables e below (T1.setTop (mkF m 5 #[.val (.long q0), .second, .val (.long q1), .second, .val (.long q2), .second, .val (.long q3), .second, .unset, .unset, .unset, .unset, .unset, .unset, .unset] [(.long q0), (.ref b1), (.ref b1)])) _
    refine XS.lload X1.here hx rfl (hb hby at_5) rfl  ?_
    exact k)
  obtain ⟨_, _, ⟨T4, L4, k4, n4⟩, -, X4, ⟨Lc4, hQ4, l4, y4, z4⟩, st4⟩ := X1.specialBack hx (y := (⟨sN0, "<init>", "(JJ)V"⟩ : MethodName)) rfl hown (mvT hZ (hw _ (List.mem_of_getElem? (i := 3) rfl))) (mvT hZ (hw _ (List.mem_of_getElem? (i := 4) rfl))) (mvT hZ (hw _ (List.mem_of_getElem? (i := 5) rfl))) (by decide) (backOf (W := 1) (rmInit l Z a0 hw [] b1 q0 q2 (.long (0 : Int64)) (.long (0 : Int64)) h1 n0 z1 A1 d1_nanos d1_wallMillis g_b1) hZ (hw _ (List.mem_of_getElem? (i := 5) rfl)) (hw _ (List.mem_of_getElem? (i := 2) rfl)) (by decide) (by decide)) (g := (mkF m 7 #[.val (.long q0), .second, .val (.long q1), .second, .val (.long q2), .second, .val (.long q3), .second, .unset, .unset, .unset, .unset, .unset, .unset, .unset] [(.long q2), (.long q0), (.ref b1), (.ref b1)])) rfl (by rw [hml]; rfl) (Steps.refl _) (a := b1) (argsL := [(.long q0), (.long q2)]) (rest := [(.ref b1)]) (lenOf pd_2 rfl) rfl (by show 2 * 0 + _ ≤ _; exact Nat.le_of_eq rfl) (hb hby at_7) (fun _ _ => ⟨rfl, e1, (by decide : 1 + 0 ≤ _), (by decide : 2 + 0 ≤ _)⟩)
  dsimp only [Pt.U, Pt.locs, Pt.cells, Pt.slots] at X4 l4 y4 z4 st4 hQ4
  subst l4 y4 z4
  obtain ⟨rfl, N4q, p4_0, p4_1, p4_2, p4_3⟩ := hQ4
  have N4 := Fr.app N0 N4q
  have f4_E_b1 : Exa Z T4.heap b1 sN0 := A1.keep p4_0
  have z4 : n0 ≤ T4.heap.size := Nat.le_trans z1 p4_0.1
  have K4 : Keep h0 T4.heap [] := K1.trans p4_0 (allS (Or.inr sz_b1) all0)
  have R5 : ∀ t, Steps p.tables e below (T4.setTop (mkF m 10 #[.val (.long q0), .second, .val (.long q1), .second, .val (.long q2), .second, .val (.long q3), .second, .unset, .unset, .unset, .unset, .unset, .unset, .unset] [(.ref b1)])) t → Steps p.tables e below (s₁.setTop f0) t := fun t k => R3 t (st4.trans k)
  have R6 : ∀ t, Steps p.tables e below (T4.setTop (mkF m 12 #[.val (.long q0), .second, .val (.long q1), .second, .val (.long q2), .second, .val (.long q3), .second, rv b1, .unset, .unset, .unset, .unset, .unset, .unset] [])) t → Steps p.tables e below (s₁.setTop f0) t := fun t k => R5 t (by
    show Steps p.tables e below (T4.setTop (mkF m 10 #[.val (.long q0), .second, .val (.long q1), .second, .val (.long q2), .second, .val (.long q3), .second, .unset, .unset, .unset, .unset, .unset, .unset, .unset] [(.ref b1)])) _
    refine XS.astore X4.here hx rfl (hb hby at_10) rfl rfl (l' := #[.val (.long q0), .second, .val (.long q1), .second, .val (.long q2), .second, .val (.long q3), .second, rv b1, .unset, .unset, .unset, .unset, .unset, .unset]) rfl ?_
    exact k)
  obtain ⟨T7, h7, X7, e7, E7, A7, D7, -, st7⟩ := newO X4 hx hZ hown (hw _ (List.mem_of_getElem? (i := 0) rfl)) (hw _ (List.mem_of_getElem? (i := 1) rfl)) (hw _ (List.mem_of_getElem? (i := 2) rfl)) rfl (g := (mkF m 12 #[.val (.long q0), .second, .val (.long q1), .second, .val (.long q2), .second, .val (.long q3), .second, rv b1, .unset, .unset, .unset, .unset, .unset, .unset] [])) rfl (hb hby at_12) (by decide) (by decide)
  obtain ⟨b7, g7⟩ : ∃ z, z = T4.heap.size := ⟨_, rfl⟩
  rw [← g7] at A7 D7 st7
  have g_b7 : n0 ≤ b7 := Nat.le_trans z4 (Nat.le_of_eq g7.symm)
  have sz_b7 : h0.size ≤ b7 := Nat.le_trans K4.1 (Nat.le_of_eq g7.symm)
  have ne_b1_b7 : b1 ≠ b7 := Nat.ne_of_lt (Nat.lt_of_lt_of_le p4_1.lt (Nat.le_of_eq g7.symm))
  have f7_E_b1 : Exa Z h7 b1 sN0 := p4_1.ext E7
  have f7_F_nanos_b1 : Fld Z h7 b1 sN0 "nanos" "J" (.long q0) := p4_2.ext E7
  have f7_F_wallMillis_b1 : Fld Z h7 b1 sN0 "wallMillis" "J" (.long q2) := p4_3.ext E7
  have z7 : n0 ≤ h7.size := Nat.le_trans z4 E7.1
  have K7 : Keep h0 h7 [] := K4.ext E7
  have d7_nanos : Fld Z h7 b7 sN0 "nanos" "J" (.long (0 : Int64)) := D7 (Or.inr (hw _ (List.mem_of_getElem? (i := 10) rfl))) (ty := .long) (by decide)
  have d7_wallMillis : Fld Z h7 b7 sN0 "wallMillis" "J" (.long (0 : Int64)) := D7 (Or.inr (hw _ (List.mem_of_getElem? (i := 12) rfl))) (ty := .long) (by decide)
  have R8 : ∀ t, Steps p.tables e below (T7.setTop (mkF m 15 #[.val (.long q0), .second, .val (.long q1), .second, .val (.long q2), .second, .val (.long q3), .second, rv b1, .unset, .unset, .unset, .unset, .unset, .unset] [(.ref b7)])) t → Steps p.tables e below (s₁.setTop f0) t := fun t k => R6 t (st7 t k)
  have R9 : ∀ t, Steps p.tables e below (T7.setTop (mkF m 21 #[.val (.long q0), .second, .val (.long q1), .second, .val (.long q2), .second, .val (.long q3), .second, rv b1, .unset, .unset, .unset, .unset, .unset, .unset] [(.long q3), (.long (q0 + q1)), (.ref b7), (.ref b7)])) t → Steps p.tables e below (s₁.setTop f0) t := fun t k => R8 t (by
    show Steps p.tables e below (T7.setTop (mkF m 15 #[.val (.long q0), .second, .val (.long q1), .second, .val (.long q2), .second, .val (.long q3), .second, rv b1, .unset, .unset, .unset, .unset, .unset, .unset] [(.ref b7)])) _
    refine XS.dup X7.here hx rfl (hb hby at_15) rfl rfl ?_
    show Steps p.tables e below (T7.setTop (mkF m 16 #[.val (.long q0), .second, .val (.long q1), .second, .val (.long q2), .second, .val (.long q3), .second, rv b1, .unset, .unset, .unset, .unset, .unset, .unset] [(.ref b7), (.ref b7)])) _
    refine XS.lloadN X7.here hx rfl (hb hby at_16) rfl  ?_
    show Steps p.tables e below (T7.setTop (mkF m 17 #[.val (.long q0), .second, .val (.long q1), .second, .val (.long q2), .second, .val (.long q3), .second, rv b1, .unset, .unset, .unset, .unset, .unset, .unset] [(.long q0), (.ref b7), (.ref b7)])) _
    refine XS.lloadN X7.here hx rfl (hb hby at_17) rfl  ?_
    show Steps p.tables e below (T7.setTop (mkF m 18 #[.val (.long q0), .second, .val (.long q1), .second, .val (.long q2), .second, .val (.long q3), .second, rv b1, .unset, .unset, .unset, .unset, .unset, .unset] [(.long q1), (.long q0), (.ref b7), (.ref b7)])) _
    refine XS.ladd X7.here hx rfl (hb hby at_18) rfl ?_
    show Steps p.tables e below (T7.setTop (mkF m 19 #[.val (.long q0), .second, .val (.long q1), .second, .val (.long q2), .second, .val (.long q3), .second, rv b1, .unset, .unset, .unset, .unset, .unset, .unset] [(.long (q0 + q1)), (.ref b7), (.ref b7)])) _
    refine XS.lload X7.here hx rfl (hb hby at_19) rfl  ?_
    exact k)
  obtain ⟨_, _, ⟨T10, L10, k10, n10⟩, -, X10, ⟨Lc10, hQ10, l10, y10, z10⟩, st10⟩ := X7.specialBack hx (y := (⟨sN0, "<init>", "(JJ)V"⟩ : MethodName)) rfl hown (mvT hZ (hw _ (List.mem_of_getElem? (i := 3) rfl))) (mvT hZ (hw _ (List.mem_of_getElem? (i := 4) rfl))) (mvT hZ (hw _ (List.mem_of_getElem? (i := 5) rfl))) (by decide) (backOf (W := 1) (rmInit l Z a0 hw [] b7 (q0 + q1) q3 (.long (0 : Int64)) (.long (0 : Int64)) h7 n0 z7 A7 d7_nanos d7_wallMillis g_b7) hZ (hw _ (List.mem_of_getElem? (i := 5) rfl)) (hw _ (List.mem_of_getElem? (i := 2) rfl)) (by decide) (by decide)) (g := (mkF m 21 #[.val (.long q0), .second, .val (.long q1), .second, .val (.long q2), .second, .val (.long q3), .second, rv b1, .unset, .unset, .unset, .unset, .unset, .unset] [(.long q3), (.long (q0 + q1)), (.ref b7), (.ref b7)])) rfl (by rw [hml]; rfl) (Steps.refl _) (a := b7) (argsL := [(.long (q0 + q1)), (.long q3)]) (rest := [(.ref b7)]) (lenOf pd_2 rfl) rfl (by show 2 * 0 + _ ≤ _; exact Nat.le_of_eq rfl) (hb hby at_21) (fun _ _ => ⟨rfl, e7, (by decide : 2 + 0 ≤ _), (by decide : 4 + 0 ≤ _)⟩)
  dsimp only [Pt.U, Pt.locs, Pt.cells, Pt.slots] at X10 l10 y10 z10 st10 hQ10
  subst l10 y10 z10
  obtain ⟨rfl, N10q, p10_0, p10_1, p10_2, p10_3⟩ := hQ10
  have N10 := Fr.app N4 N10q
  have f10_E_b1 : Exa Z T10.heap b1 sN0 := f7_E_b1.keep p10_0
  have f10_F_nanos_b1 : Fld Z T10.heap b1 sN0 "nanos" "J" (.long q0) := f7_F_nanos_b1.keep p10_0 (ninS ne_b1_b7 nin0)
  have f10_F_wallMillis_b1 : Fld Z T10.heap b1 sN0 "wallMillis" "J" (.long q2) := f7_F_wallMillis_b1.keep p10_0 (ninS ne_b1_b7 nin0)
  have f10_E_b7 : Exa Z T10.heap b7 sN0 := A7.keep p10_0
  have z10 : n0 ≤ T10.heap.size := Nat.le_trans z7 p10_0.1
  have K10 : Keep h0 T10.heap [] := K7.trans p10_0 (allS (Or.inr sz_b7) all0)
  have R11 : ∀ t, Steps p.tables e below (T10.setTop (mkF m 24 #[.val (.long q0), .second, .val (.long q1), .second, .val (.long q2), .second, .val (.long q3), .second, rv b1, .unset, .unset, .unset, .unset, .unset, .unset] [(.ref b7)])) t → Steps p.tables e below (s₁.setTop f0) t := fun t k => R9 t (st10.trans k)
  have R12 : ∀ t, Steps p.tables e below (T10.setTop (mkF m 30 #[.val (.long q0), .second, .val (.long q1), .second, .val (.long q2), .second, .val (.long q3), .second, rv b1, rv b7, .unset, .unset, .unset, .unset, .unset] [(.ref b1), (.ref b7)])) t → Steps p.tables e below (s₁.setTop f0) t := fun t k => R11 t (by
    show Steps p.tables e below (T10.setTop (mkF m 24 #[.val (.long q0), .second, .val (.long q1), .second, .val (.long q2), .second, .val (.long q3), .second, rv b1, .unset, .unset, .unset, .unset, .unset, .unset] [(.ref b7)])) _
    refine XS.astore X10.here hx rfl (hb hby at_24) rfl rfl (l' := #[.val (.long q0), .second, .val (.long q1), .second, .val (.long q2), .second, .val (.long q3), .second, rv b1, rv b7, .unset, .unset, .unset, .unset, .unset]) rfl ?_
    show Steps p.tables e below (T10.setTop (mkF m 26 #[.val (.long q0), .second, .val (.long q1), .second, .val (.long q2), .second, .val (.long q3), .second, rv b1, rv b7, .unset, .unset, .unset, .unset, .unset] [])) _
    refine XS.aload X10.here hx rfl (hb hby at_26) rfl rfl ?_
    show Steps p.tables e below (T10.setTop (mkF m 28 #[.val (.long q0), .second, .val (.long q1), .second, .val (.long q2), .second, .val (.long q3), .second, rv b1, rv b7, .unset, .unset, .unset, .unset, .unset] [(.ref b7)])) _
    refine XS.aload X10.here hx rfl (hb hby at_28) rfl rfl ?_
    exact k)
  obtain ⟨cq13, kq13, q13a, q13b, q13c⟩ := isOf hZ rfl p10_1
  obtain ⟨_, _, ⟨T13, L13, k13, n13⟩, -, X13, ⟨Lc13, hQ13, l13, y13, z13⟩, st13⟩ := X10.virtualBack hx (y := (⟨sN0, "isAfter", "(Lcom/example/dvarapala/dvarapala/session/Moment;)Z"⟩ : MethodName)) (z := (⟨sN0, "isAfter", "(Lcom/example/dvarapala/dvarapala/session/Moment;)Z"⟩ : MethodName)) hown (mvT hZ (hw _ (List.mem_of_getElem? (i := 13) rfl))) (mvT hZ (hw _ (List.mem_of_getElem? (i := 14) rfl))) (notFace_of_selects (args := #[]) (mvT hZ (hw _ (List.mem_of_getElem? (i := 16) rfl)))) (mvT hZ (hw _ (List.mem_of_getElem? (i := 16) rfl))) (mvT hZ (hw _ (List.mem_of_getElem? (i := 15) rfl))) (by decide) (backOf (W := 0) (rmAfter l Z a0 hw [] b7 b1 (q0 + q1) q0 T10.heap n0 z10 p10_2 f10_F_nanos_b1) hZ (hw _ (List.mem_of_getElem? (i := 17) rfl)) (hw _ (List.mem_of_getElem? (i := 2) rfl)) (by decide) (by decide)) q13a q13c (g := (mkF m 30 #[.val (.long q0), .second, .val (.long q1), .second, .val (.long q2), .second, .val (.long q3), .second, rv b1, rv b7, .unset, .unset, .unset, .unset, .unset] [(.ref b1), (.ref b7)])) rfl (by rw [hml]; rfl) (Steps.refl _) (argsL := [(.ref b1)]) (rest := []) (lenOf pd_3 rfl) rfl (by show 2 * 0 + _ ≤ _; exact Nat.le_of_eq rfl) (hb hby at_30) (fun _ _ => ⟨rfl, rfl, (by decide : 2 + 0 ≤ _), (by decide : 4 + 0 ≤ _)⟩)
  dsimp only [Pt.U, Pt.locs, Pt.cells, Pt.slots] at X13 l13 y13 z13 st13 hQ13
  subst l13 y13 z13
  obtain ⟨rfl, N13q, p13_0⟩ := hQ13
  have N13 := Fr.app N10 N13q
  have R14 : ∀ t, Steps p.tables e below (T13.setTop (mkF m 33 #[.val (.long q0), .second, .val (.long q1), .second, .val (.long q2), .second, .val (.long q3), .second, rv b1, rv b7, .unset, .unset, .unset, .unset, .unset] [(.int (own_b (0 < (q0 + q1) - q0)))])) t → Steps p.tables e below (s₁.setTop f0) t := fun t k => R12 t (st13.trans k)
  have R15 : ∀ t, Steps p.tables e below (T13.setTop (mkF m 39 #[.val (.long q0), .second, .val (.long q1), .second, .val (.long q2), .second, .val (.long q3), .second, rv b1, rv b7, iv (own_b (0 < (q0 + q1) - q0)), .unset, .unset, .unset, .unset] [(.ref b7), (.ref b1)])) t → Steps p.tables e below (s₁.setTop f0) t := fun t k => R14 t (by
    show Steps p.tables e below (T13.setTop (mkF m 33 #[.val (.long q0), .second, .val (.long q1), .second, .val (.long q2), .second, .val (.long q3), .second, rv b1, rv b7, .unset, .unset, .unset, .unset, .unset] [(.int (own_b (0 < (q0 + q1) - q0)))])) _
    refine XS.istore X13.here hx rfl (hb hby at_33) rfl (l' := #[.val (.long q0), .second, .val (.long q1), .second, .val (.long q2), .second, .val (.long q3), .second, rv b1, rv b7, iv (own_b (0 < (q0 + q1) - q0)), .unset, .unset, .unset, .unset]) rfl ?_
    show Steps p.tables e below (T13.setTop (mkF m 35 #[.val (.long q0), .second, .val (.long q1), .second, .val (.long q2), .second, .val (.long q3), .second, rv b1, rv b7, iv (own_b (0 < (q0 + q1) - q0)), .unset, .unset, .unset, .unset] [])) _
    refine XS.aload X13.here hx rfl (hb hby at_35) rfl rfl ?_
    show Steps p.tables e below (T13.setTop (mkF m 37 #[.val (.long q0), .second, .val (.long q1), .second, .val (.long q2), .second, .val (.long q3), .second, rv b1, rv b7, iv (own_b (0 < (q0 + q1) - q0)), .unset, .unset, .unset, .unset] [(.ref b1)])) _
    refine XS.aload X13.here hx rfl (hb hby at_37) rfl rfl ?_
    exact k)
  obtain ⟨cq16, kq16, q16a, q16b, q16c⟩ := isOf hZ p13_0 f10_E_b1
  obtain ⟨_, _, ⟨T16, L16, k16, n16⟩, -, X16, ⟨Lc16, hQ16, l16, y16, z16⟩, st16⟩ := X13.virtualBack hx (y := (⟨sN0, "isAfter", "(Lcom/example/dvarapala/dvarapala/session/Moment;)Z"⟩ : MethodName)) (z := (⟨sN0, "isAfter", "(Lcom/example/dvarapala/dvarapala/session/Moment;)Z"⟩ : MethodName)) hown (mvT hZ (hw _ (List.mem_of_getElem? (i := 13) rfl))) (mvT hZ (hw _ (List.mem_of_getElem? (i := 14) rfl))) (notFace_of_selects (args := #[]) (mvT hZ (hw _ (List.mem_of_getElem? (i := 16) rfl)))) (mvT hZ (hw _ (List.mem_of_getElem? (i := 16) rfl))) (mvT hZ (hw _ (List.mem_of_getElem? (i := 15) rfl))) (by decide) (backOf (W := 0) (rmAfter l Z a0 hw [] b1 b7 q0 (q0 + q1) T10.heap n0 z10 f10_F_nanos_b1 p10_2) hZ (hw _ (List.mem_of_getElem? (i := 17) rfl)) (hw _ (List.mem_of_getElem? (i := 2) rfl)) (by decide) (by decide)) q16a q16c (g := (mkF m 39 #[.val (.long q0), .second, .val (.long q1), .second, .val (.long q2), .second, .val (.long q3), .second, rv b1, rv b7, iv (own_b (0 < (q0 + q1) - q0)), .unset, .unset, .unset, .unset] [(.ref b7), (.ref b1)])) rfl (by rw [hml]; rfl) (Steps.refl _) (argsL := [(.ref b7)]) (rest := []) (lenOf pd_3 rfl) rfl (by show 2 * 0 + _ ≤ _; exact Nat.le_of_eq rfl) (hb hby at_39) (fun _ _ => ⟨rfl, p13_0, (by decide : 2 + 0 ≤ _), (by decide : 4 + 0 ≤ _)⟩)
  dsimp only [Pt.U, Pt.locs, Pt.cells, Pt.slots] at X16 l16 y16 z16 st16 hQ16
  subst l16 y16 z16
  obtain ⟨rfl, N16q, p16_0⟩ := hQ16
  have N16 := Fr.app N13 N16q
  have R17 : ∀ t, Steps p.tables e below (T16.setTop (mkF m 42 #[.val (.long q0), .second, .val (.long q1), .second, .val (.long q2), .second, .val (.long q3), .second, rv b1, rv b7, iv (own_b (0 < (q0 + q1) - q0)), .unset, .unset, .unset, .unset] [(.int (own_b (0 < q0 - (q0 + q1))))])) t → Steps p.tables e below (s₁.setTop f0) t := fun t k => R15 t (st16.trans k)
  have R18 : ∀ t, Steps p.tables e below (T16.setTop (mkF m 48 #[.val (.long q0), .second, .val (.long q1), .second, .val (.long q2), .second, .val (.long q3), .second, rv b1, rv b7, iv (own_b (0 < (q0 + q1) - q0)), iv (own_b (0 < q0 - (q0 + q1))), .unset, .unset, .unset] [(.ref b7), (.ref b7)])) t → Steps p.tables e below (s₁.setTop f0) t := fun t k => R17 t (by
    show Steps p.tables e below (T16.setTop (mkF m 42 #[.val (.long q0), .second, .val (.long q1), .second, .val (.long q2), .second, .val (.long q3), .second, rv b1, rv b7, iv (own_b (0 < (q0 + q1) - q0)), .unset, .unset, .unset, .unset] [(.int (own_b (0 < q0 - (q0 + q1))))])) _
    refine XS.istore X16.here hx rfl (hb hby at_42) rfl (l' := #[.val (.long q0), .second, .val (.long q1), .second, .val (.long q2), .second, .val (.long q3), .second, rv b1, rv b7, iv (own_b (0 < (q0 + q1) - q0)), iv (own_b (0 < q0 - (q0 + q1))), .unset, .unset, .unset]) rfl ?_
    show Steps p.tables e below (T16.setTop (mkF m 44 #[.val (.long q0), .second, .val (.long q1), .second, .val (.long q2), .second, .val (.long q3), .second, rv b1, rv b7, iv (own_b (0 < (q0 + q1) - q0)), iv (own_b (0 < q0 - (q0 + q1))), .unset, .unset, .unset] [])) _
    refine XS.aload X16.here hx rfl (hb hby at_44) rfl rfl ?_
    show Steps p.tables e below (T16.setTop (mkF m 46 #[.val (.long q0), .second, .val (.long q1), .second, .val (.long q2), .second, .val (.long q3), .second, rv b1, rv b7, iv (own_b (0 < (q0 + q1) - q0)), iv (own_b (0 < q0 - (q0 + q1))), .unset, .unset, .unset] [(.ref b7)])) _
    refine XS.aload X16.here hx rfl (hb hby at_46) rfl rfl ?_
    exact k)
  obtain ⟨cq19, kq19, q19a, q19b, q19c⟩ := isOf hZ p16_0 p10_1
  obtain ⟨_, _, ⟨T19, L19, k19, n19⟩, -, X19, ⟨Lc19, hQ19, l19, y19, z19⟩, st19⟩ := X16.virtualBack hx (y := (⟨sN0, "isAfter", "(Lcom/example/dvarapala/dvarapala/session/Moment;)Z"⟩ : MethodName)) (z := (⟨sN0, "isAfter", "(Lcom/example/dvarapala/dvarapala/session/Moment;)Z"⟩ : MethodName)) hown (mvT hZ (hw _ (List.mem_of_getElem? (i := 13) rfl))) (mvT hZ (hw _ (List.mem_of_getElem? (i := 14) rfl))) (notFace_of_selects (args := #[]) (mvT hZ (hw _ (List.mem_of_getElem? (i := 16) rfl)))) (mvT hZ (hw _ (List.mem_of_getElem? (i := 16) rfl))) (mvT hZ (hw _ (List.mem_of_getElem? (i := 15) rfl))) (by decide) (backOf (W := 0) (rmAfter l Z a0 hw [] b7 b7 (q0 + q1) (q0 + q1) T10.heap n0 z10 p10_2 p10_2) hZ (hw _ (List.mem_of_getElem? (i := 17) rfl)) (hw _ (List.mem_of_getElem? (i := 2) rfl)) (by decide) (by decide)) q19a q19c (g := (mkF m 48 #[.val (.long q0), .second, .val (.long q1), .second, .val (.long q2), .second, .val (.long q3), .second, rv b1, rv b7, iv (own_b (0 < (q0 + q1) - q0)), iv (own_b (0 < q0 - (q0 + q1))), .unset, .unset, .unset] [(.ref b7), (.ref b7)])) rfl (by rw [hml]; rfl) (Steps.refl _) (argsL := [(.ref b7)]) (rest := []) (lenOf pd_3 rfl) rfl (by show 2 * 0 + _ ≤ _; exact Nat.le_of_eq rfl) (hb hby at_48) (fun _ _ => ⟨rfl, p16_0, (by decide : 2 + 0 ≤ _), (by decide : 4 + 0 ≤ _)⟩)
  dsimp only [Pt.U, Pt.locs, Pt.cells, Pt.slots] at X19 l19 y19 z19 st19 hQ19
  subst l19 y19 z19
  obtain ⟨rfl, N19q, p19_0⟩ := hQ19
  have N19 := Fr.app N16 N19q
  have R20 : ∀ t, Steps p.tables e below (T19.setTop (mkF m 51 #[.val (.long q0), .second, .val (.long q1), .second, .val (.long q2), .second, .val (.long q3), .second, rv b1, rv b7, iv (own_b (0 < (q0 + q1) - q0)), iv (own_b (0 < q0 - (q0 + q1))), .unset, .unset, .unset] [(.int (own_b (0 < (q0 + q1) - (q0 + q1))))])) t → Steps p.tables e below (s₁.setTop f0) t := fun t k => R18 t (st19.trans k)
  have R21 : ∀ t, Steps p.tables e below (T19.setTop (mkF m 53 #[.val (.long q0), .second, .val (.long q1), .second, .val (.long q2), .second, .val (.long q3), .second, rv b1, rv b7, iv (own_b (0 < (q0 + q1) - q0)), iv (own_b (0 < q0 - (q0 + q1))), iv (own_b (0 < (q0 + q1) - (q0 + q1))), .unset, .unset] [])) t → Steps p.tables e below (s₁.setTop f0) t := fun t k => R20 t (by
    show Steps p.tables e below (T19.setTop (mkF m 51 #[.val (.long q0), .second, .val (.long q1), .second, .val (.long q2), .second, .val (.long q3), .second, rv b1, rv b7, iv (own_b (0 < (q0 + q1) - q0)), iv (own_b (0 < q0 - (q0 + q1))), .unset, .unset, .unset] [(.int (own_b (0 < (q0 + q1) - (q0 + q1))))])) _
    refine XS.istore X19.here hx rfl (hb hby at_51) rfl (l' := #[.val (.long q0), .second, .val (.long q1), .second, .val (.long q2), .second, .val (.long q3), .second, rv b1, rv b7, iv (own_b (0 < (q0 + q1) - q0)), iv (own_b (0 < q0 - (q0 + q1))), iv (own_b (0 < (q0 + q1) - (q0 + q1))), .unset, .unset]) rfl ?_
    exact k)
  have R22 : ∀ t, Steps p.tables e below (T19.setTop (mkF m 64 #[.val (.long q0), .second, .val (.long q1), .second, .val (.long q2), .second, .val (.long q3), .second, rv b1, rv b7, iv (own_b (0 < (q0 + q1) - q0)), iv (own_b (0 < q0 - (q0 + q1))), iv (own_b (0 < (q0 + q1) - (q0 + q1))), .unset, .unset] [(.int (own_b (0 < q1)))])) t → Steps p.tables e below (s₁.setTop f0) t := by
    intro t k
    refine R21 t ?_
    show Steps p.tables e below (T19.setTop (mkF m 53 #[.val (.long q0), .second, .val (.long q1), .second, .val (.long q2), .second, .val (.long q3), .second, rv b1, rv b7, iv (own_b (0 < (q0 + q1) - q0)), iv (own_b (0 < q0 - (q0 + q1))), iv (own_b (0 < (q0 + q1) - (q0 + q1))), .unset, .unset] [])) _
    refine XS.lloadN X19.here hx rfl (hb hby at_53) rfl  ?_
    show Steps p.tables e below (T19.setTop (mkF m 54 #[.val (.long q0), .second, .val (.long q1), .second, .val (.long q2), .second, .val (.long q3), .second, rv b1, rv b7, iv (own_b (0 < (q0 + q1) - q0)), iv (own_b (0 < q0 - (q0 + q1))), iv (own_b (0 < (q0 + q1) - (q0 + q1))), .unset, .unset] [(.long q1)])) _
    refine XS.lconst X19.here hx rfl (hb hby at_54) ?_
    show Steps p.tables e below (T19.setTop (mkF m 55 #[.val (.long q0), .second, .val (.long q1), .second, .val (.long q2), .second, .val (.long q3), .second, rv b1, rv b7, iv (own_b (0 < (q0 + q1) - q0)), iv (own_b (0 < q0 - (q0 + q1))), iv (own_b (0 < (q0 + q1) - (q0 + q1))), .unset, .unset] [(.long (0 : Int64)), (.long q1)])) _
    refine XS.lcmp X19.here hx rfl (hb hby at_55) rfl ?_
    by_cases hm1 : (0 : Int32) < (lcmpW q1 (0 : Int64))
    · skip
      show Steps p.tables e below (T19.setTop (mkF m 56 #[.val (.long q0), .second, .val (.long q1), .second, .val (.long q2), .second, .val (.long q3), .second, rv b1, rv b7, iv (own_b (0 < (q0 + q1) - q0)), iv (own_b (0 < q0 - (q0 + q1))), iv (own_b (0 < (q0 + q1) - (q0 + q1))), .unset, .unset] [(.int (lcmpW q1 (0 : Int64)))])) _
      refine XS.ifNo X19.here hx rfl (hb hby at_56) rfl ((if0 _ _).trans (tlt hm1).2.2.2) ?_
      show Steps p.tables e below (T19.setTop (mkF m 59 #[.val (.long q0), .second, .val (.long q1), .second, .val (.long q2), .second, .val (.long q3), .second, rv b1, rv b7, iv (own_b (0 < (q0 + q1) - q0)), iv (own_b (0 < q0 - (q0 + q1))), iv (own_b (0 < (q0 + q1) - (q0 + q1))), .unset, .unset] [])) _
      refine XS.iconst X19.here hx rfl (hb hby at_59) ?_
      show Steps p.tables e below (T19.setTop (mkF m 60 #[.val (.long q0), .second, .val (.long q1), .second, .val (.long q2), .second, .val (.long q3), .second, rv b1, rv b7, iv (own_b (0 < (q0 + q1) - q0)), iv (own_b (0 < q0 - (q0 + q1))), iv (own_b (0 < (q0 + q1) - (q0 + q1))), .unset, .unset] [(.int (1 : Int32))])) _
      refine XS.goto X19.here hx rfl (pc0 := 60) (pc' := 64) rfl (hb hby at_60) (by decide) (by decide) ?_
      have hv : (own_b (0 < q1)) = (1 : Int32) := by (try simp only [lw_gt, lw_lt, lw_eq] at hm1); simp [own_b, hm1]
      rw [hv] at k
      exact k
    · skip
      show Steps p.tables e below (T19.setTop (mkF m 56 #[.val (.long q0), .second, .val (.long q1), .second, .val (.long q2), .second, .val (.long q3), .second, rv b1, rv b7, iv (own_b (0 < (q0 + q1) - q0)), iv (own_b (0 < q0 - (q0 + q1))), iv (own_b (0 < (q0 + q1) - (q0 + q1))), .unset, .unset] [(.int (lcmpW q1 (0 : Int64)))])) _
      refine XS.ifYes X19.here hx rfl (pc0 := 56) (pc' := 63) rfl (hb hby at_56) rfl ((if0 _ _).trans (flt hm1).2.2.2) (by decide) (by decide) ?_
      show Steps p.tables e below (T19.setTop (mkF m 63 #[.val (.long q0), .second, .val (.long q1), .second, .val (.long q2), .second, .val (.long q3), .second, rv b1, rv b7, iv (own_b (0 < (q0 + q1) - q0)), iv (own_b (0 < q0 - (q0 + q1))), iv (own_b (0 < (q0 + q1) - (q0 + q1))), .unset, .unset] [])) _
      refine XS.iconst X19.here hx rfl (hb hby at_63) ?_
      have hv : (own_b (0 < q1)) = (0 : Int32) := by (try simp only [lw_gt, lw_lt, lw_eq] at hm1); simp [own_b, hm1]
      rw [hv] at k
      exact k
  have R23 : ∀ t, Steps p.tables e below (T19.setTop (mkF m 66 #[.val (.long q0), .second, .val (.long q1), .second, .val (.long q2), .second, .val (.long q3), .second, rv b1, rv b7, iv (own_b (0 < (q0 + q1) - q0)), iv (own_b (0 < q0 - (q0 + q1))), iv (own_b (0 < (q0 + q1) - (q0 + q1))), iv (own_b (0 < q1)), .unset] [])) t → Steps p.tables e below (s₁.setTop f0) t := fun t k => R22 t (by
    show Steps p.tables e below (T19.setTop (mkF m 64 #[.val (.long q0), .second, .val (.long q1), .second, .val (.long q2), .second, .val (.long q3), .second, rv b1, rv b7, iv (own_b (0 < (q0 + q1) - q0)), iv (own_b (0 < q0 - (q0 + q1))), iv (own_b (0 < (q0 + q1) - (q0 + q1))), .unset, .unset] [(.int (own_b (0 < q1)))])) _
    refine XS.istore X19.here hx rfl (hb hby at_64) rfl (l' := #[.val (.long q0), .second, .val (.long q1), .second, .val (.long q2), .second, .val (.long q3), .second, rv b1, rv b7, iv (own_b (0 < (q0 + q1) - q0)), iv (own_b (0 < q0 - (q0 + q1))), iv (own_b (0 < (q0 + q1) - (q0 + q1))), iv (own_b (0 < q1)), .unset]) rfl ?_
    exact k)
  have R24 : ∀ t, Steps p.tables e below (T19.setTop (mkF m 85 #[.val (.long q0), .second, .val (.long q1), .second, .val (.long q2), .second, .val (.long q3), .second, rv b1, rv b7, iv (own_b (0 < (q0 + q1) - q0)), iv (own_b (0 < q0 - (q0 + q1))), iv (own_b (0 < (q0 + q1) - (q0 + q1))), iv (own_b (0 < q1)), .unset] [(.int (own_b (q1 < 0 ∧ ¬ q1 = (-9223372036854775808 : Int64))))])) t → Steps p.tables e below (s₁.setTop f0) t := by
    intro t k
    refine R23 t ?_
    show Steps p.tables e below (T19.setTop (mkF m 66 #[.val (.long q0), .second, .val (.long q1), .second, .val (.long q2), .second, .val (.long q3), .second, rv b1, rv b7, iv (own_b (0 < (q0 + q1) - q0)), iv (own_b (0 < q0 - (q0 + q1))), iv (own_b (0 < (q0 + q1) - (q0 + q1))), iv (own_b (0 < q1)), .unset] [])) _
    refine XS.lloadN X19.here hx rfl (hb hby at_66) rfl  ?_
    show Steps p.tables e below (T19.setTop (mkF m 67 #[.val (.long q0), .second, .val (.long q1), .second, .val (.long q2), .second, .val (.long q3), .second, rv b1, rv b7, iv (own_b (0 < (q0 + q1) - q0)), iv (own_b (0 < q0 - (q0 + q1))), iv (own_b (0 < (q0 + q1) - (q0 + q1))), iv (own_b (0 < q1)), .unset] [(.long q1)])) _
    refine XS.lconst X19.here hx rfl (hb hby at_67) ?_
    show Steps p.tables e below (T19.setTop (mkF m 68 #[.val (.long q0), .second, .val (.long q1), .second, .val (.long q2), .second, .val (.long q3), .second, rv b1, rv b7, iv (own_b (0 < (q0 + q1) - q0)), iv (own_b (0 < q0 - (q0 + q1))), iv (own_b (0 < (q0 + q1) - (q0 + q1))), iv (own_b (0 < q1)), .unset] [(.long (0 : Int64)), (.long q1)])) _
    refine XS.lcmp X19.here hx rfl (hb hby at_68) rfl ?_
    by_cases hm1 : (lcmpW q1 (0 : Int64)) < (0 : Int32)
    · skip
      show Steps p.tables e below (T19.setTop (mkF m 69 #[.val (.long q0), .second, .val (.long q1), .second, .val (.long q2), .second, .val (.long q3), .second, rv b1, rv b7, iv (own_b (0 < (q0 + q1) - q0)), iv (own_b (0 < q0 - (q0 + q1))), iv (own_b (0 < (q0 + q1) - (q0 + q1))), iv (own_b (0 < q1)), .unset] [(.int (lcmpW q1 (0 : Int64)))])) _
      refine XS.ifNo X19.here hx rfl (hb hby at_69) rfl ((if0 _ _).trans (tlt hm1).2.1) ?_
      show Steps p.tables e below (T19.setTop (mkF m 72 #[.val (.long q0), .second, .val (.long q1), .second, .val (.long q2), .second, .val (.long q3), .second, rv b1, rv b7, iv (own_b (0 < (q0 + q1) - q0)), iv (own_b (0 < q0 - (q0 + q1))), iv (own_b (0 < (q0 + q1) - (q0 + q1))), iv (own_b (0 < q1)), .unset] [])) _
      refine XS.lloadN X19.here hx rfl (hb hby at_72) rfl  ?_
      show Steps p.tables e below (T19.setTop (mkF m 73 #[.val (.long q0), .second, .val (.long q1), .second, .val (.long q2), .second, .val (.long q3), .second, rv b1, rv b7, iv (own_b (0 < (q0 + q1) - q0)), iv (own_b (0 < q0 - (q0 + q1))), iv (own_b (0 < (q0 + q1) - (q0 + q1))), iv (own_b (0 < q1)), .unset] [(.long q1)])) _
      refine X19.ldc2Long hx hown (mvT hZ (hw _ (List.mem_of_getElem? (i := 18) rfl))) (g := (mkF m 73 #[.val (.long q0), .second, .val (.long q1), .second, .val (.long q2), .second, .val (.long q3), .second, rv b1, rv b7, iv (own_b (0 < (q0 + q1) - q0)), iv (own_b (0 < q0 - (q0 + q1))), iv (own_b (0 < (q0 + q1) - (q0 + q1))), iv (own_b (0 < q1)), .unset] [(.long q1)])) rfl (hb hby at_73) _ ?_
      show Steps p.tables e below (T19.setTop (mkF m 76 #[.val (.long q0), .second, .val (.long q1), .second, .val (.long q2), .second, .val (.long q3), .second, rv b1, rv b7, iv (own_b (0 < (q0 + q1) - q0)), iv (own_b (0 < q0 - (q0 + q1))), iv (own_b (0 < (q0 + q1) - (q0 + q1))), iv (own_b (0 < q1)), .unset] [(.long (-9223372036854775808 : Int64)), (.long q1)])) _
      refine XS.lcmp X19.here hx rfl (hb hby at_76) rfl ?_
      by_cases hm2 : (lcmpW q1 (-9223372036854775808 : Int64)) = (0 : Int32)
      · skip
        show Steps p.tables e below (T19.setTop (mkF m 77 #[.val (.long q0), .second, .val (.long q1), .second, .val (.long q2), .second, .val (.long q3), .second, rv b1, rv b7, iv (own_b (0 < (q0 + q1) - q0)), iv (own_b (0 < q0 - (q0 + q1))), iv (own_b (0 < (q0 + q1) - (q0 + q1))), iv (own_b (0 < q1)), .unset] [(.int (lcmpW q1 (-9223372036854775808 : Int64)))])) _
        refine XS.ifYes X19.here hx rfl (pc0 := 77) (pc' := 84) rfl (hb hby at_77) rfl ((if0 _ _).trans (teq hm2).1) (by decide) (by decide) ?_
        show Steps p.tables e below (T19.setTop (mkF m 84 #[.val (.long q0), .second, .val (.long q1), .second, .val (.long q2), .second, .val (.long q3), .second, rv b1, rv b7, iv (own_b (0 < (q0 + q1) - q0)), iv (own_b (0 < q0 - (q0 + q1))), iv (own_b (0 < (q0 + q1) - (q0 + q1))), iv (own_b (0 < q1)), .unset] [])) _
        refine XS.iconst X19.here hx rfl (hb hby at_84) ?_
        have hv : (own_b (q1 < 0 ∧ ¬ q1 = (-9223372036854775808 : Int64))) = (0 : Int32) := by (try simp only [lw_gt, lw_lt, lw_eq] at hm1); (try simp only [lw_gt, lw_lt, lw_eq] at hm2); simp [own_b, hm1, hm2]
        rw [hv] at k
        exact k
      · skip
        show Steps p.tables e below (T19.setTop (mkF m 77 #[.val (.long q0), .second, .val (.long q1), .second, .val (.long q2), .second, .val (.long q3), .second, rv b1, rv b7, iv (own_b (0 < (q0 + q1) - q0)), iv (own_b (0 < q0 - (q0 + q1))), iv (own_b (0 < (q0 + q1) - (q0 + q1))), iv (own_b (0 < q1)), .unset] [(.int (lcmpW q1 (-9223372036854775808 : Int64)))])) _
        refine XS.ifNo X19.here hx rfl (hb hby at_77) rfl ((if0 _ _).trans (feq hm2).1) ?_
        show Steps p.tables e below (T19.setTop (mkF m 80 #[.val (.long q0), .second, .val (.long q1), .second, .val (.long q2), .second, .val (.long q3), .second, rv b1, rv b7, iv (own_b (0 < (q0 + q1) - q0)), iv (own_b (0 < q0 - (q0 + q1))), iv (own_b (0 < (q0 + q1) - (q0 + q1))), iv (own_b (0 < q1)), .unset] [])) _
        refine XS.iconst X19.here hx rfl (hb hby at_80) ?_
        show Steps p.tables e below (T19.setTop (mkF m 81 #[.val (.long q0), .second, .val (.long q1), .second, .val (.long q2), .second, .val (.long q3), .second, rv b1, rv b7, iv (own_b (0 < (q0 + q1) - q0)), iv (own_b (0 < q0 - (q0 + q1))), iv (own_b (0 < (q0 + q1) - (q0 + q1))), iv (own_b (0 < q1)), .unset] [(.int (1 : Int32))])) _
        refine XS.goto X19.here hx rfl (pc0 := 81) (pc' := 85) rfl (hb hby at_81) (by decide) (by decide) ?_
        have hv : (own_b (q1 < 0 ∧ ¬ q1 = (-9223372036854775808 : Int64))) = (1 : Int32) := by (try simp only [lw_gt, lw_lt, lw_eq] at hm1); (try simp only [lw_gt, lw_lt, lw_eq] at hm2); simp [own_b, hm1, hm2]
        rw [hv] at k
        exact k
    · skip
      show Steps p.tables e below (T19.setTop (mkF m 69 #[.val (.long q0), .second, .val (.long q1), .second, .val (.long q2), .second, .val (.long q3), .second, rv b1, rv b7, iv (own_b (0 < (q0 + q1) - q0)), iv (own_b (0 < q0 - (q0 + q1))), iv (own_b (0 < (q0 + q1) - (q0 + q1))), iv (own_b (0 < q1)), .unset] [(.int (lcmpW q1 (0 : Int64)))])) _
      refine XS.ifYes X19.here hx rfl (pc0 := 69) (pc' := 84) rfl (hb hby at_69) rfl ((if0 _ _).trans (flt hm1).2.1) (by decide) (by decide) ?_
      show Steps p.tables e below (T19.setTop (mkF m 84 #[.val (.long q0), .second, .val (.long q1), .second, .val (.long q2), .second, .val (.long q3), .second, rv b1, rv b7, iv (own_b (0 < (q0 + q1) - q0)), iv (own_b (0 < q0 - (q0 + q1))), iv (own_b (0 < (q0 + q1) - (q0 + q1))), iv (own_b (0 < q1)), .unset] [])) _
      refine XS.iconst X19.here hx rfl (hb hby at_84) ?_
      have hv : (own_b (q1 < 0 ∧ ¬ q1 = (-9223372036854775808 : Int64))) = (0 : Int32) := by (try simp only [lw_gt, lw_lt, lw_eq] at hm1); simp [own_b, hm1]
      rw [hv] at k
      exact k
  have R25 : ∀ t, Steps p.tables e below (T19.setTop (mkF m 111 #[.val (.long q0), .second, .val (.long q1), .second, .val (.long q2), .second, .val (.long q3), .second, rv b1, rv b7, iv (own_b (0 < (q0 + q1) - q0)), iv (own_b (0 < q0 - (q0 + q1))), iv (own_b (0 < (q0 + q1) - (q0 + q1))), iv (own_b (0 < q1)), iv (own_b (q1 < 0 ∧ ¬ q1 = (-9223372036854775808 : Int64)))] [(.int (1 : Int32))])) t → Steps p.tables e below (s₁.setTop f0) t := fun t k => R24 t (by
    show Steps p.tables e below (T19.setTop (mkF m 85 #[.val (.long q0), .second, .val (.long q1), .second, .val (.long q2), .second, .val (.long q3), .second, rv b1, rv b7, iv (own_b (0 < (q0 + q1) - q0)), iv (own_b (0 < q0 - (q0 + q1))), iv (own_b (0 < (q0 + q1) - (q0 + q1))), iv (own_b (0 < q1)), .unset] [(.int (own_b (q1 < 0 ∧ ¬ q1 = (-9223372036854775808 : Int64))))])) _
    refine XS.istore X19.here hx rfl (hb hby at_85) rfl (l' := #[.val (.long q0), .second, .val (.long q1), .second, .val (.long q2), .second, .val (.long q3), .second, rv b1, rv b7, iv (own_b (0 < (q0 + q1) - q0)), iv (own_b (0 < q0 - (q0 + q1))), iv (own_b (0 < (q0 + q1) - (q0 + q1))), iv (own_b (0 < q1)), iv (own_b (q1 < 0 ∧ ¬ q1 = (-9223372036854775808 : Int64)))]) rfl ?_
    show Steps p.tables e below (T19.setTop (mkF m 87 #[.val (.long q0), .second, .val (.long q1), .second, .val (.long q2), .second, .val (.long q3), .second, rv b1, rv b7, iv (own_b (0 < (q0 + q1) - q0)), iv (own_b (0 < q0 - (q0 + q1))), iv (own_b (0 < (q0 + q1) - (q0 + q1))), iv (own_b (0 < q1)), iv (own_b (q1 < 0 ∧ ¬ q1 = (-9223372036854775808 : Int64)))] [])) _
    refine XS.iload X19.here hx rfl (hb hby at_87) rfl  ?_
    show Steps p.tables e below (T19.setTop (mkF m 89 #[.val (.long q0), .second, .val (.long q1), .second, .val (.long q2), .second, .val (.long q3), .second, rv b1, rv b7, iv (own_b (0 < (q0 + q1) - q0)), iv (own_b (0 < q0 - (q0 + q1))), iv (own_b (0 < (q0 + q1) - (q0 + q1))), iv (own_b (0 < q1)), iv (own_b (q1 < 0 ∧ ¬ q1 = (-9223372036854775808 : Int64)))] [(.int (own_b (0 < (q0 + q1) - q0)))])) _
    refine XS.iload X19.here hx rfl (hb hby at_89) rfl  ?_
    show Steps p.tables e below (T19.setTop (mkF m 91 #[.val (.long q0), .second, .val (.long q1), .second, .val (.long q2), .second, .val (.long q3), .second, rv b1, rv b7, iv (own_b (0 < (q0 + q1) - q0)), iv (own_b (0 < q0 - (q0 + q1))), iv (own_b (0 < (q0 + q1) - (q0 + q1))), iv (own_b (0 < q1)), iv (own_b (q1 < 0 ∧ ¬ q1 = (-9223372036854775808 : Int64)))] [(.int (own_b (0 < q1))), (.int (own_b (0 < (q0 + q1) - q0)))])) _
    refine XS.icmpNo X19.here hx rfl (hb hby at_91) rfl (teq (own_m1 q0 q1)).2 ?_
    show Steps p.tables e below (T19.setTop (mkF m 94 #[.val (.long q0), .second, .val (.long q1), .second, .val (.long q2), .second, .val (.long q3), .second, rv b1, rv b7, iv (own_b (0 < (q0 + q1) - q0)), iv (own_b (0 < q0 - (q0 + q1))), iv (own_b (0 < (q0 + q1) - (q0 + q1))), iv (own_b (0 < q1)), iv (own_b (q1 < 0 ∧ ¬ q1 = (-9223372036854775808 : Int64)))] [])) _
    refine XS.iload X19.here hx rfl (hb hby at_94) rfl  ?_
    show Steps p.tables e below (T19.setTop (mkF m 96 #[.val (.long q0), .second, .val (.long q1), .second, .val (.long q2), .second, .val (.long q3), .second, rv b1, rv b7, iv (own_b (0 < (q0 + q1) - q0)), iv (own_b (0 < q0 - (q0 + q1))), iv (own_b (0 < (q0 + q1) - (q0 + q1))), iv (own_b (0 < q1)), iv (own_b (q1 < 0 ∧ ¬ q1 = (-9223372036854775808 : Int64)))] [(.int (own_b (0 < q0 - (q0 + q1))))])) _
    refine XS.iload X19.here hx rfl (hb hby at_96) rfl  ?_
    show Steps p.tables e below (T19.setTop (mkF m 98 #[.val (.long q0), .second, .val (.long q1), .second, .val (.long q2), .second, .val (.long q3), .second, rv b1, rv b7, iv (own_b (0 < (q0 + q1) - q0)), iv (own_b (0 < q0 - (q0 + q1))), iv (own_b (0 < (q0 + q1) - (q0 + q1))), iv (own_b (0 < q1)), iv (own_b (q1 < 0 ∧ ¬ q1 = (-9223372036854775808 : Int64)))] [(.int (own_b (q1 < 0 ∧ ¬ q1 = (-9223372036854775808 : Int64)))), (.int (own_b (0 < q0 - (q0 + q1))))])) _
    refine XS.icmpNo X19.here hx rfl (hb hby at_98) rfl (teq (own_m2 q0 q1)).2 ?_
    show Steps p.tables e below (T19.setTop (mkF m 101 #[.val (.long q0), .second, .val (.long q1), .second, .val (.long q2), .second, .val (.long q3), .second, rv b1, rv b7, iv (own_b (0 < (q0 + q1) - q0)), iv (own_b (0 < q0 - (q0 + q1))), iv (own_b (0 < (q0 + q1) - (q0 + q1))), iv (own_b (0 < q1)), iv (own_b (q1 < 0 ∧ ¬ q1 = (-9223372036854775808 : Int64)))] [])) _
    refine XS.iload X19.here hx rfl (hb hby at_101) rfl  ?_
    show Steps p.tables e below (T19.setTop (mkF m 103 #[.val (.long q0), .second, .val (.long q1), .second, .val (.long q2), .second, .val (.long q3), .second, rv b1, rv b7, iv (own_b (0 < (q0 + q1) - q0)), iv (own_b (0 < q0 - (q0 + q1))), iv (own_b (0 < (q0 + q1) - (q0 + q1))), iv (own_b (0 < q1)), iv (own_b (q1 < 0 ∧ ¬ q1 = (-9223372036854775808 : Int64)))] [(.int (own_b (0 < (q0 + q1) - (q0 + q1))))])) _
    refine XS.ifNo X19.here hx rfl (hb hby at_103) rfl ((if0 _ _).trans (teq (own_m3 q0 q1)).2) ?_
    show Steps p.tables e below (T19.setTop (mkF m 106 #[.val (.long q0), .second, .val (.long q1), .second, .val (.long q2), .second, .val (.long q3), .second, rv b1, rv b7, iv (own_b (0 < (q0 + q1) - q0)), iv (own_b (0 < q0 - (q0 + q1))), iv (own_b (0 < (q0 + q1) - (q0 + q1))), iv (own_b (0 < q1)), iv (own_b (q1 < 0 ∧ ¬ q1 = (-9223372036854775808 : Int64)))] [])) _
    refine XS.iconst X19.here hx rfl (hb hby at_106) ?_
    show Steps p.tables e below (T19.setTop (mkF m 107 #[.val (.long q0), .second, .val (.long q1), .second, .val (.long q2), .second, .val (.long q3), .second, rv b1, rv b7, iv (own_b (0 < (q0 + q1) - q0)), iv (own_b (0 < q0 - (q0 + q1))), iv (own_b (0 < (q0 + q1) - (q0 + q1))), iv (own_b (0 < q1)), iv (own_b (q1 < 0 ∧ ¬ q1 = (-9223372036854775808 : Int64)))] [(.int (1 : Int32))])) _
    refine XS.goto X19.here hx rfl (pc0 := 107) (pc' := 111) rfl (hb hby at_107) (by decide) (by decide) ?_
    exact k)
  obtain ⟨fs, hr, hrun, hended, hW, hsame⟩ := X19.leave (v := some (.int (1 : Int32))) (fun h => by rw [Bd.returns] at h; cases h)
  refine ⟨_, _, pre0 _ (R25 _ ?_), hrun, hended, _, _, rfl, ?_, ⟨_, rfl⟩, hW, hsame.mono (by decide) (by decide)⟩
  · show Steps p.tables e below (T19.setTop (mkF m 111 #[.val (.long q0), .second, .val (.long q1), .second, .val (.long q2), .second, .val (.long q3), .second, rv b1, rv b7, iv (own_b (0 < (q0 + q1) - q0)), iv (own_b (0 < q0 - (q0 + q1))), iv (own_b (0 < (q0 + q1) - (q0 + q1))), iv (own_b (0 < q1)), iv (own_b (q1 < 0 ∧ ¬ q1 = (-9223372036854775808 : Int64)))] [(.int (1 : Int32))])) _
    exact retN X19 hx (t := .boolean) Bd.returns (by simp) (hb hby at_111) hr
  · show Q_rmLaw Z q0 q1 q2 q3 h0 n0 _ T19.heap _
    rw [p19_0]
    exact ⟨rfl, N19⟩
set_option maxRecDepth 65536 in
set_option maxHeartbeats 40000000 in
theorem comes_1 {Post : Tables → Env → Array Value → State → Outcome → State → Prop} (hpost : ∀ tb e args s v u, (limb_1_1.after args s (.returned v) u = true ∧ limb_1_2.after args s (.returned v) u = true ∧ True) → FrameEnd s (.returned v) u (Jvm.fieldLocs frame_1_writes args s ++ Jvm.arrayLocs frame_1_arrays args s ++ Jvm.staticLocs frame_1_statics s) 16 128 → Post tb e args s (.returned v) u) :
    ArmFor flags0 classFile x code maxLocals ret World_1 tables_1 room_1 Calls_1 rest_1 Pre_1 Post := by
  intro l hfl _ _ p e ha hc hk s m args below hf hA hF happ hP
  obtain ⟨hcalls, hrest, hpre⟩ := hP
  obtain ⟨-, -, -, hnamed, -, -, -, hat⟩ := (Spec.applies_iff hf).mp happ
  obtain ⟨hg, hn⟩ := and_e (Cond.before_iff.mp (show (Jvm.Cond.and given_1 narrow_1).before args s = true from hpre))
  obtain ⟨gg1, gg2⟩ := and_e hg
  obtain ⟨gg3, gg4⟩ := and_e gg2
  obtain ⟨gg5, gg6⟩ := and_e gg4
  obtain ⟨gg7, gg8⟩ := and_e gg6
  obtain ⟨w0, w1, w2, w3, rfl⟩ : ∃ w0 w1 w2 w3 : Value, args = #[w0, w1, w2, w3] := by
    have hs : args.size = 4 := by simpa [Cond.value, given_1] using gg1
    obtain ⟨L⟩ := args
    match L, hs with
    | [w0, w1, w2, w3], _ => exact ⟨w0, w1, w2, w3, rfl⟩
  have hw := fun d (hd : d ∈ tables_1) => atoms_spec (ws := Jvm.Cond.code x code maxLocals ret :: tables_1) hat d (List.mem_cons_of_mem _ hd)
  have hfit : Fit s := fun {y c} hc i hi => by
    obtain ⟨ha, rfl⟩ := Array.getElem?_eq_some_iff.mp hc
    have q := List.all_eq_true.mp ((Array.all_eq_true_iff_forall_mem.mp hF) _ (Array.getElem_mem ha)) i (List.mem_range.mpr hi)
    simpa [Array.getElem?_eq_getElem hi] using q
  obtain ⟨i0, ei0⟩ := isL_v gg3
  obtain rfl : w0 = (.long i0) := Option.some.inj ei0
  obtain ⟨i1, ei1⟩ := isL_v gg5
  obtain rfl : w1 = (.long i1) := Option.some.inj ei1
  obtain ⟨i2, ei2⟩ := isL_v gg7
  obtain rfl : w2 = (.long i2) := Option.some.inj ei2
  obtain ⟨i3, ei3⟩ := isL_v gg8
  obtain rfl : w3 = (.long i3) := Option.some.inj ei3
  obtain ⟨n, o, h1, h2, h3, _, L, rfl, ⟨rfl, N⟩, hq⟩ := rmLaw l s _ hw tables_1 i0 i1 i2 i3 s.heap s.heap.size (Nat.le_refl _) p e ha hc hk s m _ below hf ((Spec.applies_iff_loose hf).mp happ).1 ⟨rfl, State.Warmed39.refl s, rfl⟩ trivial
  refine ⟨n, _, h1, h2, h3, hpost _ _ _ _ _ _ ⟨Cond.after_iff.mpr rfl, Cond.after_iff.mpr (eq_i res_at (Term.int_eval (1)) rfl), trivial⟩ ⟨hq.1, hq.2.1, (hq.2.2.sift fun y hy => Or.inr (N y hy)).mono (by decide) (by decide)⟩⟩
theorem main_1_1 : Claimed_1_1 := comes_1 fun _ _ _ _ _ _ h hF => ⟨h.1, hF⟩
theorem main_1_2 : Claimed_1_2 := comes_1 fun _ _ _ _ _ _ h hF => ⟨h.2.1, hF⟩
end Jvm.Pilot.@@N@@
namespace Jvm.Pilot.@@N@@
open Jvm Jvm.ClassFile Sem Op Lib Jvm.Free Jvm.Stand Jvm.Pilot.@@N@@.Jvm.D
/-! MADE BY PROGRAM (witnessworld.py) out of the Statement's table words and the real class files: 7 classes; the members and pool entries that the words name. The judged class is class 1, her method 1. -/
namespace start1
open Jvm.ClassFile
def u (s : String) : CpInfo := .utf8 (stringToUtf16 s)
/-- a pool by its gaps: so many unusable entries, then the entry; so many at the end -/
def gap : Nat → List CpInfo → List CpInfo
  | 0, r => r
  | n + 1, r => .unusable :: gap n r
def poolList (es : List (Nat × CpInfo)) (last : Nat) : List CpInfo := es.foldr (fun e r => gap e.1 (e.2 :: r)) (gap last [])
def pool (es : List (Nat × CpInfo)) (last : Nat) : Array CpInfo := ⟨poolList es last⟩
def fileOf (pool : Array CpInfo) (this : Nat) (attrs : Array Attribute := #[]) (ms : Array MethodInfo := #[]) (fl : Nat := 33) (sup : Nat := 0) (ifs : Array Nat := #[]) (fds : Array FieldInfo := #[]) : ClassFile where
  minorVersion := 0
  majorVersion := 65
  constantPool := pool
  accessFlags := fl
  thisClass := this
  superClass := sup
  interfaces := ifs
  fields := fds
  methods := ms
  attributes := attrs
def plain (name : String) (sup : Option ClassId) : Class where
  name := name
  kind := .ordinary
  loader := none
  accessFlags := 33
  super := sup
  interfaces := #[]
  cf := none
  fields := #[]
  methods := #[]
  instanceTypes := #[]
  staticTypes := #[]
  resolved := #[]
  callSites := []
  init := .initialized
  statics := none
  mirror := none

def pool0 : Array CpInfo := pool [(5, u "<init>"), (0, u "()V"), (1, .class_ 10), (1, u "java/lang/Object")] 113

def k0c0 : Code := { maxStack := 0, maxLocals := 1, code := object_method_1_code, exceptionTable := #[], attributes := #[] }
def k0m0 : Method := { name := "<init>", desc := "()V", sig := { parameters := [], returnType := none }, accessFlags := 1, code := some k0c0 }
/-- java/lang/Object -/
def k0 : Class := { plain "java/lang/Object" none with
  accessFlags := 33
  interfaces := #[]
  cf := some (fileOf pool0 8 #[] #[{ accessFlags := 1, nameIndex := 5, descriptorIndex := 6, attributes := #[] }] 33 0 #[] #[])
  fields := #[]
  methods := #[k0m0]
  instanceTypes := #[]
  staticTypes := #[]
  resolved := Array.replicate 124 none
  statics := none }

def pool1 : Array CpInfo := pool [(2, .class_ 4), (1, u "java/lang/Object"), (0, u "<init>"), (0, u "()V"), (0, .class_ 8), (0, u "com/example/dvarapala/dvarapala/session/Moment"), (0, .methodref 7 10), (0, .nameAndType 5 11), (0, u "(JJ)V"), (0, .methodref 7 13), (0, .nameAndType 14 15), (0, u "isAfter"), (0, u "(Lcom/example/dvarapala/dvarapala/session/Moment;)Z"), (2, .long 9223372036854775808), (1, .class_ 21), (0, u "com/example/dvarapala/dvarapala/session/MomentIsAfterPinLaw"), (2, u "law"), (0, u "(JJJJ)Z")] 3

def k1m0 : Method := { name := "<init>", desc := "()V", sig := { parameters := [], returnType := none }, accessFlags := 1, code := none }
def k1c1 : Code := { maxStack := 6, maxLocals := 15, code := code, exceptionTable := #[], attributes := #[] }
def k1m1 : Method := { name := "law", desc := "(JJJJ)Z", sig := { parameters := [.long, .long, .long, .long], returnType := some .boolean }, accessFlags := 9, code := some k1c1 }
/-- com/example/dvarapala/dvarapala/session/MomentIsAfterPinLaw -/
def k1 : Class := { plain "com/example/dvarapala/dvarapala/session/MomentIsAfterPinLaw" (some 0) with
  accessFlags := 49
  interfaces := #[]
  cf := some (fileOf pool1 20 #[] #[{ accessFlags := 1, nameIndex := 5, descriptorIndex := 6, attributes := #[] }, { accessFlags := 9, nameIndex := 24, descriptorIndex := 25, attributes := #[] }] 49 2 #[] #[])
  fields := #[]
  methods := #[k1m0, k1m1]
  instanceTypes := #[]
  staticTypes := #[]
  resolved := Array.replicate 29 none
  statics := none }

def pool2 : Array CpInfo := pool [(1, .methodref 2 3), (0, .class_ 4), (0, .nameAndType 5 6), (0, u "java/lang/Object"), (0, u "<init>"), (0, u "()V"), (0, .fieldref 8 9), (0, .class_ 10), (0, .nameAndType 11 12), (0, u "com/example/dvarapala/dvarapala/session/Moment"), (0, u "nanos"), (0, u "J"), (0, .fieldref 8 14), (0, .nameAndType 15 12), (0, u "wallMillis"), (11, u "(JJ)V"), (26, u "isAfter"), (0, u "(Lcom/example/dvarapala/dvarapala/session/Moment;)Z")] 20

def k2c0 : Code := { maxStack := 3, maxLocals := 5, code := prog_17_method_1_code, exceptionTable := #[], attributes := #[] }
def k2m0 : Method := { name := "<init>", desc := "(JJ)V", sig := { parameters := [.long, .long], returnType := none }, accessFlags := 0, code := some k2c0 }
def k2c1 : Code := { maxStack := 4, maxLocals := 2, code := prog_17_method_4_code, exceptionTable := #[], attributes := #[] }
def k2m1 : Method := { name := "isAfter", desc := "(Lcom/example/dvarapala/dvarapala/session/Moment;)Z", sig := { parameters := [(.object "com/example/dvarapala/dvarapala/session/Moment")], returnType := some .boolean }, accessFlags := 0, code := some k2c1 }
/-- com/example/dvarapala/dvarapala/session/Moment -/
def k2 : Class := { plain "com/example/dvarapala/dvarapala/session/Moment" (some 0) with
  accessFlags := 33
  interfaces := #[]
  cf := some (fileOf pool2 8 #[] #[{ accessFlags := 0, nameIndex := 5, descriptorIndex := 27, attributes := #[] }, { accessFlags := 0, nameIndex := 54, descriptorIndex := 55, attributes := #[] }] 33 2 #[] #[{ accessFlags := 18, nameIndex := 11, descriptorIndex := 12, attributes := #[] }, { accessFlags := 18, nameIndex := 15, descriptorIndex := 12, attributes := #[] }])
  fields := #[{ name := "nanos", type := .long, accessFlags := 18, slot := 0, constantValue := 0 }, { name := "wallMillis", type := .long, accessFlags := 18, slot := 1, constantValue := 0 }]
  methods := #[k2m0, k2m1]
  instanceTypes := #[.long, .long]
  staticTypes := #[]
  resolved := Array.replicate 76 none
  statics := none }

def pool3 : Array CpInfo := pool [(1, u "java/lang/Cloneable"), (0, .class_ 1), (0, u "java/lang/Object"), (0, .class_ 3)] 3

/-- java/lang/Cloneable -/
def k3 : Class := { plain "java/lang/Cloneable" (some 0) with
  accessFlags := 1537
  interfaces := #[]
  cf := some (fileOf pool3 2 #[] #[] 1537 4 #[] #[])
  fields := #[]
  methods := #[]
  instanceTypes := #[]
  staticTypes := #[]
  resolved := Array.replicate 8 none
  statics := none }

def pool4 : Array CpInfo := pool [(1, u "java/io/Serializable"), (0, .class_ 1), (0, u "java/lang/Object"), (0, .class_ 3)] 3

/-- java/io/Serializable -/
def k4 : Class := { plain "java/io/Serializable" (some 0) with
  accessFlags := 1537
  interfaces := #[]
  cf := some (fileOf pool4 2 #[] #[] 1537 4 #[] #[])
  fields := #[]
  methods := #[]
  instanceTypes := #[]
  staticTypes := #[]
  resolved := Array.replicate 8 none
  statics := none }

/-- the primitive byte -/
def k5 : Class := { plain "byte" none with kind := .primitive 'B', accessFlags := 0x411 }
/-- [B -/
def k6 : Class := { plain "[B" (some 0) with kind := .array 5 .byte, interfaces := #[3, 4], accessFlags := 1041 }

def heap : Heap := #[]
def classes : Array Class := #[k0, k1, k2, k3, k4, k5, k6]
def interned : List (Array UInt16 × Addr) := []
def slotsUsed : Nat := 0
def theMethod : MethodId := ⟨1, 1⟩
def args0 : Array Value := #[.long 5, .long 7, .long 1, .long 2]
def aboutOver (below : List Frame) : State where
  vm := { classes := classes, interned := interned.toArray }
  heap := heap
  slotsUsed := slotsUsed
  threads := #[{ frames := .invoking theMethod args0 :: below }]
def below0 : List Frame := [.native { method := ⟨0, 0⟩, args := #[] }]
def about1 : State := aboutOver below0
def p0 : Program := .bare "" "" ""
def e0 : Env := launch0.env 0 0 0
theorem w_frames : about1.frames = Frame.invoking theMethod args0 :: below0 := rfl
set_option maxRecDepth 65536 in
theorem w_args : argsFit about1.vm theMethod args0 = true := by decide +kernel
set_option maxRecDepth 65536 in
theorem w_heap : heapFits about1 = true := by decide +kernel
set_option maxRecDepth 65536 in
theorem w_runnable : about1.curStatus? = some .runnable := by decide +kernel
set_option maxRecDepth 65536 in
theorem w_alone : about1.alone = true := by decide +kernel
set_option maxRecDepth 65536 in
theorem w_named : about1.methodNamed? x = some theMethod := by decide +kernel
set_option maxRecDepth 65536 in
theorem w_hears : about1.hears theMethod below0 = true := by decide +kernel
set_option maxRecDepth 65536 in
theorem w_ripe : about1.ripe theMethod args0 below0 = true := by decide +kernel
theorem w_running : about1.status = .running := rfl
set_option maxRecDepth 65536 in
theorem w_room : about1.hasRoom e0.platform room_1 = true :=
  launch0.hasRoom_least _ room_1 (by decide +kernel) (by decide +kernel) (by decide +kernel) (by decide +kernel) (by decide +kernel) (by decide +kernel)
theorem allAtoms_all (ts : List Jvm.Cond) (a : Array Jvm.Value) (st : Jvm.State) : (allAtoms ts).before a st = ts.all (fun c => c.before a st) := by
  induction ts with
  | nil => rfl
  | cons c t ih =>
    show (Jvm.Cond.and c (allAtoms t)).before a st = _
    rw [Jvm.Cond.before_and, ih, List.all_cons]
def words1 : List Jvm.Cond := Jvm.Cond.code x code maxLocals ret :: tables_1
/-- a 'code' word, met by the world's own term for the bytes: nothing is compared byte by byte -/
theorem code_word {y : MethodName} {bytes : ByteArray} {mx : Nat} {rt : Option FieldType} {a : Array Value} {s : State} {m : MethodId} {meth : Method} {c : Code} (h1 : s.methodNamed? y = some m) (h2 : s.vm.method? m = some meth) (h3 : meth.code = some c) (h4 : c.code = bytes)
    (h5 : (c.maxLocals == mx && c.exceptionTable.isEmpty && decide (c.maxStack ≤ mostOperands) && decide (meth.sig.returnType = rt) && !meth.locks && decide (parseMethodDescriptor y.desc = some meth.sig)) = true) : (Jvm.Cond.code y bytes mx rt).before a s = true := by
  simp only [Bool.and_eq_true, beq_iff_eq, Bool.not_eq_true', decide_eq_true_eq] at h5
  obtain ⟨⟨⟨⟨⟨g1, g2⟩, g3⟩, g4⟩, g5⟩, g6⟩ := h5
  simp [Cond.before, Cond.holds, Cond.value, h1, h2, h3, h4, g1, g2, g3, g4, g5, g6]
def isCode : Jvm.Cond → Bool
  | .code _ _ _ _ => true
  | _ => false
theorem all_split {L : List Jvm.Cond} {P : Jvm.Cond → Bool} (h1 : L.all (fun c => isCode c || P c) = true) (h2 : ∀ c ∈ L.filter isCode, P c = true) : L.all P = true := by
  refine List.all_eq_true.mpr fun c hc => ?_
  have h := List.all_eq_true.mp h1 c hc
  rcases Bool.eq_false_or_eq_true (isCode c) with hi | hi
  · exact h2 c (List.mem_filter.mpr ⟨hc, hi⟩)
  · simpa [hi] using h
set_option maxRecDepth 65536 in
theorem w_c0 : (Jvm.Cond.code x code maxLocals ret).before args0 about1 = true := code_word (m := ⟨1, 1⟩) (meth := k1m1) (c := k1c1) (by decide +kernel) rfl rfl rfl (by decide +kernel)
set_option maxRecDepth 65536 in
theorem w_c1 : (Jvm.Cond.code ({ cls := "com/example/dvarapala/dvarapala/session/Moment", name := "<init>", desc := "(JJ)V" } : Jvm.MethodName) prog_17_method_1_code (5 : Nat) (Option.none : Option Jvm.ClassFile.FieldType)).before args0 about1 = true := code_word (m := ⟨2, 0⟩) (meth := k2m0) (c := k2c0) (by decide +kernel) rfl rfl rfl (by decide +kernel)
set_option maxRecDepth 65536 in
theorem w_c2 : (Jvm.Cond.code ({ cls := "java/lang/Object", name := "<init>", desc := "()V" } : Jvm.MethodName) object_method_1_code (1 : Nat) (Option.none : Option Jvm.ClassFile.FieldType)).before args0 about1 = true := code_word (m := ⟨0, 0⟩) (meth := k0m0) (c := k0c0) (by decide +kernel) rfl rfl rfl (by decide +kernel)
set_option maxRecDepth 65536 in
theorem w_c3 : (Jvm.Cond.code ({ cls := "com/example/dvarapala/dvarapala/session/Moment", name := "isAfter", desc := "(Lcom/example/dvarapala/dvarapala/session/Moment;)Z" } : Jvm.MethodName) prog_17_method_4_code (2 : Nat) (Option.some Jvm.ClassFile.FieldType.boolean)).before args0 about1 = true := code_word (m := ⟨2, 1⟩) (meth := k2m1) (c := k2c1) (by decide +kernel) rfl rfl rfl (by decide +kernel)
def codes1 : List Jvm.Cond := [Jvm.Cond.code x code maxLocals ret, Jvm.Cond.code ({ cls := "com/example/dvarapala/dvarapala/session/Moment", name := "<init>", desc := "(JJ)V" } : Jvm.MethodName) prog_17_method_1_code (5 : Nat) (Option.none : Option Jvm.ClassFile.FieldType), Jvm.Cond.code ({ cls := "java/lang/Object", name := "<init>", desc := "()V" } : Jvm.MethodName) object_method_1_code (1 : Nat) (Option.none : Option Jvm.ClassFile.FieldType), Jvm.Cond.code ({ cls := "com/example/dvarapala/dvarapala/session/Moment", name := "isAfter", desc := "(Lcom/example/dvarapala/dvarapala/session/Moment;)Z" } : Jvm.MethodName) prog_17_method_4_code (2 : Nat) (Option.some Jvm.ClassFile.FieldType.boolean)]
set_option maxRecDepth 65536 in
theorem codes_eq : words1.filter isCode = codes1 := rfl
theorem w_codes : ∀ c ∈ words1.filter isCode, c.before args0 about1 = true := by
  rw [codes_eq]
  intro c hc
  simp only [codes1, List.mem_cons, List.not_mem_nil, or_false] at hc
  rcases hc with rfl | rfl | rfl | rfl
  · exact w_c0
  · exact w_c1
  · exact w_c2
  · exact w_c3
set_option maxRecDepth 65536 in
theorem w_t1 : words1.all (fun c => isCode c || c.before args0 about1) = true := by decide +kernel
theorem w_tables : (allAtoms (Jvm.Cond.code x code maxLocals ret :: tables_1)).before args0 about1 = true := by
  rw [allAtoms_all]
  show words1.all (fun c => c.before args0 about1) = true
  refine all_split ?_ w_codes
  rw [w_t1]
set_option maxRecDepth 65536 in
theorem w_case : (Jvm.Cond.and given_1 narrow_1).before args0 about1 = true := by decide +kernel
theorem w_applies : (headSpec (Jvm.Cond.code x code maxLocals ret :: tables_1) room_1).applies x e0.platform about1 = true :=
  (Spec.applies_iff w_frames).mpr ⟨w_running, w_runnable, w_alone, w_named, w_hears, w_ripe, w_room, w_tables⟩
theorem atStart : AtStart classFile x code maxLocals ret World_1 tables_1 room_1 Calls_1 rest_1 Pre_1 launch0 p0 e0 about1 theMethod args0 below0 :=
  ⟨lists_1, trivial, launch0.admits_env _ _ _, launch0.least_env, fairChoices_fair.cas, fairChoices_fair.clock, w_frames, w_args, w_heap, w_applies, trivial, trivial, w_case⟩
end start1
theorem witness_1 : WitnessClaimed_1 := ⟨start1.p0, start1.e0, start1.about1, start1.theMethod, start1.args0, start1.below0, start1.atStart⟩
end Jvm.Pilot.@@N@@
