import JvmDerived
import JvmDerived.Pilot.@@N@@Statement
import JvmDerived.Pilot.@@N@@Code
set_option linter.unusedVariables false
set_option linter.unusedSimpArgs false
namespace Jvm.RoadKit
open Sem ClassFile Op Lib Jvm.Stand Jvm.Free Jvm.LawKit
section New
variable {p : Program} {l : Launch} {e : Env} {R : Room} {s : State} {m : MethodId} {args : Array Value} {below : List Frame} {meth : Method} {c : Code} {T : State} {locs : List Loc} {cells slots : Nat}
theorem retI (X : Stand p l e R s m args below meth c T locs cells slots) (hx : p.tables.exec = Jvm.exec) {pc : Nat} {Ls : Array Slot} {z : Int32} {rest : List Value} (hret : meth.sig.returnType = some .int) (hd : decode c.code pc = .ok (.ireturn, 1)) {fs : List Frame}
    (hl : ∀ (f : JFrame) (acts : List Action), f.method = m → f.locked = none → f.entered = [] → (doReturn e (T.setTop f) acts (some (.int z))).1 = T.setFrames fs) : Steps p.tables e below (T.setTop (mkF m pc Ls (.int z :: rest))) (T.setFrames fs) :=
  retOut X hx hret rfl (Or.inl ⟨rfl, Or.inl rfl, _, rfl⟩) hd hl
theorem own_sta_keep {Z : State} {h h' : Heap} {C n d : String} {w : Value} {ws : List Addr} (F : Sta Z h C n d w) (K : Keep h h' ws) (ns : ∀ x ∈ ws, ∀ cell : Cell, h[x]? = some cell → cell.vm.isStatics = false) : Sta Z h' C n d w := by
  obtain ⟨cf, i, k, f, st, cell, h1, h2, h3, h4, h5, h6, h7⟩ := F
  refine ⟨cf, i, k, f, st, cell, h1, h2, h3, h4, K.2.1 st cell h5 (fun hm => ?_), h6, h7⟩
  rw [ns st hm cell h5] at h6
  cases h6
theorem own_selp {s : State} {args : Array Value} {w y : MethodName} (hs : (Cond.selects w.cls w w).before args s = true) (e : w.cls = y.cls) (hp : s.PrivateAt y) (hi : (Cond.instanceMethod y).before args s = true) (hy : y.cls ≠ "java/lang/invoke/MethodHandle" ∧ y.cls ≠ "java/lang/invoke/VarHandle") : (Cond.selects y.cls y y).before args s = true := by
  obtain ⟨c2, r2, m2, q1, q2, q3, q4, kP, hkP, hkPi⟩ := Cond.selects_spec hs
  exact selects_self_of_private (c := m2.cls) (by rw [← e]; exact findClass_of_methodNamed q3) hkP hkPi hp hi hy
end New
end Jvm.RoadKit
namespace Jvm.Pilot.@@N@@
open Jvm Jvm.ClassFile Sem Op Lib Jvm.Free Jvm.Stand Jvm.LawKit Jvm.RoadKit Bundle Jvm.Pilot.@@N@@.Jvm.D
theorem d1_0 : decode prog_60_method_5_code 0 = .ok (.iload_n 0, 1) := by decide +kernel
theorem d1_1 : decode prog_60_method_5_code 1 = .ok (.bipush 32, 2) := by decide +kernel
theorem d1_3 : decode prog_60_method_5_code 3 = .ok (.if_icmp .eq 21, 3) := by decide +kernel
theorem d1_6 : decode prog_60_method_5_code 6 = .ok (.iload_n 0, 1) := by decide +kernel
theorem d1_7 : decode prog_60_method_5_code 7 = .ok (.bipush 9, 2) := by decide +kernel
theorem d1_9 : decode prog_60_method_5_code 9 = .ok (.if_icmp .eq 15, 3) := by decide +kernel
theorem d1_12 : decode prog_60_method_5_code 12 = .ok (.iload_n 0, 1) := by decide +kernel
theorem d1_13 : decode prog_60_method_5_code 13 = .ok (.bipush 13, 2) := by decide +kernel
theorem d1_15 : decode prog_60_method_5_code 15 = .ok (.if_icmp .eq 9, 3) := by decide +kernel
theorem d1_18 : decode prog_60_method_5_code 18 = .ok (.iload_n 0, 1) := by decide +kernel
theorem d1_19 : decode prog_60_method_5_code 19 = .ok (.bipush 10, 2) := by decide +kernel
theorem d1_21 : decode prog_60_method_5_code 21 = .ok (.if_icmp .ne 7, 3) := by decide +kernel
theorem d1_24 : decode prog_60_method_5_code 24 = .ok (.iconst 1, 1) := by decide +kernel
theorem d1_25 : decode prog_60_method_5_code 25 = .ok (.goto 4, 3) := by decide +kernel
theorem d1_28 : decode prog_60_method_5_code 28 = .ok (.iconst 0, 1) := by decide +kernel
theorem d1_29 : decode prog_60_method_5_code 29 = .ok (.ireturn, 1) := by decide +kernel
theorem pn_0 : plainName "com/example/strumyk/strumyk/message/Whitespace" = true := by first | (simp [plainName, overriddenIn]; done) | decide +kernel
theorem pn_1 : plainName "com/example/strumyk/strumyk/message/WhitespaceIsXmlWhitespacePinLaw" = true := by first | (simp [plainName, overriddenIn]; done) | decide +kernel
theorem pd_2 : parseMethodDescriptor "(C)Z" = some ⟨[.char], some .boolean⟩ := by decide +kernel
def own_b (P : Prop) [Decidable P] : Int32 := if P then 1 else 0
def own_sh (c : Int32) : Int64 := (((4294977024 : Int64).toUInt64 >>> (c &&& 0x3f).toInt64.toUInt64).toInt64 &&& (1 : Int64))
theorem own_iff0 : True := trivial
theorem own_ws (c : Int32) (h0 : 0 ≤ c.toInt) : own_b (c = 32 ∨ c = 9 ∨ c = 13 ∨ c = 10) = own_b (¬ (32 < c) ∧ ¬ (own_sh c = 0)) := by
  by_cases h : 32 < c
  · have : ¬ (c = 32 ∨ c = 9 ∨ c = 13 ∨ c = 10) := by
      rintro (rfl | rfl | rfl | rfl) <;> revert h <;> decide
    simp [own_b, h, this]
  · have hk : ∃ k : Fin 33, c = Int32.ofInt ((k.val : Nat) : Int) := by
      have h1 : c.toInt ≤ 32 := by
        rw [Int32.lt_iff_toInt_lt] at h
        have z : (32 : Int32).toInt = 32 := rfl
        omega
      refine ⟨⟨c.toInt.toNat, by omega⟩, ?_⟩
      show c = Int32.ofInt ((c.toInt.toNat : Nat) : Int)
      rw [Int.toNat_of_nonneg h0, Int32.ofInt_toInt]
    obtain ⟨k, rfl⟩ := hk
    clear h h0
    revert k
    decide +kernel
theorem ef_rmWs (m : MethodId) (x0 : Int32) : entryFrame m #[(.int x0)] 1 = mkF m 0 #[iv x0] [] := by first | (simp [entryFrame, mkF, argsToLocals, Value.category]; done) | rfl
def Q_rmWs (Z : State) (p1 : Int32) (h0 : Heap) (n0 : Nat) (v : Option Value) (h : Heap) (L : List Loc) : Prop := v = some (.int (own_b (p1 = 32 ∨ p1 = 9 ∨ p1 = 13 ∨ p1 = 10))) ∧ Fr n0 L ∧ h = h0
set_option maxRecDepth 65536 in
set_option maxHeartbeats 40000000 in
theorem rmWs (l : Launch) (Z : State) (a0 : Array Value) (hw : ∀ d ∈ tables_1, d.before a0 Z = true) (ws : List Jvm.Cond) (p1 : Int32) (h0 : Heap) (n0 : Nat) (Z0 : n0 ≤ h0.size) :
    MetFree l (⟨"com/example/strumyk/strumyk/message/Whitespace", "isXmlWhitespace", "(C)Z"⟩ : MethodName) (head1 (Jvm.Cond.code (⟨"com/example/strumyk/strumyk/message/Whitespace", "isXmlWhitespace", "(C)Z"⟩ : MethodName) prog_60_method_5_code 1 (some .boolean) :: ws) ({ frames := 0, cells := 0, slots := 0, locals := 0 } : Room)) (fun a U => a = #[(.int p1)] ∧ Z.Warmed39 U.vm ∧ U.heap = h0) (fun _ _ _ _ _ => True) (fun _ U o U' => ∃ v L, o = .returned v ∧ Q_rmWs Z p1 h0 n0 v U'.heap L ∧ FrameEnd U o U' L ({ frames := 0, cells := 0, slots := 0, locals := 0 } : Room).cells ({ frames := 0, cells := 0, slots := 0, locals := 0 } : Room).slots) := by
  refine MetFree.of_bodySF (plainFor_of_name pn_0) hisR ?_
  intro p e s m args below meth c s₁ Bd hml0 hP hK
  obtain ⟨rfl, hZ, hh⟩ := hP
  have hx := Bd.exec
  have hby := Bd.bytes
  have hml : c.maxLocals = 1 := hml0
  have hown : s.vm.findClass "com/example/strumyk/strumyk/message/Whitespace" = some m.cls := findClass_of_methodNamed Bd.named
  have hnm := (name_of_methodNamed Bd.named Bd.method).1
  have X0 : Stand p l e ({ frames := 0, cells := 0, slots := 0, locals := 0 } : Room) s m #[(.int p1)] below meth c s₁ [] 0 0 := Stand.of_body Bd
  have e0 : s₁.heap = h0 := by rw [← hh, Bd.state]; rfl
  have N0 := Fr.nil n0
  obtain ⟨f0, hf0⟩ : ∃ f : JFrame, f = mkF m 0 #[iv p1] [] := ⟨_, rfl⟩
  have pre0 : ∀ t, Steps p.tables e below (s₁.setTop f0) t → Steps p.tables e below (s₁.setTop (entryFrame m #[(.int p1)] 1)) t := fun t k => castTop ((ef_rmWs m p1).trans hf0.symm) k
  have R0 : ∀ t, Steps p.tables e below (s₁.setTop (mkF m 0 #[iv p1] [])) t → Steps p.tables e below (s₁.setTop f0) t := by rw [hf0]; exact fun t k => k
  have R1 : ∀ t, Steps p.tables e below (s₁.setTop (mkF m 3 #[iv p1] [(.int (32 : Int32)), (.int p1)])) t → Steps p.tables e below (s₁.setTop f0) t := fun t k => R0 t (by
    show Steps p.tables e below (s₁.setTop (mkF m 0 #[iv p1] [])) _
    refine XS.iloadN X0.here hx rfl (hb hby d1_0) rfl  ?_
    show Steps p.tables e below (s₁.setTop (mkF m 1 #[iv p1] [(.int p1)])) _
    refine XS.bipush X0.here hx rfl (hb hby d1_1) ?_
    exact k)
  by_cases hs1 : p1 = (32 : Int32)
  · skip
    have R2 : ∀ t, Steps p.tables e below (s₁.setTop (mkF m 29 #[iv p1] [(.int (1 : Int32))])) t → Steps p.tables e below (s₁.setTop f0) t := fun t k => R1 t (by
      show Steps p.tables e below (s₁.setTop (mkF m 3 #[iv p1] [(.int (32 : Int32)), (.int p1)])) _
      refine XS.icmpYes X0.here hx rfl (pc0 := 3) (pc' := 24) rfl (hb hby d1_3) rfl (teq hs1).1 (by decide) (by decide) ?_
      show Steps p.tables e below (s₁.setTop (mkF m 24 #[iv p1] [])) _
      refine XS.iconst X0.here hx rfl (hb hby d1_24) ?_
      show Steps p.tables e below (s₁.setTop (mkF m 25 #[iv p1] [(.int (1 : Int32))])) _
      refine XS.goto X0.here hx rfl (pc0 := 25) (pc' := 29) rfl (hb hby d1_25) (by decide) (by decide) ?_
      exact k)
    obtain ⟨fs, hr, hrun, hended, hW, hsame⟩ := X0.leave (v := some (.int (1 : Int32))) (fun h => by rw [Bd.returns] at h; cases h)
    refine ⟨_, _, pre0 _ (R2 _ ?_), hrun, hended, _, _, rfl, ?_, ⟨_, rfl⟩, hW, hsame.mono (by decide) (by decide)⟩
    · show Steps p.tables e below (s₁.setTop (mkF m 29 #[iv p1] [(.int (1 : Int32))])) _
      exact retN X0 hx (t := .boolean) Bd.returns (by simp) (hb hby d1_29) hr
    · show Q_rmWs Z p1 h0 n0 _ s₁.heap _
      rw [e0]
      exact ⟨(by (try simp only [lw_gt, lw_lt, lw_eq] at hs1); simp [own_b, hs1]), N0, rfl⟩
  · skip
    have R3 : ∀ t, Steps p.tables e below (s₁.setTop (mkF m 9 #[iv p1] [(.int (9 : Int32)), (.int p1)])) t → Steps p.tables e below (s₁.setTop f0) t := fun t k => R1 t (by
      show Steps p.tables e below (s₁.setTop (mkF m 3 #[iv p1] [(.int (32 : Int32)), (.int p1)])) _
      refine XS.icmpNo X0.here hx rfl (hb hby d1_3) rfl (feq hs1).1 ?_
      show Steps p.tables e below (s₁.setTop (mkF m 6 #[iv p1] [])) _
      refine XS.iloadN X0.here hx rfl (hb hby d1_6) rfl  ?_
      show Steps p.tables e below (s₁.setTop (mkF m 7 #[iv p1] [(.int p1)])) _
      refine XS.bipush X0.here hx rfl (hb hby d1_7) ?_
      exact k)
    by_cases hs2 : p1 = (9 : Int32)
    · skip
      have R4 : ∀ t, Steps p.tables e below (s₁.setTop (mkF m 29 #[iv p1] [(.int (1 : Int32))])) t → Steps p.tables e below (s₁.setTop f0) t := fun t k => R3 t (by
        show Steps p.tables e below (s₁.setTop (mkF m 9 #[iv p1] [(.int (9 : Int32)), (.int p1)])) _
        refine XS.icmpYes X0.here hx rfl (pc0 := 9) (pc' := 24) rfl (hb hby d1_9) rfl (teq hs2).1 (by decide) (by decide) ?_
        show Steps p.tables e below (s₁.setTop (mkF m 24 #[iv p1] [])) _
        refine XS.iconst X0.here hx rfl (hb hby d1_24) ?_
        show Steps p.tables e below (s₁.setTop (mkF m 25 #[iv p1] [(.int (1 : Int32))])) _
        refine XS.goto X0.here hx rfl (pc0 := 25) (pc' := 29) rfl (hb hby d1_25) (by decide) (by decide) ?_
        exact k)
      obtain ⟨fs, hr, hrun, hended, hW, hsame⟩ := X0.leave (v := some (.int (1 : Int32))) (fun h => by rw [Bd.returns] at h; cases h)
      refine ⟨_, _, pre0 _ (R4 _ ?_), hrun, hended, _, _, rfl, ?_, ⟨_, rfl⟩, hW, hsame.mono (by decide) (by decide)⟩
      · show Steps p.tables e below (s₁.setTop (mkF m 29 #[iv p1] [(.int (1 : Int32))])) _
        exact retN X0 hx (t := .boolean) Bd.returns (by simp) (hb hby d1_29) hr
      · show Q_rmWs Z p1 h0 n0 _ s₁.heap _
        rw [e0]
        exact ⟨(by (try simp only [lw_gt, lw_lt, lw_eq] at hs1); (try simp only [lw_gt, lw_lt, lw_eq] at hs2); simp [own_b, hs1, hs2]), N0, rfl⟩
    · skip
      have R5 : ∀ t, Steps p.tables e below (s₁.setTop (mkF m 15 #[iv p1] [(.int (13 : Int32)), (.int p1)])) t → Steps p.tables e below (s₁.setTop f0) t := fun t k => R3 t (by
        show Steps p.tables e below (s₁.setTop (mkF m 9 #[iv p1] [(.int (9 : Int32)), (.int p1)])) _
        refine XS.icmpNo X0.here hx rfl (hb hby d1_9) rfl (feq hs2).1 ?_
        show Steps p.tables e below (s₁.setTop (mkF m 12 #[iv p1] [])) _
        refine XS.iloadN X0.here hx rfl (hb hby d1_12) rfl  ?_
        show Steps p.tables e below (s₁.setTop (mkF m 13 #[iv p1] [(.int p1)])) _
        refine XS.bipush X0.here hx rfl (hb hby d1_13) ?_
        exact k)
      by_cases hs3 : p1 = (13 : Int32)
      · skip
        have R6 : ∀ t, Steps p.tables e below (s₁.setTop (mkF m 29 #[iv p1] [(.int (1 : Int32))])) t → Steps p.tables e below (s₁.setTop f0) t := fun t k => R5 t (by
          show Steps p.tables e below (s₁.setTop (mkF m 15 #[iv p1] [(.int (13 : Int32)), (.int p1)])) _
          refine XS.icmpYes X0.here hx rfl (pc0 := 15) (pc' := 24) rfl (hb hby d1_15) rfl (teq hs3).1 (by decide) (by decide) ?_
          show Steps p.tables e below (s₁.setTop (mkF m 24 #[iv p1] [])) _
          refine XS.iconst X0.here hx rfl (hb hby d1_24) ?_
          show Steps p.tables e below (s₁.setTop (mkF m 25 #[iv p1] [(.int (1 : Int32))])) _
          refine XS.goto X0.here hx rfl (pc0 := 25) (pc' := 29) rfl (hb hby d1_25) (by decide) (by decide) ?_
          exact k)
        obtain ⟨fs, hr, hrun, hended, hW, hsame⟩ := X0.leave (v := some (.int (1 : Int32))) (fun h => by rw [Bd.returns] at h; cases h)
        refine ⟨_, _, pre0 _ (R6 _ ?_), hrun, hended, _, _, rfl, ?_, ⟨_, rfl⟩, hW, hsame.mono (by decide) (by decide)⟩
        · show Steps p.tables e below (s₁.setTop (mkF m 29 #[iv p1] [(.int (1 : Int32))])) _
          exact retN X0 hx (t := .boolean) Bd.returns (by simp) (hb hby d1_29) hr
        · show Q_rmWs Z p1 h0 n0 _ s₁.heap _
          rw [e0]
          exact ⟨(by (try simp only [lw_gt, lw_lt, lw_eq] at hs1); (try simp only [lw_gt, lw_lt, lw_eq] at hs2); (try simp only [lw_gt, lw_lt, lw_eq] at hs3); simp [own_b, hs1, hs2, hs3]), N0, rfl⟩
      · skip
        have R7 : ∀ t, Steps p.tables e below (s₁.setTop (mkF m 21 #[iv p1] [(.int (10 : Int32)), (.int p1)])) t → Steps p.tables e below (s₁.setTop f0) t := fun t k => R5 t (by
          show Steps p.tables e below (s₁.setTop (mkF m 15 #[iv p1] [(.int (13 : Int32)), (.int p1)])) _
          refine XS.icmpNo X0.here hx rfl (hb hby d1_15) rfl (feq hs3).1 ?_
          show Steps p.tables e below (s₁.setTop (mkF m 18 #[iv p1] [])) _
          refine XS.iloadN X0.here hx rfl (hb hby d1_18) rfl  ?_
          show Steps p.tables e below (s₁.setTop (mkF m 19 #[iv p1] [(.int p1)])) _
          refine XS.bipush X0.here hx rfl (hb hby d1_19) ?_
          exact k)
        by_cases hs4 : p1 = (10 : Int32)
        · skip
          have R8 : ∀ t, Steps p.tables e below (s₁.setTop (mkF m 29 #[iv p1] [(.int (1 : Int32))])) t → Steps p.tables e below (s₁.setTop f0) t := fun t k => R7 t (by
            show Steps p.tables e below (s₁.setTop (mkF m 21 #[iv p1] [(.int (10 : Int32)), (.int p1)])) _
            refine XS.icmpNo X0.here hx rfl (hb hby d1_21) rfl (teq hs4).2 ?_
            show Steps p.tables e below (s₁.setTop (mkF m 24 #[iv p1] [])) _
            refine XS.iconst X0.here hx rfl (hb hby d1_24) ?_
            show Steps p.tables e below (s₁.setTop (mkF m 25 #[iv p1] [(.int (1 : Int32))])) _
            refine XS.goto X0.here hx rfl (pc0 := 25) (pc' := 29) rfl (hb hby d1_25) (by decide) (by decide) ?_
            exact k)
          obtain ⟨fs, hr, hrun, hended, hW, hsame⟩ := X0.leave (v := some (.int (1 : Int32))) (fun h => by rw [Bd.returns] at h; cases h)
          refine ⟨_, _, pre0 _ (R8 _ ?_), hrun, hended, _, _, rfl, ?_, ⟨_, rfl⟩, hW, hsame.mono (by decide) (by decide)⟩
          · show Steps p.tables e below (s₁.setTop (mkF m 29 #[iv p1] [(.int (1 : Int32))])) _
            exact retN X0 hx (t := .boolean) Bd.returns (by simp) (hb hby d1_29) hr
          · show Q_rmWs Z p1 h0 n0 _ s₁.heap _
            rw [e0]
            exact ⟨(by (try simp only [lw_gt, lw_lt, lw_eq] at hs1); (try simp only [lw_gt, lw_lt, lw_eq] at hs2); (try simp only [lw_gt, lw_lt, lw_eq] at hs3); (try simp only [lw_gt, lw_lt, lw_eq] at hs4); simp [own_b, hs1, hs2, hs3, hs4]), N0, rfl⟩
        · skip
          have R9 : ∀ t, Steps p.tables e below (s₁.setTop (mkF m 29 #[iv p1] [(.int (0 : Int32))])) t → Steps p.tables e below (s₁.setTop f0) t := fun t k => R7 t (by
            show Steps p.tables e below (s₁.setTop (mkF m 21 #[iv p1] [(.int (10 : Int32)), (.int p1)])) _
            refine XS.icmpYes X0.here hx rfl (pc0 := 21) (pc' := 28) rfl (hb hby d1_21) rfl (feq hs4).2 (by decide) (by decide) ?_
            show Steps p.tables e below (s₁.setTop (mkF m 28 #[iv p1] [])) _
            refine XS.iconst X0.here hx rfl (hb hby d1_28) ?_
            exact k)
          obtain ⟨fs, hr, hrun, hended, hW, hsame⟩ := X0.leave (v := some (.int (0 : Int32))) (fun h => by rw [Bd.returns] at h; cases h)
          refine ⟨_, _, pre0 _ (R9 _ ?_), hrun, hended, _, _, rfl, ?_, ⟨_, rfl⟩, hW, hsame.mono (by decide) (by decide)⟩
          · show Steps p.tables e below (s₁.setTop (mkF m 29 #[iv p1] [(.int (0 : Int32))])) _
            exact retN X0 hx (t := .boolean) Bd.returns (by simp) (hb hby d1_29) hr
          · show Q_rmWs Z p1 h0 n0 _ s₁.heap _
            rw [e0]
            exact ⟨(by (try simp only [lw_gt, lw_lt, lw_eq] at hs1); (try simp only [lw_gt, lw_lt, lw_eq] at hs2); (try simp only [lw_gt, lw_lt, lw_eq] at hs3); (try simp only [lw_gt, lw_lt, lw_eq] at hs4); simp [own_b, hs1, hs2, hs3, hs4]), N0, rfl⟩
theorem ef_rmLaw (m : MethodId) (x0 : Int32) : entryFrame m #[(.int x0)] maxLocals = mkF m 0 #[iv x0, .unset, .unset, .unset] [] := by first | (simp [entryFrame, mkF, argsToLocals, Value.category, maxLocals]; done) | rfl
def Q_rmLaw (Z : State) (p0 : Int32) (h0 : Heap) (n0 : Nat) (v : Option Value) (h : Heap) (L : List Loc) : Prop := v = some (.int (1 : Int32)) ∧ Fr n0 L
set_option maxRecDepth 65536 in
set_option maxHeartbeats 40000000 in
theorem rmLaw (l : Launch) (Z : State) (a0 : Array Value) (hw : ∀ d ∈ tables_1, d.before a0 Z = true) (ws : List Jvm.Cond) (p0 : Int32) (h0 : Heap) (n0 : Nat) (Z0 : n0 ≤ h0.size) :
    MetFree l x (head1 (Jvm.Cond.code x code maxLocals ret :: ws) room_1) (fun a U => a = #[(.int p0)] ∧ Z.Warmed39 U.vm ∧ U.heap = h0) (fun _ _ _ _ _ => True) (fun _ U o U' => ∃ v L, o = .returned v ∧ Q_rmLaw Z p0 h0 n0 v U'.heap L ∧ FrameEnd U o U' L room_1.cells room_1.slots) := by
  refine MetFree.of_bodySF (plainFor_of_name pn_1) hisR ?_
  intro p e s m args below meth c s₁ Bd hml0 hP hK
  obtain ⟨rfl, hZ, hh⟩ := hP
  have hx := Bd.exec
  have hby := Bd.bytes
  have hml : c.maxLocals = 4 := hml0
  have hown : s.vm.findClass "com/example/strumyk/strumyk/message/WhitespaceIsXmlWhitespacePinLaw" = some m.cls := findClass_of_methodNamed Bd.named
  have hnm := (name_of_methodNamed Bd.named Bd.method).1
  have X0 : Stand p l e room_1 s m #[(.int p0)] below meth c s₁ [] 0 0 := Stand.of_body Bd
  have e0 : s₁.heap = h0 := by rw [← hh, Bd.state]; rfl
  have N0 := Fr.nil n0
  obtain ⟨f0, hf0⟩ : ∃ f : JFrame, f = mkF m 0 #[iv p0, .unset, .unset, .unset] [] := ⟨_, rfl⟩
  have pre0 : ∀ t, Steps p.tables e below (s₁.setTop f0) t → Steps p.tables e below (s₁.setTop (entryFrame m #[(.int p0)] maxLocals)) t := fun t k => castTop ((ef_rmLaw m p0).trans hf0.symm) k
  have R0 : ∀ t, Steps p.tables e below (s₁.setTop (mkF m 0 #[iv p0, .unset, .unset, .unset] [])) t → Steps p.tables e below (s₁.setTop f0) t := by rw [hf0]; exact fun t k => k
  have R1 : ∀ t, Steps p.tables e below (s₁.setTop (mkF m 2 #[iv p0, .unset, .unset, .unset] [(.int (p0.toUInt32.toUInt16.toUInt32.toInt32))])) t → Steps p.tables e below (s₁.setTop f0) t := fun t k => R0 t (by
    show Steps p.tables e below (s₁.setTop (mkF m 0 #[iv p0, .unset, .unset, .unset] [])) _
    refine XS.iloadN X0.here hx rfl (hb hby at_0) rfl  ?_
    show Steps p.tables e below (s₁.setTop (mkF m 1 #[iv p0, .unset, .unset, .unset] [(.int p0)])) _
    refine XS.i2c X0.here hx rfl (hb hby at_1) rfl ?_
    exact k)
  obtain ⟨cv, e_cv⟩ : ∃ z : Int32, z = (p0.toUInt32.toUInt16.toUInt32.toInt32) := ⟨_, rfl⟩
  have R2 : ∀ t, Steps p.tables e below (s₁.setTop (mkF m 2 #[iv p0, .unset, .unset, .unset] [(.int cv)])) t → Steps p.tables e below (s₁.setTop f0) t := by have q := R1; rw [← e_cv] at q; exact q
  have R3 : ∀ t, Steps p.tables e below (s₁.setTop (mkF m 8 #[iv p0, iv cv, iv cv, .unset] [(.int (32 : Int32)), (.int cv)])) t → Steps p.tables e below (s₁.setTop f0) t := fun t k => R2 t (by
    show Steps p.tables e below (s₁.setTop (mkF m 2 #[iv p0, .unset, .unset, .unset] [(.int cv)])) _
    refine XS.istoreN X0.here hx rfl (hb hby at_2) rfl (l' := #[iv p0, iv cv, .unset, .unset]) rfl ?_
    show Steps p.tables e below (s₁.setTop (mkF m 3 #[iv p0, iv cv, .unset, .unset] [])) _
    refine XS.iloadN X0.here hx rfl (hb hby at_3) rfl  ?_
    show Steps p.tables e below (s₁.setTop (mkF m 4 #[iv p0, iv cv, .unset, .unset] [(.int cv)])) _
    refine XS.istoreN X0.here hx rfl (hb hby at_4) rfl (l' := #[iv p0, iv cv, iv cv, .unset]) rfl ?_
    show Steps p.tables e below (s₁.setTop (mkF m 5 #[iv p0, iv cv, iv cv, .unset] [])) _
    refine XS.iloadN X0.here hx rfl (hb hby at_5) rfl  ?_
    show Steps p.tables e below (s₁.setTop (mkF m 6 #[iv p0, iv cv, iv cv, .unset] [(.int cv)])) _
    refine XS.bipush X0.here hx rfl (hb hby at_6) ?_
    exact k)
  have R4 : ∀ t, Steps p.tables e below (s₁.setTop (mkF m 28 #[iv p0, iv cv, iv cv, .unset] [(.int (own_b (¬ (32 < cv) ∧ ¬ (own_sh cv = 0))))])) t → Steps p.tables e below (s₁.setTop f0) t := by
    intro t k
    refine R3 t ?_
    by_cases hm1 : (32 : Int32) < cv
    · skip
      show Steps p.tables e below (s₁.setTop (mkF m 8 #[iv p0, iv cv, iv cv, .unset] [(.int (32 : Int32)), (.int cv)])) _
      refine XS.icmpYes X0.here hx rfl (pc0 := 8) (pc' := 27) rfl (hb hby at_8) rfl (tlt hm1).2.2.1 (by decide) (by decide) ?_
      show Steps p.tables e below (s₁.setTop (mkF m 27 #[iv p0, iv cv, iv cv, .unset] [])) _
      refine XS.iconst X0.here hx rfl (hb hby at_27) ?_
      have hv : (own_b (¬ (32 < cv) ∧ ¬ (own_sh cv = 0))) = (0 : Int32) := by simp [own_b, hm1]
      rw [hv] at k
      exact k
    · skip
      show Steps p.tables e below (s₁.setTop (mkF m 8 #[iv p0, iv cv, iv cv, .unset] [(.int (32 : Int32)), (.int cv)])) _
      refine XS.icmpNo X0.here hx rfl (hb hby at_8) rfl (flt hm1).2.2.1 ?_
      show Steps p.tables e below (s₁.setTop (mkF m 11 #[iv p0, iv cv, iv cv, .unset] [])) _
      refine X0.ldc2Long hx hown (mvT hZ (hw _ (List.mem_of_getElem? (i := 0) rfl))) (g := (mkF m 11 #[iv p0, iv cv, iv cv, .unset] [])) rfl (hb hby at_11) _ ?_
      show Steps p.tables e below (s₁.setTop (mkF m 14 #[iv p0, iv cv, iv cv, .unset] [(.long (4294977024 : Int64))])) _
      refine XS.iloadN X0.here hx rfl (hb hby at_14) rfl  ?_
      show Steps p.tables e below (s₁.setTop (mkF m 15 #[iv p0, iv cv, iv cv, .unset] [(.int cv), (.long (4294977024 : Int64))])) _
      refine XS.lushr X0.here hx rfl (hb hby at_15) rfl ?_
      show Steps p.tables e below (s₁.setTop (mkF m 16 #[iv p0, iv cv, iv cv, .unset] [(.long (((4294977024 : Int64).toUInt64 >>> (cv &&& 0x3f).toInt64.toUInt64).toInt64))])) _
      refine XS.lconst X0.here hx rfl (hb hby at_16) ?_
      show Steps p.tables e below (s₁.setTop (mkF m 17 #[iv p0, iv cv, iv cv, .unset] [(.long (1 : Int64)), (.long (((4294977024 : Int64).toUInt64 >>> (cv &&& 0x3f).toInt64.toUInt64).toInt64))])) _
      refine XS.land X0.here hx rfl (hb hby at_17) rfl ?_
      show Steps p.tables e below (s₁.setTop (mkF m 18 #[iv p0, iv cv, iv cv, .unset] [(.long ((((4294977024 : Int64).toUInt64 >>> (cv &&& 0x3f).toInt64.toUInt64).toInt64) &&& (1 : Int64)))])) _
      refine XS.lconst X0.here hx rfl (hb hby at_18) ?_
      show Steps p.tables e below (s₁.setTop (mkF m 19 #[iv p0, iv cv, iv cv, .unset] [(.long (0 : Int64)), (.long ((((4294977024 : Int64).toUInt64 >>> (cv &&& 0x3f).toInt64.toUInt64).toInt64) &&& (1 : Int64)))])) _
      refine XS.lcmp X0.here hx rfl (hb hby at_19) rfl ?_
      by_cases hm2 : (lcmpW ((((4294977024 : Int64).toUInt64 >>> (cv &&& 0x3f).toInt64.toUInt64).toInt64) &&& (1 : Int64)) (0 : Int64)) = (0 : Int32)
      · skip
        show Steps p.tables e below (s₁.setTop (mkF m 20 #[iv p0, iv cv, iv cv, .unset] [(.int (lcmpW ((((4294977024 : Int64).toUInt64 >>> (cv &&& 0x3f).toInt64.toUInt64).toInt64) &&& (1 : Int64)) (0 : Int64)))])) _
        refine XS.ifYes X0.here hx rfl (pc0 := 20) (pc' := 27) rfl (hb hby at_20) rfl ((if0 _ _).trans (teq hm2).1) (by decide) (by decide) ?_
        show Steps p.tables e below (s₁.setTop (mkF m 27 #[iv p0, iv cv, iv cv, .unset] [])) _
        refine XS.iconst X0.here hx rfl (hb hby at_27) ?_
        have hv : (own_b (¬ (32 < cv) ∧ ¬ (own_sh cv = 0))) = (0 : Int32) := by (try simp only [lw_eq] at hm2); (first | (change own_sh cv = 0 at hm2) | (change ¬ own_sh cv = 0 at hm2)); simp [own_b, hm1, hm2]
        rw [hv] at k
        exact k
      · skip
        show Steps p.tables e below (s₁.setTop (mkF m 20 #[iv p0, iv cv, iv cv, .unset] [(.int (lcmpW ((((4294977024 : Int64).toUInt64 >>> (cv &&& 0x3f).toInt64.toUInt64).toInt64) &&& (1 : Int64)) (0 : Int64)))])) _
        refine XS.ifNo X0.here hx rfl (hb hby at_20) rfl ((if0 _ _).trans (feq hm2).1) ?_
        show Steps p.tables e below (s₁.setTop (mkF m 23 #[iv p0, iv cv, iv cv, .unset] [])) _
        refine XS.iconst X0.here hx rfl (hb hby at_23) ?_
        show Steps p.tables e below (s₁.setTop (mkF m 24 #[iv p0, iv cv, iv cv, .unset] [(.int (1 : Int32))])) _
        refine XS.goto X0.here hx rfl (pc0 := 24) (pc' := 28) rfl (hb hby at_24) (by decide) (by decide) ?_
        have hv : (own_b (¬ (32 < cv) ∧ ¬ (own_sh cv = 0))) = (1 : Int32) := by (try simp only [lw_eq] at hm2); (first | (change own_sh cv = 0 at hm2) | (change ¬ own_sh cv = 0 at hm2)); simp [own_b, hm1, hm2]
        rw [hv] at k
        exact k
  have R5 : ∀ t, Steps p.tables e below (s₁.setTop (mkF m 30 #[iv p0, iv cv, iv cv, iv (own_b (¬ (32 < cv) ∧ ¬ (own_sh cv = 0)))] [(.int cv)])) t → Steps p.tables e below (s₁.setTop f0) t := fun t k => R4 t (by
    show Steps p.tables e below (s₁.setTop (mkF m 28 #[iv p0, iv cv, iv cv, .unset] [(.int (own_b (¬ (32 < cv) ∧ ¬ (own_sh cv = 0))))])) _
    refine XS.istoreN X0.here hx rfl (hb hby at_28) rfl (l' := #[iv p0, iv cv, iv cv, iv (own_b (¬ (32 < cv) ∧ ¬ (own_sh cv = 0)))]) rfl ?_
    show Steps p.tables e below (s₁.setTop (mkF m 29 #[iv p0, iv cv, iv cv, iv (own_b (¬ (32 < cv) ∧ ¬ (own_sh cv = 0)))] [])) _
    refine XS.iloadN X0.here hx rfl (hb hby at_29) rfl  ?_
    exact k)
  obtain ⟨_, _, ⟨T6, L6, k6, n6⟩, -, X6, ⟨Lc6, hQ6, l6, y6, z6⟩, st6⟩ := Jvm.LawKit.callS X0 hx (y := (⟨"com/example/strumyk/strumyk/message/Whitespace", "isXmlWhitespace", "(C)Z"⟩ : MethodName)) hown (mvT hZ (hw _ (List.mem_of_getElem? (i := 1) rfl))) (mvT hZ (hw _ (List.mem_of_getElem? (i := 2) rfl))) (mvT hZ (hw _ (List.mem_of_getElem? (i := 3) rfl))) (mvT hZ (hw _ (List.mem_of_getElem? (i := 4) rfl))) (by decide) (backOf (W := 0) (rmWs l Z a0 hw [] cv h0 n0 Z0) hZ (hw _ (List.mem_of_getElem? (i := 4) rfl)) (hw _ (List.mem_of_getElem? (i := 3) rfl)) (by decide) (by decide)) (g := (mkF m 30 #[iv p0, iv cv, iv cv, iv (own_b (¬ (32 < cv) ∧ ¬ (own_sh cv = 0)))] [(.int cv)])) rfl (by rw [hml]; rfl) (argsL := [(.int cv)]) (rest := []) (lenOf pd_2 rfl) rfl (by show 2 * 0 + _ ≤ _; exact Nat.le_of_eq rfl) (hb hby at_30) (fun _ _ => ⟨rfl, e0, (by decide : 0 + 0 ≤ _), (by decide : 0 + 0 ≤ _)⟩)
  dsimp only [Pt.U, Pt.locs, Pt.cells, Pt.slots] at X6 l6 y6 z6 st6 hQ6
  subst l6 y6 z6
  obtain ⟨rfl, N6q, p6_0⟩ := hQ6
  have N6 := Fr.app N0 N6q
  have R7 : ∀ t, Steps p.tables e below (T6.setTop (mkF m 33 #[iv p0, iv cv, iv cv, iv (own_b (¬ (32 < cv) ∧ ¬ (own_sh cv = 0)))] [(.int (own_b (cv = 32 ∨ cv = 9 ∨ cv = 13 ∨ cv = 10)))])) t → Steps p.tables e below (s₁.setTop f0) t := fun t k => R5 t (st6 t k)
  have R8 : ∀ t, Steps p.tables e below (T6.setTop (mkF m 42 #[iv p0, iv cv, iv cv, iv (own_b (¬ (32 < cv) ∧ ¬ (own_sh cv = 0)))] [(.int (1 : Int32))])) t → Steps p.tables e below (s₁.setTop f0) t := fun t k => R7 t (by
    show Steps p.tables e below (T6.setTop (mkF m 33 #[iv p0, iv cv, iv cv, iv (own_b (¬ (32 < cv) ∧ ¬ (own_sh cv = 0)))] [(.int (own_b (cv = 32 ∨ cv = 9 ∨ cv = 13 ∨ cv = 10)))])) _
    refine XS.iloadN X6.here hx rfl (hb hby at_33) rfl  ?_
    show Steps p.tables e below (T6.setTop (mkF m 34 #[iv p0, iv cv, iv cv, iv (own_b (¬ (32 < cv) ∧ ¬ (own_sh cv = 0)))] [(.int (own_b (¬ (32 < cv) ∧ ¬ (own_sh cv = 0)))), (.int (own_b (cv = 32 ∨ cv = 9 ∨ cv = 13 ∨ cv = 10)))])) _
    refine XS.icmpNo X6.here hx rfl (hb hby at_34) rfl (teq (own_ws cv (by rw [e_cv]; exact (c_i2c p0).2.1))).2 ?_
    show Steps p.tables e below (T6.setTop (mkF m 37 #[iv p0, iv cv, iv cv, iv (own_b (¬ (32 < cv) ∧ ¬ (own_sh cv = 0)))] [])) _
    refine XS.iconst X6.here hx rfl (hb hby at_37) ?_
    show Steps p.tables e below (T6.setTop (mkF m 38 #[iv p0, iv cv, iv cv, iv (own_b (¬ (32 < cv) ∧ ¬ (own_sh cv = 0)))] [(.int (1 : Int32))])) _
    refine XS.goto X6.here hx rfl (pc0 := 38) (pc' := 42) rfl (hb hby at_38) (by decide) (by decide) ?_
    exact k)
  obtain ⟨fs, hr, hrun, hended, hW, hsame⟩ := X6.leave (v := some (.int (1 : Int32))) (fun h => by rw [Bd.returns] at h; cases h)
  refine ⟨_, _, pre0 _ (R8 _ ?_), hrun, hended, _, _, rfl, ?_, ⟨_, rfl⟩, hW, hsame.mono (by decide) (by decide)⟩
  · show Steps p.tables e below (T6.setTop (mkF m 42 #[iv p0, iv cv, iv cv, iv (own_b (¬ (32 < cv) ∧ ¬ (own_sh cv = 0)))] [(.int (1 : Int32))])) _
    exact retN X6 hx (t := .boolean) Bd.returns (by simp) (hb hby at_42) hr
  · show Q_rmLaw Z p0 h0 n0 _ T6.heap _
    rw [p6_0]
    exact ⟨rfl, N6⟩
set_option maxRecDepth 65536 in
set_option maxHeartbeats 40000000 in
theorem comes_1 {Post : Tables → Env → Array Value → State → Outcome → State → Prop} (hpost : ∀ tb e args s v u, (limb_1_1.after args s (.returned v) u = true ∧ limb_1_2.after args s (.returned v) u = true ∧ True) → FrameEnd s (.returned v) u (Jvm.fieldLocs frame_1_writes args s ++ Jvm.arrayLocs frame_1_arrays args s ++ Jvm.staticLocs frame_1_statics s) 0 0 → Post tb e args s (.returned v) u) :
    ArmFor flags0 classFile x code maxLocals ret World_1 tables_1 room_1 Calls_1 rest_1 Pre_1 Post := by
  intro l hfl _ _ p e ha hc hk s m args below hf hA hF happ hP
  obtain ⟨hcalls, hrest, hpre⟩ := hP
  obtain ⟨-, -, -, hnamed, -, -, -, hat⟩ := (Spec.applies_iff hf).mp happ
  obtain ⟨hg, hn⟩ := and_e (Cond.before_iff.mp (show (Jvm.Cond.and given_1 narrow_1).before args s = true from hpre))
  obtain ⟨gg1, gg2⟩ := and_e hg
  obtain ⟨w0, rfl⟩ : ∃ w0 : Value, args = #[w0] := by
    have hs : args.size = 1 := by simpa [Cond.value, given_1] using gg1
    obtain ⟨L⟩ := args
    match L, hs with
    | [w0], _ => exact ⟨w0, rfl⟩
  have hw := fun d (hd : d ∈ tables_1) => atoms_spec (ws := Jvm.Cond.code x code maxLocals ret :: tables_1) hat d (List.mem_cons_of_mem _ hd)
  have hfit : Fit s := fun {y c} hc i hi => by
    obtain ⟨ha, rfl⟩ := Array.getElem?_eq_some_iff.mp hc
    have q := List.all_eq_true.mp ((Array.all_eq_true_iff_forall_mem.mp hF) _ (Array.getElem_mem ha)) i (List.mem_range.mpr hi)
    simpa [Array.getElem?_eq_getElem hi] using q
  obtain ⟨i0, ei0⟩ := is_v gg2
  obtain rfl : w0 = (.int i0) := Option.some.inj ei0
  obtain ⟨n, o, h1, h2, h3, _, L, rfl, ⟨rfl, N⟩, hq⟩ := rmLaw l s _ hw tables_1 i0 s.heap s.heap.size (Nat.le_refl _) p e ha hc hk s m _ below hf ((Spec.applies_iff_loose hf).mp happ).1 ⟨rfl, State.Warmed39.refl s, rfl⟩ trivial
  refine ⟨n, _, h1, h2, h3, hpost _ _ _ _ _ _ ⟨Cond.after_iff.mpr rfl, Cond.after_iff.mpr (eq_i res_at (Term.int_eval (1)) rfl), trivial⟩ ⟨hq.1, hq.2.1, (hq.2.2.sift fun y hy => Or.inr (N y hy)).mono (by decide) (by decide)⟩⟩
theorem main_1_1 : Claimed_1_1 := comes_1 fun _ _ _ _ _ _ h hF => ⟨h.1, hF⟩
theorem main_1_2 : Claimed_1_2 := comes_1 fun _ _ _ _ _ _ h hF => ⟨h.2.1, hF⟩
end Jvm.Pilot.@@N@@
namespace Jvm.Pilot.@@N@@
open Jvm Jvm.ClassFile Sem Op Lib Jvm.Free Jvm.Stand Jvm.Pilot.@@N@@.Jvm.D
/-! MADE BY PROGRAM (witnessworld.py) out of the Statement's table words and the real class files: 12 classes; the members and pool entries that the words name. The judged class is class 1, her method 1. -/
namespace start1
open Jvm.ClassFile
def u (s : String) : CpInfo := .utf8 (stringToUtf16 s)
/-- a pool by its gaps: so many unusable entries, then the entry; so many at the end -/
def gap : Nat → List CpInfo → List CpInfo
  | 0, r => r
  | n + 1, r => .unusable :: gap n r
def poolList (es : List (Nat × CpInfo)) (last : Nat) : List CpInfo := es.foldr (fun e r => gap e.1 (e.2 :: r)) (gap last [])
def pool (es : List (Nat × CpInfo)) (last : Nat) : Array CpInfo := ⟨poolList es last⟩
def fileOf (pool : Array CpInfo) (this : Nat) (attrs : Array Attribute := #[]) (ms : Array MethodInfo := #[]) (fl : Nat := 33) (sup : Nat := 0) (ifs : Array Nat := #[]) (fds : Array FieldInfo := #[]) : ClassFile where
  minorVersion := 0
  majorVersion := 65
  constantPool := pool
  accessFlags := fl
  thisClass := this
  superClass := sup
  interfaces := ifs
  fields := fds
  methods := ms
  attributes := attrs
def plain (name : String) (sup : Option ClassId) : Class where
  name := name
  kind := .ordinary
  loader := none
  accessFlags := 33
  super := sup
  interfaces := #[]
  cf := none
  fields := #[]
  methods := #[]
  instanceTypes := #[]
  staticTypes := #[]
  resolved := #[]
  callSites := []
  init := .initialized
  statics := none
  mirror := none

def pool0 : Array CpInfo := pool [(5, u "<init>"), (0, u "()V"), (1, .class_ 10), (1, u "java/lang/Object")] 113

def k0m0 : Method := { name := "<init>", desc := "()V", sig := { parameters := [], returnType := none }, accessFlags := 1, code := none }
/-- java/lang/Object -/
def k0 : Class := { plain "java/lang/Object" none with
  accessFlags := 33
  interfaces := #[]
  cf := some (fileOf pool0 8 #[] #[{ accessFlags := 1, nameIndex := 5, descriptorIndex := 6, attributes := #[] }] 33 0 #[] #[])
  fields := #[]
  methods := #[k0m0]
  instanceTypes := #[]
  staticTypes := #[]
  resolved := Array.replicate 124 none
  statics := none }

def pool1 : Array CpInfo := pool [(2, .class_ 4), (1, u "java/lang/Object"), (0, u "<init>"), (0, u "()V"), (0, .class_ 8), (0, u "com/example/strumyk/strumyk/message/WhitespaceIsXmlWhitespacePinLaw"), (0, .long 4294977024), (1, .methodref 12 13), (0, .class_ 14), (0, .nameAndType 15 16), (0, u "com/example/strumyk/strumyk/message/Whitespace"), (0, u "isXmlWhitespace"), (0, u "(C)Z"), (0, u "WS_BITS"), (0, u "J"), (3, u "law"), (0, u "(I)Z")] 3

def k1m0 : Method := { name := "<init>", desc := "()V", sig := { parameters := [], returnType := none }, accessFlags := 2, code := none }
def k1c1 : Code := { maxStack := 4, maxLocals := 4, code := code, exceptionTable := #[], attributes := #[] }
def k1m1 : Method := { name := "law", desc := "(I)Z", sig := { parameters := [.int], returnType := some .boolean }, accessFlags := 9, code := some k1c1 }
/-- com/example/strumyk/strumyk/message/WhitespaceIsXmlWhitespacePinLaw -/
def k1 : Class := { plain "com/example/strumyk/strumyk/message/WhitespaceIsXmlWhitespacePinLaw" (some 0) with
  accessFlags := 49
  interfaces := #[]
  cf := some (fileOf pool1 7 #[] #[{ accessFlags := 2, nameIndex := 5, descriptorIndex := 6, attributes := #[] }, { accessFlags := 9, nameIndex := 22, descriptorIndex := 23, attributes := #[] }] 49 2 #[] #[{ accessFlags := 26, nameIndex := 17, descriptorIndex := 18, attributes := #[] }])
  fields := #[{ name := "WS_BITS", type := .long, accessFlags := 26, slot := 0, constantValue := 0 }]
  methods := #[k1m0, k1m1]
  instanceTypes := #[]
  staticTypes := #[.long]
  resolved := Array.replicate 27 none
  statics := none }

def pool2 : Array CpInfo := pool [(1, .class_ 2), (0, u "java/lang/constant/Constable"), (0, .class_ 4), (0, u "java/lang/Object")] 6

/-- java/lang/constant/Constable -/
def k2 : Class := { plain "java/lang/constant/Constable" (some 0) with
  accessFlags := 1537
  interfaces := #[]
  cf := some (fileOf pool2 1 #[] #[] 1537 3 #[] #[])
  fields := #[]
  methods := #[]
  instanceTypes := #[]
  staticTypes := #[]
  resolved := Array.replicate 11 none
  statics := none }

def pool3 : Array CpInfo := pool [(1, .class_ 2), (0, u "java/lang/Comparable"), (0, .class_ 4), (0, u "java/lang/Object")] 7

/-- java/lang/Comparable -/
def k3 : Class := { plain "java/lang/Comparable" (some 0) with
  accessFlags := 1537
  interfaces := #[]
  cf := some (fileOf pool3 1 #[] #[] 1537 3 #[] #[])
  fields := #[]
  methods := #[]
  instanceTypes := #[]
  staticTypes := #[]
  resolved := Array.replicate 12 none
  statics := none }

def pool4 : Array CpInfo := pool [(1, .class_ 2), (0, u "java/io/Serializable"), (0, .class_ 4), (0, u "java/lang/Object")] 2

/-- java/io/Serializable -/
def k4 : Class := { plain "java/io/Serializable" (some 0) with
  accessFlags := 1537
  interfaces := #[]
  cf := some (fileOf pool4 1 #[] #[] 1537 3 #[] #[])
  fields := #[]
  methods := #[]
  instanceTypes := #[]
  staticTypes := #[]
  resolved := Array.replicate 7 none
  statics := none }

def pool5 : Array CpInfo := pool [(2, .class_ 4), (1, u "java/lang/Enum"), (0, u "name"), (0, u "Ljava/lang/String;"), (2, u "ordinal"), (0, u "I"), (1, .class_ 14), (1, u "java/lang/Object"), (4, u "hash"), (86, .class_ 108), (1, u "java/lang/Enum$EnumDesc"), (2, .class_ 112), (0, u "java/lang/constant/Constable"), (0, .class_ 114), (0, u "java/lang/Comparable"), (0, .class_ 116), (0, u "java/io/Serializable")] 87

/-- java/lang/Enum -/
def k5 : Class := { plain "java/lang/Enum" (some 0) with
  accessFlags := 1057
  interfaces := #[2, 3, 4]
  cf := some (fileOf pool5 2 #[.nestMembers #[106]] #[] 1057 12 #[111, 113, 115] #[{ accessFlags := 18, nameIndex := 5, descriptorIndex := 6, attributes := #[] }, { accessFlags := 18, nameIndex := 9, descriptorIndex := 10, attributes := #[] }, { accessFlags := 2, nameIndex := 19, descriptorIndex := 10, attributes := #[] }])
  fields := #[{ name := "name", type := (.object "java/lang/String"), accessFlags := 18, slot := 0, constantValue := 0 }, { name := "ordinal", type := .int, accessFlags := 18, slot := 1, constantValue := 0 }, { name := "hash", type := .int, accessFlags := 2, slot := 2, constantValue := 0 }]
  methods := #[]
  instanceTypes := #[(.object "java/lang/String"), .int, .int]
  staticTypes := #[]
  resolved := Array.replicate 204 none
  statics := none }

def pool6 : Array CpInfo := pool [(1, .class_ 2), (0, u "com/example/strumyk/strumyk/message/Whitespace"), (2, u "PRESERVE"), (0, u "Lcom/example/strumyk/strumyk/message/Whitespace;"), (2, u "COLLAPSE"), (2, u "$VALUES"), (0, u "[Lcom/example/strumyk/strumyk/message/Whitespace;"), (6, .class_ 22), (1, u "java/lang/Enum"), (18, u "isXmlWhitespace"), (0, u "(C)Z"), (4, .class_ 48), (0, u "com/example/strumyk/strumyk/message/Whitespace$1"), (2, .class_ 52), (0, u "com/example/strumyk/strumyk/message/Whitespace$2"), (24, .class_ 78), (0, u "com/example/strumyk/strumyk/message/Whitespace$Applier")] 3

def k6c0 : Code := { maxStack := 2, maxLocals := 1, code := prog_60_method_5_code, exceptionTable := #[], attributes := #[] }
def k6m0 : Method := { name := "isXmlWhitespace", desc := "(C)Z", sig := { parameters := [.char], returnType := some .boolean }, accessFlags := 9, code := some k6c0 }
/-- com/example/strumyk/strumyk/message/Whitespace -/
def k6 : Class := { plain "com/example/strumyk/strumyk/message/Whitespace" (some 5) with
  accessFlags := 17441
  interfaces := #[]
  cf := some (fileOf pool6 1 #[.nestMembers #[77, 51, 47]] #[{ accessFlags := 9, nameIndex := 41, descriptorIndex := 42, attributes := #[] }] 17441 20 #[] #[{ accessFlags := 16409, nameIndex := 5, descriptorIndex := 6, attributes := #[] }, { accessFlags := 16409, nameIndex := 9, descriptorIndex := 6, attributes := #[] }, { accessFlags := 4122, nameIndex := 12, descriptorIndex := 13, attributes := #[] }])
  fields := #[{ name := "PRESERVE", type := (.object "com/example/strumyk/strumyk/message/Whitespace"), accessFlags := 16409, slot := 0, constantValue := 0 }, { name := "COLLAPSE", type := (.object "com/example/strumyk/strumyk/message/Whitespace"), accessFlags := 16409, slot := 1, constantValue := 0 }, { name := "$VALUES", type := (.array (.object "com/example/strumyk/strumyk/message/Whitespace")), accessFlags := 4122, slot := 2, constantValue := 0 }]
  methods := #[k6m0]
  instanceTypes := #[(.object "java/lang/String"), .int, .int]
  staticTypes := #[(.object "com/example/strumyk/strumyk/message/Whitespace"), (.object "com/example/strumyk/strumyk/message/Whitespace"), (.array (.object "com/example/strumyk/strumyk/message/Whitespace"))]
  resolved := Array.replicate 82 none
  statics := none }

def pool7 : Array CpInfo := pool [(1, u "java/lang/Cloneable"), (0, .class_ 1), (0, u "java/lang/Object"), (0, .class_ 3)] 3

/-- java/lang/Cloneable -/
def k7 : Class := { plain "java/lang/Cloneable" (some 0) with
  accessFlags := 1537
  interfaces := #[]
  cf := some (fileOf pool7 2 #[] #[] 1537 4 #[] #[])
  fields := #[]
  methods := #[]
  instanceTypes := #[]
  staticTypes := #[]
  resolved := Array.replicate 8 none
  statics := none }

/-- the primitive byte -/
def k8 : Class := { plain "byte" none with kind := .primitive 'B', accessFlags := 0x411 }
/-- [B -/
def k9 : Class := { plain "[B" (some 0) with kind := .array 8 .byte, interfaces := #[7, 4], accessFlags := 1041 }

/-- the primitive int -/
def k10 : Class := { plain "int" none with kind := .primitive 'I', accessFlags := 0x411 }
/-- [I -/
def k11 : Class := { plain "[I" (some 0) with kind := .array 10 .int, interfaces := #[7, 4], accessFlags := 1041 }

def heap : Heap := #[]
def classes : Array Class := #[k0, k1, k2, k3, k4, k5, k6, k7, k8, k9, k10, k11]
def interned : List (Array UInt16 × Addr) := []
def slotsUsed : Nat := 0
def theMethod : MethodId := ⟨1, 1⟩
def args0 : Array Value := #[.int 9]
def aboutOver (below : List Frame) : State where
  vm := { classes := classes, interned := interned.toArray }
  heap := heap
  slotsUsed := slotsUsed
  threads := #[{ frames := .invoking theMethod args0 :: below }]
def below0 : List Frame := [.native { method := ⟨0, 0⟩, args := #[] }]
def about1 : State := aboutOver below0
def p0 : Program := .bare "" "" ""
def e0 : Env := launch0.env 0 0 0
theorem w_frames : about1.frames = Frame.invoking theMethod args0 :: below0 := rfl
set_option maxRecDepth 65536 in
theorem w_args : argsFit about1.vm theMethod args0 = true := by decide +kernel
set_option maxRecDepth 65536 in
theorem w_heap : heapFits about1 = true := by decide +kernel
set_option maxRecDepth 65536 in
theorem w_runnable : about1.curStatus? = some .runnable := by decide +kernel
set_option maxRecDepth 65536 in
theorem w_alone : about1.alone = true := by decide +kernel
set_option maxRecDepth 65536 in
theorem w_named : about1.methodNamed? x = some theMethod := by decide +kernel
set_option maxRecDepth 65536 in
theorem w_hears : about1.hears theMethod below0 = true := by decide +kernel
set_option maxRecDepth 65536 in
theorem w_ripe : about1.ripe theMethod args0 below0 = true := by decide +kernel
theorem w_running : about1.status = .running := rfl
set_option maxRecDepth 65536 in
theorem w_room : about1.hasRoom e0.platform room_1 = true :=
  launch0.hasRoom_least _ room_1 (by decide +kernel) (by decide +kernel) (by decide +kernel) (by decide +kernel) (by decide +kernel) (by decide +kernel)
theorem allAtoms_all (ts : List Jvm.Cond) (a : Array Jvm.Value) (st : Jvm.State) : (allAtoms ts).before a st = ts.all (fun c => c.before a st) := by
  induction ts with
  | nil => rfl
  | cons c t ih =>
    show (Jvm.Cond.and c (allAtoms t)).before a st = _
    rw [Jvm.Cond.before_and, ih, List.all_cons]
def words1 : List Jvm.Cond := Jvm.Cond.code x code maxLocals ret :: tables_1
/-- a 'code' word, met by the world's own term for the bytes: nothing is compared byte by byte -/
theorem code_word {y : MethodName} {bytes : ByteArray} {mx : Nat} {rt : Option FieldType} {a : Array Value} {s : State} {m : MethodId} {meth : Method} {c : Code} (h1 : s.methodNamed? y = some m) (h2 : s.vm.method? m = some meth) (h3 : meth.code = some c) (h4 : c.code = bytes)
    (h5 : (c.maxLocals == mx && c.exceptionTable.isEmpty && decide (c.maxStack ≤ mostOperands) && decide (meth.sig.returnType = rt) && !meth.locks && decide (parseMethodDescriptor y.desc = some meth.sig)) = true) : (Jvm.Cond.code y bytes mx rt).before a s = true := by
  simp only [Bool.and_eq_true, beq_iff_eq, Bool.not_eq_true', decide_eq_true_eq] at h5
  obtain ⟨⟨⟨⟨⟨g1, g2⟩, g3⟩, g4⟩, g5⟩, g6⟩ := h5
  simp [Cond.before, Cond.holds, Cond.value, h1, h2, h3, h4, g1, g2, g3, g4, g5, g6]
def isCode : Jvm.Cond → Bool
  | .code _ _ _ _ => true
  | _ => false
theorem all_split {L : List Jvm.Cond} {P : Jvm.Cond → Bool} (h1 : L.all (fun c => isCode c || P c) = true) (h2 : ∀ c ∈ L.filter isCode, P c = true) : L.all P = true := by
  refine List.all_eq_true.mpr fun c hc => ?_
  have h := List.all_eq_true.mp h1 c hc
  rcases Bool.eq_false_or_eq_true (isCode c) with hi | hi
  · exact h2 c (List.mem_filter.mpr ⟨hc, hi⟩)
  · simpa [hi] using h
set_option maxRecDepth 65536 in
theorem w_c0 : (Jvm.Cond.code x code maxLocals ret).before args0 about1 = true := code_word (m := ⟨1, 1⟩) (meth := k1m1) (c := k1c1) (by decide +kernel) rfl rfl rfl (by decide +kernel)
set_option maxRecDepth 65536 in
theorem w_c1 : (Jvm.Cond.code ({ cls := "com/example/strumyk/strumyk/message/Whitespace", name := "isXmlWhitespace", desc := "(C)Z" } : Jvm.MethodName) prog_60_method_5_code (1 : Nat) (Option.some Jvm.ClassFile.FieldType.boolean)).before args0 about1 = true := code_word (m := ⟨6, 0⟩) (meth := k6m0) (c := k6c0) (by decide +kernel) rfl rfl rfl (by decide +kernel)
def codes1 : List Jvm.Cond := [Jvm.Cond.code x code maxLocals ret, Jvm.Cond.code ({ cls := "com/example/strumyk/strumyk/message/Whitespace", name := "isXmlWhitespace", desc := "(C)Z" } : Jvm.MethodName) prog_60_method_5_code (1 : Nat) (Option.some Jvm.ClassFile.FieldType.boolean)]
set_option maxRecDepth 65536 in
theorem codes_eq : words1.filter isCode = codes1 := rfl
theorem w_codes : ∀ c ∈ words1.filter isCode, c.before args0 about1 = true := by
  rw [codes_eq]
  intro c hc
  simp only [codes1, List.mem_cons, List.not_mem_nil, or_false] at hc
  rcases hc with rfl | rfl
  · exact w_c0
  · exact w_c1
set_option maxRecDepth 65536 in
theorem w_t1 : words1.all (fun c => isCode c || c.before args0 about1) = true := by decide +kernel
theorem w_tables : (allAtoms (Jvm.Cond.code x code maxLocals ret :: tables_1)).before args0 about1 = true := by
  rw [allAtoms_all]
  show words1.all (fun c => c.before args0 about1) = true
  refine all_split ?_ w_codes
  rw [w_t1]
set_option maxRecDepth 65536 in
theorem w_case : (Jvm.Cond.and given_1 narrow_1).before args0 about1 = true := by decide +kernel
theorem w_applies : (headSpec (Jvm.Cond.code x code maxLocals ret :: tables_1) room_1).applies x e0.platform about1 = true :=
  (Spec.applies_iff w_frames).mpr ⟨w_running, w_runnable, w_alone, w_named, w_hears, w_ripe, w_room, w_tables⟩
theorem atStart : AtStart classFile x code maxLocals ret World_1 tables_1 room_1 Calls_1 rest_1 Pre_1 launch0 p0 e0 about1 theMethod args0 below0 :=
  ⟨lists_1, trivial, launch0.admits_env _ _ _, launch0.least_env, fairChoices_fair.cas, fairChoices_fair.clock, w_frames, w_args, w_heap, w_applies, trivial, trivial, w_case⟩
end start1
theorem witness_1 : WitnessClaimed_1 := ⟨start1.p0, start1.e0, start1.about1, start1.theMethod, start1.args0, start1.below0, start1.atStart⟩
end Jvm.Pilot.@@N@@
