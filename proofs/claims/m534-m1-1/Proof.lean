import JvmDerived
import JvmDerived.Pilot.@@N@@Statement
import JvmDerived.Pilot.@@N@@Code
set_option linter.unusedVariables false
set_option linter.unusedSimpArgs false
namespace Jvm.RoadKit
open Sem ClassFile Op Lib Jvm.Stand Jvm.Free Jvm.LawKit
section New
variable {p : Program} {l : Launch} {e : Env} {R : Room} {s : State} {m : MethodId} {args : Array Value} {below : List Frame} {meth : Method} {c : Code} {T : State} {locs : List Loc} {cells slots : Nat}
theorem retI (X : Stand p l e R s m args below meth c T locs cells slots) (hx : p.tables.exec = Jvm.exec) {pc : Nat} {Ls : Array Slot} {z : Int32} {rest : List Value} (hret : meth.sig.returnType = some .int) (hd : decode c.code pc = .ok (.ireturn, 1)) {fs : List Frame}
    (hl : ∀ (f : JFrame) (acts : List Action), f.method = m → f.locked = none → f.entered = [] → (doReturn e (T.setTop f) acts (some (.int z))).1 = T.setFrames fs) : Steps p.tables e below (T.setTop (mkF m pc Ls (.int z :: rest))) (T.setFrames fs) :=
  retOut X hx hret rfl (Or.inl ⟨rfl, Or.inl rfl, _, rfl⟩) hd hl
theorem own_sta_keep {Z : State} {h h' : Heap} {C n d : String} {w : Value} {ws : List Addr} (F : Sta Z h C n d w) (K : Keep h h' ws) (ns : ∀ x ∈ ws, ∀ cell : Cell, h[x]? = some cell → cell.vm.isStatics = false) : Sta Z h' C n d w := by
  obtain ⟨cf, i, k, f, st, cell, h1, h2, h3, h4, h5, h6, h7⟩ := F
  refine ⟨cf, i, k, f, st, cell, h1, h2, h3, h4, K.2.1 st cell h5 (fun hm => ?_), h6, h7⟩
  rw [ns st hm cell h5] at h6
  cases h6
theorem own_selp {s : State} {args : Array Value} {w y : MethodName} (hs : (Cond.selects w.cls w w).before args s = true) (e : w.cls = y.cls) (hp : s.PrivateAt y) (hi : (Cond.instanceMethod y).before args s = true) (hy : y.cls ≠ "java/lang/invoke/MethodHandle" ∧ y.cls ≠ "java/lang/invoke/VarHandle") : (Cond.selects y.cls y y).before args s = true := by
  obtain ⟨c2, r2, m2, q1, q2, q3, q4, kP, hkP, hkPi⟩ := Cond.selects_spec hs
  exact selects_self_of_private (c := m2.cls) (by rw [← e]; exact findClass_of_methodNamed q3) hkP hkPi hp hi hy
end New
end Jvm.RoadKit
namespace Jvm.Pilot.@@N@@
open Jvm Jvm.ClassFile Sem Op Lib Jvm.Free Jvm.Stand Jvm.LawKit Jvm.RoadKit Bundle Jvm.Pilot.@@N@@.Jvm.D
theorem d1_0 : decode prog_19_method_1_code 0 = .ok (.aload_n 0, 1) := by decide +kernel
theorem d1_1 : decode prog_19_method_1_code 1 = .ok (.invokespecial 1, 3) := by decide +kernel
theorem d1_4 : decode prog_19_method_1_code 4 = .ok (.iload_n 1, 1) := by decide +kernel
theorem d1_5 : decode prog_19_method_1_code 5 = .ok (.iconst 1, 1) := by decide +kernel
theorem d1_6 : decode prog_19_method_1_code 6 = .ok (.if_icmp .ge 17, 3) := by decide +kernel
theorem d1_23 : decode prog_19_method_1_code 23 = .ok (.aload_n 0, 1) := by decide +kernel
theorem d1_24 : decode prog_19_method_1_code 24 = .ok (.iload_n 1, 1) := by decide +kernel
theorem d1_25 : decode prog_19_method_1_code 25 = .ok (.newarray .long, 2) := by decide +kernel
theorem d1_27 : decode prog_19_method_1_code 27 = .ok (.putfield 16, 3) := by decide +kernel
theorem d1_30 : decode prog_19_method_1_code 30 = .ok (.return_, 1) := by decide +kernel
theorem d3_0 : decode prog_19_method_3_code 0 = .ok (.aload_n 0, 1) := by decide +kernel
theorem d3_1 : decode prog_19_method_3_code 1 = .ok (.getfield 29, 3) := by decide +kernel
theorem d3_4 : decode prog_19_method_3_code 4 = .ok (.ifCond .ne 7, 3) := by decide +kernel
theorem d3_7 : decode prog_19_method_3_code 7 = .ok (.iconst 1, 1) := by decide +kernel
theorem d3_8 : decode prog_19_method_3_code 8 = .ok (.goto 4, 3) := by decide +kernel
theorem d3_11 : decode prog_19_method_3_code 11 = .ok (.iconst 0, 1) := by decide +kernel
theorem d3_12 : decode prog_19_method_3_code 12 = .ok (.ireturn, 1) := by decide +kernel
theorem d4_0 : decode method_3_code 0 = .ok (.aload_n 0, 1) := by decide +kernel
theorem d4_1 : decode method_3_code 1 = .ok (.lload_n 1, 1) := by decide +kernel
theorem d4_2 : decode method_3_code 2 = .ok (.invokevirtual 31, 3) := by decide +kernel
theorem d4_5 : decode method_3_code 5 = .ok (.aload_n 0, 1) := by decide +kernel
theorem d4_6 : decode method_3_code 6 = .ok (.invokevirtual 21, 3) := by decide +kernel
theorem d4_9 : decode method_3_code 9 = .ok (.ifCond .ne 7, 3) := by decide +kernel
theorem d4_12 : decode method_3_code 12 = .ok (.iconst 1, 1) := by decide +kernel
theorem d4_13 : decode method_3_code 13 = .ok (.goto 4, 3) := by decide +kernel
theorem d4_17 : decode method_3_code 17 = .ok (.ireturn, 1) := by decide +kernel
theorem d5_0 : decode prog_19_method_2_code 0 = .ok (.lload_n 1, 1) := by decide +kernel
theorem d5_1 : decode prog_19_method_2_code 1 = .ok (.lconst 0, 1) := by decide +kernel
theorem d5_2 : decode prog_19_method_2_code 2 = .ok (.lcmp, 1) := by decide +kernel
theorem d5_3 : decode prog_19_method_2_code 3 = .ok (.ifCond .lt 11, 3) := by decide +kernel
theorem d5_6 : decode prog_19_method_2_code 6 = .ok (.lload_n 1, 1) := by decide +kernel
theorem d5_7 : decode prog_19_method_2_code 7 = .ok (.ldc2_w 24, 3) := by decide +kernel
theorem d5_10 : decode prog_19_method_2_code 10 = .ok (.lcmp, 1) := by decide +kernel
theorem d5_11 : decode prog_19_method_2_code 11 = .ok (.ifCond .le 17, 3) := by decide +kernel
theorem d5_28 : decode prog_19_method_2_code 28 = .ok (.aload_n 0, 1) := by decide +kernel
theorem d5_29 : decode prog_19_method_2_code 29 = .ok (.getfield 29, 3) := by decide +kernel
theorem d5_32 : decode prog_19_method_2_code 32 = .ok (.aload_n 0, 1) := by decide +kernel
theorem d5_33 : decode prog_19_method_2_code 33 = .ok (.getfield 16, 3) := by decide +kernel
theorem d5_36 : decode prog_19_method_2_code 36 = .ok (.arraylength, 1) := by decide +kernel
theorem d5_37 : decode prog_19_method_2_code 37 = .ok (.if_icmp .ge 37, 3) := by decide +kernel
theorem d5_40 : decode prog_19_method_2_code 40 = .ok (.aload_n 0, 1) := by decide +kernel
theorem d5_41 : decode prog_19_method_2_code 41 = .ok (.getfield 16, 3) := by decide +kernel
theorem d5_44 : decode prog_19_method_2_code 44 = .ok (.aload_n 0, 1) := by decide +kernel
theorem d5_45 : decode prog_19_method_2_code 45 = .ok (.getfield 33, 3) := by decide +kernel
theorem d5_48 : decode prog_19_method_2_code 48 = .ok (.aload_n 0, 1) := by decide +kernel
theorem d5_49 : decode prog_19_method_2_code 49 = .ok (.getfield 29, 3) := by decide +kernel
theorem d5_52 : decode prog_19_method_2_code 52 = .ok (.iadd, 1) := by decide +kernel
theorem d5_53 : decode prog_19_method_2_code 53 = .ok (.aload_n 0, 1) := by decide +kernel
theorem d5_54 : decode prog_19_method_2_code 54 = .ok (.getfield 16, 3) := by decide +kernel
theorem d5_57 : decode prog_19_method_2_code 57 = .ok (.arraylength, 1) := by decide +kernel
theorem d5_58 : decode prog_19_method_2_code 58 = .ok (.irem, 1) := by decide +kernel
theorem d5_59 : decode prog_19_method_2_code 59 = .ok (.lload_n 1, 1) := by decide +kernel
theorem d5_60 : decode prog_19_method_2_code 60 = .ok (.lastore, 1) := by decide +kernel
theorem d5_61 : decode prog_19_method_2_code 61 = .ok (.aload_n 0, 1) := by decide +kernel
theorem d5_62 : decode prog_19_method_2_code 62 = .ok (.dup, 1) := by decide +kernel
theorem d5_63 : decode prog_19_method_2_code 63 = .ok (.getfield 29, 3) := by decide +kernel
theorem d5_66 : decode prog_19_method_2_code 66 = .ok (.iconst 1, 1) := by decide +kernel
theorem d5_67 : decode prog_19_method_2_code 67 = .ok (.iadd, 1) := by decide +kernel
theorem d5_68 : decode prog_19_method_2_code 68 = .ok (.putfield 29, 3) := by decide +kernel
theorem d5_71 : decode prog_19_method_2_code 71 = .ok (.goto 29, 3) := by decide +kernel
theorem d5_74 : decode prog_19_method_2_code 74 = .ok (.aload_n 0, 1) := by decide +kernel
theorem d5_75 : decode prog_19_method_2_code 75 = .ok (.getfield 16, 3) := by decide +kernel
theorem d5_78 : decode prog_19_method_2_code 78 = .ok (.aload_n 0, 1) := by decide +kernel
theorem d5_79 : decode prog_19_method_2_code 79 = .ok (.getfield 33, 3) := by decide +kernel
theorem d5_82 : decode prog_19_method_2_code 82 = .ok (.lload_n 1, 1) := by decide +kernel
theorem d5_83 : decode prog_19_method_2_code 83 = .ok (.lastore, 1) := by decide +kernel
theorem d5_84 : decode prog_19_method_2_code 84 = .ok (.aload_n 0, 1) := by decide +kernel
theorem d5_85 : decode prog_19_method_2_code 85 = .ok (.aload_n 0, 1) := by decide +kernel
theorem d5_86 : decode prog_19_method_2_code 86 = .ok (.getfield 33, 3) := by decide +kernel
theorem d5_89 : decode prog_19_method_2_code 89 = .ok (.iconst 1, 1) := by decide +kernel
theorem d5_90 : decode prog_19_method_2_code 90 = .ok (.iadd, 1) := by decide +kernel
theorem d5_91 : decode prog_19_method_2_code 91 = .ok (.aload_n 0, 1) := by decide +kernel
theorem d5_92 : decode prog_19_method_2_code 92 = .ok (.getfield 16, 3) := by decide +kernel
theorem d5_95 : decode prog_19_method_2_code 95 = .ok (.arraylength, 1) := by decide +kernel
theorem d5_96 : decode prog_19_method_2_code 96 = .ok (.irem, 1) := by decide +kernel
theorem d5_97 : decode prog_19_method_2_code 97 = .ok (.putfield 33, 3) := by decide +kernel
theorem d5_100 : decode prog_19_method_2_code 100 = .ok (.return_, 1) := by decide +kernel
theorem pn_0 : plainName "com/example/attentive_poll/attentivepoll/policy/GapWindow" = true := by first | (simp [plainName, overriddenIn]; done) | decide +kernel
theorem pn_1 : plainName "com/example/attentive_poll/attentivepoll/policy/GapWindowIsEmptyPinLaw" = true := by first | (simp [plainName, overriddenIn]; done) | decide +kernel
theorem pd_2 : parseMethodDescriptor "(J)V" = some ⟨[.long], none⟩ := by decide +kernel
theorem pd_3 : parseMethodDescriptor "()Z" = some ⟨[], some .boolean⟩ := by decide +kernel
theorem pd_4 : parseMethodDescriptor "(I)V" = some ⟨[.int], none⟩ := by decide +kernel
theorem pd_5 : parseMethodDescriptor "(Lcom/example/attentive_poll/attentivepoll/policy/GapWindow;J)Z" = some ⟨[(.object "com/example/attentive_poll/attentivepoll/policy/GapWindow"), .long], some .boolean⟩ := by decide +kernel
def own_b (P : Prop) [Decidable P] : Int32 := if P then 1 else 0
theorem own_q0 {q : Int64} (h : 0 ≤ q.toInt) (h2 : q < 0) : False := by
  rw [Int64.lt_iff_toInt_lt] at h2
  have z : (0 : Int64).toInt = 0 := rfl
  omega
theorem own_q1 {q : Int64} (h : q.toInt ≤ 315569519999) (h2 : (315569519999 : Int64) < q) : False := by
  rw [Int64.lt_iff_toInt_lt] at h2
  have z : (315569519999 : Int64).toInt = 315569519999 := rfl
  omega
theorem own_nz {n : Int32} (h : 1 ≤ n.toInt) : n ≠ 0 := by
  rintro rfl
  revert h
  decide
theorem own_in {n j : Int32} (h : 0 ≤ j.toInt ∧ j.toInt < n.toInt) : ¬ j < 0 ∧ j < n := by
  simp only [Int32.lt_iff_toInt_lt]
  have z : (0 : Int32).toInt = 0 := rfl
  omega
theorem own_rem {n j x : Int32} (hn : 1 ≤ n.toInt) (hx : 0 ≤ x.toInt) (e : j = x % n) : 0 ≤ j.toInt ∧ j.toInt < n.toInt := by
  have h := (c_iremV x n).1 hx (by omega)
  rw [← e] at h
  exact ⟨h.1, h.2.1⟩
theorem own_rem2 {n sz st j : Int32} (hn : 1 ≤ n.toInt ∧ n.toInt ≤ 3) (hsz : 0 ≤ sz.toInt ∧ sz.toInt ≤ n.toInt) (hst : 0 ≤ st.toInt ∧ st.toInt < n.toInt) (hs : sz < n) (e : j = (st + sz) % n) : ¬ j < 0 ∧ j < n := by
  have h := c_iadd st sz
  have r := rng32 (st + sz)
  exact own_in (own_rem hn.1 (by omega) e)
theorem own_rem1 {n st j : Int32} (hn : 1 ≤ n.toInt ∧ n.toInt ≤ 3) (hst : 0 ≤ st.toInt ∧ st.toInt < n.toInt) (e : j = (st + (1 : Int32)) % n) : 0 ≤ j.toInt ∧ j.toInt < n.toInt := by
  have h := c_iadd st 1
  have z : (1 : Int32).toInt = 1 := rfl
  have r := rng32 (st + 1)
  exact own_rem hn.1 (by omega) e
theorem own_inc {n sz s2 : Int32} (hn : 1 ≤ n.toInt ∧ n.toInt ≤ 3) (hsz : 0 ≤ sz.toInt ∧ sz.toInt ≤ n.toInt) (hs : sz < n) (e : s2 = sz + (1 : Int32)) : 1 ≤ s2.toInt ∧ s2.toInt ≤ n.toInt := by
  rw [Int32.lt_iff_toInt_lt] at hs
  have h := c_iadd sz 1
  have z : (1 : Int32).toInt = 1 := rfl
  have r := rng32 (sz + 1)
  rw [← e] at h r
  omega
theorem own_full {n sz : Int32} (hn : 1 ≤ n.toInt ∧ n.toInt ≤ 3) (hsz : 0 ≤ sz.toInt ∧ sz.toInt ≤ n.toInt) (hs : ¬ sz < n) : 1 ≤ sz.toInt ∧ sz.toInt ≤ n.toInt := by
  rw [Int32.lt_iff_toInt_lt] at hs
  omega
theorem own_ne0 {s : Int32} (h : 1 ≤ s.toInt) : own_b (s = 0) = 0 := by
  have : ¬ s = 0 := own_nz h
  simp [own_b, this]
theorem own_cp {p c : Int32} (e : c = ((1 : Int32) + ((p &&& (2147483647 : Int32)) % (3 : Int32)))) : 1 ≤ c.toInt ∧ c.toInt ≤ 3 := by
  have h1 := c_mask p 2147483647 31 (by decide) (by decide)
  have h3 := (c_irem (p &&& (2147483647 : Int32)) 3 3 rfl).1 (by omega)
  have h4 := c_iadd 1 ((p &&& (2147483647 : Int32)) % (3 : Int32))
  have z : (1 : Int32).toInt = 1 := rfl
  have r := rng32 c
  rw [← e] at h4
  omega
theorem own_k5 {p a : Int32} (e : a = ((p &&& (2147483647 : Int32)) % (5 : Int32))) : a = 0 ∨ a = 1 ∨ a = 2 ∨ a = 3 ∨ a = 4 := by
  have h1 := c_mask p 2147483647 31 (by decide) (by decide)
  have h3 := (c_irem (p &&& (2147483647 : Int32)) 5 5 rfl).1 (by omega)
  rw [← e] at h3
  simp only [← Int32.toInt_inj]
  have z0 : (0 : Int32).toInt = 0 := rfl
  have z1 : (1 : Int32).toInt = 1 := rfl
  have z2 : (2 : Int32).toInt = 2 := rfl
  have z3 : (3 : Int32).toInt = 3 := rfl
  have z4 : (4 : Int32).toInt = 4 := rfl
  omega
theorem own_gap {q g : Int64} (e : g = ((q &&& (9223372036854775807 : Int64)) - ((q &&& (9223372036854775807 : Int64)) / (315569520000 : Int64)) * (315569520000 : Int64))) : 0 ≤ g.toInt ∧ g.toInt ≤ 315569519999 := by
  have h1 := c_maskL q 9223372036854775807 63 (by decide) (by decide)
  have h3 := (c_lrem (q &&& (9223372036854775807 : Int64)) 315569520000 315569520000 rfl).1 (by omega)
  rw [← e] at h3
  omega
abbrev sN0 : String := "com/example/attentive_poll/attentivepoll/policy/GapWindow"
abbrev sN1 : String := "com/example/attentive_poll/attentivepoll/policy/GapWindowIsEmptyPinLaw"
abbrev sN2 : String := "(Lcom/example/attentive_poll/attentivepoll/policy/GapWindow;J)Z"
theorem ef_rmInit (m : MethodId) (x0 : Addr) (x1 : Int32) : entryFrame m #[(.ref x0), (.int x1)] 2 = mkF m 0 #[rv x0, iv x1] [] := by first | (simp [entryFrame, mkF, argsToLocals, Value.category]; done) | rfl
def Q_rmInit (Z : State) (a1 : Addr) (p2 : Int32) (u1 : Value) (h0 : Heap) (n0 : Nat) (v : Option Value) (h : Heap) (L : List Loc) : Prop := ∃ g : Addr, ∃ kk : ClassId, ∃ vs : List Value, v = none ∧ Fr n0 L ∧ Keep h0 h [a1] ∧ (Fld Z h a1 sN0 "gaps" "[J" (.ref g)) ∧ (Fld Z h a1 sN0 "size" "I" (.int (0 : Int32))) ∧ (Fld Z h a1 sN0 "start" "I" (.int (0 : Int32))) ∧ (Arv Z h g kk .long p2 vs (.long (0 : Int64))) ∧ (n0 ≤ g) ∧ (a1 ≠ g)
set_option maxRecDepth 65536 in
set_option maxHeartbeats 40000000 in
theorem rmInit (l : Launch) (Z : State) (a0 : Array Value) (hw : ∀ d ∈ tables_1, d.before a0 Z = true) (ws : List Jvm.Cond) (a1 : Addr) (p2 : Int32) (u1 : Value) (h0 : Heap) (n0 : Nat) (Z0 : n0 ≤ h0.size) (E_a1 : Exa Z h0 a1 sN0) (F_gaps_a1 : Fld Z h0 a1 sN0 "gaps" "[J" u1) (F_size_a1 : Fld Z h0 a1 sN0 "size" "I" (.int (0 : Int32))) (F_start_a1 : Fld Z h0 a1 sN0 "start" "I" (.int (0 : Int32))) (g_a1 : n0 ≤ a1) (hp : 1 ≤ p2.toInt ∧ p2.toInt ≤ 3) :
    MetFree l (⟨sN0, "<init>", "(I)V"⟩ : MethodName) (head1 (Jvm.Cond.code (⟨sN0, "<init>", "(I)V"⟩ : MethodName) prog_19_method_1_code 2 none :: ws) ({ frames := 1, cells := 1, slots := 3, locals := 12 } : Room)) (fun a U => a = #[(.ref a1), (.int p2)] ∧ Z.Warmed39 U.vm ∧ U.heap = h0) (fun _ _ _ _ _ => True) (fun _ U o U' => ∃ v L, o = .returned v ∧ Q_rmInit Z a1 p2 u1 h0 n0 v U'.heap L ∧ FrameEnd U o U' L ({ frames := 1, cells := 1, slots := 3, locals := 12 } : Room).cells ({ frames := 1, cells := 1, slots := 3, locals := 12 } : Room).slots) := by
  refine MetFree.of_bodySF (plainFor_of_name pn_0) hisR ?_
  intro p e s m args below meth c s₁ Bd hml0 hP hK
  obtain ⟨rfl, hZ, hh⟩ := hP
  have hx := Bd.exec
  have hby := Bd.bytes
  have hml : c.maxLocals = 2 := hml0
  have hown : s.vm.findClass sN0 = some m.cls := findClass_of_methodNamed Bd.named
  have hnm := (name_of_methodNamed Bd.named Bd.method).1
  have X0 : Stand p l e ({ frames := 1, cells := 1, slots := 3, locals := 12 } : Room) s m #[(.ref a1), (.int p2)] below meth c s₁ [] 0 0 := Stand.of_body Bd
  have e0 : s₁.heap = h0 := by rw [← hh, Bd.state]; rfl
  have N0 := Fr.nil n0
  obtain ⟨f0, hf0⟩ : ∃ f : JFrame, f = mkF m 0 #[rv a1, iv p2] [] := ⟨_, rfl⟩
  have pre0 : ∀ t, Steps p.tables e below (s₁.setTop f0) t → Steps p.tables e below (s₁.setTop (entryFrame m #[(.ref a1), (.int p2)] 2)) t := fun t k => castTop ((ef_rmInit m a1 p2).trans hf0.symm) k
  have R0 : ∀ t, Steps p.tables e below (s₁.setTop (mkF m 0 #[rv a1, iv p2] [])) t → Steps p.tables e below (s₁.setTop f0) t := by rw [hf0]; exact fun t k => k
  have R1 : ∀ t, Steps p.tables e below (s₁.setTop (mkF m 1 #[rv a1, iv p2] [(.ref a1)])) t → Steps p.tables e below (s₁.setTop f0) t := fun t k => R0 t (by
    show Steps p.tables e below (s₁.setTop (mkF m 0 #[rv a1, iv p2] [])) _
    refine XS.aloadN X0.here hx rfl (hb hby d1_0) rfl rfl ?_
    exact k)
  obtain ⟨T2, X2, e2, st2⟩ := initO X0 hx hZ hown (hw _ (List.mem_of_getElem? (i := 9) rfl)) (hw _ (List.mem_of_getElem? (i := 10) rfl)) (hw _ (List.mem_of_getElem? (i := 11) rfl)) e0 (g := (mkF m 1 #[rv a1, iv p2] [(.ref a1)])) rfl (by rw [hml]; rfl) rfl (hb hby d1_1) (by decide) (W := 0) (by show 2 * 0 + _ ≤ _; exact Nat.le_of_eq rfl) (by decide)
  have R3 : ∀ t, Steps p.tables e below (T2.setTop (mkF m 4 #[rv a1, iv p2] [])) t → Steps p.tables e below (s₁.setTop f0) t := fun t k => R1 t (st2 t k)
  have R4 : ∀ t, Steps p.tables e below (T2.setTop (mkF m 6 #[rv a1, iv p2] [(.int (1 : Int32)), (.int p2)])) t → Steps p.tables e below (s₁.setTop f0) t := fun t k => R3 t (by
    show Steps p.tables e below (T2.setTop (mkF m 4 #[rv a1, iv p2] [])) _
    refine XS.iloadN X2.here hx rfl (hb hby d1_4) rfl  ?_
    show Steps p.tables e below (T2.setTop (mkF m 5 #[rv a1, iv p2] [(.int p2)])) _
    refine XS.iconst X2.here hx rfl (hb hby d1_5) ?_
    exact k)
  have hn1 : ¬ p2 < 1 := by rw [Int32.lt_iff_toInt_lt]; have z : (1 : Int32).toInt = 1 := rfl; omega
  have hn0 : ¬ p2 < 0 := by rw [Int32.lt_iff_toInt_lt]; have z : (0 : Int32).toInt = 0 := rfl; omega
  have hn3 : p2.toNatClampNeg ≤ 3 := by simp only [Int32.toNatClampNeg]; omega
  have R5 : ∀ t, Steps p.tables e below (T2.setTop (mkF m 25 #[rv a1, iv p2] [(.int p2), (.ref a1)])) t → Steps p.tables e below (s₁.setTop f0) t := fun t k => R4 t (by
    show Steps p.tables e below (T2.setTop (mkF m 6 #[rv a1, iv p2] [(.int (1 : Int32)), (.int p2)])) _
    refine XS.icmpYes X2.here hx rfl (pc0 := 6) (pc' := 23) rfl (hb hby d1_6) rfl (flt hn1).2.1 (by decide) (by decide) ?_
    show Steps p.tables e below (T2.setTop (mkF m 23 #[rv a1, iv p2] [])) _
    refine XS.aloadN X2.here hx rfl (hb hby d1_23) rfl rfl ?_
    show Steps p.tables e below (T2.setTop (mkF m 24 #[rv a1, iv p2] [(.ref a1)])) _
    refine XS.iloadN X2.here hx rfl (hb hby d1_24) rfl  ?_
    exact k)
  obtain ⟨T6, h6, k6, X6, e6, E6, A6, st6⟩ := newP X2 hx hZ (hw _ (List.mem_of_getElem? (i := 12) rfl)) e2 (g := (mkF m 25 #[rv a1, iv p2] [(.int p2), (.ref a1)])) rfl (hb hby d1_25) rfl hn0 (cap := 3) hn3 (by decide) (by decide) (by decide)
  obtain ⟨b6, g6⟩ : ∃ z, z = h0.size := ⟨_, rfl⟩
  rw [← g6] at A6 st6
  have g_b6 : n0 ≤ b6 := Nat.le_trans Z0 (Nat.le_of_eq g6.symm)
  have sz_b6 : h0.size ≤ b6 := Nat.le_trans (Keep.refl h0 [a1]).1 (Nat.le_of_eq g6.symm)
  have ne_a1_b6 : a1 ≠ b6 := Nat.ne_of_lt (Nat.lt_of_lt_of_le E_a1.lt (Nat.le_of_eq g6.symm))
  have f6_E_a1 : Exa Z h6 a1 sN0 := E_a1.ext E6
  have f6_F_gaps_a1 : Fld Z h6 a1 sN0 "gaps" "[J" u1 := F_gaps_a1.ext E6
  have f6_F_size_a1 : Fld Z h6 a1 sN0 "size" "I" (.int (0 : Int32)) := F_size_a1.ext E6
  have f6_F_start_a1 : Fld Z h6 a1 sN0 "start" "I" (.int (0 : Int32)) := F_start_a1.ext E6
  have z6 : n0 ≤ h6.size := Nat.le_trans Z0 E6.1
  have K6 : Keep h0 h6 [a1] := (Keep.refl h0 [a1]).ext E6
  have v6 : Arv Z h6 b6 k6 .long p2 [] (.long (0 : Int64)) := Arv.new A6 hn0
  have R7 : ∀ t, Steps p.tables e below (T6.setTop (mkF m 27 #[rv a1, iv p2] [(.ref b6), (.ref a1)])) t → Steps p.tables e below (s₁.setTop f0) t := fun t k => R5 t (st6 t k)
  obtain ⟨T8, h8, X8, e8, W8, st8⟩ := putF X6 hx hZ hown (host := "") (Or.inl (hw _ (List.mem_of_getElem? (i := 13) rfl))) Via.refl e6 f6_F_gaps_a1 f6_E_a1 (Or.inr ⟨(hw _ (List.mem_of_getElem? (i := 14) rfl)), rfl, hnm⟩) (hw _ (List.mem_of_getElem? (i := 4) rfl)) (ty := (.array .long)) (by decide) rfl rfl (g := (mkF m 27 #[rv a1, iv p2] [(.ref b6), (.ref a1)])) rfl rfl (hb hby d1_27)
  have fw8 : Fld Z h8 a1 sN0 "gaps" "[J" (.ref b6) := f6_F_gaps_a1.same W8
  have f8_E_a1 : Exa Z h8 a1 sN0 := f6_E_a1.wr W8
  have f8_F_size_a1 : Fld Z h8 a1 sN0 "size" "I" (.int (0 : Int32)) := f6_F_size_a1.other W8 (Or.inr (slot_ne (Or.inl (hw _ (List.mem_of_getElem? (i := 21) rfl))) (Or.inr (hw _ (List.mem_of_getElem? (i := 14) rfl))) (by decide) (t := .int) (t' := (.array .long)) (by decide) (by decide)))
  have f8_F_start_a1 : Fld Z h8 a1 sN0 "start" "I" (.int (0 : Int32)) := f6_F_start_a1.other W8 (Or.inr (slot_ne (Or.inl (hw _ (List.mem_of_getElem? (i := 33) rfl))) (Or.inr (hw _ (List.mem_of_getElem? (i := 14) rfl))) (by decide) (t := .int) (t' := (.array .long)) (by decide) (by decide)))
  have f8_A_b6 : Arv Z h8 b6 k6 .long p2 [] (.long (0 : Int64)) := v6.other W8 (Ne.symm ne_a1_b6)
  have z8 : n0 ≤ h8.size := by rw [W8.size]; exact z6
  have K8 : Keep h0 h8 [a1] := K6.wr W8 (Or.inl (List.mem_of_getElem? (i := 0) rfl))
  have N8 := Fr.snoc X8 N0 g_a1
  have R9 : ∀ t, Steps p.tables e below (T8.setTop (mkF m 30 #[rv a1, iv p2] [])) t → Steps p.tables e below (s₁.setTop f0) t := fun t k => R7 t (st8 t k)
  obtain ⟨fs, hr, hrun, hended, hW, hsame⟩ := X8.leave (v := none) (fun _ => rfl)
  refine ⟨_, _, pre0 _ (R9 _ ?_), hrun, hended, _, _, rfl, ?_, ⟨_, rfl⟩, hW, hsame.mono (by decide) (by decide)⟩
  · show Steps p.tables e below (T8.setTop (mkF m 30 #[rv a1, iv p2] [])) _
    exact X8.returnOut hx Bd.returns (hb hby d1_30) hr
  · show Q_rmInit Z a1 p2 u1 h0 n0 _ T8.heap _
    rw [e8]
    exact ⟨b6, k6, [], rfl, N8, K8, fw8, f8_F_size_a1, f8_F_start_a1, f8_A_b6, g_b6, ne_a1_b6⟩
theorem ef_rmEmpty (m : MethodId) (x0 : Addr) : entryFrame m #[(.ref x0)] 1 = mkF m 0 #[rv x0] [] := by first | (simp [entryFrame, mkF, argsToLocals, Value.category]; done) | rfl
def Q_rmEmpty (Z : State) (a1 : Addr) (sz : Int32) (h0 : Heap) (n0 : Nat) (v : Option Value) (h : Heap) (L : List Loc) : Prop := v = some (.int (own_b (sz = 0))) ∧ Fr n0 L ∧ h = h0
set_option maxRecDepth 65536 in
set_option maxHeartbeats 40000000 in
theorem rmEmpty (l : Launch) (Z : State) (a0 : Array Value) (hw : ∀ d ∈ tables_1, d.before a0 Z = true) (ws : List Jvm.Cond) (a1 : Addr) (sz : Int32) (h0 : Heap) (n0 : Nat) (Z0 : n0 ≤ h0.size) (F_size_a1 : Fld Z h0 a1 sN0 "size" "I" (.int sz)) :
    MetFree l (⟨sN0, "isEmpty", "()Z"⟩ : MethodName) (head1 (Jvm.Cond.code (⟨sN0, "isEmpty", "()Z"⟩ : MethodName) prog_19_method_3_code 1 (some .boolean) :: ws) ({ frames := 0, cells := 0, slots := 0, locals := 0 } : Room)) (fun a U => a = #[(.ref a1)] ∧ Z.Warmed39 U.vm ∧ U.heap = h0) (fun _ _ _ _ _ => True) (fun _ U o U' => ∃ v L, o = .returned v ∧ Q_rmEmpty Z a1 sz h0 n0 v U'.heap L ∧ FrameEnd U o U' L ({ frames := 0, cells := 0, slots := 0, locals := 0 } : Room).cells ({ frames := 0, cells := 0, slots := 0, locals := 0 } : Room).slots) := by
  refine MetFree.of_bodySF (plainFor_of_name pn_0) hisR ?_
  intro p e s m args below meth c s₁ Bd hml0 hP hK
  obtain ⟨rfl, hZ, hh⟩ := hP
  have hx := Bd.exec
  have hby := Bd.bytes
  have hml : c.maxLocals = 1 := hml0
  have hown : s.vm.findClass sN0 = some m.cls := findClass_of_methodNamed Bd.named
  have hnm := (name_of_methodNamed Bd.named Bd.method).1
  have X0 : Stand p l e ({ frames := 0, cells := 0, slots := 0, locals := 0 } : Room) s m #[(.ref a1)] below meth c s₁ [] 0 0 := Stand.of_body Bd
  have e0 : s₁.heap = h0 := by rw [← hh, Bd.state]; rfl
  have N0 := Fr.nil n0
  obtain ⟨f0, hf0⟩ : ∃ f : JFrame, f = mkF m 0 #[rv a1] [] := ⟨_, rfl⟩
  have pre0 : ∀ t, Steps p.tables e below (s₁.setTop f0) t → Steps p.tables e below (s₁.setTop (entryFrame m #[(.ref a1)] 1)) t := fun t k => castTop ((ef_rmEmpty m a1).trans hf0.symm) k
  have R0 : ∀ t, Steps p.tables e below (s₁.setTop (mkF m 0 #[rv a1] [])) t → Steps p.tables e below (s₁.setTop f0) t := by rw [hf0]; exact fun t k => k
  have R1 : ∀ t, Steps p.tables e below (s₁.setTop (mkF m 1 #[rv a1] [(.ref a1)])) t → Steps p.tables e below (s₁.setTop f0) t := fun t k => R0 t (by
    show Steps p.tables e below (s₁.setTop (mkF m 0 #[rv a1] [])) _
    refine XS.aloadN X0.here hx rfl (hb hby d3_0) rfl rfl ?_
    exact k)
  obtain ⟨T2, X2, e2, st2⟩ := getF X0 hx hZ hown (host := "") (Or.inl (hw _ (List.mem_of_getElem? (i := 20) rfl))) Via.refl e0 F_size_a1 (g := (mkF m 1 #[rv a1] [(.ref a1)])) rfl rfl (hb hby d3_1)
  have R3 : ∀ t, Steps p.tables e below (T2.setTop (mkF m 4 #[rv a1] [(.int sz)])) t → Steps p.tables e below (s₁.setTop f0) t := fun t k => R1 t (st2 t k)
  by_cases hs1 : sz = (0 : Int32)
  · skip
    have R4 : ∀ t, Steps p.tables e below (T2.setTop (mkF m 12 #[rv a1] [(.int (1 : Int32))])) t → Steps p.tables e below (s₁.setTop f0) t := fun t k => R3 t (by
      show Steps p.tables e below (T2.setTop (mkF m 4 #[rv a1] [(.int sz)])) _
      refine XS.ifNo X2.here hx rfl (hb hby d3_4) rfl ((if0 _ _).trans (teq hs1).2) ?_
      show Steps p.tables e below (T2.setTop (mkF m 7 #[rv a1] [])) _
      refine XS.iconst X2.here hx rfl (hb hby d3_7) ?_
      show Steps p.tables e below (T2.setTop (mkF m 8 #[rv a1] [(.int (1 : Int32))])) _
      refine XS.goto X2.here hx rfl (pc0 := 8) (pc' := 12) rfl (hb hby d3_8) (by decide) (by decide) ?_
      exact k)
    obtain ⟨fs, hr, hrun, hended, hW, hsame⟩ := X2.leave (v := some (.int (1 : Int32))) (fun h => by rw [Bd.returns] at h; cases h)
    refine ⟨_, _, pre0 _ (R4 _ ?_), hrun, hended, _, _, rfl, ?_, ⟨_, rfl⟩, hW, hsame.mono (by decide) (by decide)⟩
    · show Steps p.tables e below (T2.setTop (mkF m 12 #[rv a1] [(.int (1 : Int32))])) _
      exact retN X2 hx (t := .boolean) Bd.returns (by simp) (hb hby d3_12) hr
    · show Q_rmEmpty Z a1 sz h0 n0 _ T2.heap _
      rw [e2]
      exact ⟨(by (try simp only [lw_gt, lw_lt, lw_eq] at hs1); simp [own_b, hs1]), N0, rfl⟩
  · skip
    have R5 : ∀ t, Steps p.tables e below (T2.setTop (mkF m 12 #[rv a1] [(.int (0 : Int32))])) t → Steps p.tables e below (s₁.setTop f0) t := fun t k => R3 t (by
      show Steps p.tables e below (T2.setTop (mkF m 4 #[rv a1] [(.int sz)])) _
      refine XS.ifYes X2.here hx rfl (pc0 := 4) (pc' := 11) rfl (hb hby d3_4) rfl ((if0 _ _).trans (feq hs1).2) (by decide) (by decide) ?_
      show Steps p.tables e below (T2.setTop (mkF m 11 #[rv a1] [])) _
      refine XS.iconst X2.here hx rfl (hb hby d3_11) ?_
      exact k)
    obtain ⟨fs, hr, hrun, hended, hW, hsame⟩ := X2.leave (v := some (.int (0 : Int32))) (fun h => by rw [Bd.returns] at h; cases h)
    refine ⟨_, _, pre0 _ (R5 _ ?_), hrun, hended, _, _, rfl, ?_, ⟨_, rfl⟩, hW, hsame.mono (by decide) (by decide)⟩
    · show Steps p.tables e below (T2.setTop (mkF m 12 #[rv a1] [(.int (0 : Int32))])) _
      exact retN X2 hx (t := .boolean) Bd.returns (by simp) (hb hby d3_12) hr
    · show Q_rmEmpty Z a1 sz h0 n0 _ T2.heap _
      rw [e2]
      exact ⟨(by (try simp only [lw_gt, lw_lt, lw_eq] at hs1); simp [own_b, hs1]), N0, rfl⟩
theorem ef_rmAdd (m : MethodId) (x0 : Addr) (x1 : Int64) : entryFrame m #[(.ref x0), (.long x1)] 3 = mkF m 0 #[rv x0, .val (.long x1), .second] [] := by first | (simp [entryFrame, mkF, argsToLocals, Value.category]; done) | rfl
def Q_rmAdd (Z : State) (a1 : Addr) (q2 : Int64) (g : Addr) (kk : ClassId) (n : Int32) (vs : List Value) (sz : Int32) (st : Int32) (h0 : Heap) (n0 : Nat) (v : Option Value) (h : Heap) (L : List Loc) : Prop := ∃ vs2 : List Value, ∃ sz2 : Int32, ∃ st2 : Int32, v = none ∧ Fr n0 L ∧ Keep h0 h [a1, g] ∧ (Fld Z h a1 sN0 "gaps" "[J" (.ref g)) ∧ (Fld Z h a1 sN0 "size" "I" (.int sz2)) ∧ (Fld Z h a1 sN0 "start" "I" (.int st2)) ∧ (Arv Z h g kk .long n vs2 (.long (0 : Int64))) ∧ (1 ≤ sz2.toInt ∧ sz2.toInt ≤ n.toInt) ∧ (0 ≤ st2.toInt ∧ st2.toInt < n.toInt)
set_option maxRecDepth 65536 in
set_option maxHeartbeats 40000000 in
theorem rmAdd (l : Launch) (Z : State) (a0 : Array Value) (hw : ∀ d ∈ tables_1, d.before a0 Z = true) (ws : List Jvm.Cond) (a1 : Addr) (q2 : Int64) (g : Addr) (kk : ClassId) (n : Int32) (vs : List Value) (sz : Int32) (st : Int32) (h0 : Heap) (n0 : Nat) (Z0 : n0 ≤ h0.size) (E_a1 : Exa Z h0 a1 sN0) (F_gaps_a1 : Fld Z h0 a1 sN0 "gaps" "[J" (.ref g)) (F_size_a1 : Fld Z h0 a1 sN0 "size" "I" (.int sz)) (F_start_a1 : Fld Z h0 a1 sN0 "start" "I" (.int st)) (A_g : Arv Z h0 g kk .long n vs (.long (0 : Int64))) (g_a1 : n0 ≤ a1) (g_g : n0 ≤ g) (ne_a1_g : a1 ≠ g) (hq : 0 ≤ q2.toInt ∧ q2.toInt ≤ 315569519999) (hn : 1 ≤ n.toInt ∧ n.toInt ≤ 3) (hsz : 0 ≤ sz.toInt ∧ sz.toInt ≤ n.toInt) (hst : 0 ≤ st.toInt ∧ st.toInt < n.toInt) :
    MetFree l (⟨sN0, "add", "(J)V"⟩ : MethodName) (head1 (Jvm.Cond.code (⟨sN0, "add", "(J)V"⟩ : MethodName) prog_19_method_2_code 3 none :: ws) ({ frames := 0, cells := 0, slots := 0, locals := 0 } : Room)) (fun a U => a = #[(.ref a1), (.long q2)] ∧ Z.Warmed39 U.vm ∧ U.heap = h0) (fun _ _ _ _ _ => True) (fun _ U o U' => ∃ v L, o = .returned v ∧ Q_rmAdd Z a1 q2 g kk n vs sz st h0 n0 v U'.heap L ∧ FrameEnd U o U' L ({ frames := 0, cells := 0, slots := 0, locals := 0 } : Room).cells ({ frames := 0, cells := 0, slots := 0, locals := 0 } : Room).slots) := by
  refine MetFree.of_bodySF (plainFor_of_name pn_0) hisR ?_
  intro p e s m args below meth c s₁ Bd hml0 hP hK
  obtain ⟨rfl, hZ, hh⟩ := hP
  have hx := Bd.exec
  have hby := Bd.bytes
  have hml : c.maxLocals = 3 := hml0
  have hown : s.vm.findClass sN0 = some m.cls := findClass_of_methodNamed Bd.named
  have hnm := (name_of_methodNamed Bd.named Bd.method).1
  have X0 : Stand p l e ({ frames := 0, cells := 0, slots := 0, locals := 0 } : Room) s m #[(.ref a1), (.long q2)] below meth c s₁ [] 0 0 := Stand.of_body Bd
  have e0 : s₁.heap = h0 := by rw [← hh, Bd.state]; rfl
  have N0 := Fr.nil n0
  obtain ⟨f0, hf0⟩ : ∃ f : JFrame, f = mkF m 0 #[rv a1, .val (.long q2), .second] [] := ⟨_, rfl⟩
  have pre0 : ∀ t, Steps p.tables e below (s₁.setTop f0) t → Steps p.tables e below (s₁.setTop (entryFrame m #[(.ref a1), (.long q2)] 3)) t := fun t k => castTop ((ef_rmAdd m a1 q2).trans hf0.symm) k
  have R0 : ∀ t, Steps p.tables e below (s₁.setTop (mkF m 0 #[rv a1, .val (.long q2), .second] [])) t → Steps p.tables e below (s₁.setTop f0) t := by rw [hf0]; exact fun t k => k
  have hnz : n ≠ 0 := own_nz hn.1
  have R1 : ∀ t, Steps p.tables e below (s₁.setTop (mkF m 29 #[rv a1, .val (.long q2), .second] [(.ref a1)])) t → Steps p.tables e below (s₁.setTop f0) t := fun t k => R0 t (by
    show Steps p.tables e below (s₁.setTop (mkF m 0 #[rv a1, .val (.long q2), .second] [])) _
    refine XS.lloadN X0.here hx rfl (hb hby d5_0) rfl  ?_
    show Steps p.tables e below (s₁.setTop (mkF m 1 #[rv a1, .val (.long q2), .second] [(.long q2)])) _
    refine XS.lconst X0.here hx rfl (hb hby d5_1) ?_
    show Steps p.tables e below (s₁.setTop (mkF m 2 #[rv a1, .val (.long q2), .second] [(.long (0 : Int64)), (.long q2)])) _
    refine XS.lcmp X0.here hx rfl (hb hby d5_2) rfl ?_
    show Steps p.tables e below (s₁.setTop (mkF m 3 #[rv a1, .val (.long q2), .second] [(.int (lcmpW q2 (0 : Int64)))])) _
    refine XS.ifNo X0.here hx rfl (hb hby d5_3) rfl ((if0 _ _).trans (flt (fun h => own_q0 hq.1 ((lw_lt _ _).mp h))).1) ?_
    show Steps p.tables e below (s₁.setTop (mkF m 6 #[rv a1, .val (.long q2), .second] [])) _
    refine XS.lloadN X0.here hx rfl (hb hby d5_6) rfl  ?_
    show Steps p.tables e below (s₁.setTop (mkF m 7 #[rv a1, .val (.long q2), .second] [(.long q2)])) _
    refine X0.ldc2Long hx hown (mvT hZ (hw _ (List.mem_of_getElem? (i := 31) rfl))) (g := (mkF m 7 #[rv a1, .val (.long q2), .second] [(.long q2)])) rfl (hb hby d5_7) _ ?_
    show Steps p.tables e below (s₁.setTop (mkF m 10 #[rv a1, .val (.long q2), .second] [(.long (315569519999 : Int64)), (.long q2)])) _
    refine XS.lcmp X0.here hx rfl (hb hby d5_10) rfl ?_
    show Steps p.tables e below (s₁.setTop (mkF m 11 #[rv a1, .val (.long q2), .second] [(.int (lcmpW q2 (315569519999 : Int64)))])) _
    refine XS.ifYes X0.here hx rfl (pc0 := 11) (pc' := 28) rfl (hb hby d5_11) rfl ((if0 _ _).trans (flt (fun h => own_q1 hq.2 ((lw_gt _ _).mp h))).2.2.2) (by decide) (by decide) ?_
    show Steps p.tables e below (s₁.setTop (mkF m 28 #[rv a1, .val (.long q2), .second] [])) _
    refine XS.aloadN X0.here hx rfl (hb hby d5_28) rfl rfl ?_
    exact k)
  obtain ⟨T2, X2, e2, st2⟩ := getF X0 hx hZ hown (host := "") (Or.inl (hw _ (List.mem_of_getElem? (i := 20) rfl))) Via.refl e0 F_size_a1 (g := (mkF m 29 #[rv a1, .val (.long q2), .second] [(.ref a1)])) rfl rfl (hb hby d5_29)
  have R3 : ∀ t, Steps p.tables e below (T2.setTop (mkF m 32 #[rv a1, .val (.long q2), .second] [(.int sz)])) t → Steps p.tables e below (s₁.setTop f0) t := fun t k => R1 t (st2 t k)
  have R4 : ∀ t, Steps p.tables e below (T2.setTop (mkF m 33 #[rv a1, .val (.long q2), .second] [(.ref a1), (.int sz)])) t → Steps p.tables e below (s₁.setTop f0) t := fun t k => R3 t (by
    show Steps p.tables e below (T2.setTop (mkF m 32 #[rv a1, .val (.long q2), .second] [(.int sz)])) _
    refine XS.aloadN X2.here hx rfl (hb hby d5_32) rfl rfl ?_
    exact k)
  obtain ⟨T5, X5, e5, st5⟩ := getF X2 hx hZ hown (host := "") (Or.inl (hw _ (List.mem_of_getElem? (i := 13) rfl))) Via.refl e2 F_gaps_a1 (g := (mkF m 33 #[rv a1, .val (.long q2), .second] [(.ref a1), (.int sz)])) rfl rfl (hb hby d5_33)
  have R6 : ∀ t, Steps p.tables e below (T5.setTop (mkF m 36 #[rv a1, .val (.long q2), .second] [(.ref g), (.int sz)])) t → Steps p.tables e below (s₁.setTop f0) t := fun t k => R4 t (st5 t k)
  obtain ⟨cl7, Ar7, -, S7, N7_, -, -⟩ := id A_g
  have R8 : ∀ t, Steps p.tables e below (T5.setTop (mkF m 37 #[rv a1, .val (.long q2), .second] [(.int n), (.int sz)])) t → Steps p.tables e below (s₁.setTop f0) t := fun t k => R6 t (X5.arraylength hx (by rw [e5]; exact Ar7.1) (State.isArrayOf_alike hZ.alike Ar7.2.1) (g := (mkF m 36 #[rv a1, .val (.long q2), .second] [(.ref g), (.int sz)])) rfl rfl (hb hby d5_36) _ (by rw [len_of S7 N7_]; exact k))
  by_cases hs : sz < n
  · skip
    have R9 : ∀ t, Steps p.tables e below (T5.setTop (mkF m 41 #[rv a1, .val (.long q2), .second] [(.ref a1)])) t → Steps p.tables e below (s₁.setTop f0) t := fun t k => R8 t (by
      show Steps p.tables e below (T5.setTop (mkF m 37 #[rv a1, .val (.long q2), .second] [(.int n), (.int sz)])) _
      refine XS.icmpNo X5.here hx rfl (hb hby d5_37) rfl (tlt hs).2.1 ?_
      show Steps p.tables e below (T5.setTop (mkF m 40 #[rv a1, .val (.long q2), .second] [])) _
      refine XS.aloadN X5.here hx rfl (hb hby d5_40) rfl rfl ?_
      exact k)
    obtain ⟨T10, X10, e10, st10⟩ := getF X5 hx hZ hown (host := "") (Or.inl (hw _ (List.mem_of_getElem? (i := 13) rfl))) Via.refl e5 F_gaps_a1 (g := (mkF m 41 #[rv a1, .val (.long q2), .second] [(.ref a1)])) rfl rfl (hb hby d5_41)
    have R11 : ∀ t, Steps p.tables e below (T10.setTop (mkF m 44 #[rv a1, .val (.long q2), .second] [(.ref g)])) t → Steps p.tables e below (s₁.setTop f0) t := fun t k => R9 t (st10 t k)
    have R12 : ∀ t, Steps p.tables e below (T10.setTop (mkF m 45 #[rv a1, .val (.long q2), .second] [(.ref a1), (.ref g)])) t → Steps p.tables e below (s₁.setTop f0) t := fun t k => R11 t (by
      show Steps p.tables e below (T10.setTop (mkF m 44 #[rv a1, .val (.long q2), .second] [(.ref g)])) _
      refine XS.aloadN X10.here hx rfl (hb hby d5_44) rfl rfl ?_
      exact k)
    obtain ⟨T13, X13, e13, st13⟩ := getF X10 hx hZ hown (host := "") (Or.inl (hw _ (List.mem_of_getElem? (i := 32) rfl))) Via.refl e10 F_start_a1 (g := (mkF m 45 #[rv a1, .val (.long q2), .second] [(.ref a1), (.ref g)])) rfl rfl (hb hby d5_45)
    have R14 : ∀ t, Steps p.tables e below (T13.setTop (mkF m 48 #[rv a1, .val (.long q2), .second] [(.int st), (.ref g)])) t → Steps p.tables e below (s₁.setTop f0) t := fun t k => R12 t (st13 t k)
    have R15 : ∀ t, Steps p.tables e below (T13.setTop (mkF m 49 #[rv a1, .val (.long q2), .second] [(.ref a1), (.int st), (.ref g)])) t → Steps p.tables e below (s₁.setTop f0) t := fun t k => R14 t (by
      show Steps p.tables e below (T13.setTop (mkF m 48 #[rv a1, .val (.long q2), .second] [(.int st), (.ref g)])) _
      refine XS.aloadN X13.here hx rfl (hb hby d5_48) rfl rfl ?_
      exact k)
    obtain ⟨T16, X16, e16, st16⟩ := getF X13 hx hZ hown (host := "") (Or.inl (hw _ (List.mem_of_getElem? (i := 20) rfl))) Via.refl e13 F_size_a1 (g := (mkF m 49 #[rv a1, .val (.long q2), .second] [(.ref a1), (.int st), (.ref g)])) rfl rfl (hb hby d5_49)
    have R17 : ∀ t, Steps p.tables e below (T16.setTop (mkF m 52 #[rv a1, .val (.long q2), .second] [(.int sz), (.int st), (.ref g)])) t → Steps p.tables e below (s₁.setTop f0) t := fun t k => R15 t (st16 t k)
    have R18 : ∀ t, Steps p.tables e below (T16.setTop (mkF m 54 #[rv a1, .val (.long q2), .second] [(.ref a1), (.int (st + sz)), (.ref g)])) t → Steps p.tables e below (s₁.setTop f0) t := fun t k => R17 t (by
      show Steps p.tables e below (T16.setTop (mkF m 52 #[rv a1, .val (.long q2), .second] [(.int sz), (.int st), (.ref g)])) _
      refine XS.iadd X16.here hx rfl (hb hby d5_52) rfl ?_
      show Steps p.tables e below (T16.setTop (mkF m 53 #[rv a1, .val (.long q2), .second] [(.int (st + sz)), (.ref g)])) _
      refine XS.aloadN X16.here hx rfl (hb hby d5_53) rfl rfl ?_
      exact k)
    obtain ⟨T19, X19, e19, st19⟩ := getF X16 hx hZ hown (host := "") (Or.inl (hw _ (List.mem_of_getElem? (i := 13) rfl))) Via.refl e16 F_gaps_a1 (g := (mkF m 54 #[rv a1, .val (.long q2), .second] [(.ref a1), (.int (st + sz)), (.ref g)])) rfl rfl (hb hby d5_54)
    have R20 : ∀ t, Steps p.tables e below (T19.setTop (mkF m 57 #[rv a1, .val (.long q2), .second] [(.ref g), (.int (st + sz)), (.ref g)])) t → Steps p.tables e below (s₁.setTop f0) t := fun t k => R18 t (st19 t k)
    obtain ⟨cl21, Ar21, -, S21, N21_, -, -⟩ := id A_g
    have R22 : ∀ t, Steps p.tables e below (T19.setTop (mkF m 58 #[rv a1, .val (.long q2), .second] [(.int n), (.int (st + sz)), (.ref g)])) t → Steps p.tables e below (s₁.setTop f0) t := fun t k => R20 t (X19.arraylength hx (by rw [e19]; exact Ar21.1) (State.isArrayOf_alike hZ.alike Ar21.2.1) (g := (mkF m 57 #[rv a1, .val (.long q2), .second] [(.ref g), (.int (st + sz)), (.ref g)])) rfl rfl (hb hby d5_57) _ (by rw [len_of S21 N21_]; exact k))
    have R23 : ∀ t, Steps p.tables e below (T19.setTop (mkF m 60 #[rv a1, .val (.long q2), .second] [(.long q2), (.int ((st + sz) % n)), (.ref g)])) t → Steps p.tables e below (s₁.setTop f0) t := fun t k => R22 t (by
      show Steps p.tables e below (T19.setTop (mkF m 58 #[rv a1, .val (.long q2), .second] [(.int n), (.int (st + sz)), (.ref g)])) _
      refine iremM X19 hx rfl (hb hby d5_58) rfl hnz ?_
      show Steps p.tables e below (T19.setTop (mkF m 59 #[rv a1, .val (.long q2), .second] [(.int ((st + sz) % n)), (.ref g)])) _
      refine XS.lloadN X19.here hx rfl (hb hby d5_59) rfl  ?_
      exact k)
    obtain ⟨jj, e_jj⟩ : ∃ z : Int32, z = ((st + sz) % n) := ⟨_, rfl⟩
    have R24 : ∀ t, Steps p.tables e below (T19.setTop (mkF m 60 #[rv a1, .val (.long q2), .second] [(.long q2), (.int jj), (.ref g)])) t → Steps p.tables e below (s₁.setTop f0) t := by have q := R23; rw [← e_jj] at q; exact q
    have v25 : Arv Z h0 g kk .long n (vs ++ List.replicate ((jj).toNatClampNeg + 1) (Value.long (0 : Int64))) (.long (0 : Int64)) := A_g.pad (pad_rep _ _ _)
    have hjj := own_rem2 hn hsz hst hs e_jj
    obtain ⟨cl26, Ar26, q26, S26, n26_, H26, G26⟩ := id v25
    have hin26 : ¬ (jj < 0 ∨ cl26.slots.size ≤ (jj).toNatClampNeg) := inb_of S26 hjj
    obtain ⟨T26, h26, X26, e26, W26, st26⟩ := stJ X19 hx hZ e19 Ar26 (j := jj) hin26 (g := (mkF m 60 #[rv a1, .val (.long q2), .second] [(.long q2), (.int jj), (.ref g)])) rfl rfl (hb hby d5_60)
    have f26_E_a1 : Exa Z h26 a1 sN0 := E_a1.wr W26
    have f26_F_gaps_a1 : Fld Z h26 a1 sN0 "gaps" "[J" (.ref g) := F_gaps_a1.other W26 (Or.inl ne_a1_g)
    have f26_F_size_a1 : Fld Z h26 a1 sN0 "size" "I" (.int sz) := F_size_a1.other W26 (Or.inl ne_a1_g)
    have f26_F_start_a1 : Fld Z h26 a1 sN0 "start" "I" (.int st) := F_start_a1.other W26 (Or.inl ne_a1_g)
    have z26 : n0 ≤ h26.size := by rw [W26.size]; exact Z0
    have K26 : Keep h0 h26 [a1, g] := (Keep.refl h0 [a1, g]).wr W26 (Or.inl (List.mem_of_getElem? (i := 1) rfl))
    have v26 : Arv Z h26 g kk .long n ((vs ++ List.replicate ((jj).toNatClampNeg + 1) (Value.long (0 : Int64))).set (jj).toNatClampNeg (.long q2)) (.long (0 : Int64)) := Arv.set Ar26 q26 S26 n26_ H26 G26 rfl W26 (jj).toNatClampNeg rfl (by rw [List.length_append, List.length_replicate]; omega)
    have N26 := Fr.snoc X26 N0 g_g
    have R27 : ∀ t, Steps p.tables e below (T26.setTop (mkF m 61 #[rv a1, .val (.long q2), .second] [])) t → Steps p.tables e below (s₁.setTop f0) t := fun t k => R24 t (st26 t k)
    have R28 : ∀ t, Steps p.tables e below (T26.setTop (mkF m 63 #[rv a1, .val (.long q2), .second] [(.ref a1), (.ref a1)])) t → Steps p.tables e below (s₁.setTop f0) t := fun t k => R27 t (by
      show Steps p.tables e below (T26.setTop (mkF m 61 #[rv a1, .val (.long q2), .second] [])) _
      refine XS.aloadN X26.here hx rfl (hb hby d5_61) rfl rfl ?_
      show Steps p.tables e below (T26.setTop (mkF m 62 #[rv a1, .val (.long q2), .second] [(.ref a1)])) _
      refine XS.dup X26.here hx rfl (hb hby d5_62) rfl rfl ?_
      exact k)
    obtain ⟨T29, X29, e29, st29⟩ := getF X26 hx hZ hown (host := "") (Or.inl (hw _ (List.mem_of_getElem? (i := 20) rfl))) Via.refl e26 f26_F_size_a1 (g := (mkF m 63 #[rv a1, .val (.long q2), .second] [(.ref a1), (.ref a1)])) rfl rfl (hb hby d5_63)
    have R30 : ∀ t, Steps p.tables e below (T29.setTop (mkF m 66 #[rv a1, .val (.long q2), .second] [(.int sz), (.ref a1)])) t → Steps p.tables e below (s₁.setTop f0) t := fun t k => R28 t (st29 t k)
    have R31 : ∀ t, Steps p.tables e below (T29.setTop (mkF m 68 #[rv a1, .val (.long q2), .second] [(.int (sz + (1 : Int32))), (.ref a1)])) t → Steps p.tables e below (s₁.setTop f0) t := fun t k => R30 t (by
      show Steps p.tables e below (T29.setTop (mkF m 66 #[rv a1, .val (.long q2), .second] [(.int sz), (.ref a1)])) _
      refine XS.iconst X29.here hx rfl (hb hby d5_66) ?_
      show Steps p.tables e below (T29.setTop (mkF m 67 #[rv a1, .val (.long q2), .second] [(.int (1 : Int32)), (.int sz), (.ref a1)])) _
      refine XS.iadd X29.here hx rfl (hb hby d5_67) rfl ?_
      exact k)
    obtain ⟨sz2, e_sz2⟩ : ∃ z : Int32, z = (sz + (1 : Int32)) := ⟨_, rfl⟩
    have R32 : ∀ t, Steps p.tables e below (T29.setTop (mkF m 68 #[rv a1, .val (.long q2), .second] [(.int sz2), (.ref a1)])) t → Steps p.tables e below (s₁.setTop f0) t := by have q := R31; rw [← e_sz2] at q; exact q
    obtain ⟨T33, h33, X33, e33, W33, st33⟩ := putF X29 hx hZ hown (host := "") (Or.inl (hw _ (List.mem_of_getElem? (i := 20) rfl))) Via.refl e29 f26_F_size_a1 f26_E_a1 (Or.inl (hw _ (List.mem_of_getElem? (i := 21) rfl))) (hw _ (List.mem_of_getElem? (i := 4) rfl)) (ty := .int) (by decide) rfl rfl (g := (mkF m 68 #[rv a1, .val (.long q2), .second] [(.int sz2), (.ref a1)])) rfl rfl (hb hby d5_68)
    have fw33 : Fld Z h33 a1 sN0 "size" "I" (.int sz2) := f26_F_size_a1.same W33
    have f33_E_a1 : Exa Z h33 a1 sN0 := f26_E_a1.wr W33
    have f33_F_gaps_a1 : Fld Z h33 a1 sN0 "gaps" "[J" (.ref g) := f26_F_gaps_a1.other W33 (Or.inr (slot_ne (Or.inr (hw _ (List.mem_of_getElem? (i := 14) rfl))) (Or.inl (hw _ (List.mem_of_getElem? (i := 21) rfl))) (by decide) (t := (.array .long)) (t' := .int) (by decide) (by decide)))
    have f33_F_start_a1 : Fld Z h33 a1 sN0 "start" "I" (.int st) := f26_F_start_a1.other W33 (Or.inr (slot_ne (Or.inl (hw _ (List.mem_of_getElem? (i := 33) rfl))) (Or.inl (hw _ (List.mem_of_getElem? (i := 21) rfl))) (by decide) (t := .int) (t' := .int) (by decide) (by decide)))
    have f33_A_g : Arv Z h33 g kk .long n ((vs ++ List.replicate ((jj).toNatClampNeg + 1) (Value.long (0 : Int64))).set (jj).toNatClampNeg (.long q2)) (.long (0 : Int64)) := v26.other W33 (Ne.symm ne_a1_g)
    have z33 : n0 ≤ h33.size := by rw [W33.size]; exact z26
    have K33 : Keep h0 h33 [a1, g] := K26.wr W33 (Or.inl (List.mem_of_getElem? (i := 0) rfl))
    have N33 := Fr.snoc X33 N26 g_a1
    have R34 : ∀ t, Steps p.tables e below (T33.setTop (mkF m 71 #[rv a1, .val (.long q2), .second] [])) t → Steps p.tables e below (s₁.setTop f0) t := fun t k => R32 t (st33 t k)
    have R35 : ∀ t, Steps p.tables e below (T33.setTop (mkF m 100 #[rv a1, .val (.long q2), .second] [])) t → Steps p.tables e below (s₁.setTop f0) t := fun t k => R34 t (by
      show Steps p.tables e below (T33.setTop (mkF m 71 #[rv a1, .val (.long q2), .second] [])) _
      refine XS.goto X33.here hx rfl (pc0 := 71) (pc' := 100) rfl (hb hby d5_71) (by decide) (by decide) ?_
      exact k)
    obtain ⟨fs, hr, hrun, hended, hW, hsame⟩ := X33.leave (v := none) (fun _ => rfl)
    refine ⟨_, _, pre0 _ (R35 _ ?_), hrun, hended, _, _, rfl, ?_, ⟨_, rfl⟩, hW, hsame.mono (by decide) (by decide)⟩
    · show Steps p.tables e below (T33.setTop (mkF m 100 #[rv a1, .val (.long q2), .second] [])) _
      exact X33.returnOut hx Bd.returns (hb hby d5_100) hr
    · show Q_rmAdd Z a1 q2 g kk n vs sz st h0 n0 _ T33.heap _
      rw [e33]
      exact ⟨((vs ++ List.replicate ((jj).toNatClampNeg + 1) (Value.long (0 : Int64))).set (jj).toNatClampNeg (.long q2)), sz2, st, rfl, N33, K33, f33_F_gaps_a1, fw33, f33_F_start_a1, f33_A_g, (own_inc hn hsz hs e_sz2), hst⟩
  · skip
    have R36 : ∀ t, Steps p.tables e below (T5.setTop (mkF m 75 #[rv a1, .val (.long q2), .second] [(.ref a1)])) t → Steps p.tables e below (s₁.setTop f0) t := fun t k => R8 t (by
      show Steps p.tables e below (T5.setTop (mkF m 37 #[rv a1, .val (.long q2), .second] [(.int n), (.int sz)])) _
      refine XS.icmpYes X5.here hx rfl (pc0 := 37) (pc' := 74) rfl (hb hby d5_37) rfl (flt hs).2.1 (by decide) (by decide) ?_
      show Steps p.tables e below (T5.setTop (mkF m 74 #[rv a1, .val (.long q2), .second] [])) _
      refine XS.aloadN X5.here hx rfl (hb hby d5_74) rfl rfl ?_
      exact k)
    obtain ⟨T37, X37, e37, st37⟩ := getF X5 hx hZ hown (host := "") (Or.inl (hw _ (List.mem_of_getElem? (i := 13) rfl))) Via.refl e5 F_gaps_a1 (g := (mkF m 75 #[rv a1, .val (.long q2), .second] [(.ref a1)])) rfl rfl (hb hby d5_75)
    have R38 : ∀ t, Steps p.tables e below (T37.setTop (mkF m 78 #[rv a1, .val (.long q2), .second] [(.ref g)])) t → Steps p.tables e below (s₁.setTop f0) t := fun t k => R36 t (st37 t k)
    have R39 : ∀ t, Steps p.tables e below (T37.setTop (mkF m 79 #[rv a1, .val (.long q2), .second] [(.ref a1), (.ref g)])) t → Steps p.tables e below (s₁.setTop f0) t := fun t k => R38 t (by
      show Steps p.tables e below (T37.setTop (mkF m 78 #[rv a1, .val (.long q2), .second] [(.ref g)])) _
      refine XS.aloadN X37.here hx rfl (hb hby d5_78) rfl rfl ?_
      exact k)
    obtain ⟨T40, X40, e40, st40⟩ := getF X37 hx hZ hown (host := "") (Or.inl (hw _ (List.mem_of_getElem? (i := 32) rfl))) Via.refl e37 F_start_a1 (g := (mkF m 79 #[rv a1, .val (.long q2), .second] [(.ref a1), (.ref g)])) rfl rfl (hb hby d5_79)
    have R41 : ∀ t, Steps p.tables e below (T40.setTop (mkF m 82 #[rv a1, .val (.long q2), .second] [(.int st), (.ref g)])) t → Steps p.tables e below (s₁.setTop f0) t := fun t k => R39 t (st40 t k)
    have R42 : ∀ t, Steps p.tables e below (T40.setTop (mkF m 83 #[rv a1, .val (.long q2), .second] [(.long q2), (.int st), (.ref g)])) t → Steps p.tables e below (s₁.setTop f0) t := fun t k => R41 t (by
      show Steps p.tables e below (T40.setTop (mkF m 82 #[rv a1, .val (.long q2), .second] [(.int st), (.ref g)])) _
      refine XS.lloadN X40.here hx rfl (hb hby d5_82) rfl  ?_
      exact k)
    have v43 : Arv Z h0 g kk .long n (vs ++ List.replicate ((st).toNatClampNeg + 1) (Value.long (0 : Int64))) (.long (0 : Int64)) := A_g.pad (pad_rep _ _ _)
    obtain ⟨cl44, Ar44, q44, S44, n44_, H44, G44⟩ := id v43
    have hin44 : ¬ (st < 0 ∨ cl44.slots.size ≤ (st).toNatClampNeg) := inb_of S44 (own_in hst)
    obtain ⟨T44, h44, X44, e44, W44, st44⟩ := stJ X40 hx hZ e40 Ar44 (j := st) hin44 (g := (mkF m 83 #[rv a1, .val (.long q2), .second] [(.long q2), (.int st), (.ref g)])) rfl rfl (hb hby d5_83)
    have f44_E_a1 : Exa Z h44 a1 sN0 := E_a1.wr W44
    have f44_F_gaps_a1 : Fld Z h44 a1 sN0 "gaps" "[J" (.ref g) := F_gaps_a1.other W44 (Or.inl ne_a1_g)
    have f44_F_size_a1 : Fld Z h44 a1 sN0 "size" "I" (.int sz) := F_size_a1.other W44 (Or.inl ne_a1_g)
    have f44_F_start_a1 : Fld Z h44 a1 sN0 "start" "I" (.int st) := F_start_a1.other W44 (Or.inl ne_a1_g)
    have z44 : n0 ≤ h44.size := by rw [W44.size]; exact Z0
    have K44 : Keep h0 h44 [a1, g] := (Keep.refl h0 [a1, g]).wr W44 (Or.inl (List.mem_of_getElem? (i := 1) rfl))
    have v44 : Arv Z h44 g kk .long n ((vs ++ List.replicate ((st).toNatClampNeg + 1) (Value.long (0 : Int64))).set (st).toNatClampNeg (.long q2)) (.long (0 : Int64)) := Arv.set Ar44 q44 S44 n44_ H44 G44 rfl W44 (st).toNatClampNeg rfl (by rw [List.length_append, List.length_replicate]; omega)
    have N44 := Fr.snoc X44 N0 g_g
    have R45 : ∀ t, Steps p.tables e below (T44.setTop (mkF m 84 #[rv a1, .val (.long q2), .second] [])) t → Steps p.tables e below (s₁.setTop f0) t := fun t k => R42 t (st44 t k)
    have R46 : ∀ t, Steps p.tables e below (T44.setTop (mkF m 86 #[rv a1, .val (.long q2), .second] [(.ref a1), (.ref a1)])) t → Steps p.tables e below (s₁.setTop f0) t := fun t k => R45 t (by
      show Steps p.tables e below (T44.setTop (mkF m 84 #[rv a1, .val (.long q2), .second] [])) _
      refine XS.aloadN X44.here hx rfl (hb hby d5_84) rfl rfl ?_
      show Steps p.tables e below (T44.setTop (mkF m 85 #[rv a1, .val (.long q2), .second] [(.ref a1)])) _
      refine XS.aloadN X44.here hx rfl (hb hby d5_85) rfl rfl ?_
      exact k)
    obtain ⟨T47, X47, e47, st47⟩ := getF X44 hx hZ hown (host := "") (Or.inl (hw _ (List.mem_of_getElem? (i := 32) rfl))) Via.refl e44 f44_F_start_a1 (g := (mkF m 86 #[rv a1, .val (.long q2), .second] [(.ref a1), (.ref a1)])) rfl rfl (hb hby d5_86)
    have R48 : ∀ t, Steps p.tables e below (T47.setTop (mkF m 89 #[rv a1, .val (.long q2), .second] [(.int st), (.ref a1)])) t → Steps p.tables e below (s₁.setTop f0) t := fun t k => R46 t (st47 t k)
    have R49 : ∀ t, Steps p.tables e below (T47.setTop (mkF m 92 #[rv a1, .val (.long q2), .second] [(.ref a1), (.int (st + (1 : Int32))), (.ref a1)])) t → Steps p.tables e below (s₁.setTop f0) t := fun t k => R48 t (by
      show Steps p.tables e below (T47.setTop (mkF m 89 #[rv a1, .val (.long q2), .second] [(.int st), (.ref a1)])) _
      refine XS.iconst X47.here hx rfl (hb hby d5_89) ?_
      show Steps p.tables e below (T47.setTop (mkF m 90 #[rv a1, .val (.long q2), .second] [(.int (1 : Int32)), (.int st), (.ref a1)])) _
      refine XS.iadd X47.here hx rfl (hb hby d5_90) rfl ?_
      show Steps p.tables e below (T47.setTop (mkF m 91 #[rv a1, .val (.long q2), .second] [(.int (st + (1 : Int32))), (.ref a1)])) _
      refine XS.aloadN X47.here hx rfl (hb hby d5_91) rfl rfl ?_
      exact k)
    obtain ⟨T50, X50, e50, st50⟩ := getF X47 hx hZ hown (host := "") (Or.inl (hw _ (List.mem_of_getElem? (i := 13) rfl))) Via.refl e47 f44_F_gaps_a1 (g := (mkF m 92 #[rv a1, .val (.long q2), .second] [(.ref a1), (.int (st + (1 : Int32))), (.ref a1)])) rfl rfl (hb hby d5_92)
    have R51 : ∀ t, Steps p.tables e below (T50.setTop (mkF m 95 #[rv a1, .val (.long q2), .second] [(.ref g), (.int (st + (1 : Int32))), (.ref a1)])) t → Steps p.tables e below (s₁.setTop f0) t := fun t k => R49 t (st50 t k)
    obtain ⟨cl52, Ar52, -, S52, N52_, -, -⟩ := id v44
    have R53 : ∀ t, Steps p.tables e below (T50.setTop (mkF m 96 #[rv a1, .val (.long q2), .second] [(.int n), (.int (st + (1 : Int32))), (.ref a1)])) t → Steps p.tables e below (s₁.setTop f0) t := fun t k => R51 t (X50.arraylength hx (by rw [e50]; exact Ar52.1) (State.isArrayOf_alike hZ.alike Ar52.2.1) (g := (mkF m 95 #[rv a1, .val (.long q2), .second] [(.ref g), (.int (st + (1 : Int32))), (.ref a1)])) rfl rfl (hb hby d5_95) _ (by rw [len_of S52 N52_]; exact k))
    have R54 : ∀ t, Steps p.tables e below (T50.setTop (mkF m 97 #[rv a1, .val (.long q2), .second] [(.int ((st + (1 : Int32)) % n)), (.ref a1)])) t → Steps p.tables e below (s₁.setTop f0) t := fun t k => R53 t (by
      show Steps p.tables e below (T50.setTop (mkF m 96 #[rv a1, .val (.long q2), .second] [(.int n), (.int (st + (1 : Int32))), (.ref a1)])) _
      refine iremM X50 hx rfl (hb hby d5_96) rfl hnz ?_
      exact k)
    obtain ⟨st2, e_st2⟩ : ∃ z : Int32, z = ((st + (1 : Int32)) % n) := ⟨_, rfl⟩
    have R55 : ∀ t, Steps p.tables e below (T50.setTop (mkF m 97 #[rv a1, .val (.long q2), .second] [(.int st2), (.ref a1)])) t → Steps p.tables e below (s₁.setTop f0) t := by have q := R54; rw [← e_st2] at q; exact q
    obtain ⟨T56, h56, X56, e56, W56, st56⟩ := putF X50 hx hZ hown (host := "") (Or.inl (hw _ (List.mem_of_getElem? (i := 32) rfl))) Via.refl e50 f44_F_start_a1 f44_E_a1 (Or.inl (hw _ (List.mem_of_getElem? (i := 33) rfl))) (hw _ (List.mem_of_getElem? (i := 4) rfl)) (ty := .int) (by decide) rfl rfl (g := (mkF m 97 #[rv a1, .val (.long q2), .second] [(.int st2), (.ref a1)])) rfl rfl (hb hby d5_97)
    have fw56 : Fld Z h56 a1 sN0 "start" "I" (.int st2) := f44_F_start_a1.same W56
    have f56_E_a1 : Exa Z h56 a1 sN0 := f44_E_a1.wr W56
    have f56_F_gaps_a1 : Fld Z h56 a1 sN0 "gaps" "[J" (.ref g) := f44_F_gaps_a1.other W56 (Or.inr (slot_ne (Or.inr (hw _ (List.mem_of_getElem? (i := 14) rfl))) (Or.inl (hw _ (List.mem_of_getElem? (i := 33) rfl))) (by decide) (t := (.array .long)) (t' := .int) (by decide) (by decide)))
    have f56_F_size_a1 : Fld Z h56 a1 sN0 "size" "I" (.int sz) := f44_F_size_a1.other W56 (Or.inr (slot_ne (Or.inl (hw _ (List.mem_of_getElem? (i := 21) rfl))) (Or.inl (hw _ (List.mem_of_getElem? (i := 33) rfl))) (by decide) (t := .int) (t' := .int) (by decide) (by decide)))
    have f56_A_g : Arv Z h56 g kk .long n ((vs ++ List.replicate ((st).toNatClampNeg + 1) (Value.long (0 : Int64))).set (st).toNatClampNeg (.long q2)) (.long (0 : Int64)) := v44.other W56 (Ne.symm ne_a1_g)
    have z56 : n0 ≤ h56.size := by rw [W56.size]; exact z44
    have K56 : Keep h0 h56 [a1, g] := K44.wr W56 (Or.inl (List.mem_of_getElem? (i := 0) rfl))
    have N56 := Fr.snoc X56 N44 g_a1
    have R57 : ∀ t, Steps p.tables e below (T56.setTop (mkF m 100 #[rv a1, .val (.long q2), .second] [])) t → Steps p.tables e below (s₁.setTop f0) t := fun t k => R55 t (st56 t k)
    obtain ⟨fs, hr, hrun, hended, hW, hsame⟩ := X56.leave (v := none) (fun _ => rfl)
    refine ⟨_, _, pre0 _ (R57 _ ?_), hrun, hended, _, _, rfl, ?_, ⟨_, rfl⟩, hW, hsame.mono (by decide) (by decide)⟩
    · show Steps p.tables e below (T56.setTop (mkF m 100 #[rv a1, .val (.long q2), .second] [])) _
      exact X56.returnOut hx Bd.returns (hb hby d5_100) hr
    · show Q_rmAdd Z a1 q2 g kk n vs sz st h0 n0 _ T56.heap _
      rw [e56]
      exact ⟨((vs ++ List.replicate ((st).toNatClampNeg + 1) (Value.long (0 : Int64))).set (st).toNatClampNeg (.long q2)), sz, st2, rfl, N56, K56, f56_F_gaps_a1, f56_F_size_a1, fw56, f56_A_g, (own_full hn hsz hs), (own_rem1 hn hst e_st2)⟩
theorem ef_rmAtn (m : MethodId) (x0 : Addr) (x1 : Int64) : entryFrame m #[(.ref x0), (.long x1)] 3 = mkF m 0 #[rv x0, .val (.long x1), .second] [] := by first | (simp [entryFrame, mkF, argsToLocals, Value.category]; done) | rfl
def Q_rmAtn (Z : State) (a1 : Addr) (q2 : Int64) (g : Addr) (kk : ClassId) (n : Int32) (vs : List Value) (sz : Int32) (st : Int32) (h0 : Heap) (n0 : Nat) (v : Option Value) (h : Heap) (L : List Loc) : Prop := ∃ vs2 : List Value, ∃ sz2 : Int32, ∃ st2 : Int32, v = some (.int (1 : Int32)) ∧ Fr n0 L ∧ Keep h0 h [a1, g] ∧ (Fld Z h a1 sN0 "gaps" "[J" (.ref g)) ∧ (Fld Z h a1 sN0 "size" "I" (.int sz2)) ∧ (Fld Z h a1 sN0 "start" "I" (.int st2)) ∧ (Arv Z h g kk .long n vs2 (.long (0 : Int64))) ∧ (1 ≤ sz2.toInt ∧ sz2.toInt ≤ n.toInt) ∧ (0 ≤ st2.toInt ∧ st2.toInt < n.toInt)
set_option maxRecDepth 65536 in
set_option maxHeartbeats 40000000 in
theorem rmAtn (l : Launch) (Z : State) (a0 : Array Value) (hw : ∀ d ∈ tables_1, d.before a0 Z = true) (ws : List Jvm.Cond) (a1 : Addr) (q2 : Int64) (g : Addr) (kk : ClassId) (n : Int32) (vs : List Value) (sz : Int32) (st : Int32) (h0 : Heap) (n0 : Nat) (Z0 : n0 ≤ h0.size) (E_a1 : Exa Z h0 a1 sN0) (F_gaps_a1 : Fld Z h0 a1 sN0 "gaps" "[J" (.ref g)) (F_size_a1 : Fld Z h0 a1 sN0 "size" "I" (.int sz)) (F_start_a1 : Fld Z h0 a1 sN0 "start" "I" (.int st)) (A_g : Arv Z h0 g kk .long n vs (.long (0 : Int64))) (g_a1 : n0 ≤ a1) (g_g : n0 ≤ g) (ne_a1_g : a1 ≠ g) (hq : 0 ≤ q2.toInt ∧ q2.toInt ≤ 315569519999) (hn : 1 ≤ n.toInt ∧ n.toInt ≤ 3) (hsz : 0 ≤ sz.toInt ∧ sz.toInt ≤ n.toInt) (hst : 0 ≤ st.toInt ∧ st.toInt < n.toInt) :
    MetFree l (⟨sN1, "addThenNonEmpty", sN2⟩ : MethodName) (head1 (Jvm.Cond.code (⟨sN1, "addThenNonEmpty", sN2⟩ : MethodName) method_3_code 3 (some .boolean) :: ws) ({ frames := 1, cells := 0, slots := 0, locals := 14 } : Room)) (fun a U => a = #[(.ref a1), (.long q2)] ∧ Z.Warmed39 U.vm ∧ U.heap = h0) (fun _ _ _ _ _ => True) (fun _ U o U' => ∃ v L, o = .returned v ∧ Q_rmAtn Z a1 q2 g kk n vs sz st h0 n0 v U'.heap L ∧ FrameEnd U o U' L ({ frames := 1, cells := 0, slots := 0, locals := 14 } : Room).cells ({ frames := 1, cells := 0, slots := 0, locals := 14 } : Room).slots) := by
  refine MetFree.of_bodySF (plainFor_of_name pn_1) hisR ?_
  intro p e s m args below meth c s₁ Bd hml0 hP hK
  obtain ⟨rfl, hZ, hh⟩ := hP
  have hx := Bd.exec
  have hby := Bd.bytes
  have hml : c.maxLocals = 3 := hml0
  have hown : s.vm.findClass sN1 = some m.cls := findClass_of_methodNamed Bd.named
  have hnm := (name_of_methodNamed Bd.named Bd.method).1
  have X0 : Stand p l e ({ frames := 1, cells := 0, slots := 0, locals := 14 } : Room) s m #[(.ref a1), (.long q2)] below meth c s₁ [] 0 0 := Stand.of_body Bd
  have e0 : s₁.heap = h0 := by rw [← hh, Bd.state]; rfl
  have N0 := Fr.nil n0
  obtain ⟨f0, hf0⟩ : ∃ f : JFrame, f = mkF m 0 #[rv a1, .val (.long q2), .second] [] := ⟨_, rfl⟩
  have pre0 : ∀ t, Steps p.tables e below (s₁.setTop f0) t → Steps p.tables e below (s₁.setTop (entryFrame m #[(.ref a1), (.long q2)] 3)) t := fun t k => castTop ((ef_rmAtn m a1 q2).trans hf0.symm) k
  have R0 : ∀ t, Steps p.tables e below (s₁.setTop (mkF m 0 #[rv a1, .val (.long q2), .second] [])) t → Steps p.tables e below (s₁.setTop f0) t := by rw [hf0]; exact fun t k => k
  have R1 : ∀ t, Steps p.tables e below (s₁.setTop (mkF m 2 #[rv a1, .val (.long q2), .second] [(.long q2), (.ref a1)])) t → Steps p.tables e below (s₁.setTop f0) t := fun t k => R0 t (by
    show Steps p.tables e below (s₁.setTop (mkF m 0 #[rv a1, .val (.long q2), .second] [])) _
    refine XS.aloadN X0.here hx rfl (hb hby d4_0) rfl rfl ?_
    show Steps p.tables e below (s₁.setTop (mkF m 1 #[rv a1, .val (.long q2), .second] [(.ref a1)])) _
    refine XS.lloadN X0.here hx rfl (hb hby d4_1) rfl  ?_
    exact k)
  obtain ⟨cq2, kq2, q2a, q2b, q2c⟩ := isOf hZ e0 E_a1
  obtain ⟨_, _, ⟨T2, L2, k2, n2⟩, -, X2, ⟨Lc2, hQ2, l2, y2, z2⟩, st2⟩ := X0.virtualBack hx (y := (⟨sN0, "add", "(J)V"⟩ : MethodName)) (z := (⟨sN0, "add", "(J)V"⟩ : MethodName)) hown (mvT hZ (hw _ (List.mem_of_getElem? (i := 26) rfl))) (mvT hZ (hw _ (List.mem_of_getElem? (i := 27) rfl))) (notFace_of_selects (args := #[]) (mvT hZ (hw _ (List.mem_of_getElem? (i := 29) rfl)))) (mvT hZ (hw _ (List.mem_of_getElem? (i := 29) rfl))) (mvT hZ (hw _ (List.mem_of_getElem? (i := 28) rfl))) (by decide) (backOf (W := 0) (rmAdd l Z a0 hw [] a1 q2 g kk n vs sz st h0 n0 Z0 E_a1 F_gaps_a1 F_size_a1 F_start_a1 A_g g_a1 g_g ne_a1_g hq hn hsz hst) hZ (hw _ (List.mem_of_getElem? (i := 30) rfl)) (hw _ (List.mem_of_getElem? (i := 5) rfl)) (by decide) (by decide)) q2a q2c (g := (mkF m 2 #[rv a1, .val (.long q2), .second] [(.long q2), (.ref a1)])) rfl (by rw [hml]; rfl) (Steps.refl _) (argsL := [(.long q2)]) (rest := []) (lenOf pd_2 rfl) rfl (by show 2 * 0 + _ ≤ _; exact Nat.le_of_eq rfl) (hb hby d4_2) (fun _ _ => ⟨rfl, e0, (by decide : 0 + 0 ≤ _), (by decide : 0 + 0 ≤ _)⟩)
  dsimp only [Pt.U, Pt.locs, Pt.cells, Pt.slots] at X2 l2 y2 z2 st2 hQ2
  subst l2 y2 z2
  obtain ⟨vs2_2, sz2_2, st2_2, rfl, N2q, p2_0, p2_1, p2_2, p2_3, p2_4, p2_5, p2_6⟩ := hQ2
  have N2 := Fr.app N0 N2q
  have f2_E_a1 : Exa Z T2.heap a1 sN0 := E_a1.keep p2_0
  have z2 : n0 ≤ T2.heap.size := Nat.le_trans Z0 p2_0.1
  have K2 : Keep h0 T2.heap [a1, g] := (Keep.refl h0 [a1, g]).trans p2_0 (allS (Or.inl (List.mem_of_getElem? (i := 0) rfl)) (allS (Or.inl (List.mem_of_getElem? (i := 1) rfl)) all0))
  have R3 : ∀ t, Steps p.tables e below (T2.setTop (mkF m 5 #[rv a1, .val (.long q2), .second] [])) t → Steps p.tables e below (s₁.setTop f0) t := fun t k => R1 t (st2.trans k)
  have R4 : ∀ t, Steps p.tables e below (T2.setTop (mkF m 6 #[rv a1, .val (.long q2), .second] [(.ref a1)])) t → Steps p.tables e below (s₁.setTop f0) t := fun t k => R3 t (by
    show Steps p.tables e below (T2.setTop (mkF m 5 #[rv a1, .val (.long q2), .second] [])) _
    refine XS.aloadN X2.here hx rfl (hb hby d4_5) rfl rfl ?_
    exact k)
  obtain ⟨cq5, kq5, q5a, q5b, q5c⟩ := isOf hZ rfl f2_E_a1
  obtain ⟨_, _, ⟨T5, L5, k5, n5⟩, -, X5, ⟨Lc5, hQ5, l5, y5, z5⟩, st5⟩ := X2.virtualBack hx (y := (⟨sN0, "isEmpty", "()Z"⟩ : MethodName)) (z := (⟨sN0, "isEmpty", "()Z"⟩ : MethodName)) hown (mvT hZ (hw _ (List.mem_of_getElem? (i := 15) rfl))) (mvT hZ (hw _ (List.mem_of_getElem? (i := 16) rfl))) (notFace_of_selects (args := #[]) (mvT hZ (hw _ (List.mem_of_getElem? (i := 18) rfl)))) (mvT hZ (hw _ (List.mem_of_getElem? (i := 18) rfl))) (mvT hZ (hw _ (List.mem_of_getElem? (i := 17) rfl))) (by decide) (backOf (W := 0) (rmEmpty l Z a0 hw [] a1 sz2_2 T2.heap n0 z2 p2_2) hZ (hw _ (List.mem_of_getElem? (i := 19) rfl)) (hw _ (List.mem_of_getElem? (i := 5) rfl)) (by decide) (by decide)) q5a q5c (g := (mkF m 6 #[rv a1, .val (.long q2), .second] [(.ref a1)])) rfl (by rw [hml]; rfl) (Steps.refl _) (argsL := []) (rest := []) (lenOf pd_3 rfl) rfl (by show 2 * 0 + _ ≤ _; exact Nat.le_of_eq rfl) (hb hby d4_6) (fun _ _ => ⟨rfl, rfl, (by decide : 0 + 0 ≤ _), (by decide : 0 + 0 ≤ _)⟩)
  dsimp only [Pt.U, Pt.locs, Pt.cells, Pt.slots] at X5 l5 y5 z5 st5 hQ5
  subst l5 y5 z5
  obtain ⟨rfl, N5q, p5_0⟩ := hQ5
  have N5 := Fr.app N2 N5q
  have R6 : ∀ t, Steps p.tables e below (T5.setTop (mkF m 9 #[rv a1, .val (.long q2), .second] [(.int (own_b (sz2_2 = 0)))])) t → Steps p.tables e below (s₁.setTop f0) t := fun t k => R4 t (st5.trans k)
  have R7 : ∀ t, Steps p.tables e below (T5.setTop (mkF m 9 #[rv a1, .val (.long q2), .second] [(.int (0 : Int32))])) t → Steps p.tables e below (s₁.setTop f0) t := by have q := R6; rw [(own_ne0 p2_5.1 : (own_b (sz2_2 = 0)) = (0 : Int32))] at q; exact q
  have R8 : ∀ t, Steps p.tables e below (T5.setTop (mkF m 17 #[rv a1, .val (.long q2), .second] [(.int (1 : Int32))])) t → Steps p.tables e below (s₁.setTop f0) t := fun t k => R7 t (by
    show Steps p.tables e below (T5.setTop (mkF m 9 #[rv a1, .val (.long q2), .second] [(.int (0 : Int32))])) _
    refine XS.ifNo X5.here hx rfl (hb hby d4_9) rfl ((if0 _ _).trans (teq (by decide : (0 : Int32) = (0 : Int32))).2) ?_
    show Steps p.tables e below (T5.setTop (mkF m 12 #[rv a1, .val (.long q2), .second] [])) _
    refine XS.iconst X5.here hx rfl (hb hby d4_12) ?_
    show Steps p.tables e below (T5.setTop (mkF m 13 #[rv a1, .val (.long q2), .second] [(.int (1 : Int32))])) _
    refine XS.goto X5.here hx rfl (pc0 := 13) (pc' := 17) rfl (hb hby d4_13) (by decide) (by decide) ?_
    exact k)
  obtain ⟨fs, hr, hrun, hended, hW, hsame⟩ := X5.leave (v := some (.int (1 : Int32))) (fun h => by rw [Bd.returns] at h; cases h)
  refine ⟨_, _, pre0 _ (R8 _ ?_), hrun, hended, _, _, rfl, ?_, ⟨_, rfl⟩, hW, hsame.mono (by decide) (by decide)⟩
  · show Steps p.tables e below (T5.setTop (mkF m 17 #[rv a1, .val (.long q2), .second] [(.int (1 : Int32))])) _
    exact retN X5 hx (t := .boolean) Bd.returns (by simp) (hb hby d4_17) hr
  · show Q_rmAtn Z a1 q2 g kk n vs sz st h0 n0 _ T5.heap _
    rw [p5_0]
    exact ⟨vs2_2, sz2_2, st2_2, rfl, N5, K2, p2_1, p2_2, p2_3, p2_4, p2_5, p2_6⟩
theorem ef_rmLaw (m : MethodId) (x0 : Int32) (x1 : Int32) (x2 : Int64) (x3 : Int64) : entryFrame m #[(.int x0), (.int x1), (.long x2), (.long x3)] maxLocals = mkF m 0 #[iv x0, iv x1, .val (.long x2), .second, .val (.long x3), .second, .unset, .unset, .unset, .unset, .unset, .unset, .unset, .unset] [] := by first | (simp [entryFrame, mkF, argsToLocals, Value.category, maxLocals]; done) | rfl
def Q_rmLaw (Z : State) (p0 : Int32) (p1 : Int32) (q2 : Int64) (q3 : Int64) (h0 : Heap) (n0 : Nat) (v : Option Value) (h : Heap) (L : List Loc) : Prop := v = some (.int (1 : Int32)) ∧ Fr n0 L
set_option maxRecDepth 65536 in
set_option maxHeartbeats 40000000 in
theorem rmLaw (l : Launch) (Z : State) (a0 : Array Value) (hw : ∀ d ∈ tables_1, d.before a0 Z = true) (ws : List Jvm.Cond) (p0 : Int32) (p1 : Int32) (q2 : Int64) (q3 : Int64) (h0 : Heap) (n0 : Nat) (Z0 : n0 ≤ h0.size) :
    MetFree l x (head1 (Jvm.Cond.code x code maxLocals ret :: ws) room_1) (fun a U => a = #[(.int p0), (.int p1), (.long q2), (.long q3)] ∧ Z.Warmed39 U.vm ∧ U.heap = h0) (fun _ _ _ _ _ => True) (fun _ U o U' => ∃ v L, o = .returned v ∧ Q_rmLaw Z p0 p1 q2 q3 h0 n0 v U'.heap L ∧ FrameEnd U o U' L room_1.cells room_1.slots) := by
  refine MetFree.of_bodySF (plainFor_of_name pn_1) hisR ?_
  intro p e s m args below meth c s₁ Bd hml0 hP hK
  obtain ⟨rfl, hZ, hh⟩ := hP
  have hx := Bd.exec
  have hby := Bd.bytes
  have hml : c.maxLocals = 14 := hml0
  have hown : s.vm.findClass sN1 = some m.cls := findClass_of_methodNamed Bd.named
  have hnm := (name_of_methodNamed Bd.named Bd.method).1
  have X0 : Stand p l e room_1 s m #[(.int p0), (.int p1), (.long q2), (.long q3)] below meth c s₁ [] 0 0 := Stand.of_body Bd
  have e0 : s₁.heap = h0 := by rw [← hh, Bd.state]; rfl
  have N0 := Fr.nil n0
  obtain ⟨f0, hf0⟩ : ∃ f : JFrame, f = mkF m 0 #[iv p0, iv p1, .val (.long q2), .second, .val (.long q3), .second, .unset, .unset, .unset, .unset, .unset, .unset, .unset, .unset] [] := ⟨_, rfl⟩
  have pre0 : ∀ t, Steps p.tables e below (s₁.setTop f0) t → Steps p.tables e below (s₁.setTop (entryFrame m #[(.int p0), (.int p1), (.long q2), (.long q3)] maxLocals)) t := fun t k => castTop ((ef_rmLaw m p0 p1 q2 q3).trans hf0.symm) k
  have R0 : ∀ t, Steps p.tables e below (s₁.setTop (mkF m 0 #[iv p0, iv p1, .val (.long q2), .second, .val (.long q3), .second, .unset, .unset, .unset, .unset, .unset, .unset, .unset, .unset] [])) t → Steps p.tables e below (s₁.setTop f0) t := by rw [hf0]; exact fun t k => k
  have R1 : ∀ t, Steps p.tables e below (s₁.setTop (mkF m 8 #[iv p0, iv p1, .val (.long q2), .second, .val (.long q3), .second, .unset, .unset, .unset, .unset, .unset, .unset, .unset, .unset] [(.int ((1 : Int32) + ((p0 &&& (2147483647 : Int32)) % (3 : Int32))))])) t → Steps p.tables e below (s₁.setTop f0) t := fun t k => R0 t (by
    show Steps p.tables e below (s₁.setTop (mkF m 0 #[iv p0, iv p1, .val (.long q2), .second, .val (.long q3), .second, .unset, .unset, .unset, .unset, .unset, .unset, .unset, .unset] [])) _
    refine XS.iconst X0.here hx rfl (hb hby at_0) ?_
    show Steps p.tables e below (s₁.setTop (mkF m 1 #[iv p0, iv p1, .val (.long q2), .second, .val (.long q3), .second, .unset, .unset, .unset, .unset, .unset, .unset, .unset, .unset] [(.int (1 : Int32))])) _
    refine XS.iloadN X0.here hx rfl (hb hby at_1) rfl  ?_
    show Steps p.tables e below (s₁.setTop (mkF m 2 #[iv p0, iv p1, .val (.long q2), .second, .val (.long q3), .second, .unset, .unset, .unset, .unset, .unset, .unset, .unset, .unset] [(.int p0), (.int (1 : Int32))])) _
    refine X0.ldcInt hx hown (mvT hZ (hw _ (List.mem_of_getElem? (i := 0) rfl))) (g := (mkF m 2 #[iv p0, iv p1, .val (.long q2), .second, .val (.long q3), .second, .unset, .unset, .unset, .unset, .unset, .unset, .unset, .unset] [(.int p0), (.int (1 : Int32))])) rfl (hb hby at_2) _ ?_
    show Steps p.tables e below (s₁.setTop (mkF m 4 #[iv p0, iv p1, .val (.long q2), .second, .val (.long q3), .second, .unset, .unset, .unset, .unset, .unset, .unset, .unset, .unset] [(.int (2147483647 : Int32)), (.int p0), (.int (1 : Int32))])) _
    refine XS.iand X0.here hx rfl (hb hby at_4) rfl ?_
    show Steps p.tables e below (s₁.setTop (mkF m 5 #[iv p0, iv p1, .val (.long q2), .second, .val (.long q3), .second, .unset, .unset, .unset, .unset, .unset, .unset, .unset, .unset] [(.int (p0 &&& (2147483647 : Int32))), (.int (1 : Int32))])) _
    refine XS.iconst X0.here hx rfl (hb hby at_5) ?_
    show Steps p.tables e below (s₁.setTop (mkF m 6 #[iv p0, iv p1, .val (.long q2), .second, .val (.long q3), .second, .unset, .unset, .unset, .unset, .unset, .unset, .unset, .unset] [(.int (3 : Int32)), (.int (p0 &&& (2147483647 : Int32))), (.int (1 : Int32))])) _
    refine iremM X0 hx rfl (hb hby at_6) rfl (by decide) ?_
    show Steps p.tables e below (s₁.setTop (mkF m 7 #[iv p0, iv p1, .val (.long q2), .second, .val (.long q3), .second, .unset, .unset, .unset, .unset, .unset, .unset, .unset, .unset] [(.int ((p0 &&& (2147483647 : Int32)) % (3 : Int32))), (.int (1 : Int32))])) _
    refine XS.iadd X0.here hx rfl (hb hby at_7) rfl ?_
    exact k)
  obtain ⟨cp, e_cp⟩ : ∃ z : Int32, z = ((1 : Int32) + ((p0 &&& (2147483647 : Int32)) % (3 : Int32))) := ⟨_, rfl⟩
  have R2 : ∀ t, Steps p.tables e below (s₁.setTop (mkF m 8 #[iv p0, iv p1, .val (.long q2), .second, .val (.long q3), .second, .unset, .unset, .unset, .unset, .unset, .unset, .unset, .unset] [(.int cp)])) t → Steps p.tables e below (s₁.setTop f0) t := by have q := R1; rw [← e_cp] at q; exact q
  have R3 : ∀ t, Steps p.tables e below (s₁.setTop (mkF m 16 #[iv p0, iv p1, .val (.long q2), .second, .val (.long q3), .second, iv cp, .unset, .unset, .unset, .unset, .unset, .unset, .unset] [(.int ((p1 &&& (2147483647 : Int32)) % (5 : Int32)))])) t → Steps p.tables e below (s₁.setTop f0) t := fun t k => R2 t (by
    show Steps p.tables e below (s₁.setTop (mkF m 8 #[iv p0, iv p1, .val (.long q2), .second, .val (.long q3), .second, .unset, .unset, .unset, .unset, .unset, .unset, .unset, .unset] [(.int cp)])) _
    refine XS.istore X0.here hx rfl (hb hby at_8) rfl (l' := #[iv p0, iv p1, .val (.long q2), .second, .val (.long q3), .second, iv cp, .unset, .unset, .unset, .unset, .unset, .unset, .unset]) rfl ?_
    show Steps p.tables e below (s₁.setTop (mkF m 10 #[iv p0, iv p1, .val (.long q2), .second, .val (.long q3), .second, iv cp, .unset, .unset, .unset, .unset, .unset, .unset, .unset] [])) _
    refine XS.iloadN X0.here hx rfl (hb hby at_10) rfl  ?_
    show Steps p.tables e below (s₁.setTop (mkF m 11 #[iv p0, iv p1, .val (.long q2), .second, .val (.long q3), .second, iv cp, .unset, .unset, .unset, .unset, .unset, .unset, .unset] [(.int p1)])) _
    refine X0.ldcInt hx hown (mvT hZ (hw _ (List.mem_of_getElem? (i := 0) rfl))) (g := (mkF m 11 #[iv p0, iv p1, .val (.long q2), .second, .val (.long q3), .second, iv cp, .unset, .unset, .unset, .unset, .unset, .unset, .unset] [(.int p1)])) rfl (hb hby at_11) _ ?_
    show Steps p.tables e below (s₁.setTop (mkF m 13 #[iv p0, iv p1, .val (.long q2), .second, .val (.long q3), .second, iv cp, .unset, .unset, .unset, .unset, .unset, .unset, .unset] [(.int (2147483647 : Int32)), (.int p1)])) _
    refine XS.iand X0.here hx rfl (hb hby at_13) rfl ?_
    show Steps p.tables e below (s₁.setTop (mkF m 14 #[iv p0, iv p1, .val (.long q2), .second, .val (.long q3), .second, iv cp, .unset, .unset, .unset, .unset, .unset, .unset, .unset] [(.int (p1 &&& (2147483647 : Int32)))])) _
    refine XS.iconst X0.here hx rfl (hb hby at_14) ?_
    show Steps p.tables e below (s₁.setTop (mkF m 15 #[iv p0, iv p1, .val (.long q2), .second, .val (.long q3), .second, iv cp, .unset, .unset, .unset, .unset, .unset, .unset, .unset] [(.int (5 : Int32)), (.int (p1 &&& (2147483647 : Int32)))])) _
    refine iremM X0 hx rfl (hb hby at_15) rfl (by decide) ?_
    exact k)
  obtain ⟨kc, e_kc⟩ : ∃ z : Int32, z = ((p1 &&& (2147483647 : Int32)) % (5 : Int32)) := ⟨_, rfl⟩
  have R4 : ∀ t, Steps p.tables e below (s₁.setTop (mkF m 16 #[iv p0, iv p1, .val (.long q2), .second, .val (.long q3), .second, iv cp, .unset, .unset, .unset, .unset, .unset, .unset, .unset] [(.int kc)])) t → Steps p.tables e below (s₁.setTop f0) t := by have q := R3; rw [← e_kc] at q; exact q
  have R5 : ∀ t, Steps p.tables e below (s₁.setTop (mkF m 27 #[iv p0, iv p1, .val (.long q2), .second, .val (.long q3), .second, iv cp, iv kc, .unset, .unset, .unset, .unset, .unset, .unset] [(.long ((q2 &&& (9223372036854775807 : Int64)) - ((q2 &&& (9223372036854775807 : Int64)) / (315569520000 : Int64)) * (315569520000 : Int64)))])) t → Steps p.tables e below (s₁.setTop f0) t := fun t k => R4 t (by
    show Steps p.tables e below (s₁.setTop (mkF m 16 #[iv p0, iv p1, .val (.long q2), .second, .val (.long q3), .second, iv cp, .unset, .unset, .unset, .unset, .unset, .unset, .unset] [(.int kc)])) _
    refine XS.istore X0.here hx rfl (hb hby at_16) rfl (l' := #[iv p0, iv p1, .val (.long q2), .second, .val (.long q3), .second, iv cp, iv kc, .unset, .unset, .unset, .unset, .unset, .unset]) rfl ?_
    show Steps p.tables e below (s₁.setTop (mkF m 18 #[iv p0, iv p1, .val (.long q2), .second, .val (.long q3), .second, iv cp, iv kc, .unset, .unset, .unset, .unset, .unset, .unset] [])) _
    refine XS.lloadN X0.here hx rfl (hb hby at_18) rfl  ?_
    show Steps p.tables e below (s₁.setTop (mkF m 19 #[iv p0, iv p1, .val (.long q2), .second, .val (.long q3), .second, iv cp, iv kc, .unset, .unset, .unset, .unset, .unset, .unset] [(.long q2)])) _
    refine X0.ldc2Long hx hown (mvT hZ (hw _ (List.mem_of_getElem? (i := 1) rfl))) (g := (mkF m 19 #[iv p0, iv p1, .val (.long q2), .second, .val (.long q3), .second, iv cp, iv kc, .unset, .unset, .unset, .unset, .unset, .unset] [(.long q2)])) rfl (hb hby at_19) _ ?_
    show Steps p.tables e below (s₁.setTop (mkF m 22 #[iv p0, iv p1, .val (.long q2), .second, .val (.long q3), .second, iv cp, iv kc, .unset, .unset, .unset, .unset, .unset, .unset] [(.long (9223372036854775807 : Int64)), (.long q2)])) _
    refine XS.land X0.here hx rfl (hb hby at_22) rfl ?_
    show Steps p.tables e below (s₁.setTop (mkF m 23 #[iv p0, iv p1, .val (.long q2), .second, .val (.long q3), .second, iv cp, iv kc, .unset, .unset, .unset, .unset, .unset, .unset] [(.long (q2 &&& (9223372036854775807 : Int64)))])) _
    refine X0.ldc2Long hx hown (mvT hZ (hw _ (List.mem_of_getElem? (i := 2) rfl))) (g := (mkF m 23 #[iv p0, iv p1, .val (.long q2), .second, .val (.long q3), .second, iv cp, iv kc, .unset, .unset, .unset, .unset, .unset, .unset] [(.long (q2 &&& (9223372036854775807 : Int64)))])) rfl (hb hby at_23) _ ?_
    show Steps p.tables e below (s₁.setTop (mkF m 26 #[iv p0, iv p1, .val (.long q2), .second, .val (.long q3), .second, iv cp, iv kc, .unset, .unset, .unset, .unset, .unset, .unset] [(.long (315569520000 : Int64)), (.long (q2 &&& (9223372036854775807 : Int64)))])) _
    refine XS.lrem X0.here hx rfl (hb hby at_26) rfl (by decide) ?_
    exact k)
  obtain ⟨ga, e_ga⟩ : ∃ z : Int64, z = ((q2 &&& (9223372036854775807 : Int64)) - ((q2 &&& (9223372036854775807 : Int64)) / (315569520000 : Int64)) * (315569520000 : Int64)) := ⟨_, rfl⟩
  have R6 : ∀ t, Steps p.tables e below (s₁.setTop (mkF m 27 #[iv p0, iv p1, .val (.long q2), .second, .val (.long q3), .second, iv cp, iv kc, .unset, .unset, .unset, .unset, .unset, .unset] [(.long ga)])) t → Steps p.tables e below (s₁.setTop f0) t := by have q := R5; rw [← e_ga] at q; exact q
  have R7 : ∀ t, Steps p.tables e below (s₁.setTop (mkF m 39 #[iv p0, iv p1, .val (.long q2), .second, .val (.long q3), .second, iv cp, iv kc, .val (.long ga), .second, .unset, .unset, .unset, .unset] [(.long ((q3 &&& (9223372036854775807 : Int64)) - ((q3 &&& (9223372036854775807 : Int64)) / (315569520000 : Int64)) * (315569520000 : Int64)))])) t → Steps p.tables e below (s₁.setTop f0) t := fun t k => R6 t (by
    show Steps p.tables e below (s₁.setTop (mkF m 27 #[iv p0, iv p1, .val (.long q2), .second, .val (.long q3), .second, iv cp, iv kc, .unset, .unset, .unset, .unset, .unset, .unset] [(.long ga)])) _
    refine XS.lstore X0.here hx rfl (hb hby at_27) rfl (l' := #[iv p0, iv p1, .val (.long q2), .second, .val (.long q3), .second, iv cp, iv kc, .val (.long ga), .second, .unset, .unset, .unset, .unset]) rfl ?_
    show Steps p.tables e below (s₁.setTop (mkF m 29 #[iv p0, iv p1, .val (.long q2), .second, .val (.long q3), .second, iv cp, iv kc, .val (.long ga), .second, .unset, .unset, .unset, .unset] [])) _
    refine XS.lload X0.here hx rfl (hb hby at_29) rfl  ?_
    show Steps p.tables e below (s₁.setTop (mkF m 31 #[iv p0, iv p1, .val (.long q2), .second, .val (.long q3), .second, iv cp, iv kc, .val (.long ga), .second, .unset, .unset, .unset, .unset] [(.long q3)])) _
    refine X0.ldc2Long hx hown (mvT hZ (hw _ (List.mem_of_getElem? (i := 1) rfl))) (g := (mkF m 31 #[iv p0, iv p1, .val (.long q2), .second, .val (.long q3), .second, iv cp, iv kc, .val (.long ga), .second, .unset, .unset, .unset, .unset] [(.long q3)])) rfl (hb hby at_31) _ ?_
    show Steps p.tables e below (s₁.setTop (mkF m 34 #[iv p0, iv p1, .val (.long q2), .second, .val (.long q3), .second, iv cp, iv kc, .val (.long ga), .second, .unset, .unset, .unset, .unset] [(.long (9223372036854775807 : Int64)), (.long q3)])) _
    refine XS.land X0.here hx rfl (hb hby at_34) rfl ?_
    show Steps p.tables e below (s₁.setTop (mkF m 35 #[iv p0, iv p1, .val (.long q2), .second, .val (.long q3), .second, iv cp, iv kc, .val (.long ga), .second, .unset, .unset, .unset, .unset] [(.long (q3 &&& (9223372036854775807 : Int64)))])) _
    refine X0.ldc2Long hx hown (mvT hZ (hw _ (List.mem_of_getElem? (i := 2) rfl))) (g := (mkF m 35 #[iv p0, iv p1, .val (.long q2), .second, .val (.long q3), .second, iv cp, iv kc, .val (.long ga), .second, .unset, .unset, .unset, .unset] [(.long (q3 &&& (9223372036854775807 : Int64)))])) rfl (hb hby at_35) _ ?_
    show Steps p.tables e below (s₁.setTop (mkF m 38 #[iv p0, iv p1, .val (.long q2), .second, .val (.long q3), .second, iv cp, iv kc, .val (.long ga), .second, .unset, .unset, .unset, .unset] [(.long (315569520000 : Int64)), (.long (q3 &&& (9223372036854775807 : Int64)))])) _
    refine XS.lrem X0.here hx rfl (hb hby at_38) rfl (by decide) ?_
    exact k)
  obtain ⟨gb, e_gb⟩ : ∃ z : Int64, z = ((q3 &&& (9223372036854775807 : Int64)) - ((q3 &&& (9223372036854775807 : Int64)) / (315569520000 : Int64)) * (315569520000 : Int64)) := ⟨_, rfl⟩
  have R8 : ∀ t, Steps p.tables e below (s₁.setTop (mkF m 39 #[iv p0, iv p1, .val (.long q2), .second, .val (.long q3), .second, iv cp, iv kc, .val (.long ga), .second, .unset, .unset, .unset, .unset] [(.long gb)])) t → Steps p.tables e below (s₁.setTop f0) t := by have q := R7; rw [← e_gb] at q; exact q
  have hcp := own_cp e_cp
  have hga := own_gap e_ga
  have hgb := own_gap e_gb
  have R9 : ∀ t, Steps p.tables e below (s₁.setTop (mkF m 41 #[iv p0, iv p1, .val (.long q2), .second, .val (.long q3), .second, iv cp, iv kc, .val (.long ga), .second, .val (.long gb), .second, .unset, .unset] [])) t → Steps p.tables e below (s₁.setTop f0) t := fun t k => R8 t (by
    show Steps p.tables e below (s₁.setTop (mkF m 39 #[iv p0, iv p1, .val (.long q2), .second, .val (.long q3), .second, iv cp, iv kc, .val (.long ga), .second, .unset, .unset, .unset, .unset] [(.long gb)])) _
    refine XS.lstore X0.here hx rfl (hb hby at_39) rfl (l' := #[iv p0, iv p1, .val (.long q2), .second, .val (.long q3), .second, iv cp, iv kc, .val (.long ga), .second, .val (.long gb), .second, .unset, .unset]) rfl ?_
    exact k)
  obtain ⟨T10, h10, X10, e10, E10, A10, D10, -, st10⟩ := newO X0 hx hZ hown (hw _ (List.mem_of_getElem? (i := 3) rfl)) (hw _ (List.mem_of_getElem? (i := 4) rfl)) (hw _ (List.mem_of_getElem? (i := 5) rfl)) e0 (g := (mkF m 41 #[iv p0, iv p1, .val (.long q2), .second, .val (.long q3), .second, iv cp, iv kc, .val (.long ga), .second, .val (.long gb), .second, .unset, .unset] [])) rfl (hb hby at_41) (by decide) (by decide)
  obtain ⟨b10, g10⟩ : ∃ z, z = h0.size := ⟨_, rfl⟩
  rw [← g10] at A10 D10 st10
  have g_b10 : n0 ≤ b10 := Nat.le_trans Z0 (Nat.le_of_eq g10.symm)
  have sz_b10 : h0.size ≤ b10 := Nat.le_trans (Keep.refl h0 []).1 (Nat.le_of_eq g10.symm)
  have z10 : n0 ≤ h10.size := Nat.le_trans Z0 E10.1
  have K10 : Keep h0 h10 [] := (Keep.refl h0 []).ext E10
  have d10_gaps : Fld Z h10 b10 sN0 "gaps" "[J" .null := D10 (Or.inr (hw _ (List.mem_of_getElem? (i := 14) rfl))) (ty := (.array .long)) (by decide)
  have d10_size : Fld Z h10 b10 sN0 "size" "I" (.int (0 : Int32)) := D10 (Or.inl (hw _ (List.mem_of_getElem? (i := 21) rfl))) (ty := .int) (by decide)
  have d10_start : Fld Z h10 b10 sN0 "start" "I" (.int (0 : Int32)) := D10 (Or.inl (hw _ (List.mem_of_getElem? (i := 33) rfl))) (ty := .int) (by decide)
  have R11 : ∀ t, Steps p.tables e below (T10.setTop (mkF m 44 #[iv p0, iv p1, .val (.long q2), .second, .val (.long q3), .second, iv cp, iv kc, .val (.long ga), .second, .val (.long gb), .second, .unset, .unset] [(.ref b10)])) t → Steps p.tables e below (s₁.setTop f0) t := fun t k => R9 t (st10 t k)
  have R12 : ∀ t, Steps p.tables e below (T10.setTop (mkF m 47 #[iv p0, iv p1, .val (.long q2), .second, .val (.long q3), .second, iv cp, iv kc, .val (.long ga), .second, .val (.long gb), .second, .unset, .unset] [(.int cp), (.ref b10), (.ref b10)])) t → Steps p.tables e below (s₁.setTop f0) t := fun t k => R11 t (by
    show Steps p.tables e below (T10.setTop (mkF m 44 #[iv p0, iv p1, .val (.long q2), .second, .val (.long q3), .second, iv cp, iv kc, .val (.long ga), .second, .val (.long gb), .second, .unset, .unset] [(.ref b10)])) _
    refine XS.dup X10.here hx rfl (hb hby at_44) rfl rfl ?_
    show Steps p.tables e below (T10.setTop (mkF m 45 #[iv p0, iv p1, .val (.long q2), .second, .val (.long q3), .second, iv cp, iv kc, .val (.long ga), .second, .val (.long gb), .second, .unset, .unset] [(.ref b10), (.ref b10)])) _
    refine XS.iload X10.here hx rfl (hb hby at_45) rfl  ?_
    exact k)
  obtain ⟨_, _, ⟨T13, L13, k13, n13⟩, -, X13, ⟨Lc13, hQ13, l13, y13, z13⟩, st13⟩ := X10.specialBack hx (y := (⟨sN0, "<init>", "(I)V"⟩ : MethodName)) rfl hown (mvT hZ (hw _ (List.mem_of_getElem? (i := 6) rfl))) (mvT hZ (hw _ (List.mem_of_getElem? (i := 7) rfl))) (mvT hZ (hw _ (List.mem_of_getElem? (i := 8) rfl))) (by decide) (backOf (W := 1) (rmInit l Z a0 hw [] b10 cp .null h10 n0 z10 A10 d10_gaps d10_size d10_start g_b10 hcp) hZ (hw _ (List.mem_of_getElem? (i := 8) rfl)) (hw _ (List.mem_of_getElem? (i := 5) rfl)) (by decide) (by decide)) (g := (mkF m 47 #[iv p0, iv p1, .val (.long q2), .second, .val (.long q3), .second, iv cp, iv kc, .val (.long ga), .second, .val (.long gb), .second, .unset, .unset] [(.int cp), (.ref b10), (.ref b10)])) rfl (by rw [hml]; rfl) (Steps.refl _) (a := b10) (argsL := [(.int cp)]) (rest := [(.ref b10)]) (lenOf pd_4 rfl) rfl (by show 2 * 0 + _ ≤ _; exact Nat.le_of_eq rfl) (hb hby at_47) (fun _ _ => ⟨rfl, e10, (by decide : 1 + 1 ≤ _), (by decide : 3 + 3 ≤ _)⟩)
  dsimp only [Pt.U, Pt.locs, Pt.cells, Pt.slots] at X13 l13 y13 z13 st13 hQ13
  subst l13 y13 z13
  obtain ⟨g_13, kk_13, vs_13, rfl, N13q, p13_0, p13_1, p13_2, p13_3, p13_4, p13_5, p13_6⟩ := hQ13
  have N13 := Fr.app N0 N13q
  have f13_E_b10 : Exa Z T13.heap b10 sN0 := A10.keep p13_0
  have z13 : n0 ≤ T13.heap.size := Nat.le_trans z10 p13_0.1
  have K13 : Keep h0 T13.heap [] := K10.trans p13_0 (allS (Or.inr sz_b10) all0)
  have R14 : ∀ t, Steps p.tables e below (T13.setTop (mkF m 50 #[iv p0, iv p1, .val (.long q2), .second, .val (.long q3), .second, iv cp, iv kc, .val (.long ga), .second, .val (.long gb), .second, .unset, .unset] [(.ref b10)])) t → Steps p.tables e below (s₁.setTop f0) t := fun t k => R12 t (st13.trans k)
  have R15 : ∀ t, Steps p.tables e below (T13.setTop (mkF m 54 #[iv p0, iv p1, .val (.long q2), .second, .val (.long q3), .second, iv cp, iv kc, .val (.long ga), .second, .val (.long gb), .second, rv b10, .unset] [(.ref b10)])) t → Steps p.tables e below (s₁.setTop f0) t := fun t k => R14 t (by
    show Steps p.tables e below (T13.setTop (mkF m 50 #[iv p0, iv p1, .val (.long q2), .second, .val (.long q3), .second, iv cp, iv kc, .val (.long ga), .second, .val (.long gb), .second, .unset, .unset] [(.ref b10)])) _
    refine XS.astore X13.here hx rfl (hb hby at_50) rfl rfl (l' := #[iv p0, iv p1, .val (.long q2), .second, .val (.long q3), .second, iv cp, iv kc, .val (.long ga), .second, .val (.long gb), .second, rv b10, .unset]) rfl ?_
    show Steps p.tables e below (T13.setTop (mkF m 52 #[iv p0, iv p1, .val (.long q2), .second, .val (.long q3), .second, iv cp, iv kc, .val (.long ga), .second, .val (.long gb), .second, rv b10, .unset] [])) _
    refine XS.aload X13.here hx rfl (hb hby at_52) rfl rfl ?_
    exact k)
  obtain ⟨cq16, kq16, q16a, q16b, q16c⟩ := isOf hZ rfl f13_E_b10
  obtain ⟨_, _, ⟨T16, L16, k16, n16⟩, -, X16, ⟨Lc16, hQ16, l16, y16, z16⟩, st16⟩ := X13.virtualBack hx (y := (⟨sN0, "isEmpty", "()Z"⟩ : MethodName)) (z := (⟨sN0, "isEmpty", "()Z"⟩ : MethodName)) hown (mvT hZ (hw _ (List.mem_of_getElem? (i := 15) rfl))) (mvT hZ (hw _ (List.mem_of_getElem? (i := 16) rfl))) (notFace_of_selects (args := #[]) (mvT hZ (hw _ (List.mem_of_getElem? (i := 18) rfl)))) (mvT hZ (hw _ (List.mem_of_getElem? (i := 18) rfl))) (mvT hZ (hw _ (List.mem_of_getElem? (i := 17) rfl))) (by decide) (backOf (W := 0) (rmEmpty l Z a0 hw [] b10 (0 : Int32) T13.heap n0 z13 p13_2) hZ (hw _ (List.mem_of_getElem? (i := 19) rfl)) (hw _ (List.mem_of_getElem? (i := 5) rfl)) (by decide) (by decide)) q16a q16c (g := (mkF m 54 #[iv p0, iv p1, .val (.long q2), .second, .val (.long q3), .second, iv cp, iv kc, .val (.long ga), .second, .val (.long gb), .second, rv b10, .unset] [(.ref b10)])) rfl (by rw [hml]; rfl) (Steps.refl _) (argsL := []) (rest := []) (lenOf pd_3 rfl) rfl (by show 2 * 0 + _ ≤ _; exact Nat.le_of_eq rfl) (hb hby at_54) (fun _ _ => ⟨rfl, rfl, (by decide : 2 + 0 ≤ _), (by decide : 6 + 0 ≤ _)⟩)
  dsimp only [Pt.U, Pt.locs, Pt.cells, Pt.slots] at X16 l16 y16 z16 st16 hQ16
  subst l16 y16 z16
  obtain ⟨rfl, N16q, p16_0⟩ := hQ16
  have N16 := Fr.app N13 N16q
  have R17 : ∀ t, Steps p.tables e below (T16.setTop (mkF m 57 #[iv p0, iv p1, .val (.long q2), .second, .val (.long q3), .second, iv cp, iv kc, .val (.long ga), .second, .val (.long gb), .second, rv b10, .unset] [(.int (own_b ((0 : Int32) = 0)))])) t → Steps p.tables e below (s₁.setTop f0) t := fun t k => R15 t (st16.trans k)
  have R18 : ∀ t, Steps p.tables e below (T16.setTop (mkF m 57 #[iv p0, iv p1, .val (.long q2), .second, .val (.long q3), .second, iv cp, iv kc, .val (.long ga), .second, .val (.long gb), .second, rv b10, .unset] [(.int (1 : Int32))])) t → Steps p.tables e below (s₁.setTop f0) t := by have q := R17; rw [((by decide) : (own_b ((0 : Int32) = 0)) = (1 : Int32))] at q; exact q
  have R19 : ∀ t, Steps p.tables e below (T16.setTop (mkF m 59 #[iv p0, iv p1, .val (.long q2), .second, .val (.long q3), .second, iv cp, iv kc, .val (.long ga), .second, .val (.long gb), .second, rv b10, iv (1 : Int32)] [])) t → Steps p.tables e below (s₁.setTop f0) t := fun t k => R18 t (by
    show Steps p.tables e below (T16.setTop (mkF m 57 #[iv p0, iv p1, .val (.long q2), .second, .val (.long q3), .second, iv cp, iv kc, .val (.long ga), .second, .val (.long gb), .second, rv b10, .unset] [(.int (1 : Int32))])) _
    refine XS.istore X16.here hx rfl (hb hby at_57) rfl (l' := #[iv p0, iv p1, .val (.long q2), .second, .val (.long q3), .second, iv cp, iv kc, .val (.long ga), .second, .val (.long gb), .second, rv b10, iv (1 : Int32)]) rfl ?_
    exact k)
  rcases own_k5 e_kc with hk | hk | hk | hk | hk
  · skip
    have R20 : ∀ t, Steps p.tables e below (T16.setTop (mkF m 59 #[iv p0, iv p1, .val (.long q2), .second, .val (.long q3), .second, iv cp, iv (0 : Int32), .val (.long ga), .second, .val (.long gb), .second, rv b10, iv (1 : Int32)] [])) t → Steps p.tables e below (s₁.setTop f0) t := by have q := R19; rw [(hk : kc = (0 : Int32))] at q; exact q
    have R21 : ∀ t, Steps p.tables e below (T16.setTop (mkF m 178 #[iv p0, iv p1, .val (.long q2), .second, .val (.long q3), .second, iv cp, iv (0 : Int32), .val (.long ga), .second, .val (.long gb), .second, rv b10, iv (1 : Int32)] [(.ref b10)])) t → Steps p.tables e below (s₁.setTop f0) t := fun t k => R20 t (by
      show Steps p.tables e below (T16.setTop (mkF m 59 #[iv p0, iv p1, .val (.long q2), .second, .val (.long q3), .second, iv cp, iv (0 : Int32), .val (.long ga), .second, .val (.long gb), .second, rv b10, iv (1 : Int32)] [])) _
      refine XS.iload X16.here hx rfl (hb hby at_59) rfl  ?_
      show Steps p.tables e below (T16.setTop (mkF m 61 #[iv p0, iv p1, .val (.long q2), .second, .val (.long q3), .second, iv cp, iv (0 : Int32), .val (.long ga), .second, .val (.long gb), .second, rv b10, iv (1 : Int32)] [(.int (0 : Int32))])) _
      refine XS.iconst X16.here hx rfl (hb hby at_61) ?_
      show Steps p.tables e below (T16.setTop (mkF m 62 #[iv p0, iv p1, .val (.long q2), .second, .val (.long q3), .second, iv cp, iv (0 : Int32), .val (.long ga), .second, .val (.long gb), .second, rv b10, iv (1 : Int32)] [(.int (1 : Int32)), (.int (0 : Int32))])) _
      refine XS.icmpYes X16.here hx rfl (pc0 := 62) (pc' := 87) rfl (hb hby at_62) rfl (tlt (by decide : (0 : Int32) < (1 : Int32))).1 (by decide) (by decide) ?_
      show Steps p.tables e below (T16.setTop (mkF m 87 #[iv p0, iv p1, .val (.long q2), .second, .val (.long q3), .second, iv cp, iv (0 : Int32), .val (.long ga), .second, .val (.long gb), .second, rv b10, iv (1 : Int32)] [])) _
      refine XS.iload X16.here hx rfl (hb hby at_87) rfl  ?_
      show Steps p.tables e below (T16.setTop (mkF m 89 #[iv p0, iv p1, .val (.long q2), .second, .val (.long q3), .second, iv cp, iv (0 : Int32), .val (.long ga), .second, .val (.long gb), .second, rv b10, iv (1 : Int32)] [(.int (0 : Int32))])) _
      refine XS.iconst X16.here hx rfl (hb hby at_89) ?_
      show Steps p.tables e below (T16.setTop (mkF m 90 #[iv p0, iv p1, .val (.long q2), .second, .val (.long q3), .second, iv cp, iv (0 : Int32), .val (.long ga), .second, .val (.long gb), .second, rv b10, iv (1 : Int32)] [(.int (2 : Int32)), (.int (0 : Int32))])) _
      refine XS.icmpYes X16.here hx rfl (pc0 := 90) (pc' := 115) rfl (hb hby at_90) rfl (tlt (by decide : (0 : Int32) < (2 : Int32))).1 (by decide) (by decide) ?_
      show Steps p.tables e below (T16.setTop (mkF m 115 #[iv p0, iv p1, .val (.long q2), .second, .val (.long q3), .second, iv cp, iv (0 : Int32), .val (.long ga), .second, .val (.long gb), .second, rv b10, iv (1 : Int32)] [])) _
      refine XS.iload X16.here hx rfl (hb hby at_115) rfl  ?_
      show Steps p.tables e below (T16.setTop (mkF m 117 #[iv p0, iv p1, .val (.long q2), .second, .val (.long q3), .second, iv cp, iv (0 : Int32), .val (.long ga), .second, .val (.long gb), .second, rv b10, iv (1 : Int32)] [(.int (0 : Int32))])) _
      refine XS.iconst X16.here hx rfl (hb hby at_117) ?_
      show Steps p.tables e below (T16.setTop (mkF m 118 #[iv p0, iv p1, .val (.long q2), .second, .val (.long q3), .second, iv cp, iv (0 : Int32), .val (.long ga), .second, .val (.long gb), .second, rv b10, iv (1 : Int32)] [(.int (3 : Int32)), (.int (0 : Int32))])) _
      refine XS.icmpYes X16.here hx rfl (pc0 := 118) (pc' := 143) rfl (hb hby at_118) rfl (tlt (by decide : (0 : Int32) < (3 : Int32))).1 (by decide) (by decide) ?_
      show Steps p.tables e below (T16.setTop (mkF m 143 #[iv p0, iv p1, .val (.long q2), .second, .val (.long q3), .second, iv cp, iv (0 : Int32), .val (.long ga), .second, .val (.long gb), .second, rv b10, iv (1 : Int32)] [])) _
      refine XS.iload X16.here hx rfl (hb hby at_143) rfl  ?_
      show Steps p.tables e below (T16.setTop (mkF m 145 #[iv p0, iv p1, .val (.long q2), .second, .val (.long q3), .second, iv cp, iv (0 : Int32), .val (.long ga), .second, .val (.long gb), .second, rv b10, iv (1 : Int32)] [(.int (0 : Int32))])) _
      refine XS.iconst X16.here hx rfl (hb hby at_145) ?_
      show Steps p.tables e below (T16.setTop (mkF m 146 #[iv p0, iv p1, .val (.long q2), .second, .val (.long q3), .second, iv cp, iv (0 : Int32), .val (.long ga), .second, .val (.long gb), .second, rv b10, iv (1 : Int32)] [(.int (4 : Int32)), (.int (0 : Int32))])) _
      refine XS.icmpYes X16.here hx rfl (pc0 := 146) (pc' := 171) rfl (hb hby at_146) rfl (tlt (by decide : (0 : Int32) < (4 : Int32))).1 (by decide) (by decide) ?_
      show Steps p.tables e below (T16.setTop (mkF m 171 #[iv p0, iv p1, .val (.long q2), .second, .val (.long q3), .second, iv cp, iv (0 : Int32), .val (.long ga), .second, .val (.long gb), .second, rv b10, iv (1 : Int32)] [])) _
      refine XS.iload X16.here hx rfl (hb hby at_171) rfl  ?_
      show Steps p.tables e below (T16.setTop (mkF m 173 #[iv p0, iv p1, .val (.long q2), .second, .val (.long q3), .second, iv cp, iv (0 : Int32), .val (.long ga), .second, .val (.long gb), .second, rv b10, iv (1 : Int32)] [(.int (0 : Int32))])) _
      refine XS.ifNo X16.here hx rfl (hb hby at_173) rfl ((if0 _ _).trans (teq (by decide : (0 : Int32) = (0 : Int32))).2) ?_
      show Steps p.tables e below (T16.setTop (mkF m 176 #[iv p0, iv p1, .val (.long q2), .second, .val (.long q3), .second, iv cp, iv (0 : Int32), .val (.long ga), .second, .val (.long gb), .second, rv b10, iv (1 : Int32)] [])) _
      refine XS.aload X16.here hx rfl (hb hby at_176) rfl rfl ?_
      exact k)
    obtain ⟨cq22, kq22, q22a, q22b, q22c⟩ := isOf hZ p16_0 f13_E_b10
    obtain ⟨_, _, ⟨T22, L22, k22, n22⟩, -, X22, ⟨Lc22, hQ22, l22, y22, z22⟩, st22⟩ := X16.virtualBack hx (y := (⟨sN0, "isEmpty", "()Z"⟩ : MethodName)) (z := (⟨sN0, "isEmpty", "()Z"⟩ : MethodName)) hown (mvT hZ (hw _ (List.mem_of_getElem? (i := 15) rfl))) (mvT hZ (hw _ (List.mem_of_getElem? (i := 16) rfl))) (notFace_of_selects (args := #[]) (mvT hZ (hw _ (List.mem_of_getElem? (i := 18) rfl)))) (mvT hZ (hw _ (List.mem_of_getElem? (i := 18) rfl))) (mvT hZ (hw _ (List.mem_of_getElem? (i := 17) rfl))) (by decide) (backOf (W := 0) (rmEmpty l Z a0 hw [] b10 (0 : Int32) T13.heap n0 z13 p13_2) hZ (hw _ (List.mem_of_getElem? (i := 19) rfl)) (hw _ (List.mem_of_getElem? (i := 5) rfl)) (by decide) (by decide)) q22a q22c (g := (mkF m 178 #[iv p0, iv p1, .val (.long q2), .second, .val (.long q3), .second, iv cp, iv (0 : Int32), .val (.long ga), .second, .val (.long gb), .second, rv b10, iv (1 : Int32)] [(.ref b10)])) rfl (by rw [hml]; rfl) (Steps.refl _) (argsL := []) (rest := []) (lenOf pd_3 rfl) rfl (by show 2 * 0 + _ ≤ _; exact Nat.le_of_eq rfl) (hb hby at_178) (fun _ _ => ⟨rfl, p16_0, (by decide : 2 + 0 ≤ _), (by decide : 6 + 0 ≤ _)⟩)
    dsimp only [Pt.U, Pt.locs, Pt.cells, Pt.slots] at X22 l22 y22 z22 st22 hQ22
    subst l22 y22 z22
    obtain ⟨rfl, N22q, p22_0⟩ := hQ22
    have N22 := Fr.app N16 N22q
    have R23 : ∀ t, Steps p.tables e below (T22.setTop (mkF m 181 #[iv p0, iv p1, .val (.long q2), .second, .val (.long q3), .second, iv cp, iv (0 : Int32), .val (.long ga), .second, .val (.long gb), .second, rv b10, iv (1 : Int32)] [(.int (own_b ((0 : Int32) = 0)))])) t → Steps p.tables e below (s₁.setTop f0) t := fun t k => R21 t (st22.trans k)
    have R24 : ∀ t, Steps p.tables e below (T22.setTop (mkF m 181 #[iv p0, iv p1, .val (.long q2), .second, .val (.long q3), .second, iv cp, iv (0 : Int32), .val (.long ga), .second, .val (.long gb), .second, rv b10, iv (1 : Int32)] [(.int (1 : Int32))])) t → Steps p.tables e below (s₁.setTop f0) t := by have q := R23; rw [((by decide) : (own_b ((0 : Int32) = 0)) = (1 : Int32))] at q; exact q
    have R25 : ∀ t, Steps p.tables e below (T22.setTop (mkF m 198 #[iv p0, iv p1, .val (.long q2), .second, .val (.long q3), .second, iv cp, iv (0 : Int32), .val (.long ga), .second, .val (.long gb), .second, rv b10, iv (1 : Int32)] [(.int (1 : Int32))])) t → Steps p.tables e below (s₁.setTop f0) t := fun t k => R24 t (by
      show Steps p.tables e below (T22.setTop (mkF m 181 #[iv p0, iv p1, .val (.long q2), .second, .val (.long q3), .second, iv cp, iv (0 : Int32), .val (.long ga), .second, .val (.long gb), .second, rv b10, iv (1 : Int32)] [(.int (1 : Int32))])) _
      refine XS.ifNo X22.here hx rfl (hb hby at_181) rfl ((if0 _ _).trans (feq (by decide : ¬ ((1 : Int32) = (0 : Int32)))).1) ?_
      show Steps p.tables e below (T22.setTop (mkF m 184 #[iv p0, iv p1, .val (.long q2), .second, .val (.long q3), .second, iv cp, iv (0 : Int32), .val (.long ga), .second, .val (.long gb), .second, rv b10, iv (1 : Int32)] [])) _
      refine XS.iload X22.here hx rfl (hb hby at_184) rfl  ?_
      show Steps p.tables e below (T22.setTop (mkF m 186 #[iv p0, iv p1, .val (.long q2), .second, .val (.long q3), .second, iv cp, iv (0 : Int32), .val (.long ga), .second, .val (.long gb), .second, rv b10, iv (1 : Int32)] [(.int (1 : Int32))])) _
      refine XS.ifNo X22.here hx rfl (hb hby at_186) rfl ((if0 _ _).trans (feq (by decide : ¬ ((1 : Int32) = (0 : Int32)))).1) ?_
      show Steps p.tables e below (T22.setTop (mkF m 189 #[iv p0, iv p1, .val (.long q2), .second, .val (.long q3), .second, iv cp, iv (0 : Int32), .val (.long ga), .second, .val (.long gb), .second, rv b10, iv (1 : Int32)] [])) _
      refine XS.iconst X22.here hx rfl (hb hby at_189) ?_
      show Steps p.tables e below (T22.setTop (mkF m 190 #[iv p0, iv p1, .val (.long q2), .second, .val (.long q3), .second, iv cp, iv (0 : Int32), .val (.long ga), .second, .val (.long gb), .second, rv b10, iv (1 : Int32)] [(.int (1 : Int32))])) _
      refine XS.goto X22.here hx rfl (pc0 := 190) (pc' := 194) rfl (hb hby at_190) (by decide) (by decide) ?_
      show Steps p.tables e below (T22.setTop (mkF m 194 #[iv p0, iv p1, .val (.long q2), .second, .val (.long q3), .second, iv cp, iv (0 : Int32), .val (.long ga), .second, .val (.long gb), .second, rv b10, iv (1 : Int32)] [(.int (1 : Int32))])) _
      refine XS.istore X22.here hx rfl (hb hby at_194) rfl (l' := #[iv p0, iv p1, .val (.long q2), .second, .val (.long q3), .second, iv cp, iv (0 : Int32), .val (.long ga), .second, .val (.long gb), .second, rv b10, iv (1 : Int32)]) rfl ?_
      show Steps p.tables e below (T22.setTop (mkF m 196 #[iv p0, iv p1, .val (.long q2), .second, .val (.long q3), .second, iv cp, iv (0 : Int32), .val (.long ga), .second, .val (.long gb), .second, rv b10, iv (1 : Int32)] [])) _
      refine XS.iload X22.here hx rfl (hb hby at_196) rfl  ?_
      exact k)
    obtain ⟨fs, hr, hrun, hended, hW, hsame⟩ := X22.leave (v := some (.int (1 : Int32))) (fun h => by rw [Bd.returns] at h; cases h)
    refine ⟨_, _, pre0 _ (R25 _ ?_), hrun, hended, _, _, rfl, ?_, ⟨_, rfl⟩, hW, hsame.mono (by decide) (by decide)⟩
    · show Steps p.tables e below (T22.setTop (mkF m 198 #[iv p0, iv p1, .val (.long q2), .second, .val (.long q3), .second, iv cp, iv (0 : Int32), .val (.long ga), .second, .val (.long gb), .second, rv b10, iv (1 : Int32)] [(.int (1 : Int32))])) _
      exact retN X22 hx (t := .boolean) Bd.returns (by simp) (hb hby at_198) hr
    · show Q_rmLaw Z p0 p1 q2 q3 h0 n0 _ T22.heap _
      rw [p22_0]
      exact ⟨rfl, N22⟩
  · skip
    have R26 : ∀ t, Steps p.tables e below (T16.setTop (mkF m 59 #[iv p0, iv p1, .val (.long q2), .second, .val (.long q3), .second, iv cp, iv (1 : Int32), .val (.long ga), .second, .val (.long gb), .second, rv b10, iv (1 : Int32)] [])) t → Steps p.tables e below (s₁.setTop f0) t := by have q := R19; rw [(hk : kc = (1 : Int32))] at q; exact q
    have R27 : ∀ t, Steps p.tables e below (T16.setTop (mkF m 69 #[iv p0, iv p1, .val (.long q2), .second, .val (.long q3), .second, iv cp, iv (1 : Int32), .val (.long ga), .second, .val (.long gb), .second, rv b10, iv (1 : Int32)] [(.long ga), (.ref b10)])) t → Steps p.tables e below (s₁.setTop f0) t := fun t k => R26 t (by
      show Steps p.tables e below (T16.setTop (mkF m 59 #[iv p0, iv p1, .val (.long q2), .second, .val (.long q3), .second, iv cp, iv (1 : Int32), .val (.long ga), .second, .val (.long gb), .second, rv b10, iv (1 : Int32)] [])) _
      refine XS.iload X16.here hx rfl (hb hby at_59) rfl  ?_
      show Steps p.tables e below (T16.setTop (mkF m 61 #[iv p0, iv p1, .val (.long q2), .second, .val (.long q3), .second, iv cp, iv (1 : Int32), .val (.long ga), .second, .val (.long gb), .second, rv b10, iv (1 : Int32)] [(.int (1 : Int32))])) _
      refine XS.iconst X16.here hx rfl (hb hby at_61) ?_
      show Steps p.tables e below (T16.setTop (mkF m 62 #[iv p0, iv p1, .val (.long q2), .second, .val (.long q3), .second, iv cp, iv (1 : Int32), .val (.long ga), .second, .val (.long gb), .second, rv b10, iv (1 : Int32)] [(.int (1 : Int32)), (.int (1 : Int32))])) _
      refine XS.icmpNo X16.here hx rfl (hb hby at_62) rfl (flt (by decide : ¬ ((1 : Int32) < (1 : Int32)))).1 ?_
      show Steps p.tables e below (T16.setTop (mkF m 65 #[iv p0, iv p1, .val (.long q2), .second, .val (.long q3), .second, iv cp, iv (1 : Int32), .val (.long ga), .second, .val (.long gb), .second, rv b10, iv (1 : Int32)] [])) _
      refine XS.aload X16.here hx rfl (hb hby at_65) rfl rfl ?_
      show Steps p.tables e below (T16.setTop (mkF m 67 #[iv p0, iv p1, .val (.long q2), .second, .val (.long q3), .second, iv cp, iv (1 : Int32), .val (.long ga), .second, .val (.long gb), .second, rv b10, iv (1 : Int32)] [(.ref b10)])) _
      refine XS.lload X16.here hx rfl (hb hby at_67) rfl  ?_
      exact k)
    obtain ⟨_, _, ⟨T28, L28, k28, n28⟩, -, X28, ⟨Lc28, hQ28, l28, y28, z28⟩, st28⟩ := Jvm.LawKit.callS X16 hx (y := (⟨sN1, "addThenNonEmpty", sN2⟩ : MethodName)) hown (mvT hZ (hw _ (List.mem_of_getElem? (i := 22) rfl))) (mvT hZ (hw _ (List.mem_of_getElem? (i := 23) rfl))) (mvT hZ (hw _ (List.mem_of_getElem? (i := 24) rfl))) (mvT hZ (hw _ (List.mem_of_getElem? (i := 25) rfl))) (by decide) (backOf (W := 0) (rmAtn l Z a0 hw [] b10 ga g_13 kk_13 cp vs_13 (0 : Int32) (0 : Int32) T13.heap n0 z13 f13_E_b10 p13_1 p13_2 p13_3 p13_4 g_b10 p13_5 p13_6 hga hcp ⟨by decide, by have := hcp.1; show (0 : Int) ≤ _; omega⟩ ⟨by decide, by have := hcp.1; show (0 : Int) < _; omega⟩) hZ (hw _ (List.mem_of_getElem? (i := 25) rfl)) (hw _ (List.mem_of_getElem? (i := 24) rfl)) (by decide) (by decide)) (g := (mkF m 69 #[iv p0, iv p1, .val (.long q2), .second, .val (.long q3), .second, iv cp, iv (1 : Int32), .val (.long ga), .second, .val (.long gb), .second, rv b10, iv (1 : Int32)] [(.long ga), (.ref b10)])) rfl (by rw [hml]; rfl) (argsL := [(.ref b10), (.long ga)]) (rest := []) (lenOf pd_5 rfl) rfl (by show 2 * 0 + _ ≤ _; exact Nat.le_of_eq rfl) (hb hby at_69) (fun _ _ => ⟨rfl, p16_0, (by decide : 2 + 0 ≤ _), (by decide : 6 + 0 ≤ _)⟩)
    dsimp only [Pt.U, Pt.locs, Pt.cells, Pt.slots] at X28 l28 y28 z28 st28 hQ28
    subst l28 y28 z28
    obtain ⟨vs2_28, sz2_28, st2_28, rfl, N28q, p28_0, p28_1, p28_2, p28_3, p28_4, p28_5, p28_6⟩ := hQ28
    have N28 := Fr.app N16 N28q
    have f28_E_b10 : Exa Z T28.heap b10 sN0 := f13_E_b10.keep p28_0
    have z28 : n0 ≤ T28.heap.size := Nat.le_trans z13 p28_0.1
    have R29 : ∀ t, Steps p.tables e below (T28.setTop (mkF m 72 #[iv p0, iv p1, .val (.long q2), .second, .val (.long q3), .second, iv cp, iv (1 : Int32), .val (.long ga), .second, .val (.long gb), .second, rv b10, iv (1 : Int32)] [(.int (1 : Int32))])) t → Steps p.tables e below (s₁.setTop f0) t := fun t k => R27 t (st28 t k)
    have R30 : ∀ t, Steps p.tables e below (T28.setTop (mkF m 198 #[iv p0, iv p1, .val (.long q2), .second, .val (.long q3), .second, iv cp, iv (1 : Int32), .val (.long ga), .second, .val (.long gb), .second, rv b10, iv (1 : Int32)] [(.int (1 : Int32))])) t → Steps p.tables e below (s₁.setTop f0) t := fun t k => R29 t (by
      show Steps p.tables e below (T28.setTop (mkF m 72 #[iv p0, iv p1, .val (.long q2), .second, .val (.long q3), .second, iv cp, iv (1 : Int32), .val (.long ga), .second, .val (.long gb), .second, rv b10, iv (1 : Int32)] [(.int (1 : Int32))])) _
      refine XS.ifNo X28.here hx rfl (hb hby at_72) rfl ((if0 _ _).trans (feq (by decide : ¬ ((1 : Int32) = (0 : Int32)))).1) ?_
      show Steps p.tables e below (T28.setTop (mkF m 75 #[iv p0, iv p1, .val (.long q2), .second, .val (.long q3), .second, iv cp, iv (1 : Int32), .val (.long ga), .second, .val (.long gb), .second, rv b10, iv (1 : Int32)] [])) _
      refine XS.iload X28.here hx rfl (hb hby at_75) rfl  ?_
      show Steps p.tables e below (T28.setTop (mkF m 77 #[iv p0, iv p1, .val (.long q2), .second, .val (.long q3), .second, iv cp, iv (1 : Int32), .val (.long ga), .second, .val (.long gb), .second, rv b10, iv (1 : Int32)] [(.int (1 : Int32))])) _
      refine XS.ifNo X28.here hx rfl (hb hby at_77) rfl ((if0 _ _).trans (feq (by decide : ¬ ((1 : Int32) = (0 : Int32)))).1) ?_
      show Steps p.tables e below (T28.setTop (mkF m 80 #[iv p0, iv p1, .val (.long q2), .second, .val (.long q3), .second, iv cp, iv (1 : Int32), .val (.long ga), .second, .val (.long gb), .second, rv b10, iv (1 : Int32)] [])) _
      refine XS.iconst X28.here hx rfl (hb hby at_80) ?_
      show Steps p.tables e below (T28.setTop (mkF m 81 #[iv p0, iv p1, .val (.long q2), .second, .val (.long q3), .second, iv cp, iv (1 : Int32), .val (.long ga), .second, .val (.long gb), .second, rv b10, iv (1 : Int32)] [(.int (1 : Int32))])) _
      refine XS.goto X28.here hx rfl (pc0 := 81) (pc' := 85) rfl (hb hby at_81) (by decide) (by decide) ?_
      show Steps p.tables e below (T28.setTop (mkF m 85 #[iv p0, iv p1, .val (.long q2), .second, .val (.long q3), .second, iv cp, iv (1 : Int32), .val (.long ga), .second, .val (.long gb), .second, rv b10, iv (1 : Int32)] [(.int (1 : Int32))])) _
      refine XS.istore X28.here hx rfl (hb hby at_85) rfl (l' := #[iv p0, iv p1, .val (.long q2), .second, .val (.long q3), .second, iv cp, iv (1 : Int32), .val (.long ga), .second, .val (.long gb), .second, rv b10, iv (1 : Int32)]) rfl ?_
      show Steps p.tables e below (T28.setTop (mkF m 87 #[iv p0, iv p1, .val (.long q2), .second, .val (.long q3), .second, iv cp, iv (1 : Int32), .val (.long ga), .second, .val (.long gb), .second, rv b10, iv (1 : Int32)] [])) _
      refine XS.iload X28.here hx rfl (hb hby at_87) rfl  ?_
      show Steps p.tables e below (T28.setTop (mkF m 89 #[iv p0, iv p1, .val (.long q2), .second, .val (.long q3), .second, iv cp, iv (1 : Int32), .val (.long ga), .second, .val (.long gb), .second, rv b10, iv (1 : Int32)] [(.int (1 : Int32))])) _
      refine XS.iconst X28.here hx rfl (hb hby at_89) ?_
      show Steps p.tables e below (T28.setTop (mkF m 90 #[iv p0, iv p1, .val (.long q2), .second, .val (.long q3), .second, iv cp, iv (1 : Int32), .val (.long ga), .second, .val (.long gb), .second, rv b10, iv (1 : Int32)] [(.int (2 : Int32)), (.int (1 : Int32))])) _
      refine XS.icmpYes X28.here hx rfl (pc0 := 90) (pc' := 115) rfl (hb hby at_90) rfl (tlt (by decide : (1 : Int32) < (2 : Int32))).1 (by decide) (by decide) ?_
      show Steps p.tables e below (T28.setTop (mkF m 115 #[iv p0, iv p1, .val (.long q2), .second, .val (.long q3), .second, iv cp, iv (1 : Int32), .val (.long ga), .second, .val (.long gb), .second, rv b10, iv (1 : Int32)] [])) _
      refine XS.iload X28.here hx rfl (hb hby at_115) rfl  ?_
      show Steps p.tables e below (T28.setTop (mkF m 117 #[iv p0, iv p1, .val (.long q2), .second, .val (.long q3), .second, iv cp, iv (1 : Int32), .val (.long ga), .second, .val (.long gb), .second, rv b10, iv (1 : Int32)] [(.int (1 : Int32))])) _
      refine XS.iconst X28.here hx rfl (hb hby at_117) ?_
      show Steps p.tables e below (T28.setTop (mkF m 118 #[iv p0, iv p1, .val (.long q2), .second, .val (.long q3), .second, iv cp, iv (1 : Int32), .val (.long ga), .second, .val (.long gb), .second, rv b10, iv (1 : Int32)] [(.int (3 : Int32)), (.int (1 : Int32))])) _
      refine XS.icmpYes X28.here hx rfl (pc0 := 118) (pc' := 143) rfl (hb hby at_118) rfl (tlt (by decide : (1 : Int32) < (3 : Int32))).1 (by decide) (by decide) ?_
      show Steps p.tables e below (T28.setTop (mkF m 143 #[iv p0, iv p1, .val (.long q2), .second, .val (.long q3), .second, iv cp, iv (1 : Int32), .val (.long ga), .second, .val (.long gb), .second, rv b10, iv (1 : Int32)] [])) _
      refine XS.iload X28.here hx rfl (hb hby at_143) rfl  ?_
      show Steps p.tables e below (T28.setTop (mkF m 145 #[iv p0, iv p1, .val (.long q2), .second, .val (.long q3), .second, iv cp, iv (1 : Int32), .val (.long ga), .second, .val (.long gb), .second, rv b10, iv (1 : Int32)] [(.int (1 : Int32))])) _
      refine XS.iconst X28.here hx rfl (hb hby at_145) ?_
      show Steps p.tables e below (T28.setTop (mkF m 146 #[iv p0, iv p1, .val (.long q2), .second, .val (.long q3), .second, iv cp, iv (1 : Int32), .val (.long ga), .second, .val (.long gb), .second, rv b10, iv (1 : Int32)] [(.int (4 : Int32)), (.int (1 : Int32))])) _
      refine XS.icmpYes X28.here hx rfl (pc0 := 146) (pc' := 171) rfl (hb hby at_146) rfl (tlt (by decide : (1 : Int32) < (4 : Int32))).1 (by decide) (by decide) ?_
      show Steps p.tables e below (T28.setTop (mkF m 171 #[iv p0, iv p1, .val (.long q2), .second, .val (.long q3), .second, iv cp, iv (1 : Int32), .val (.long ga), .second, .val (.long gb), .second, rv b10, iv (1 : Int32)] [])) _
      refine XS.iload X28.here hx rfl (hb hby at_171) rfl  ?_
      show Steps p.tables e below (T28.setTop (mkF m 173 #[iv p0, iv p1, .val (.long q2), .second, .val (.long q3), .second, iv cp, iv (1 : Int32), .val (.long ga), .second, .val (.long gb), .second, rv b10, iv (1 : Int32)] [(.int (1 : Int32))])) _
      refine XS.ifYes X28.here hx rfl (pc0 := 173) (pc' := 196) rfl (hb hby at_173) rfl ((if0 _ _).trans (feq (by decide : ¬ ((1 : Int32) = (0 : Int32)))).2) (by decide) (by decide) ?_
      show Steps p.tables e below (T28.setTop (mkF m 196 #[iv p0, iv p1, .val (.long q2), .second, .val (.long q3), .second, iv cp, iv (1 : Int32), .val (.long ga), .second, .val (.long gb), .second, rv b10, iv (1 : Int32)] [])) _
      refine XS.iload X28.here hx rfl (hb hby at_196) rfl  ?_
      exact k)
    obtain ⟨fs, hr, hrun, hended, hW, hsame⟩ := X28.leave (v := some (.int (1 : Int32))) (fun h => by rw [Bd.returns] at h; cases h)
    refine ⟨_, _, pre0 _ (R30 _ ?_), hrun, hended, _, _, rfl, ?_, ⟨_, rfl⟩, hW, hsame.mono (by decide) (by decide)⟩
    · show Steps p.tables e below (T28.setTop (mkF m 198 #[iv p0, iv p1, .val (.long q2), .second, .val (.long q3), .second, iv cp, iv (1 : Int32), .val (.long ga), .second, .val (.long gb), .second, rv b10, iv (1 : Int32)] [(.int (1 : Int32))])) _
      exact retN X28 hx (t := .boolean) Bd.returns (by simp) (hb hby at_198) hr
    · show Q_rmLaw Z p0 p1 q2 q3 h0 n0 _ T28.heap _
      exact ⟨rfl, N28⟩
  · skip
    have R31 : ∀ t, Steps p.tables e below (T16.setTop (mkF m 59 #[iv p0, iv p1, .val (.long q2), .second, .val (.long q3), .second, iv cp, iv (2 : Int32), .val (.long ga), .second, .val (.long gb), .second, rv b10, iv (1 : Int32)] [])) t → Steps p.tables e below (s₁.setTop f0) t := by have q := R19; rw [(hk : kc = (2 : Int32))] at q; exact q
    have R32 : ∀ t, Steps p.tables e below (T16.setTop (mkF m 69 #[iv p0, iv p1, .val (.long q2), .second, .val (.long q3), .second, iv cp, iv (2 : Int32), .val (.long ga), .second, .val (.long gb), .second, rv b10, iv (1 : Int32)] [(.long ga), (.ref b10)])) t → Steps p.tables e below (s₁.setTop f0) t := fun t k => R31 t (by
      show Steps p.tables e below (T16.setTop (mkF m 59 #[iv p0, iv p1, .val (.long q2), .second, .val (.long q3), .second, iv cp, iv (2 : Int32), .val (.long ga), .second, .val (.long gb), .second, rv b10, iv (1 : Int32)] [])) _
      refine XS.iload X16.here hx rfl (hb hby at_59) rfl  ?_
      show Steps p.tables e below (T16.setTop (mkF m 61 #[iv p0, iv p1, .val (.long q2), .second, .val (.long q3), .second, iv cp, iv (2 : Int32), .val (.long ga), .second, .val (.long gb), .second, rv b10, iv (1 : Int32)] [(.int (2 : Int32))])) _
      refine XS.iconst X16.here hx rfl (hb hby at_61) ?_
      show Steps p.tables e below (T16.setTop (mkF m 62 #[iv p0, iv p1, .val (.long q2), .second, .val (.long q3), .second, iv cp, iv (2 : Int32), .val (.long ga), .second, .val (.long gb), .second, rv b10, iv (1 : Int32)] [(.int (1 : Int32)), (.int (2 : Int32))])) _
      refine XS.icmpNo X16.here hx rfl (hb hby at_62) rfl (flt (by decide : ¬ ((2 : Int32) < (1 : Int32)))).1 ?_
      show Steps p.tables e below (T16.setTop (mkF m 65 #[iv p0, iv p1, .val (.long q2), .second, .val (.long q3), .second, iv cp, iv (2 : Int32), .val (.long ga), .second, .val (.long gb), .second, rv b10, iv (1 : Int32)] [])) _
      refine XS.aload X16.here hx rfl (hb hby at_65) rfl rfl ?_
      show Steps p.tables e below (T16.setTop (mkF m 67 #[iv p0, iv p1, .val (.long q2), .second, .val (.long q3), .second, iv cp, iv (2 : Int32), .val (.long ga), .second, .val (.long gb), .second, rv b10, iv (1 : Int32)] [(.ref b10)])) _
      refine XS.lload X16.here hx rfl (hb hby at_67) rfl  ?_
      exact k)
    obtain ⟨_, _, ⟨T33, L33, k33, n33⟩, -, X33, ⟨Lc33, hQ33, l33, y33, z33⟩, st33⟩ := Jvm.LawKit.callS X16 hx (y := (⟨sN1, "addThenNonEmpty", sN2⟩ : MethodName)) hown (mvT hZ (hw _ (List.mem_of_getElem? (i := 22) rfl))) (mvT hZ (hw _ (List.mem_of_getElem? (i := 23) rfl))) (mvT hZ (hw _ (List.mem_of_getElem? (i := 24) rfl))) (mvT hZ (hw _ (List.mem_of_getElem? (i := 25) rfl))) (by decide) (backOf (W := 0) (rmAtn l Z a0 hw [] b10 ga g_13 kk_13 cp vs_13 (0 : Int32) (0 : Int32) T13.heap n0 z13 f13_E_b10 p13_1 p13_2 p13_3 p13_4 g_b10 p13_5 p13_6 hga hcp ⟨by decide, by have := hcp.1; show (0 : Int) ≤ _; omega⟩ ⟨by decide, by have := hcp.1; show (0 : Int) < _; omega⟩) hZ (hw _ (List.mem_of_getElem? (i := 25) rfl)) (hw _ (List.mem_of_getElem? (i := 24) rfl)) (by decide) (by decide)) (g := (mkF m 69 #[iv p0, iv p1, .val (.long q2), .second, .val (.long q3), .second, iv cp, iv (2 : Int32), .val (.long ga), .second, .val (.long gb), .second, rv b10, iv (1 : Int32)] [(.long ga), (.ref b10)])) rfl (by rw [hml]; rfl) (argsL := [(.ref b10), (.long ga)]) (rest := []) (lenOf pd_5 rfl) rfl (by show 2 * 0 + _ ≤ _; exact Nat.le_of_eq rfl) (hb hby at_69) (fun _ _ => ⟨rfl, p16_0, (by decide : 2 + 0 ≤ _), (by decide : 6 + 0 ≤ _)⟩)
    dsimp only [Pt.U, Pt.locs, Pt.cells, Pt.slots] at X33 l33 y33 z33 st33 hQ33
    subst l33 y33 z33
    obtain ⟨vs2_33, sz2_33, st2_33, rfl, N33q, p33_0, p33_1, p33_2, p33_3, p33_4, p33_5, p33_6⟩ := hQ33
    have N33 := Fr.app N16 N33q
    have f33_E_b10 : Exa Z T33.heap b10 sN0 := f13_E_b10.keep p33_0
    have z33 : n0 ≤ T33.heap.size := Nat.le_trans z13 p33_0.1
    have R34 : ∀ t, Steps p.tables e below (T33.setTop (mkF m 72 #[iv p0, iv p1, .val (.long q2), .second, .val (.long q3), .second, iv cp, iv (2 : Int32), .val (.long ga), .second, .val (.long gb), .second, rv b10, iv (1 : Int32)] [(.int (1 : Int32))])) t → Steps p.tables e below (s₁.setTop f0) t := fun t k => R32 t (st33 t k)
    have R35 : ∀ t, Steps p.tables e below (T33.setTop (mkF m 97 #[iv p0, iv p1, .val (.long q2), .second, .val (.long q3), .second, iv cp, iv (2 : Int32), .val (.long ga), .second, .val (.long gb), .second, rv b10, iv (1 : Int32)] [(.long gb), (.ref b10)])) t → Steps p.tables e below (s₁.setTop f0) t := fun t k => R34 t (by
      show Steps p.tables e below (T33.setTop (mkF m 72 #[iv p0, iv p1, .val (.long q2), .second, .val (.long q3), .second, iv cp, iv (2 : Int32), .val (.long ga), .second, .val (.long gb), .second, rv b10, iv (1 : Int32)] [(.int (1 : Int32))])) _
      refine XS.ifNo X33.here hx rfl (hb hby at_72) rfl ((if0 _ _).trans (feq (by decide : ¬ ((1 : Int32) = (0 : Int32)))).1) ?_
      show Steps p.tables e below (T33.setTop (mkF m 75 #[iv p0, iv p1, .val (.long q2), .second, .val (.long q3), .second, iv cp, iv (2 : Int32), .val (.long ga), .second, .val (.long gb), .second, rv b10, iv (1 : Int32)] [])) _
      refine XS.iload X33.here hx rfl (hb hby at_75) rfl  ?_
      show Steps p.tables e below (T33.setTop (mkF m 77 #[iv p0, iv p1, .val (.long q2), .second, .val (.long q3), .second, iv cp, iv (2 : Int32), .val (.long ga), .second, .val (.long gb), .second, rv b10, iv (1 : Int32)] [(.int (1 : Int32))])) _
      refine XS.ifNo X33.here hx rfl (hb hby at_77) rfl ((if0 _ _).trans (feq (by decide : ¬ ((1 : Int32) = (0 : Int32)))).1) ?_
      show Steps p.tables e below (T33.setTop (mkF m 80 #[iv p0, iv p1, .val (.long q2), .second, .val (.long q3), .second, iv cp, iv (2 : Int32), .val (.long ga), .second, .val (.long gb), .second, rv b10, iv (1 : Int32)] [])) _
      refine XS.iconst X33.here hx rfl (hb hby at_80) ?_
      show Steps p.tables e below (T33.setTop (mkF m 81 #[iv p0, iv p1, .val (.long q2), .second, .val (.long q3), .second, iv cp, iv (2 : Int32), .val (.long ga), .second, .val (.long gb), .second, rv b10, iv (1 : Int32)] [(.int (1 : Int32))])) _
      refine XS.goto X33.here hx rfl (pc0 := 81) (pc' := 85) rfl (hb hby at_81) (by decide) (by decide) ?_
      show Steps p.tables e below (T33.setTop (mkF m 85 #[iv p0, iv p1, .val (.long q2), .second, .val (.long q3), .second, iv cp, iv (2 : Int32), .val (.long ga), .second, .val (.long gb), .second, rv b10, iv (1 : Int32)] [(.int (1 : Int32))])) _
      refine XS.istore X33.here hx rfl (hb hby at_85) rfl (l' := #[iv p0, iv p1, .val (.long q2), .second, .val (.long q3), .second, iv cp, iv (2 : Int32), .val (.long ga), .second, .val (.long gb), .second, rv b10, iv (1 : Int32)]) rfl ?_
      show Steps p.tables e below (T33.setTop (mkF m 87 #[iv p0, iv p1, .val (.long q2), .second, .val (.long q3), .second, iv cp, iv (2 : Int32), .val (.long ga), .second, .val (.long gb), .second, rv b10, iv (1 : Int32)] [])) _
      refine XS.iload X33.here hx rfl (hb hby at_87) rfl  ?_
      show Steps p.tables e below (T33.setTop (mkF m 89 #[iv p0, iv p1, .val (.long q2), .second, .val (.long q3), .second, iv cp, iv (2 : Int32), .val (.long ga), .second, .val (.long gb), .second, rv b10, iv (1 : Int32)] [(.int (2 : Int32))])) _
      refine XS.iconst X33.here hx rfl (hb hby at_89) ?_
      show Steps p.tables e below (T33.setTop (mkF m 90 #[iv p0, iv p1, .val (.long q2), .second, .val (.long q3), .second, iv cp, iv (2 : Int32), .val (.long ga), .second, .val (.long gb), .second, rv b10, iv (1 : Int32)] [(.int (2 : Int32)), (.int (2 : Int32))])) _
      refine XS.icmpNo X33.here hx rfl (hb hby at_90) rfl (flt (by decide : ¬ ((2 : Int32) < (2 : Int32)))).1 ?_
      show Steps p.tables e below (T33.setTop (mkF m 93 #[iv p0, iv p1, .val (.long q2), .second, .val (.long q3), .second, iv cp, iv (2 : Int32), .val (.long ga), .second, .val (.long gb), .second, rv b10, iv (1 : Int32)] [])) _
      refine XS.aload X33.here hx rfl (hb hby at_93) rfl rfl ?_
      show Steps p.tables e below (T33.setTop (mkF m 95 #[iv p0, iv p1, .val (.long q2), .second, .val (.long q3), .second, iv cp, iv (2 : Int32), .val (.long ga), .second, .val (.long gb), .second, rv b10, iv (1 : Int32)] [(.ref b10)])) _
      refine XS.lload X33.here hx rfl (hb hby at_95) rfl  ?_
      exact k)
    obtain ⟨_, _, ⟨T36, L36, k36, n36⟩, -, X36, ⟨Lc36, hQ36, l36, y36, z36⟩, st36⟩ := Jvm.LawKit.callS X33 hx (y := (⟨sN1, "addThenNonEmpty", sN2⟩ : MethodName)) hown (mvT hZ (hw _ (List.mem_of_getElem? (i := 22) rfl))) (mvT hZ (hw _ (List.mem_of_getElem? (i := 23) rfl))) (mvT hZ (hw _ (List.mem_of_getElem? (i := 24) rfl))) (mvT hZ (hw _ (List.mem_of_getElem? (i := 25) rfl))) (by decide) (backOf (W := 0) (rmAtn l Z a0 hw [] b10 gb g_13 kk_13 cp vs2_33 sz2_33 st2_33 T33.heap n0 z33 f33_E_b10 p33_1 p33_2 p33_3 p33_4 g_b10 p13_5 p13_6 hgb hcp ⟨Int.le_trans (by decide) p33_5.1, p33_5.2⟩ p33_6) hZ (hw _ (List.mem_of_getElem? (i := 25) rfl)) (hw _ (List.mem_of_getElem? (i := 24) rfl)) (by decide) (by decide)) (g := (mkF m 97 #[iv p0, iv p1, .val (.long q2), .second, .val (.long q3), .second, iv cp, iv (2 : Int32), .val (.long ga), .second, .val (.long gb), .second, rv b10, iv (1 : Int32)] [(.long gb), (.ref b10)])) rfl (by rw [hml]; rfl) (argsL := [(.ref b10), (.long gb)]) (rest := []) (lenOf pd_5 rfl) rfl (by show 2 * 0 + _ ≤ _; exact Nat.le_of_eq rfl) (hb hby at_97) (fun _ _ => ⟨rfl, rfl, (by decide : 2 + 0 ≤ _), (by decide : 6 + 0 ≤ _)⟩)
    dsimp only [Pt.U, Pt.locs, Pt.cells, Pt.slots] at X36 l36 y36 z36 st36 hQ36
    subst l36 y36 z36
    obtain ⟨vs2_36, sz2_36, st2_36, rfl, N36q, p36_0, p36_1, p36_2, p36_3, p36_4, p36_5, p36_6⟩ := hQ36
    have N36 := Fr.app N33 N36q
    have f36_E_b10 : Exa Z T36.heap b10 sN0 := f33_E_b10.keep p36_0
    have z36 : n0 ≤ T36.heap.size := Nat.le_trans z33 p36_0.1
    have R37 : ∀ t, Steps p.tables e below (T36.setTop (mkF m 100 #[iv p0, iv p1, .val (.long q2), .second, .val (.long q3), .second, iv cp, iv (2 : Int32), .val (.long ga), .second, .val (.long gb), .second, rv b10, iv (1 : Int32)] [(.int (1 : Int32))])) t → Steps p.tables e below (s₁.setTop f0) t := fun t k => R35 t (st36 t k)
    have R38 : ∀ t, Steps p.tables e below (T36.setTop (mkF m 198 #[iv p0, iv p1, .val (.long q2), .second, .val (.long q3), .second, iv cp, iv (2 : Int32), .val (.long ga), .second, .val (.long gb), .second, rv b10, iv (1 : Int32)] [(.int (1 : Int32))])) t → Steps p.tables e below (s₁.setTop f0) t := fun t k => R37 t (by
      show Steps p.tables e below (T36.setTop (mkF m 100 #[iv p0, iv p1, .val (.long q2), .second, .val (.long q3), .second, iv cp, iv (2 : Int32), .val (.long ga), .second, .val (.long gb), .second, rv b10, iv (1 : Int32)] [(.int (1 : Int32))])) _
      refine XS.ifNo X36.here hx rfl (hb hby at_100) rfl ((if0 _ _).trans (feq (by decide : ¬ ((1 : Int32) = (0 : Int32)))).1) ?_
      show Steps p.tables e below (T36.setTop (mkF m 103 #[iv p0, iv p1, .val (.long q2), .second, .val (.long q3), .second, iv cp, iv (2 : Int32), .val (.long ga), .second, .val (.long gb), .second, rv b10, iv (1 : Int32)] [])) _
      refine XS.iload X36.here hx rfl (hb hby at_103) rfl  ?_
      show Steps p.tables e below (T36.setTop (mkF m 105 #[iv p0, iv p1, .val (.long q2), .second, .val (.long q3), .second, iv cp, iv (2 : Int32), .val (.long ga), .second, .val (.long gb), .second, rv b10, iv (1 : Int32)] [(.int (1 : Int32))])) _
      refine XS.ifNo X36.here hx rfl (hb hby at_105) rfl ((if0 _ _).trans (feq (by decide : ¬ ((1 : Int32) = (0 : Int32)))).1) ?_
      show Steps p.tables e below (T36.setTop (mkF m 108 #[iv p0, iv p1, .val (.long q2), .second, .val (.long q3), .second, iv cp, iv (2 : Int32), .val (.long ga), .second, .val (.long gb), .second, rv b10, iv (1 : Int32)] [])) _
      refine XS.iconst X36.here hx rfl (hb hby at_108) ?_
      show Steps p.tables e below (T36.setTop (mkF m 109 #[iv p0, iv p1, .val (.long q2), .second, .val (.long q3), .second, iv cp, iv (2 : Int32), .val (.long ga), .second, .val (.long gb), .second, rv b10, iv (1 : Int32)] [(.int (1 : Int32))])) _
      refine XS.goto X36.here hx rfl (pc0 := 109) (pc' := 113) rfl (hb hby at_109) (by decide) (by decide) ?_
      show Steps p.tables e below (T36.setTop (mkF m 113 #[iv p0, iv p1, .val (.long q2), .second, .val (.long q3), .second, iv cp, iv (2 : Int32), .val (.long ga), .second, .val (.long gb), .second, rv b10, iv (1 : Int32)] [(.int (1 : Int32))])) _
      refine XS.istore X36.here hx rfl (hb hby at_113) rfl (l' := #[iv p0, iv p1, .val (.long q2), .second, .val (.long q3), .second, iv cp, iv (2 : Int32), .val (.long ga), .second, .val (.long gb), .second, rv b10, iv (1 : Int32)]) rfl ?_
      show Steps p.tables e below (T36.setTop (mkF m 115 #[iv p0, iv p1, .val (.long q2), .second, .val (.long q3), .second, iv cp, iv (2 : Int32), .val (.long ga), .second, .val (.long gb), .second, rv b10, iv (1 : Int32)] [])) _
      refine XS.iload X36.here hx rfl (hb hby at_115) rfl  ?_
      show Steps p.tables e below (T36.setTop (mkF m 117 #[iv p0, iv p1, .val (.long q2), .second, .val (.long q3), .second, iv cp, iv (2 : Int32), .val (.long ga), .second, .val (.long gb), .second, rv b10, iv (1 : Int32)] [(.int (2 : Int32))])) _
      refine XS.iconst X36.here hx rfl (hb hby at_117) ?_
      show Steps p.tables e below (T36.setTop (mkF m 118 #[iv p0, iv p1, .val (.long q2), .second, .val (.long q3), .second, iv cp, iv (2 : Int32), .val (.long ga), .second, .val (.long gb), .second, rv b10, iv (1 : Int32)] [(.int (3 : Int32)), (.int (2 : Int32))])) _
      refine XS.icmpYes X36.here hx rfl (pc0 := 118) (pc' := 143) rfl (hb hby at_118) rfl (tlt (by decide : (2 : Int32) < (3 : Int32))).1 (by decide) (by decide) ?_
      show Steps p.tables e below (T36.setTop (mkF m 143 #[iv p0, iv p1, .val (.long q2), .second, .val (.long q3), .second, iv cp, iv (2 : Int32), .val (.long ga), .second, .val (.long gb), .second, rv b10, iv (1 : Int32)] [])) _
      refine XS.iload X36.here hx rfl (hb hby at_143) rfl  ?_
      show Steps p.tables e below (T36.setTop (mkF m 145 #[iv p0, iv p1, .val (.long q2), .second, .val (.long q3), .second, iv cp, iv (2 : Int32), .val (.long ga), .second, .val (.long gb), .second, rv b10, iv (1 : Int32)] [(.int (2 : Int32))])) _
      refine XS.iconst X36.here hx rfl (hb hby at_145) ?_
      show Steps p.tables e below (T36.setTop (mkF m 146 #[iv p0, iv p1, .val (.long q2), .second, .val (.long q3), .second, iv cp, iv (2 : Int32), .val (.long ga), .second, .val (.long gb), .second, rv b10, iv (1 : Int32)] [(.int (4 : Int32)), (.int (2 : Int32))])) _
      refine XS.icmpYes X36.here hx rfl (pc0 := 146) (pc' := 171) rfl (hb hby at_146) rfl (tlt (by decide : (2 : Int32) < (4 : Int32))).1 (by decide) (by decide) ?_
      show Steps p.tables e below (T36.setTop (mkF m 171 #[iv p0, iv p1, .val (.long q2), .second, .val (.long q3), .second, iv cp, iv (2 : Int32), .val (.long ga), .second, .val (.long gb), .second, rv b10, iv (1 : Int32)] [])) _
      refine XS.iload X36.here hx rfl (hb hby at_171) rfl  ?_
      show Steps p.tables e below (T36.setTop (mkF m 173 #[iv p0, iv p1, .val (.long q2), .second, .val (.long q3), .second, iv cp, iv (2 : Int32), .val (.long ga), .second, .val (.long gb), .second, rv b10, iv (1 : Int32)] [(.int (2 : Int32))])) _
      refine XS.ifYes X36.here hx rfl (pc0 := 173) (pc' := 196) rfl (hb hby at_173) rfl ((if0 _ _).trans (feq (by decide : ¬ ((2 : Int32) = (0 : Int32)))).2) (by decide) (by decide) ?_
      show Steps p.tables e below (T36.setTop (mkF m 196 #[iv p0, iv p1, .val (.long q2), .second, .val (.long q3), .second, iv cp, iv (2 : Int32), .val (.long ga), .second, .val (.long gb), .second, rv b10, iv (1 : Int32)] [])) _
      refine XS.iload X36.here hx rfl (hb hby at_196) rfl  ?_
      exact k)
    obtain ⟨fs, hr, hrun, hended, hW, hsame⟩ := X36.leave (v := some (.int (1 : Int32))) (fun h => by rw [Bd.returns] at h; cases h)
    refine ⟨_, _, pre0 _ (R38 _ ?_), hrun, hended, _, _, rfl, ?_, ⟨_, rfl⟩, hW, hsame.mono (by decide) (by decide)⟩
    · show Steps p.tables e below (T36.setTop (mkF m 198 #[iv p0, iv p1, .val (.long q2), .second, .val (.long q3), .second, iv cp, iv (2 : Int32), .val (.long ga), .second, .val (.long gb), .second, rv b10, iv (1 : Int32)] [(.int (1 : Int32))])) _
      exact retN X36 hx (t := .boolean) Bd.returns (by simp) (hb hby at_198) hr
    · show Q_rmLaw Z p0 p1 q2 q3 h0 n0 _ T36.heap _
      exact ⟨rfl, N36⟩
  · skip
    have R39 : ∀ t, Steps p.tables e below (T16.setTop (mkF m 59 #[iv p0, iv p1, .val (.long q2), .second, .val (.long q3), .second, iv cp, iv (3 : Int32), .val (.long ga), .second, .val (.long gb), .second, rv b10, iv (1 : Int32)] [])) t → Steps p.tables e below (s₁.setTop f0) t := by have q := R19; rw [(hk : kc = (3 : Int32))] at q; exact q
    have R40 : ∀ t, Steps p.tables e below (T16.setTop (mkF m 69 #[iv p0, iv p1, .val (.long q2), .second, .val (.long q3), .second, iv cp, iv (3 : Int32), .val (.long ga), .second, .val (.long gb), .second, rv b10, iv (1 : Int32)] [(.long ga), (.ref b10)])) t → Steps p.tables e below (s₁.setTop f0) t := fun t k => R39 t (by
      show Steps p.tables e below (T16.setTop (mkF m 59 #[iv p0, iv p1, .val (.long q2), .second, .val (.long q3), .second, iv cp, iv (3 : Int32), .val (.long ga), .second, .val (.long gb), .second, rv b10, iv (1 : Int32)] [])) _
      refine XS.iload X16.here hx rfl (hb hby at_59) rfl  ?_
      show Steps p.tables e below (T16.setTop (mkF m 61 #[iv p0, iv p1, .val (.long q2), .second, .val (.long q3), .second, iv cp, iv (3 : Int32), .val (.long ga), .second, .val (.long gb), .second, rv b10, iv (1 : Int32)] [(.int (3 : Int32))])) _
      refine XS.iconst X16.here hx rfl (hb hby at_61) ?_
      show Steps p.tables e below (T16.setTop (mkF m 62 #[iv p0, iv p1, .val (.long q2), .second, .val (.long q3), .second, iv cp, iv (3 : Int32), .val (.long ga), .second, .val (.long gb), .second, rv b10, iv (1 : Int32)] [(.int (1 : Int32)), (.int (3 : Int32))])) _
      refine XS.icmpNo X16.here hx rfl (hb hby at_62) rfl (flt (by decide : ¬ ((3 : Int32) < (1 : Int32)))).1 ?_
      show Steps p.tables e below (T16.setTop (mkF m 65 #[iv p0, iv p1, .val (.long q2), .second, .val (.long q3), .second, iv cp, iv (3 : Int32), .val (.long ga), .second, .val (.long gb), .second, rv b10, iv (1 : Int32)] [])) _
      refine XS.aload X16.here hx rfl (hb hby at_65) rfl rfl ?_
      show Steps p.tables e below (T16.setTop (mkF m 67 #[iv p0, iv p1, .val (.long q2), .second, .val (.long q3), .second, iv cp, iv (3 : Int32), .val (.long ga), .second, .val (.long gb), .second, rv b10, iv (1 : Int32)] [(.ref b10)])) _
      refine XS.lload X16.here hx rfl (hb hby at_67) rfl  ?_
      exact k)
    obtain ⟨_, _, ⟨T41, L41, k41, n41⟩, -, X41, ⟨Lc41, hQ41, l41, y41, z41⟩, st41⟩ := Jvm.LawKit.callS X16 hx (y := (⟨sN1, "addThenNonEmpty", sN2⟩ : MethodName)) hown (mvT hZ (hw _ (List.mem_of_getElem? (i := 22) rfl))) (mvT hZ (hw _ (List.mem_of_getElem? (i := 23) rfl))) (mvT hZ (hw _ (List.mem_of_getElem? (i := 24) rfl))) (mvT hZ (hw _ (List.mem_of_getElem? (i := 25) rfl))) (by decide) (backOf (W := 0) (rmAtn l Z a0 hw [] b10 ga g_13 kk_13 cp vs_13 (0 : Int32) (0 : Int32) T13.heap n0 z13 f13_E_b10 p13_1 p13_2 p13_3 p13_4 g_b10 p13_5 p13_6 hga hcp ⟨by decide, by have := hcp.1; show (0 : Int) ≤ _; omega⟩ ⟨by decide, by have := hcp.1; show (0 : Int) < _; omega⟩) hZ (hw _ (List.mem_of_getElem? (i := 25) rfl)) (hw _ (List.mem_of_getElem? (i := 24) rfl)) (by decide) (by decide)) (g := (mkF m 69 #[iv p0, iv p1, .val (.long q2), .second, .val (.long q3), .second, iv cp, iv (3 : Int32), .val (.long ga), .second, .val (.long gb), .second, rv b10, iv (1 : Int32)] [(.long ga), (.ref b10)])) rfl (by rw [hml]; rfl) (argsL := [(.ref b10), (.long ga)]) (rest := []) (lenOf pd_5 rfl) rfl (by show 2 * 0 + _ ≤ _; exact Nat.le_of_eq rfl) (hb hby at_69) (fun _ _ => ⟨rfl, p16_0, (by decide : 2 + 0 ≤ _), (by decide : 6 + 0 ≤ _)⟩)
    dsimp only [Pt.U, Pt.locs, Pt.cells, Pt.slots] at X41 l41 y41 z41 st41 hQ41
    subst l41 y41 z41
    obtain ⟨vs2_41, sz2_41, st2_41, rfl, N41q, p41_0, p41_1, p41_2, p41_3, p41_4, p41_5, p41_6⟩ := hQ41
    have N41 := Fr.app N16 N41q
    have f41_E_b10 : Exa Z T41.heap b10 sN0 := f13_E_b10.keep p41_0
    have z41 : n0 ≤ T41.heap.size := Nat.le_trans z13 p41_0.1
    have R42 : ∀ t, Steps p.tables e below (T41.setTop (mkF m 72 #[iv p0, iv p1, .val (.long q2), .second, .val (.long q3), .second, iv cp, iv (3 : Int32), .val (.long ga), .second, .val (.long gb), .second, rv b10, iv (1 : Int32)] [(.int (1 : Int32))])) t → Steps p.tables e below (s₁.setTop f0) t := fun t k => R40 t (st41 t k)
    have R43 : ∀ t, Steps p.tables e below (T41.setTop (mkF m 97 #[iv p0, iv p1, .val (.long q2), .second, .val (.long q3), .second, iv cp, iv (3 : Int32), .val (.long ga), .second, .val (.long gb), .second, rv b10, iv (1 : Int32)] [(.long gb), (.ref b10)])) t → Steps p.tables e below (s₁.setTop f0) t := fun t k => R42 t (by
      show Steps p.tables e below (T41.setTop (mkF m 72 #[iv p0, iv p1, .val (.long q2), .second, .val (.long q3), .second, iv cp, iv (3 : Int32), .val (.long ga), .second, .val (.long gb), .second, rv b10, iv (1 : Int32)] [(.int (1 : Int32))])) _
      refine XS.ifNo X41.here hx rfl (hb hby at_72) rfl ((if0 _ _).trans (feq (by decide : ¬ ((1 : Int32) = (0 : Int32)))).1) ?_
      show Steps p.tables e below (T41.setTop (mkF m 75 #[iv p0, iv p1, .val (.long q2), .second, .val (.long q3), .second, iv cp, iv (3 : Int32), .val (.long ga), .second, .val (.long gb), .second, rv b10, iv (1 : Int32)] [])) _
      refine XS.iload X41.here hx rfl (hb hby at_75) rfl  ?_
      show Steps p.tables e below (T41.setTop (mkF m 77 #[iv p0, iv p1, .val (.long q2), .second, .val (.long q3), .second, iv cp, iv (3 : Int32), .val (.long ga), .second, .val (.long gb), .second, rv b10, iv (1 : Int32)] [(.int (1 : Int32))])) _
      refine XS.ifNo X41.here hx rfl (hb hby at_77) rfl ((if0 _ _).trans (feq (by decide : ¬ ((1 : Int32) = (0 : Int32)))).1) ?_
      show Steps p.tables e below (T41.setTop (mkF m 80 #[iv p0, iv p1, .val (.long q2), .second, .val (.long q3), .second, iv cp, iv (3 : Int32), .val (.long ga), .second, .val (.long gb), .second, rv b10, iv (1 : Int32)] [])) _
      refine XS.iconst X41.here hx rfl (hb hby at_80) ?_
      show Steps p.tables e below (T41.setTop (mkF m 81 #[iv p0, iv p1, .val (.long q2), .second, .val (.long q3), .second, iv cp, iv (3 : Int32), .val (.long ga), .second, .val (.long gb), .second, rv b10, iv (1 : Int32)] [(.int (1 : Int32))])) _
      refine XS.goto X41.here hx rfl (pc0 := 81) (pc' := 85) rfl (hb hby at_81) (by decide) (by decide) ?_
      show Steps p.tables e below (T41.setTop (mkF m 85 #[iv p0, iv p1, .val (.long q2), .second, .val (.long q3), .second, iv cp, iv (3 : Int32), .val (.long ga), .second, .val (.long gb), .second, rv b10, iv (1 : Int32)] [(.int (1 : Int32))])) _
      refine XS.istore X41.here hx rfl (hb hby at_85) rfl (l' := #[iv p0, iv p1, .val (.long q2), .second, .val (.long q3), .second, iv cp, iv (3 : Int32), .val (.long ga), .second, .val (.long gb), .second, rv b10, iv (1 : Int32)]) rfl ?_
      show Steps p.tables e below (T41.setTop (mkF m 87 #[iv p0, iv p1, .val (.long q2), .second, .val (.long q3), .second, iv cp, iv (3 : Int32), .val (.long ga), .second, .val (.long gb), .second, rv b10, iv (1 : Int32)] [])) _
      refine XS.iload X41.here hx rfl (hb hby at_87) rfl  ?_
      show Steps p.tables e below (T41.setTop (mkF m 89 #[iv p0, iv p1, .val (.long q2), .second, .val (.long q3), .second, iv cp, iv (3 : Int32), .val (.long ga), .second, .val (.long gb), .second, rv b10, iv (1 : Int32)] [(.int (3 : Int32))])) _
      refine XS.iconst X41.here hx rfl (hb hby at_89) ?_
      show Steps p.tables e below (T41.setTop (mkF m 90 #[iv p0, iv p1, .val (.long q2), .second, .val (.long q3), .second, iv cp, iv (3 : Int32), .val (.long ga), .second, .val (.long gb), .second, rv b10, iv (1 : Int32)] [(.int (2 : Int32)), (.int (3 : Int32))])) _
      refine XS.icmpNo X41.here hx rfl (hb hby at_90) rfl (flt (by decide : ¬ ((3 : Int32) < (2 : Int32)))).1 ?_
      show Steps p.tables e below (T41.setTop (mkF m 93 #[iv p0, iv p1, .val (.long q2), .second, .val (.long q3), .second, iv cp, iv (3 : Int32), .val (.long ga), .second, .val (.long gb), .second, rv b10, iv (1 : Int32)] [])) _
      refine XS.aload X41.here hx rfl (hb hby at_93) rfl rfl ?_
      show Steps p.tables e below (T41.setTop (mkF m 95 #[iv p0, iv p1, .val (.long q2), .second, .val (.long q3), .second, iv cp, iv (3 : Int32), .val (.long ga), .second, .val (.long gb), .second, rv b10, iv (1 : Int32)] [(.ref b10)])) _
      refine XS.lload X41.here hx rfl (hb hby at_95) rfl  ?_
      exact k)
    obtain ⟨_, _, ⟨T44, L44, k44, n44⟩, -, X44, ⟨Lc44, hQ44, l44, y44, z44⟩, st44⟩ := Jvm.LawKit.callS X41 hx (y := (⟨sN1, "addThenNonEmpty", sN2⟩ : MethodName)) hown (mvT hZ (hw _ (List.mem_of_getElem? (i := 22) rfl))) (mvT hZ (hw _ (List.mem_of_getElem? (i := 23) rfl))) (mvT hZ (hw _ (List.mem_of_getElem? (i := 24) rfl))) (mvT hZ (hw _ (List.mem_of_getElem? (i := 25) rfl))) (by decide) (backOf (W := 0) (rmAtn l Z a0 hw [] b10 gb g_13 kk_13 cp vs2_41 sz2_41 st2_41 T41.heap n0 z41 f41_E_b10 p41_1 p41_2 p41_3 p41_4 g_b10 p13_5 p13_6 hgb hcp ⟨Int.le_trans (by decide) p41_5.1, p41_5.2⟩ p41_6) hZ (hw _ (List.mem_of_getElem? (i := 25) rfl)) (hw _ (List.mem_of_getElem? (i := 24) rfl)) (by decide) (by decide)) (g := (mkF m 97 #[iv p0, iv p1, .val (.long q2), .second, .val (.long q3), .second, iv cp, iv (3 : Int32), .val (.long ga), .second, .val (.long gb), .second, rv b10, iv (1 : Int32)] [(.long gb), (.ref b10)])) rfl (by rw [hml]; rfl) (argsL := [(.ref b10), (.long gb)]) (rest := []) (lenOf pd_5 rfl) rfl (by show 2 * 0 + _ ≤ _; exact Nat.le_of_eq rfl) (hb hby at_97) (fun _ _ => ⟨rfl, rfl, (by decide : 2 + 0 ≤ _), (by decide : 6 + 0 ≤ _)⟩)
    dsimp only [Pt.U, Pt.locs, Pt.cells, Pt.slots] at X44 l44 y44 z44 st44 hQ44
    subst l44 y44 z44
    obtain ⟨vs2_44, sz2_44, st2_44, rfl, N44q, p44_0, p44_1, p44_2, p44_3, p44_4, p44_5, p44_6⟩ := hQ44
    have N44 := Fr.app N41 N44q
    have f44_E_b10 : Exa Z T44.heap b10 sN0 := f41_E_b10.keep p44_0
    have z44 : n0 ≤ T44.heap.size := Nat.le_trans z41 p44_0.1
    have R45 : ∀ t, Steps p.tables e below (T44.setTop (mkF m 100 #[iv p0, iv p1, .val (.long q2), .second, .val (.long q3), .second, iv cp, iv (3 : Int32), .val (.long ga), .second, .val (.long gb), .second, rv b10, iv (1 : Int32)] [(.int (1 : Int32))])) t → Steps p.tables e below (s₁.setTop f0) t := fun t k => R43 t (st44 t k)
    have R46 : ∀ t, Steps p.tables e below (T44.setTop (mkF m 125 #[iv p0, iv p1, .val (.long q2), .second, .val (.long q3), .second, iv cp, iv (3 : Int32), .val (.long ga), .second, .val (.long gb), .second, rv b10, iv (1 : Int32)] [(.long ga), (.ref b10)])) t → Steps p.tables e below (s₁.setTop f0) t := fun t k => R45 t (by
      show Steps p.tables e below (T44.setTop (mkF m 100 #[iv p0, iv p1, .val (.long q2), .second, .val (.long q3), .second, iv cp, iv (3 : Int32), .val (.long ga), .second, .val (.long gb), .second, rv b10, iv (1 : Int32)] [(.int (1 : Int32))])) _
      refine XS.ifNo X44.here hx rfl (hb hby at_100) rfl ((if0 _ _).trans (feq (by decide : ¬ ((1 : Int32) = (0 : Int32)))).1) ?_
      show Steps p.tables e below (T44.setTop (mkF m 103 #[iv p0, iv p1, .val (.long q2), .second, .val (.long q3), .second, iv cp, iv (3 : Int32), .val (.long ga), .second, .val (.long gb), .second, rv b10, iv (1 : Int32)] [])) _
      refine XS.iload X44.here hx rfl (hb hby at_103) rfl  ?_
      show Steps p.tables e below (T44.setTop (mkF m 105 #[iv p0, iv p1, .val (.long q2), .second, .val (.long q3), .second, iv cp, iv (3 : Int32), .val (.long ga), .second, .val (.long gb), .second, rv b10, iv (1 : Int32)] [(.int (1 : Int32))])) _
      refine XS.ifNo X44.here hx rfl (hb hby at_105) rfl ((if0 _ _).trans (feq (by decide : ¬ ((1 : Int32) = (0 : Int32)))).1) ?_
      show Steps p.tables e below (T44.setTop (mkF m 108 #[iv p0, iv p1, .val (.long q2), .second, .val (.long q3), .second, iv cp, iv (3 : Int32), .val (.long ga), .second, .val (.long gb), .second, rv b10, iv (1 : Int32)] [])) _
      refine XS.iconst X44.here hx rfl (hb hby at_108) ?_
      show Steps p.tables e below (T44.setTop (mkF m 109 #[iv p0, iv p1, .val (.long q2), .second, .val (.long q3), .second, iv cp, iv (3 : Int32), .val (.long ga), .second, .val (.long gb), .second, rv b10, iv (1 : Int32)] [(.int (1 : Int32))])) _
      refine XS.goto X44.here hx rfl (pc0 := 109) (pc' := 113) rfl (hb hby at_109) (by decide) (by decide) ?_
      show Steps p.tables e below (T44.setTop (mkF m 113 #[iv p0, iv p1, .val (.long q2), .second, .val (.long q3), .second, iv cp, iv (3 : Int32), .val (.long ga), .second, .val (.long gb), .second, rv b10, iv (1 : Int32)] [(.int (1 : Int32))])) _
      refine XS.istore X44.here hx rfl (hb hby at_113) rfl (l' := #[iv p0, iv p1, .val (.long q2), .second, .val (.long q3), .second, iv cp, iv (3 : Int32), .val (.long ga), .second, .val (.long gb), .second, rv b10, iv (1 : Int32)]) rfl ?_
      show Steps p.tables e below (T44.setTop (mkF m 115 #[iv p0, iv p1, .val (.long q2), .second, .val (.long q3), .second, iv cp, iv (3 : Int32), .val (.long ga), .second, .val (.long gb), .second, rv b10, iv (1 : Int32)] [])) _
      refine XS.iload X44.here hx rfl (hb hby at_115) rfl  ?_
      show Steps p.tables e below (T44.setTop (mkF m 117 #[iv p0, iv p1, .val (.long q2), .second, .val (.long q3), .second, iv cp, iv (3 : Int32), .val (.long ga), .second, .val (.long gb), .second, rv b10, iv (1 : Int32)] [(.int (3 : Int32))])) _
      refine XS.iconst X44.here hx rfl (hb hby at_117) ?_
      show Steps p.tables e below (T44.setTop (mkF m 118 #[iv p0, iv p1, .val (.long q2), .second, .val (.long q3), .second, iv cp, iv (3 : Int32), .val (.long ga), .second, .val (.long gb), .second, rv b10, iv (1 : Int32)] [(.int (3 : Int32)), (.int (3 : Int32))])) _
      refine XS.icmpNo X44.here hx rfl (hb hby at_118) rfl (flt (by decide : ¬ ((3 : Int32) < (3 : Int32)))).1 ?_
      show Steps p.tables e below (T44.setTop (mkF m 121 #[iv p0, iv p1, .val (.long q2), .second, .val (.long q3), .second, iv cp, iv (3 : Int32), .val (.long ga), .second, .val (.long gb), .second, rv b10, iv (1 : Int32)] [])) _
      refine XS.aload X44.here hx rfl (hb hby at_121) rfl rfl ?_
      show Steps p.tables e below (T44.setTop (mkF m 123 #[iv p0, iv p1, .val (.long q2), .second, .val (.long q3), .second, iv cp, iv (3 : Int32), .val (.long ga), .second, .val (.long gb), .second, rv b10, iv (1 : Int32)] [(.ref b10)])) _
      refine XS.lload X44.here hx rfl (hb hby at_123) rfl  ?_
      exact k)
    obtain ⟨_, _, ⟨T47, L47, k47, n47⟩, -, X47, ⟨Lc47, hQ47, l47, y47, z47⟩, st47⟩ := Jvm.LawKit.callS X44 hx (y := (⟨sN1, "addThenNonEmpty", sN2⟩ : MethodName)) hown (mvT hZ (hw _ (List.mem_of_getElem? (i := 22) rfl))) (mvT hZ (hw _ (List.mem_of_getElem? (i := 23) rfl))) (mvT hZ (hw _ (List.mem_of_getElem? (i := 24) rfl))) (mvT hZ (hw _ (List.mem_of_getElem? (i := 25) rfl))) (by decide) (backOf (W := 0) (rmAtn l Z a0 hw [] b10 ga g_13 kk_13 cp vs2_44 sz2_44 st2_44 T44.heap n0 z44 f44_E_b10 p44_1 p44_2 p44_3 p44_4 g_b10 p13_5 p13_6 hga hcp ⟨Int.le_trans (by decide) p44_5.1, p44_5.2⟩ p44_6) hZ (hw _ (List.mem_of_getElem? (i := 25) rfl)) (hw _ (List.mem_of_getElem? (i := 24) rfl)) (by decide) (by decide)) (g := (mkF m 125 #[iv p0, iv p1, .val (.long q2), .second, .val (.long q3), .second, iv cp, iv (3 : Int32), .val (.long ga), .second, .val (.long gb), .second, rv b10, iv (1 : Int32)] [(.long ga), (.ref b10)])) rfl (by rw [hml]; rfl) (argsL := [(.ref b10), (.long ga)]) (rest := []) (lenOf pd_5 rfl) rfl (by show 2 * 0 + _ ≤ _; exact Nat.le_of_eq rfl) (hb hby at_125) (fun _ _ => ⟨rfl, rfl, (by decide : 2 + 0 ≤ _), (by decide : 6 + 0 ≤ _)⟩)
    dsimp only [Pt.U, Pt.locs, Pt.cells, Pt.slots] at X47 l47 y47 z47 st47 hQ47
    subst l47 y47 z47
    obtain ⟨vs2_47, sz2_47, st2_47, rfl, N47q, p47_0, p47_1, p47_2, p47_3, p47_4, p47_5, p47_6⟩ := hQ47
    have N47 := Fr.app N44 N47q
    have f47_E_b10 : Exa Z T47.heap b10 sN0 := f44_E_b10.keep p47_0
    have z47 : n0 ≤ T47.heap.size := Nat.le_trans z44 p47_0.1
    have R48 : ∀ t, Steps p.tables e below (T47.setTop (mkF m 128 #[iv p0, iv p1, .val (.long q2), .second, .val (.long q3), .second, iv cp, iv (3 : Int32), .val (.long ga), .second, .val (.long gb), .second, rv b10, iv (1 : Int32)] [(.int (1 : Int32))])) t → Steps p.tables e below (s₁.setTop f0) t := fun t k => R46 t (st47 t k)
    have R49 : ∀ t, Steps p.tables e below (T47.setTop (mkF m 198 #[iv p0, iv p1, .val (.long q2), .second, .val (.long q3), .second, iv cp, iv (3 : Int32), .val (.long ga), .second, .val (.long gb), .second, rv b10, iv (1 : Int32)] [(.int (1 : Int32))])) t → Steps p.tables e below (s₁.setTop f0) t := fun t k => R48 t (by
      show Steps p.tables e below (T47.setTop (mkF m 128 #[iv p0, iv p1, .val (.long q2), .second, .val (.long q3), .second, iv cp, iv (3 : Int32), .val (.long ga), .second, .val (.long gb), .second, rv b10, iv (1 : Int32)] [(.int (1 : Int32))])) _
      refine XS.ifNo X47.here hx rfl (hb hby at_128) rfl ((if0 _ _).trans (feq (by decide : ¬ ((1 : Int32) = (0 : Int32)))).1) ?_
      show Steps p.tables e below (T47.setTop (mkF m 131 #[iv p0, iv p1, .val (.long q2), .second, .val (.long q3), .second, iv cp, iv (3 : Int32), .val (.long ga), .second, .val (.long gb), .second, rv b10, iv (1 : Int32)] [])) _
      refine XS.iload X47.here hx rfl (hb hby at_131) rfl  ?_
      show Steps p.tables e below (T47.setTop (mkF m 133 #[iv p0, iv p1, .val (.long q2), .second, .val (.long q3), .second, iv cp, iv (3 : Int32), .val (.long ga), .second, .val (.long gb), .second, rv b10, iv (1 : Int32)] [(.int (1 : Int32))])) _
      refine XS.ifNo X47.here hx rfl (hb hby at_133) rfl ((if0 _ _).trans (feq (by decide : ¬ ((1 : Int32) = (0 : Int32)))).1) ?_
      show Steps p.tables e below (T47.setTop (mkF m 136 #[iv p0, iv p1, .val (.long q2), .second, .val (.long q3), .second, iv cp, iv (3 : Int32), .val (.long ga), .second, .val (.long gb), .second, rv b10, iv (1 : Int32)] [])) _
      refine XS.iconst X47.here hx rfl (hb hby at_136) ?_
      show Steps p.tables e below (T47.setTop (mkF m 137 #[iv p0, iv p1, .val (.long q2), .second, .val (.long q3), .second, iv cp, iv (3 : Int32), .val (.long ga), .second, .val (.long gb), .second, rv b10, iv (1 : Int32)] [(.int (1 : Int32))])) _
      refine XS.goto X47.here hx rfl (pc0 := 137) (pc' := 141) rfl (hb hby at_137) (by decide) (by decide) ?_
      show Steps p.tables e below (T47.setTop (mkF m 141 #[iv p0, iv p1, .val (.long q2), .second, .val (.long q3), .second, iv cp, iv (3 : Int32), .val (.long ga), .second, .val (.long gb), .second, rv b10, iv (1 : Int32)] [(.int (1 : Int32))])) _
      refine XS.istore X47.here hx rfl (hb hby at_141) rfl (l' := #[iv p0, iv p1, .val (.long q2), .second, .val (.long q3), .second, iv cp, iv (3 : Int32), .val (.long ga), .second, .val (.long gb), .second, rv b10, iv (1 : Int32)]) rfl ?_
      show Steps p.tables e below (T47.setTop (mkF m 143 #[iv p0, iv p1, .val (.long q2), .second, .val (.long q3), .second, iv cp, iv (3 : Int32), .val (.long ga), .second, .val (.long gb), .second, rv b10, iv (1 : Int32)] [])) _
      refine XS.iload X47.here hx rfl (hb hby at_143) rfl  ?_
      show Steps p.tables e below (T47.setTop (mkF m 145 #[iv p0, iv p1, .val (.long q2), .second, .val (.long q3), .second, iv cp, iv (3 : Int32), .val (.long ga), .second, .val (.long gb), .second, rv b10, iv (1 : Int32)] [(.int (3 : Int32))])) _
      refine XS.iconst X47.here hx rfl (hb hby at_145) ?_
      show Steps p.tables e below (T47.setTop (mkF m 146 #[iv p0, iv p1, .val (.long q2), .second, .val (.long q3), .second, iv cp, iv (3 : Int32), .val (.long ga), .second, .val (.long gb), .second, rv b10, iv (1 : Int32)] [(.int (4 : Int32)), (.int (3 : Int32))])) _
      refine XS.icmpYes X47.here hx rfl (pc0 := 146) (pc' := 171) rfl (hb hby at_146) rfl (tlt (by decide : (3 : Int32) < (4 : Int32))).1 (by decide) (by decide) ?_
      show Steps p.tables e below (T47.setTop (mkF m 171 #[iv p0, iv p1, .val (.long q2), .second, .val (.long q3), .second, iv cp, iv (3 : Int32), .val (.long ga), .second, .val (.long gb), .second, rv b10, iv (1 : Int32)] [])) _
      refine XS.iload X47.here hx rfl (hb hby at_171) rfl  ?_
      show Steps p.tables e below (T47.setTop (mkF m 173 #[iv p0, iv p1, .val (.long q2), .second, .val (.long q3), .second, iv cp, iv (3 : Int32), .val (.long ga), .second, .val (.long gb), .second, rv b10, iv (1 : Int32)] [(.int (3 : Int32))])) _
      refine XS.ifYes X47.here hx rfl (pc0 := 173) (pc' := 196) rfl (hb hby at_173) rfl ((if0 _ _).trans (feq (by decide : ¬ ((3 : Int32) = (0 : Int32)))).2) (by decide) (by decide) ?_
      show Steps p.tables e below (T47.setTop (mkF m 196 #[iv p0, iv p1, .val (.long q2), .second, .val (.long q3), .second, iv cp, iv (3 : Int32), .val (.long ga), .second, .val (.long gb), .second, rv b10, iv (1 : Int32)] [])) _
      refine XS.iload X47.here hx rfl (hb hby at_196) rfl  ?_
      exact k)
    obtain ⟨fs, hr, hrun, hended, hW, hsame⟩ := X47.leave (v := some (.int (1 : Int32))) (fun h => by rw [Bd.returns] at h; cases h)
    refine ⟨_, _, pre0 _ (R49 _ ?_), hrun, hended, _, _, rfl, ?_, ⟨_, rfl⟩, hW, hsame.mono (by decide) (by decide)⟩
    · show Steps p.tables e below (T47.setTop (mkF m 198 #[iv p0, iv p1, .val (.long q2), .second, .val (.long q3), .second, iv cp, iv (3 : Int32), .val (.long ga), .second, .val (.long gb), .second, rv b10, iv (1 : Int32)] [(.int (1 : Int32))])) _
      exact retN X47 hx (t := .boolean) Bd.returns (by simp) (hb hby at_198) hr
    · show Q_rmLaw Z p0 p1 q2 q3 h0 n0 _ T47.heap _
      exact ⟨rfl, N47⟩
  · skip
    have R50 : ∀ t, Steps p.tables e below (T16.setTop (mkF m 59 #[iv p0, iv p1, .val (.long q2), .second, .val (.long q3), .second, iv cp, iv (4 : Int32), .val (.long ga), .second, .val (.long gb), .second, rv b10, iv (1 : Int32)] [])) t → Steps p.tables e below (s₁.setTop f0) t := by have q := R19; rw [(hk : kc = (4 : Int32))] at q; exact q
    have R51 : ∀ t, Steps p.tables e below (T16.setTop (mkF m 69 #[iv p0, iv p1, .val (.long q2), .second, .val (.long q3), .second, iv cp, iv (4 : Int32), .val (.long ga), .second, .val (.long gb), .second, rv b10, iv (1 : Int32)] [(.long ga), (.ref b10)])) t → Steps p.tables e below (s₁.setTop f0) t := fun t k => R50 t (by
      show Steps p.tables e below (T16.setTop (mkF m 59 #[iv p0, iv p1, .val (.long q2), .second, .val (.long q3), .second, iv cp, iv (4 : Int32), .val (.long ga), .second, .val (.long gb), .second, rv b10, iv (1 : Int32)] [])) _
      refine XS.iload X16.here hx rfl (hb hby at_59) rfl  ?_
      show Steps p.tables e below (T16.setTop (mkF m 61 #[iv p0, iv p1, .val (.long q2), .second, .val (.long q3), .second, iv cp, iv (4 : Int32), .val (.long ga), .second, .val (.long gb), .second, rv b10, iv (1 : Int32)] [(.int (4 : Int32))])) _
      refine XS.iconst X16.here hx rfl (hb hby at_61) ?_
      show Steps p.tables e below (T16.setTop (mkF m 62 #[iv p0, iv p1, .val (.long q2), .second, .val (.long q3), .second, iv cp, iv (4 : Int32), .val (.long ga), .second, .val (.long gb), .second, rv b10, iv (1 : Int32)] [(.int (1 : Int32)), (.int (4 : Int32))])) _
      refine XS.icmpNo X16.here hx rfl (hb hby at_62) rfl (flt (by decide : ¬ ((4 : Int32) < (1 : Int32)))).1 ?_
      show Steps p.tables e below (T16.setTop (mkF m 65 #[iv p0, iv p1, .val (.long q2), .second, .val (.long q3), .second, iv cp, iv (4 : Int32), .val (.long ga), .second, .val (.long gb), .second, rv b10, iv (1 : Int32)] [])) _
      refine XS.aload X16.here hx rfl (hb hby at_65) rfl rfl ?_
      show Steps p.tables e below (T16.setTop (mkF m 67 #[iv p0, iv p1, .val (.long q2), .second, .val (.long q3), .second, iv cp, iv (4 : Int32), .val (.long ga), .second, .val (.long gb), .second, rv b10, iv (1 : Int32)] [(.ref b10)])) _
      refine XS.lload X16.here hx rfl (hb hby at_67) rfl  ?_
      exact k)
    obtain ⟨_, _, ⟨T52, L52, k52, n52⟩, -, X52, ⟨Lc52, hQ52, l52, y52, z52⟩, st52⟩ := Jvm.LawKit.callS X16 hx (y := (⟨sN1, "addThenNonEmpty", sN2⟩ : MethodName)) hown (mvT hZ (hw _ (List.mem_of_getElem? (i := 22) rfl))) (mvT hZ (hw _ (List.mem_of_getElem? (i := 23) rfl))) (mvT hZ (hw _ (List.mem_of_getElem? (i := 24) rfl))) (mvT hZ (hw _ (List.mem_of_getElem? (i := 25) rfl))) (by decide) (backOf (W := 0) (rmAtn l Z a0 hw [] b10 ga g_13 kk_13 cp vs_13 (0 : Int32) (0 : Int32) T13.heap n0 z13 f13_E_b10 p13_1 p13_2 p13_3 p13_4 g_b10 p13_5 p13_6 hga hcp ⟨by decide, by have := hcp.1; show (0 : Int) ≤ _; omega⟩ ⟨by decide, by have := hcp.1; show (0 : Int) < _; omega⟩) hZ (hw _ (List.mem_of_getElem? (i := 25) rfl)) (hw _ (List.mem_of_getElem? (i := 24) rfl)) (by decide) (by decide)) (g := (mkF m 69 #[iv p0, iv p1, .val (.long q2), .second, .val (.long q3), .second, iv cp, iv (4 : Int32), .val (.long ga), .second, .val (.long gb), .second, rv b10, iv (1 : Int32)] [(.long ga), (.ref b10)])) rfl (by rw [hml]; rfl) (argsL := [(.ref b10), (.long ga)]) (rest := []) (lenOf pd_5 rfl) rfl (by show 2 * 0 + _ ≤ _; exact Nat.le_of_eq rfl) (hb hby at_69) (fun _ _ => ⟨rfl, p16_0, (by decide : 2 + 0 ≤ _), (by decide : 6 + 0 ≤ _)⟩)
    dsimp only [Pt.U, Pt.locs, Pt.cells, Pt.slots] at X52 l52 y52 z52 st52 hQ52
    subst l52 y52 z52
    obtain ⟨vs2_52, sz2_52, st2_52, rfl, N52q, p52_0, p52_1, p52_2, p52_3, p52_4, p52_5, p52_6⟩ := hQ52
    have N52 := Fr.app N16 N52q
    have f52_E_b10 : Exa Z T52.heap b10 sN0 := f13_E_b10.keep p52_0
    have z52 : n0 ≤ T52.heap.size := Nat.le_trans z13 p52_0.1
    have R53 : ∀ t, Steps p.tables e below (T52.setTop (mkF m 72 #[iv p0, iv p1, .val (.long q2), .second, .val (.long q3), .second, iv cp, iv (4 : Int32), .val (.long ga), .second, .val (.long gb), .second, rv b10, iv (1 : Int32)] [(.int (1 : Int32))])) t → Steps p.tables e below (s₁.setTop f0) t := fun t k => R51 t (st52 t k)
    have R54 : ∀ t, Steps p.tables e below (T52.setTop (mkF m 97 #[iv p0, iv p1, .val (.long q2), .second, .val (.long q3), .second, iv cp, iv (4 : Int32), .val (.long ga), .second, .val (.long gb), .second, rv b10, iv (1 : Int32)] [(.long gb), (.ref b10)])) t → Steps p.tables e below (s₁.setTop f0) t := fun t k => R53 t (by
      show Steps p.tables e below (T52.setTop (mkF m 72 #[iv p0, iv p1, .val (.long q2), .second, .val (.long q3), .second, iv cp, iv (4 : Int32), .val (.long ga), .second, .val (.long gb), .second, rv b10, iv (1 : Int32)] [(.int (1 : Int32))])) _
      refine XS.ifNo X52.here hx rfl (hb hby at_72) rfl ((if0 _ _).trans (feq (by decide : ¬ ((1 : Int32) = (0 : Int32)))).1) ?_
      show Steps p.tables e below (T52.setTop (mkF m 75 #[iv p0, iv p1, .val (.long q2), .second, .val (.long q3), .second, iv cp, iv (4 : Int32), .val (.long ga), .second, .val (.long gb), .second, rv b10, iv (1 : Int32)] [])) _
      refine XS.iload X52.here hx rfl (hb hby at_75) rfl  ?_
      show Steps p.tables e below (T52.setTop (mkF m 77 #[iv p0, iv p1, .val (.long q2), .second, .val (.long q3), .second, iv cp, iv (4 : Int32), .val (.long ga), .second, .val (.long gb), .second, rv b10, iv (1 : Int32)] [(.int (1 : Int32))])) _
      refine XS.ifNo X52.here hx rfl (hb hby at_77) rfl ((if0 _ _).trans (feq (by decide : ¬ ((1 : Int32) = (0 : Int32)))).1) ?_
      show Steps p.tables e below (T52.setTop (mkF m 80 #[iv p0, iv p1, .val (.long q2), .second, .val (.long q3), .second, iv cp, iv (4 : Int32), .val (.long ga), .second, .val (.long gb), .second, rv b10, iv (1 : Int32)] [])) _
      refine XS.iconst X52.here hx rfl (hb hby at_80) ?_
      show Steps p.tables e below (T52.setTop (mkF m 81 #[iv p0, iv p1, .val (.long q2), .second, .val (.long q3), .second, iv cp, iv (4 : Int32), .val (.long ga), .second, .val (.long gb), .second, rv b10, iv (1 : Int32)] [(.int (1 : Int32))])) _
      refine XS.goto X52.here hx rfl (pc0 := 81) (pc' := 85) rfl (hb hby at_81) (by decide) (by decide) ?_
      show Steps p.tables e below (T52.setTop (mkF m 85 #[iv p0, iv p1, .val (.long q2), .second, .val (.long q3), .second, iv cp, iv (4 : Int32), .val (.long ga), .second, .val (.long gb), .second, rv b10, iv (1 : Int32)] [(.int (1 : Int32))])) _
      refine XS.istore X52.here hx rfl (hb hby at_85) rfl (l' := #[iv p0, iv p1, .val (.long q2), .second, .val (.long q3), .second, iv cp, iv (4 : Int32), .val (.long ga), .second, .val (.long gb), .second, rv b10, iv (1 : Int32)]) rfl ?_
      show Steps p.tables e below (T52.setTop (mkF m 87 #[iv p0, iv p1, .val (.long q2), .second, .val (.long q3), .second, iv cp, iv (4 : Int32), .val (.long ga), .second, .val (.long gb), .second, rv b10, iv (1 : Int32)] [])) _
      refine XS.iload X52.here hx rfl (hb hby at_87) rfl  ?_
      show Steps p.tables e below (T52.setTop (mkF m 89 #[iv p0, iv p1, .val (.long q2), .second, .val (.long q3), .second, iv cp, iv (4 : Int32), .val (.long ga), .second, .val (.long gb), .second, rv b10, iv (1 : Int32)] [(.int (4 : Int32))])) _
      refine XS.iconst X52.here hx rfl (hb hby at_89) ?_
      show Steps p.tables e below (T52.setTop (mkF m 90 #[iv p0, iv p1, .val (.long q2), .second, .val (.long q3), .second, iv cp, iv (4 : Int32), .val (.long ga), .second, .val (.long gb), .second, rv b10, iv (1 : Int32)] [(.int (2 : Int32)), (.int (4 : Int32))])) _
      refine XS.icmpNo X52.here hx rfl (hb hby at_90) rfl (flt (by decide : ¬ ((4 : Int32) < (2 : Int32)))).1 ?_
      show Steps p.tables e below (T52.setTop (mkF m 93 #[iv p0, iv p1, .val (.long q2), .second, .val (.long q3), .second, iv cp, iv (4 : Int32), .val (.long ga), .second, .val (.long gb), .second, rv b10, iv (1 : Int32)] [])) _
      refine XS.aload X52.here hx rfl (hb hby at_93) rfl rfl ?_
      show Steps p.tables e below (T52.setTop (mkF m 95 #[iv p0, iv p1, .val (.long q2), .second, .val (.long q3), .second, iv cp, iv (4 : Int32), .val (.long ga), .second, .val (.long gb), .second, rv b10, iv (1 : Int32)] [(.ref b10)])) _
      refine XS.lload X52.here hx rfl (hb hby at_95) rfl  ?_
      exact k)
    obtain ⟨_, _, ⟨T55, L55, k55, n55⟩, -, X55, ⟨Lc55, hQ55, l55, y55, z55⟩, st55⟩ := Jvm.LawKit.callS X52 hx (y := (⟨sN1, "addThenNonEmpty", sN2⟩ : MethodName)) hown (mvT hZ (hw _ (List.mem_of_getElem? (i := 22) rfl))) (mvT hZ (hw _ (List.mem_of_getElem? (i := 23) rfl))) (mvT hZ (hw _ (List.mem_of_getElem? (i := 24) rfl))) (mvT hZ (hw _ (List.mem_of_getElem? (i := 25) rfl))) (by decide) (backOf (W := 0) (rmAtn l Z a0 hw [] b10 gb g_13 kk_13 cp vs2_52 sz2_52 st2_52 T52.heap n0 z52 f52_E_b10 p52_1 p52_2 p52_3 p52_4 g_b10 p13_5 p13_6 hgb hcp ⟨Int.le_trans (by decide) p52_5.1, p52_5.2⟩ p52_6) hZ (hw _ (List.mem_of_getElem? (i := 25) rfl)) (hw _ (List.mem_of_getElem? (i := 24) rfl)) (by decide) (by decide)) (g := (mkF m 97 #[iv p0, iv p1, .val (.long q2), .second, .val (.long q3), .second, iv cp, iv (4 : Int32), .val (.long ga), .second, .val (.long gb), .second, rv b10, iv (1 : Int32)] [(.long gb), (.ref b10)])) rfl (by rw [hml]; rfl) (argsL := [(.ref b10), (.long gb)]) (rest := []) (lenOf pd_5 rfl) rfl (by show 2 * 0 + _ ≤ _; exact Nat.le_of_eq rfl) (hb hby at_97) (fun _ _ => ⟨rfl, rfl, (by decide : 2 + 0 ≤ _), (by decide : 6 + 0 ≤ _)⟩)
    dsimp only [Pt.U, Pt.locs, Pt.cells, Pt.slots] at X55 l55 y55 z55 st55 hQ55
    subst l55 y55 z55
    obtain ⟨vs2_55, sz2_55, st2_55, rfl, N55q, p55_0, p55_1, p55_2, p55_3, p55_4, p55_5, p55_6⟩ := hQ55
    have N55 := Fr.app N52 N55q
    have f55_E_b10 : Exa Z T55.heap b10 sN0 := f52_E_b10.keep p55_0
    have z55 : n0 ≤ T55.heap.size := Nat.le_trans z52 p55_0.1
    have R56 : ∀ t, Steps p.tables e below (T55.setTop (mkF m 100 #[iv p0, iv p1, .val (.long q2), .second, .val (.long q3), .second, iv cp, iv (4 : Int32), .val (.long ga), .second, .val (.long gb), .second, rv b10, iv (1 : Int32)] [(.int (1 : Int32))])) t → Steps p.tables e below (s₁.setTop f0) t := fun t k => R54 t (st55 t k)
    have R57 : ∀ t, Steps p.tables e below (T55.setTop (mkF m 125 #[iv p0, iv p1, .val (.long q2), .second, .val (.long q3), .second, iv cp, iv (4 : Int32), .val (.long ga), .second, .val (.long gb), .second, rv b10, iv (1 : Int32)] [(.long ga), (.ref b10)])) t → Steps p.tables e below (s₁.setTop f0) t := fun t k => R56 t (by
      show Steps p.tables e below (T55.setTop (mkF m 100 #[iv p0, iv p1, .val (.long q2), .second, .val (.long q3), .second, iv cp, iv (4 : Int32), .val (.long ga), .second, .val (.long gb), .second, rv b10, iv (1 : Int32)] [(.int (1 : Int32))])) _
      refine XS.ifNo X55.here hx rfl (hb hby at_100) rfl ((if0 _ _).trans (feq (by decide : ¬ ((1 : Int32) = (0 : Int32)))).1) ?_
      show Steps p.tables e below (T55.setTop (mkF m 103 #[iv p0, iv p1, .val (.long q2), .second, .val (.long q3), .second, iv cp, iv (4 : Int32), .val (.long ga), .second, .val (.long gb), .second, rv b10, iv (1 : Int32)] [])) _
      refine XS.iload X55.here hx rfl (hb hby at_103) rfl  ?_
      show Steps p.tables e below (T55.setTop (mkF m 105 #[iv p0, iv p1, .val (.long q2), .second, .val (.long q3), .second, iv cp, iv (4 : Int32), .val (.long ga), .second, .val (.long gb), .second, rv b10, iv (1 : Int32)] [(.int (1 : Int32))])) _
      refine XS.ifNo X55.here hx rfl (hb hby at_105) rfl ((if0 _ _).trans (feq (by decide : ¬ ((1 : Int32) = (0 : Int32)))).1) ?_
      show Steps p.tables e below (T55.setTop (mkF m 108 #[iv p0, iv p1, .val (.long q2), .second, .val (.long q3), .second, iv cp, iv (4 : Int32), .val (.long ga), .second, .val (.long gb), .second, rv b10, iv (1 : Int32)] [])) _
      refine XS.iconst X55.here hx rfl (hb hby at_108) ?_
      show Steps p.tables e below (T55.setTop (mkF m 109 #[iv p0, iv p1, .val (.long q2), .second, .val (.long q3), .second, iv cp, iv (4 : Int32), .val (.long ga), .second, .val (.long gb), .second, rv b10, iv (1 : Int32)] [(.int (1 : Int32))])) _
      refine XS.goto X55.here hx rfl (pc0 := 109) (pc' := 113) rfl (hb hby at_109) (by decide) (by decide) ?_
      show Steps p.tables e below (T55.setTop (mkF m 113 #[iv p0, iv p1, .val (.long q2), .second, .val (.long q3), .second, iv cp, iv (4 : Int32), .val (.long ga), .second, .val (.long gb), .second, rv b10, iv (1 : Int32)] [(.int (1 : Int32))])) _
      refine XS.istore X55.here hx rfl (hb hby at_113) rfl (l' := #[iv p0, iv p1, .val (.long q2), .second, .val (.long q3), .second, iv cp, iv (4 : Int32), .val (.long ga), .second, .val (.long gb), .second, rv b10, iv (1 : Int32)]) rfl ?_
      show Steps p.tables e below (T55.setTop (mkF m 115 #[iv p0, iv p1, .val (.long q2), .second, .val (.long q3), .second, iv cp, iv (4 : Int32), .val (.long ga), .second, .val (.long gb), .second, rv b10, iv (1 : Int32)] [])) _
      refine XS.iload X55.here hx rfl (hb hby at_115) rfl  ?_
      show Steps p.tables e below (T55.setTop (mkF m 117 #[iv p0, iv p1, .val (.long q2), .second, .val (.long q3), .second, iv cp, iv (4 : Int32), .val (.long ga), .second, .val (.long gb), .second, rv b10, iv (1 : Int32)] [(.int (4 : Int32))])) _
      refine XS.iconst X55.here hx rfl (hb hby at_117) ?_
      show Steps p.tables e below (T55.setTop (mkF m 118 #[iv p0, iv p1, .val (.long q2), .second, .val (.long q3), .second, iv cp, iv (4 : Int32), .val (.long ga), .second, .val (.long gb), .second, rv b10, iv (1 : Int32)] [(.int (3 : Int32)), (.int (4 : Int32))])) _
      refine XS.icmpNo X55.here hx rfl (hb hby at_118) rfl (flt (by decide : ¬ ((4 : Int32) < (3 : Int32)))).1 ?_
      show Steps p.tables e below (T55.setTop (mkF m 121 #[iv p0, iv p1, .val (.long q2), .second, .val (.long q3), .second, iv cp, iv (4 : Int32), .val (.long ga), .second, .val (.long gb), .second, rv b10, iv (1 : Int32)] [])) _
      refine XS.aload X55.here hx rfl (hb hby at_121) rfl rfl ?_
      show Steps p.tables e below (T55.setTop (mkF m 123 #[iv p0, iv p1, .val (.long q2), .second, .val (.long q3), .second, iv cp, iv (4 : Int32), .val (.long ga), .second, .val (.long gb), .second, rv b10, iv (1 : Int32)] [(.ref b10)])) _
      refine XS.lload X55.here hx rfl (hb hby at_123) rfl  ?_
      exact k)
    obtain ⟨_, _, ⟨T58, L58, k58, n58⟩, -, X58, ⟨Lc58, hQ58, l58, y58, z58⟩, st58⟩ := Jvm.LawKit.callS X55 hx (y := (⟨sN1, "addThenNonEmpty", sN2⟩ : MethodName)) hown (mvT hZ (hw _ (List.mem_of_getElem? (i := 22) rfl))) (mvT hZ (hw _ (List.mem_of_getElem? (i := 23) rfl))) (mvT hZ (hw _ (List.mem_of_getElem? (i := 24) rfl))) (mvT hZ (hw _ (List.mem_of_getElem? (i := 25) rfl))) (by decide) (backOf (W := 0) (rmAtn l Z a0 hw [] b10 ga g_13 kk_13 cp vs2_55 sz2_55 st2_55 T55.heap n0 z55 f55_E_b10 p55_1 p55_2 p55_3 p55_4 g_b10 p13_5 p13_6 hga hcp ⟨Int.le_trans (by decide) p55_5.1, p55_5.2⟩ p55_6) hZ (hw _ (List.mem_of_getElem? (i := 25) rfl)) (hw _ (List.mem_of_getElem? (i := 24) rfl)) (by decide) (by decide)) (g := (mkF m 125 #[iv p0, iv p1, .val (.long q2), .second, .val (.long q3), .second, iv cp, iv (4 : Int32), .val (.long ga), .second, .val (.long gb), .second, rv b10, iv (1 : Int32)] [(.long ga), (.ref b10)])) rfl (by rw [hml]; rfl) (argsL := [(.ref b10), (.long ga)]) (rest := []) (lenOf pd_5 rfl) rfl (by show 2 * 0 + _ ≤ _; exact Nat.le_of_eq rfl) (hb hby at_125) (fun _ _ => ⟨rfl, rfl, (by decide : 2 + 0 ≤ _), (by decide : 6 + 0 ≤ _)⟩)
    dsimp only [Pt.U, Pt.locs, Pt.cells, Pt.slots] at X58 l58 y58 z58 st58 hQ58
    subst l58 y58 z58
    obtain ⟨vs2_58, sz2_58, st2_58, rfl, N58q, p58_0, p58_1, p58_2, p58_3, p58_4, p58_5, p58_6⟩ := hQ58
    have N58 := Fr.app N55 N58q
    have f58_E_b10 : Exa Z T58.heap b10 sN0 := f55_E_b10.keep p58_0
    have z58 : n0 ≤ T58.heap.size := Nat.le_trans z55 p58_0.1
    have R59 : ∀ t, Steps p.tables e below (T58.setTop (mkF m 128 #[iv p0, iv p1, .val (.long q2), .second, .val (.long q3), .second, iv cp, iv (4 : Int32), .val (.long ga), .second, .val (.long gb), .second, rv b10, iv (1 : Int32)] [(.int (1 : Int32))])) t → Steps p.tables e below (s₁.setTop f0) t := fun t k => R57 t (st58 t k)
    have R60 : ∀ t, Steps p.tables e below (T58.setTop (mkF m 153 #[iv p0, iv p1, .val (.long q2), .second, .val (.long q3), .second, iv cp, iv (4 : Int32), .val (.long ga), .second, .val (.long gb), .second, rv b10, iv (1 : Int32)] [(.long gb), (.ref b10)])) t → Steps p.tables e below (s₁.setTop f0) t := fun t k => R59 t (by
      show Steps p.tables e below (T58.setTop (mkF m 128 #[iv p0, iv p1, .val (.long q2), .second, .val (.long q3), .second, iv cp, iv (4 : Int32), .val (.long ga), .second, .val (.long gb), .second, rv b10, iv (1 : Int32)] [(.int (1 : Int32))])) _
      refine XS.ifNo X58.here hx rfl (hb hby at_128) rfl ((if0 _ _).trans (feq (by decide : ¬ ((1 : Int32) = (0 : Int32)))).1) ?_
      show Steps p.tables e below (T58.setTop (mkF m 131 #[iv p0, iv p1, .val (.long q2), .second, .val (.long q3), .second, iv cp, iv (4 : Int32), .val (.long ga), .second, .val (.long gb), .second, rv b10, iv (1 : Int32)] [])) _
      refine XS.iload X58.here hx rfl (hb hby at_131) rfl  ?_
      show Steps p.tables e below (T58.setTop (mkF m 133 #[iv p0, iv p1, .val (.long q2), .second, .val (.long q3), .second, iv cp, iv (4 : Int32), .val (.long ga), .second, .val (.long gb), .second, rv b10, iv (1 : Int32)] [(.int (1 : Int32))])) _
      refine XS.ifNo X58.here hx rfl (hb hby at_133) rfl ((if0 _ _).trans (feq (by decide : ¬ ((1 : Int32) = (0 : Int32)))).1) ?_
      show Steps p.tables e below (T58.setTop (mkF m 136 #[iv p0, iv p1, .val (.long q2), .second, .val (.long q3), .second, iv cp, iv (4 : Int32), .val (.long ga), .second, .val (.long gb), .second, rv b10, iv (1 : Int32)] [])) _
      refine XS.iconst X58.here hx rfl (hb hby at_136) ?_
      show Steps p.tables e below (T58.setTop (mkF m 137 #[iv p0, iv p1, .val (.long q2), .second, .val (.long q3), .second, iv cp, iv (4 : Int32), .val (.long ga), .second, .val (.long gb), .second, rv b10, iv (1 : Int32)] [(.int (1 : Int32))])) _
      refine XS.goto X58.here hx rfl (pc0 := 137) (pc' := 141) rfl (hb hby at_137) (by decide) (by decide) ?_
      show Steps p.tables e below (T58.setTop (mkF m 141 #[iv p0, iv p1, .val (.long q2), .second, .val (.long q3), .second, iv cp, iv (4 : Int32), .val (.long ga), .second, .val (.long gb), .second, rv b10, iv (1 : Int32)] [(.int (1 : Int32))])) _
      refine XS.istore X58.here hx rfl (hb hby at_141) rfl (l' := #[iv p0, iv p1, .val (.long q2), .second, .val (.long q3), .second, iv cp, iv (4 : Int32), .val (.long ga), .second, .val (.long gb), .second, rv b10, iv (1 : Int32)]) rfl ?_
      show Steps p.tables e below (T58.setTop (mkF m 143 #[iv p0, iv p1, .val (.long q2), .second, .val (.long q3), .second, iv cp, iv (4 : Int32), .val (.long ga), .second, .val (.long gb), .second, rv b10, iv (1 : Int32)] [])) _
      refine XS.iload X58.here hx rfl (hb hby at_143) rfl  ?_
      show Steps p.tables e below (T58.setTop (mkF m 145 #[iv p0, iv p1, .val (.long q2), .second, .val (.long q3), .second, iv cp, iv (4 : Int32), .val (.long ga), .second, .val (.long gb), .second, rv b10, iv (1 : Int32)] [(.int (4 : Int32))])) _
      refine XS.iconst X58.here hx rfl (hb hby at_145) ?_
      show Steps p.tables e below (T58.setTop (mkF m 146 #[iv p0, iv p1, .val (.long q2), .second, .val (.long q3), .second, iv cp, iv (4 : Int32), .val (.long ga), .second, .val (.long gb), .second, rv b10, iv (1 : Int32)] [(.int (4 : Int32)), (.int (4 : Int32))])) _
      refine XS.icmpNo X58.here hx rfl (hb hby at_146) rfl (flt (by decide : ¬ ((4 : Int32) < (4 : Int32)))).1 ?_
      show Steps p.tables e below (T58.setTop (mkF m 149 #[iv p0, iv p1, .val (.long q2), .second, .val (.long q3), .second, iv cp, iv (4 : Int32), .val (.long ga), .second, .val (.long gb), .second, rv b10, iv (1 : Int32)] [])) _
      refine XS.aload X58.here hx rfl (hb hby at_149) rfl rfl ?_
      show Steps p.tables e below (T58.setTop (mkF m 151 #[iv p0, iv p1, .val (.long q2), .second, .val (.long q3), .second, iv cp, iv (4 : Int32), .val (.long ga), .second, .val (.long gb), .second, rv b10, iv (1 : Int32)] [(.ref b10)])) _
      refine XS.lload X58.here hx rfl (hb hby at_151) rfl  ?_
      exact k)
    obtain ⟨_, _, ⟨T61, L61, k61, n61⟩, -, X61, ⟨Lc61, hQ61, l61, y61, z61⟩, st61⟩ := Jvm.LawKit.callS X58 hx (y := (⟨sN1, "addThenNonEmpty", sN2⟩ : MethodName)) hown (mvT hZ (hw _ (List.mem_of_getElem? (i := 22) rfl))) (mvT hZ (hw _ (List.mem_of_getElem? (i := 23) rfl))) (mvT hZ (hw _ (List.mem_of_getElem? (i := 24) rfl))) (mvT hZ (hw _ (List.mem_of_getElem? (i := 25) rfl))) (by decide) (backOf (W := 0) (rmAtn l Z a0 hw [] b10 gb g_13 kk_13 cp vs2_58 sz2_58 st2_58 T58.heap n0 z58 f58_E_b10 p58_1 p58_2 p58_3 p58_4 g_b10 p13_5 p13_6 hgb hcp ⟨Int.le_trans (by decide) p58_5.1, p58_5.2⟩ p58_6) hZ (hw _ (List.mem_of_getElem? (i := 25) rfl)) (hw _ (List.mem_of_getElem? (i := 24) rfl)) (by decide) (by decide)) (g := (mkF m 153 #[iv p0, iv p1, .val (.long q2), .second, .val (.long q3), .second, iv cp, iv (4 : Int32), .val (.long ga), .second, .val (.long gb), .second, rv b10, iv (1 : Int32)] [(.long gb), (.ref b10)])) rfl (by rw [hml]; rfl) (argsL := [(.ref b10), (.long gb)]) (rest := []) (lenOf pd_5 rfl) rfl (by show 2 * 0 + _ ≤ _; exact Nat.le_of_eq rfl) (hb hby at_153) (fun _ _ => ⟨rfl, rfl, (by decide : 2 + 0 ≤ _), (by decide : 6 + 0 ≤ _)⟩)
    dsimp only [Pt.U, Pt.locs, Pt.cells, Pt.slots] at X61 l61 y61 z61 st61 hQ61
    subst l61 y61 z61
    obtain ⟨vs2_61, sz2_61, st2_61, rfl, N61q, p61_0, p61_1, p61_2, p61_3, p61_4, p61_5, p61_6⟩ := hQ61
    have N61 := Fr.app N58 N61q
    have f61_E_b10 : Exa Z T61.heap b10 sN0 := f58_E_b10.keep p61_0
    have z61 : n0 ≤ T61.heap.size := Nat.le_trans z58 p61_0.1
    have R62 : ∀ t, Steps p.tables e below (T61.setTop (mkF m 156 #[iv p0, iv p1, .val (.long q2), .second, .val (.long q3), .second, iv cp, iv (4 : Int32), .val (.long ga), .second, .val (.long gb), .second, rv b10, iv (1 : Int32)] [(.int (1 : Int32))])) t → Steps p.tables e below (s₁.setTop f0) t := fun t k => R60 t (st61 t k)
    have R63 : ∀ t, Steps p.tables e below (T61.setTop (mkF m 198 #[iv p0, iv p1, .val (.long q2), .second, .val (.long q3), .second, iv cp, iv (4 : Int32), .val (.long ga), .second, .val (.long gb), .second, rv b10, iv (1 : Int32)] [(.int (1 : Int32))])) t → Steps p.tables e below (s₁.setTop f0) t := fun t k => R62 t (by
      show Steps p.tables e below (T61.setTop (mkF m 156 #[iv p0, iv p1, .val (.long q2), .second, .val (.long q3), .second, iv cp, iv (4 : Int32), .val (.long ga), .second, .val (.long gb), .second, rv b10, iv (1 : Int32)] [(.int (1 : Int32))])) _
      refine XS.ifNo X61.here hx rfl (hb hby at_156) rfl ((if0 _ _).trans (feq (by decide : ¬ ((1 : Int32) = (0 : Int32)))).1) ?_
      show Steps p.tables e below (T61.setTop (mkF m 159 #[iv p0, iv p1, .val (.long q2), .second, .val (.long q3), .second, iv cp, iv (4 : Int32), .val (.long ga), .second, .val (.long gb), .second, rv b10, iv (1 : Int32)] [])) _
      refine XS.iload X61.here hx rfl (hb hby at_159) rfl  ?_
      show Steps p.tables e below (T61.setTop (mkF m 161 #[iv p0, iv p1, .val (.long q2), .second, .val (.long q3), .second, iv cp, iv (4 : Int32), .val (.long ga), .second, .val (.long gb), .second, rv b10, iv (1 : Int32)] [(.int (1 : Int32))])) _
      refine XS.ifNo X61.here hx rfl (hb hby at_161) rfl ((if0 _ _).trans (feq (by decide : ¬ ((1 : Int32) = (0 : Int32)))).1) ?_
      show Steps p.tables e below (T61.setTop (mkF m 164 #[iv p0, iv p1, .val (.long q2), .second, .val (.long q3), .second, iv cp, iv (4 : Int32), .val (.long ga), .second, .val (.long gb), .second, rv b10, iv (1 : Int32)] [])) _
      refine XS.iconst X61.here hx rfl (hb hby at_164) ?_
      show Steps p.tables e below (T61.setTop (mkF m 165 #[iv p0, iv p1, .val (.long q2), .second, .val (.long q3), .second, iv cp, iv (4 : Int32), .val (.long ga), .second, .val (.long gb), .second, rv b10, iv (1 : Int32)] [(.int (1 : Int32))])) _
      refine XS.goto X61.here hx rfl (pc0 := 165) (pc' := 169) rfl (hb hby at_165) (by decide) (by decide) ?_
      show Steps p.tables e below (T61.setTop (mkF m 169 #[iv p0, iv p1, .val (.long q2), .second, .val (.long q3), .second, iv cp, iv (4 : Int32), .val (.long ga), .second, .val (.long gb), .second, rv b10, iv (1 : Int32)] [(.int (1 : Int32))])) _
      refine XS.istore X61.here hx rfl (hb hby at_169) rfl (l' := #[iv p0, iv p1, .val (.long q2), .second, .val (.long q3), .second, iv cp, iv (4 : Int32), .val (.long ga), .second, .val (.long gb), .second, rv b10, iv (1 : Int32)]) rfl ?_
      show Steps p.tables e below (T61.setTop (mkF m 171 #[iv p0, iv p1, .val (.long q2), .second, .val (.long q3), .second, iv cp, iv (4 : Int32), .val (.long ga), .second, .val (.long gb), .second, rv b10, iv (1 : Int32)] [])) _
      refine XS.iload X61.here hx rfl (hb hby at_171) rfl  ?_
      show Steps p.tables e below (T61.setTop (mkF m 173 #[iv p0, iv p1, .val (.long q2), .second, .val (.long q3), .second, iv cp, iv (4 : Int32), .val (.long ga), .second, .val (.long gb), .second, rv b10, iv (1 : Int32)] [(.int (4 : Int32))])) _
      refine XS.ifYes X61.here hx rfl (pc0 := 173) (pc' := 196) rfl (hb hby at_173) rfl ((if0 _ _).trans (feq (by decide : ¬ ((4 : Int32) = (0 : Int32)))).2) (by decide) (by decide) ?_
      show Steps p.tables e below (T61.setTop (mkF m 196 #[iv p0, iv p1, .val (.long q2), .second, .val (.long q3), .second, iv cp, iv (4 : Int32), .val (.long ga), .second, .val (.long gb), .second, rv b10, iv (1 : Int32)] [])) _
      refine XS.iload X61.here hx rfl (hb hby at_196) rfl  ?_
      exact k)
    obtain ⟨fs, hr, hrun, hended, hW, hsame⟩ := X61.leave (v := some (.int (1 : Int32))) (fun h => by rw [Bd.returns] at h; cases h)
    refine ⟨_, _, pre0 _ (R63 _ ?_), hrun, hended, _, _, rfl, ?_, ⟨_, rfl⟩, hW, hsame.mono (by decide) (by decide)⟩
    · show Steps p.tables e below (T61.setTop (mkF m 198 #[iv p0, iv p1, .val (.long q2), .second, .val (.long q3), .second, iv cp, iv (4 : Int32), .val (.long ga), .second, .val (.long gb), .second, rv b10, iv (1 : Int32)] [(.int (1 : Int32))])) _
      exact retN X61 hx (t := .boolean) Bd.returns (by simp) (hb hby at_198) hr
    · show Q_rmLaw Z p0 p1 q2 q3 h0 n0 _ T61.heap _
      exact ⟨rfl, N61⟩
set_option maxRecDepth 65536 in
set_option maxHeartbeats 40000000 in
theorem comes_1 {Post : Tables → Env → Array Value → State → Outcome → State → Prop} (hpost : ∀ tb e args s v u, (limb_1_1.after args s (.returned v) u = true ∧ limb_1_2.after args s (.returned v) u = true ∧ True) → FrameEnd s (.returned v) u (Jvm.fieldLocs frame_1_writes args s ++ Jvm.arrayLocs frame_1_arrays args s ++ Jvm.staticLocs frame_1_statics s) 16 128 → Post tb e args s (.returned v) u) :
    ArmFor flags0 classFile x code maxLocals ret World_1 tables_1 room_1 Calls_1 rest_1 Pre_1 Post := by
  intro l hfl _ _ p e ha hc hk s m args below hf hA hF happ hP
  obtain ⟨hcalls, hrest, hpre⟩ := hP
  obtain ⟨-, -, -, hnamed, -, -, -, hat⟩ := (Spec.applies_iff hf).mp happ
  obtain ⟨hg, hn⟩ := and_e (Cond.before_iff.mp (show (Jvm.Cond.and given_1 narrow_1).before args s = true from hpre))
  obtain ⟨gg1, gg2⟩ := and_e hg
  obtain ⟨gg3, gg4⟩ := and_e gg2
  obtain ⟨gg5, gg6⟩ := and_e gg4
  obtain ⟨gg7, gg8⟩ := and_e gg6
  obtain ⟨w0, w1, w2, w3, rfl⟩ : ∃ w0 w1 w2 w3 : Value, args = #[w0, w1, w2, w3] := by
    have hs : args.size = 4 := by simpa [Cond.value, given_1] using gg1
    obtain ⟨L⟩ := args
    match L, hs with
    | [w0, w1, w2, w3], _ => exact ⟨w0, w1, w2, w3, rfl⟩
  have hw := fun d (hd : d ∈ tables_1) => atoms_spec (ws := Jvm.Cond.code x code maxLocals ret :: tables_1) hat d (List.mem_cons_of_mem _ hd)
  have hfit : Fit s := fun {y c} hc i hi => by
    obtain ⟨ha, rfl⟩ := Array.getElem?_eq_some_iff.mp hc
    have q := List.all_eq_true.mp ((Array.all_eq_true_iff_forall_mem.mp hF) _ (Array.getElem_mem ha)) i (List.mem_range.mpr hi)
    simpa [Array.getElem?_eq_getElem hi] using q
  obtain ⟨i0, ei0⟩ := is_v gg3
  obtain rfl : w0 = (.int i0) := Option.some.inj ei0
  obtain ⟨i1, ei1⟩ := is_v gg5
  obtain rfl : w1 = (.int i1) := Option.some.inj ei1
  obtain ⟨i2, ei2⟩ := isL_v gg7
  obtain rfl : w2 = (.long i2) := Option.some.inj ei2
  obtain ⟨i3, ei3⟩ := isL_v gg8
  obtain rfl : w3 = (.long i3) := Option.some.inj ei3
  obtain ⟨n, o, h1, h2, h3, _, L, rfl, ⟨rfl, N⟩, hq⟩ := rmLaw l s _ hw tables_1 i0 i1 i2 i3 s.heap s.heap.size (Nat.le_refl _) p e ha hc hk s m _ below hf ((Spec.applies_iff_loose hf).mp happ).1 ⟨rfl, State.Warmed39.refl s, rfl⟩ trivial
  refine ⟨n, _, h1, h2, h3, hpost _ _ _ _ _ _ ⟨Cond.after_iff.mpr rfl, Cond.after_iff.mpr (eq_i res_at (Term.int_eval (1)) rfl), trivial⟩ ⟨hq.1, hq.2.1, (hq.2.2.sift fun y hy => Or.inr (N y hy)).mono (by decide) (by decide)⟩⟩
theorem main_1_1 : Claimed_1_1 := comes_1 fun _ _ _ _ _ _ h hF => ⟨h.1, hF⟩
theorem main_1_2 : Claimed_1_2 := comes_1 fun _ _ _ _ _ _ h hF => ⟨h.2.1, hF⟩
end Jvm.Pilot.@@N@@
namespace Jvm.Pilot.@@N@@
open Jvm Jvm.ClassFile Sem Op Lib Jvm.Free Jvm.Stand Jvm.Pilot.@@N@@.Jvm.D
/-! MADE BY PROGRAM (witnessworld.py) out of the Statement's table words and the real class files: 11 classes; the members and pool entries that the words name. The judged class is class 1, her method 1. -/
namespace start1
open Jvm.ClassFile
def u (s : String) : CpInfo := .utf8 (stringToUtf16 s)
/-- a pool by its gaps: so many unusable entries, then the entry; so many at the end -/
def gap : Nat → List CpInfo → List CpInfo
  | 0, r => r
  | n + 1, r => .unusable :: gap n r
def poolList (es : List (Nat × CpInfo)) (last : Nat) : List CpInfo := es.foldr (fun e r => gap e.1 (e.2 :: r)) (gap last [])
def pool (es : List (Nat × CpInfo)) (last : Nat) : Array CpInfo := ⟨poolList es last⟩
def fileOf (pool : Array CpInfo) (this : Nat) (attrs : Array Attribute := #[]) (ms : Array MethodInfo := #[]) (fl : Nat := 33) (sup : Nat := 0) (ifs : Array Nat := #[]) (fds : Array FieldInfo := #[]) : ClassFile where
  minorVersion := 0
  majorVersion := 65
  constantPool := pool
  accessFlags := fl
  thisClass := this
  superClass := sup
  interfaces := ifs
  fields := fds
  methods := ms
  attributes := attrs
def plain (name : String) (sup : Option ClassId) : Class where
  name := name
  kind := .ordinary
  loader := none
  accessFlags := 33
  super := sup
  interfaces := #[]
  cf := none
  fields := #[]
  methods := #[]
  instanceTypes := #[]
  staticTypes := #[]
  resolved := #[]
  callSites := []
  init := .initialized
  statics := none
  mirror := none

def pool0 : Array CpInfo := pool [(5, u "<init>"), (0, u "()V"), (1, .class_ 10), (1, u "java/lang/Object")] 113

def k0c0 : Code := { maxStack := 0, maxLocals := 1, code := object_method_1_code, exceptionTable := #[], attributes := #[] }
def k0m0 : Method := { name := "<init>", desc := "()V", sig := { parameters := [], returnType := none }, accessFlags := 1, code := some k0c0 }
/-- java/lang/Object -/
def k0 : Class := { plain "java/lang/Object" none with
  accessFlags := 33
  interfaces := #[]
  cf := some (fileOf pool0 8 #[] #[{ accessFlags := 1, nameIndex := 5, descriptorIndex := 6, attributes := #[] }] 33 0 #[] #[])
  fields := #[]
  methods := #[k0m0]
  instanceTypes := #[]
  staticTypes := #[]
  resolved := Array.replicate 124 none
  statics := none }

def pool1 : Array CpInfo := pool [(2, .class_ 4), (1, u "java/lang/Object"), (0, u "<init>"), (0, u "()V"), (0, .integer 2147483647), (2, .long 9223372036854775807), (3, .long 315569520000), (1, .class_ 17), (0, u "com/example/attentive_poll/attentivepoll/policy/GapWindow"), (0, .methodref 16 19), (0, .nameAndType 5 20), (0, u "(I)V"), (0, .methodref 16 22), (0, .nameAndType 23 24), (0, u "isEmpty"), (0, u "()Z"), (0, .methodref 26 27), (0, .class_ 28), (0, .nameAndType 29 30), (0, u "com/example/attentive_poll/attentivepoll/policy/GapWindowIsEmptyPinLaw"), (0, u "addThenNonEmpty"), (0, u "(Lcom/example/attentive_poll/attentivepoll/policy/GapWindow;J)Z"), (0, .methodref 16 32), (0, .nameAndType 33 34), (0, u "add"), (0, u "(J)V"), (2, u "law"), (0, u "(IIJJ)Z")] 3

def k1m0 : Method := { name := "<init>", desc := "()V", sig := { parameters := [], returnType := none }, accessFlags := 1, code := none }
def k1c1 : Code := { maxStack := 4, maxLocals := 14, code := code, exceptionTable := #[], attributes := #[] }
def k1m1 : Method := { name := "law", desc := "(IIJJ)Z", sig := { parameters := [.int, .int, .long, .long], returnType := some .boolean }, accessFlags := 9, code := some k1c1 }
def k1c2 : Code := { maxStack := 3, maxLocals := 3, code := method_3_code, exceptionTable := #[], attributes := #[] }
def k1m2 : Method := { name := "addThenNonEmpty", desc := "(Lcom/example/attentive_poll/attentivepoll/policy/GapWindow;J)Z", sig := { parameters := [(.object "com/example/attentive_poll/attentivepoll/policy/GapWindow"), .long], returnType := some .boolean }, accessFlags := 10, code := some k1c2 }
/-- com/example/attentive_poll/attentivepoll/policy/GapWindowIsEmptyPinLaw -/
def k1 : Class := { plain "com/example/attentive_poll/attentivepoll/policy/GapWindowIsEmptyPinLaw" (some 0) with
  accessFlags := 49
  interfaces := #[]
  cf := some (fileOf pool1 26 #[] #[{ accessFlags := 1, nameIndex := 5, descriptorIndex := 6, attributes := #[] }, { accessFlags := 9, nameIndex := 37, descriptorIndex := 38, attributes := #[] }, { accessFlags := 10, nameIndex := 29, descriptorIndex := 30, attributes := #[] }] 49 2 #[] #[])
  fields := #[]
  methods := #[k1m0, k1m1, k1m2]
  instanceTypes := #[]
  staticTypes := #[]
  resolved := Array.replicate 42 none
  statics := none }

def pool2 : Array CpInfo := pool [(1, .methodref 2 3), (0, .class_ 4), (0, .nameAndType 5 6), (0, u "java/lang/Object"), (0, u "<init>"), (0, u "()V"), (9, .fieldref 17 18), (0, .class_ 19), (0, .nameAndType 20 21), (0, u "com/example/attentive_poll/attentivepoll/policy/GapWindow"), (0, u "gaps"), (0, u "[J"), (2, .long 315569519999), (4, .fieldref 17 30), (0, .nameAndType 31 32), (0, u "size"), (0, u "I"), (0, .fieldref 17 34), (0, .nameAndType 35 32), (0, u "start"), (37, u "add"), (10, .class_ 85), (0, u "com/example/attentive_poll/attentivepoll/policy/GapWindow$Forecast"), (18, .class_ 105), (0, u "com/example/attentive_poll/attentivepoll/policy/GapWindow$Estimate"), (22, u "(I)V"), (3, u "(J)V"), (0, u "isEmpty"), (0, u "()Z")] 27

def k2c0 : Code := { maxStack := 3, maxLocals := 2, code := prog_19_method_1_code, exceptionTable := #[], attributes := #[] }
def k2m0 : Method := { name := "<init>", desc := "(I)V", sig := { parameters := [.int], returnType := none }, accessFlags := 0, code := some k2c0 }
def k2c1 : Code := { maxStack := 4, maxLocals := 3, code := prog_19_method_2_code, exceptionTable := #[], attributes := #[] }
def k2m1 : Method := { name := "add", desc := "(J)V", sig := { parameters := [.long], returnType := none }, accessFlags := 0, code := some k2c1 }
def k2c2 : Code := { maxStack := 1, maxLocals := 1, code := prog_19_method_3_code, exceptionTable := #[], attributes := #[] }
def k2m2 : Method := { name := "isEmpty", desc := "()Z", sig := { parameters := [], returnType := some .boolean }, accessFlags := 0, code := some k2c2 }
/-- com/example/attentive_poll/attentivepoll/policy/GapWindow -/
def k2 : Class := { plain "com/example/attentive_poll/attentivepoll/policy/GapWindow" (some 0) with
  accessFlags := 48
  interfaces := #[]
  cf := some (fileOf pool2 17 #[.nestMembers #[84, 104]] #[{ accessFlags := 0, nameIndex := 5, descriptorIndex := 128, attributes := #[] }, { accessFlags := 0, nameIndex := 73, descriptorIndex := 132, attributes := #[] }, { accessFlags := 0, nameIndex := 133, descriptorIndex := 134, attributes := #[] }] 48 2 #[] #[{ accessFlags := 18, nameIndex := 20, descriptorIndex := 21, attributes := #[] }, { accessFlags := 2, nameIndex := 35, descriptorIndex := 32, attributes := #[] }, { accessFlags := 2, nameIndex := 31, descriptorIndex := 32, attributes := #[] }])
  fields := #[{ name := "gaps", type := (.array .long), accessFlags := 18, slot := 0, constantValue := 0 }, { name := "start", type := .int, accessFlags := 2, slot := 1, constantValue := 0 }, { name := "size", type := .int, accessFlags := 2, slot := 2, constantValue := 0 }]
  methods := #[k2m0, k2m1, k2m2]
  instanceTypes := #[(.array .long), .int, .int]
  staticTypes := #[]
  resolved := Array.replicate 162 none
  statics := none }

def pool3 : Array CpInfo := pool [(1, u "java/lang/Cloneable"), (0, .class_ 1), (0, u "java/lang/Object"), (0, .class_ 3)] 3

/-- java/lang/Cloneable -/
def k3 : Class := { plain "java/lang/Cloneable" (some 0) with
  accessFlags := 1537
  interfaces := #[]
  cf := some (fileOf pool3 2 #[] #[] 1537 4 #[] #[])
  fields := #[]
  methods := #[]
  instanceTypes := #[]
  staticTypes := #[]
  resolved := Array.replicate 8 none
  statics := none }

def pool4 : Array CpInfo := pool [(1, u "java/io/Serializable"), (0, .class_ 1), (0, u "java/lang/Object"), (0, .class_ 3)] 3

/-- java/io/Serializable -/
def k4 : Class := { plain "java/io/Serializable" (some 0) with
  accessFlags := 1537
  interfaces := #[]
  cf := some (fileOf pool4 2 #[] #[] 1537 4 #[] #[])
  fields := #[]
  methods := #[]
  instanceTypes := #[]
  staticTypes := #[]
  resolved := Array.replicate 8 none
  statics := none }

/-- the primitive byte -/
def k5 : Class := { plain "byte" none with kind := .primitive 'B', accessFlags := 0x411 }
/-- [B -/
def k6 : Class := { plain "[B" (some 0) with kind := .array 5 .byte, interfaces := #[3, 4], accessFlags := 1041 }

/-- the primitive int -/
def k7 : Class := { plain "int" none with kind := .primitive 'I', accessFlags := 0x411 }
/-- [I -/
def k8 : Class := { plain "[I" (some 0) with kind := .array 7 .int, interfaces := #[3, 4], accessFlags := 1041 }

/-- the primitive long -/
def k9 : Class := { plain "long" none with kind := .primitive 'J', accessFlags := 0x411 }
/-- [J -/
def k10 : Class := { plain "[J" (some 0) with kind := .array 9 .long, interfaces := #[3, 4], accessFlags := 1041 }

def heap : Heap := #[]
def classes : Array Class := #[k0, k1, k2, k3, k4, k5, k6, k7, k8, k9, k10]
def interned : List (Array UInt16 × Addr) := []
def slotsUsed : Nat := 0
def theMethod : MethodId := ⟨1, 1⟩
def args0 : Array Value := #[.int 9, .int 3, .long 7, .long 8]
def aboutOver (below : List Frame) : State where
  vm := { classes := classes, interned := interned.toArray }
  heap := heap
  slotsUsed := slotsUsed
  threads := #[{ frames := .invoking theMethod args0 :: below }]
def below0 : List Frame := [.native { method := ⟨0, 0⟩, args := #[] }]
def about1 : State := aboutOver below0
def p0 : Program := .bare "" "" ""
def e0 : Env := launch0.env 0 0 0
theorem w_frames : about1.frames = Frame.invoking theMethod args0 :: below0 := rfl
set_option maxRecDepth 65536 in
theorem w_args : argsFit about1.vm theMethod args0 = true := by decide +kernel
set_option maxRecDepth 65536 in
theorem w_heap : heapFits about1 = true := by decide +kernel
set_option maxRecDepth 65536 in
theorem w_runnable : about1.curStatus? = some .runnable := by decide +kernel
set_option maxRecDepth 65536 in
theorem w_alone : about1.alone = true := by decide +kernel
set_option maxRecDepth 65536 in
theorem w_named : about1.methodNamed? x = some theMethod := by decide +kernel
set_option maxRecDepth 65536 in
theorem w_hears : about1.hears theMethod below0 = true := by decide +kernel
set_option maxRecDepth 65536 in
theorem w_ripe : about1.ripe theMethod args0 below0 = true := by decide +kernel
theorem w_running : about1.status = .running := rfl
set_option maxRecDepth 65536 in
theorem w_room : about1.hasRoom e0.platform room_1 = true :=
  launch0.hasRoom_least _ room_1 (by decide +kernel) (by decide +kernel) (by decide +kernel) (by decide +kernel) (by decide +kernel) (by decide +kernel)
theorem allAtoms_all (ts : List Jvm.Cond) (a : Array Jvm.Value) (st : Jvm.State) : (allAtoms ts).before a st = ts.all (fun c => c.before a st) := by
  induction ts with
  | nil => rfl
  | cons c t ih =>
    show (Jvm.Cond.and c (allAtoms t)).before a st = _
    rw [Jvm.Cond.before_and, ih, List.all_cons]
def words1 : List Jvm.Cond := Jvm.Cond.code x code maxLocals ret :: tables_1
/-- a 'code' word, met by the world's own term for the bytes: nothing is compared byte by byte -/
theorem code_word {y : MethodName} {bytes : ByteArray} {mx : Nat} {rt : Option FieldType} {a : Array Value} {s : State} {m : MethodId} {meth : Method} {c : Code} (h1 : s.methodNamed? y = some m) (h2 : s.vm.method? m = some meth) (h3 : meth.code = some c) (h4 : c.code = bytes)
    (h5 : (c.maxLocals == mx && c.exceptionTable.isEmpty && decide (c.maxStack ≤ mostOperands) && decide (meth.sig.returnType = rt) && !meth.locks && decide (parseMethodDescriptor y.desc = some meth.sig)) = true) : (Jvm.Cond.code y bytes mx rt).before a s = true := by
  simp only [Bool.and_eq_true, beq_iff_eq, Bool.not_eq_true', decide_eq_true_eq] at h5
  obtain ⟨⟨⟨⟨⟨g1, g2⟩, g3⟩, g4⟩, g5⟩, g6⟩ := h5
  simp [Cond.before, Cond.holds, Cond.value, h1, h2, h3, h4, g1, g2, g3, g4, g5, g6]
def isCode : Jvm.Cond → Bool
  | .code _ _ _ _ => true
  | _ => false
theorem all_split {L : List Jvm.Cond} {P : Jvm.Cond → Bool} (h1 : L.all (fun c => isCode c || P c) = true) (h2 : ∀ c ∈ L.filter isCode, P c = true) : L.all P = true := by
  refine List.all_eq_true.mpr fun c hc => ?_
  have h := List.all_eq_true.mp h1 c hc
  rcases Bool.eq_false_or_eq_true (isCode c) with hi | hi
  · exact h2 c (List.mem_filter.mpr ⟨hc, hi⟩)
  · simpa [hi] using h
set_option maxRecDepth 65536 in
theorem w_c0 : (Jvm.Cond.code x code maxLocals ret).before args0 about1 = true := code_word (m := ⟨1, 1⟩) (meth := k1m1) (c := k1c1) (by decide +kernel) rfl rfl rfl (by decide +kernel)
set_option maxRecDepth 65536 in
theorem w_c1 : (Jvm.Cond.code ({ cls := "com/example/attentive_poll/attentivepoll/policy/GapWindow", name := "<init>", desc := "(I)V" } : Jvm.MethodName) prog_19_method_1_code (2 : Nat) (Option.none : Option Jvm.ClassFile.FieldType)).before args0 about1 = true := code_word (m := ⟨2, 0⟩) (meth := k2m0) (c := k2c0) (by decide +kernel) rfl rfl rfl (by decide +kernel)
set_option maxRecDepth 65536 in
theorem w_c2 : (Jvm.Cond.code ({ cls := "java/lang/Object", name := "<init>", desc := "()V" } : Jvm.MethodName) object_method_1_code (1 : Nat) (Option.none : Option Jvm.ClassFile.FieldType)).before args0 about1 = true := code_word (m := ⟨0, 0⟩) (meth := k0m0) (c := k0c0) (by decide +kernel) rfl rfl rfl (by decide +kernel)
set_option maxRecDepth 65536 in
theorem w_c3 : (Jvm.Cond.code ({ cls := "com/example/attentive_poll/attentivepoll/policy/GapWindow", name := "isEmpty", desc := "()Z" } : Jvm.MethodName) prog_19_method_3_code (1 : Nat) (Option.some Jvm.ClassFile.FieldType.boolean)).before args0 about1 = true := code_word (m := ⟨2, 2⟩) (meth := k2m2) (c := k2c2) (by decide +kernel) rfl rfl rfl (by decide +kernel)
set_option maxRecDepth 65536 in
theorem w_c4 : (Jvm.Cond.code ({ cls := "com/example/attentive_poll/attentivepoll/policy/GapWindowIsEmptyPinLaw", name := "addThenNonEmpty", desc := "(Lcom/example/attentive_poll/attentivepoll/policy/GapWindow;J)Z" } : Jvm.MethodName) method_3_code (3 : Nat) (Option.some Jvm.ClassFile.FieldType.boolean)).before args0 about1 = true := code_word (m := ⟨1, 2⟩) (meth := k1m2) (c := k1c2) (by decide +kernel) rfl rfl rfl (by decide +kernel)
set_option maxRecDepth 65536 in
theorem w_c5 : (Jvm.Cond.code ({ cls := "com/example/attentive_poll/attentivepoll/policy/GapWindow", name := "add", desc := "(J)V" } : Jvm.MethodName) prog_19_method_2_code (3 : Nat) (Option.none : Option Jvm.ClassFile.FieldType)).before args0 about1 = true := code_word (m := ⟨2, 1⟩) (meth := k2m1) (c := k2c1) (by decide +kernel) rfl rfl rfl (by decide +kernel)
def codes1 : List Jvm.Cond := [Jvm.Cond.code x code maxLocals ret, Jvm.Cond.code ({ cls := "com/example/attentive_poll/attentivepoll/policy/GapWindow", name := "<init>", desc := "(I)V" } : Jvm.MethodName) prog_19_method_1_code (2 : Nat) (Option.none : Option Jvm.ClassFile.FieldType), Jvm.Cond.code ({ cls := "java/lang/Object", name := "<init>", desc := "()V" } : Jvm.MethodName) object_method_1_code (1 : Nat) (Option.none : Option Jvm.ClassFile.FieldType), Jvm.Cond.code ({ cls := "com/example/attentive_poll/attentivepoll/policy/GapWindow", name := "isEmpty", desc := "()Z" } : Jvm.MethodName) prog_19_method_3_code (1 : Nat) (Option.some Jvm.ClassFile.FieldType.boolean), Jvm.Cond.code ({ cls := "com/example/attentive_poll/attentivepoll/policy/GapWindowIsEmptyPinLaw", name := "addThenNonEmpty", desc := "(Lcom/example/attentive_poll/attentivepoll/policy/GapWindow;J)Z" } : Jvm.MethodName) method_3_code (3 : Nat) (Option.some Jvm.ClassFile.FieldType.boolean), Jvm.Cond.code ({ cls := "com/example/attentive_poll/attentivepoll/policy/GapWindow", name := "add", desc := "(J)V" } : Jvm.MethodName) prog_19_method_2_code (3 : Nat) (Option.none : Option Jvm.ClassFile.FieldType)]
set_option maxRecDepth 65536 in
theorem codes_eq : words1.filter isCode = codes1 := rfl
theorem w_codes : ∀ c ∈ words1.filter isCode, c.before args0 about1 = true := by
  rw [codes_eq]
  intro c hc
  simp only [codes1, List.mem_cons, List.not_mem_nil, or_false] at hc
  rcases hc with rfl | rfl | rfl | rfl | rfl | rfl
  · exact w_c0
  · exact w_c1
  · exact w_c2
  · exact w_c3
  · exact w_c4
  · exact w_c5
set_option maxRecDepth 65536 in
theorem w_t1 : (words1.take 24).all (fun c => isCode c || c.before args0 about1) = true := by decide +kernel
set_option maxRecDepth 65536 in
theorem w_t2 : (words1.drop 24).all (fun c => isCode c || c.before args0 about1) = true := by decide +kernel
theorem w_tables : (allAtoms (Jvm.Cond.code x code maxLocals ret :: tables_1)).before args0 about1 = true := by
  rw [allAtoms_all]
  show words1.all (fun c => c.before args0 about1) = true
  refine all_split ?_ w_codes
  rw [← List.take_append_drop 24 words1, List.all_append, w_t1, w_t2]
  rfl
set_option maxRecDepth 65536 in
theorem w_case : (Jvm.Cond.and given_1 narrow_1).before args0 about1 = true := by decide +kernel
theorem w_applies : (headSpec (Jvm.Cond.code x code maxLocals ret :: tables_1) room_1).applies x e0.platform about1 = true :=
  (Spec.applies_iff w_frames).mpr ⟨w_running, w_runnable, w_alone, w_named, w_hears, w_ripe, w_room, w_tables⟩
theorem atStart : AtStart classFile x code maxLocals ret World_1 tables_1 room_1 Calls_1 rest_1 Pre_1 launch0 p0 e0 about1 theMethod args0 below0 :=
  ⟨lists_1, trivial, launch0.admits_env _ _ _, launch0.least_env, fairChoices_fair.cas, fairChoices_fair.clock, w_frames, w_args, w_heap, w_applies, trivial, trivial, w_case⟩
end start1
theorem witness_1 : WitnessClaimed_1 := ⟨start1.p0, start1.e0, start1.about1, start1.theMethod, start1.args0, start1.below0, start1.atStart⟩
end Jvm.Pilot.@@N@@
