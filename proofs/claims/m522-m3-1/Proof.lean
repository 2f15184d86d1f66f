import JvmDerived
import JvmDerived.Pilot.@@N@@Statement
import JvmDerived.Pilot.@@N@@Code
set_option linter.unusedVariables false
set_option linter.unusedSimpArgs false
namespace Jvm.RoadKit
open Sem ClassFile Op Lib Jvm.Stand Jvm.Free Jvm.LawKit
section New
variable {p : Program} {l : Launch} {e : Env} {R : Room} {s : State} {m : MethodId} {args : Array Value} {below : List Frame} {meth : Method} {c : Code} {T : State} {locs : List Loc} {cells slots : Nat}
theorem retI (X : Stand p l e R s m args below meth c T locs cells slots) (hx : p.tables.exec = Jvm.exec) {pc : Nat} {Ls : Array Slot} {z : Int32} {rest : List Value} (hret : meth.sig.returnType = some .int) (hd : decode c.code pc = .ok (.ireturn, 1)) {fs : List Frame}
    (hl : ∀ (f : JFrame) (acts : List Action), f.method = m → f.locked = none → f.entered = [] → (doReturn e (T.setTop f) acts (some (.int z))).1 = T.setFrames fs) : Steps p.tables e below (T.setTop (mkF m pc Ls (.int z :: rest))) (T.setFrames fs) :=
  retOut X hx hret rfl (Or.inl ⟨rfl, Or.inl rfl, _, rfl⟩) hd hl
theorem own_sta_keep {Z : State} {h h' : Heap} {C n d : String} {w : Value} {ws : List Addr} (F : Sta Z h C n d w) (K : Keep h h' ws) (ns : ∀ x ∈ ws, ∀ cell : Cell, h[x]? = some cell → cell.vm.isStatics = false) : Sta Z h' C n d w := by
  obtain ⟨cf, i, k, f, st, cell, h1, h2, h3, h4, h5, h6, h7⟩ := F
  refine ⟨cf, i, k, f, st, cell, h1, h2, h3, h4, K.2.1 st cell h5 (fun hm => ?_), h6, h7⟩
  rw [ns st hm cell h5] at h6
  cases h6
theorem own_selp {s : State} {args : Array Value} {w y : MethodName} (hs : (Cond.selects w.cls w w).before args s = true) (e : w.cls = y.cls) (hp : s.PrivateAt y) (hi : (Cond.instanceMethod y).before args s = true) (hy : y.cls ≠ "java/lang/invoke/MethodHandle" ∧ y.cls ≠ "java/lang/invoke/VarHandle") : (Cond.selects y.cls y y).before args s = true := by
  obtain ⟨c2, r2, m2, q1, q2, q3, q4, kP, hkP, hkPi⟩ := Cond.selects_spec hs
  exact selects_self_of_private (c := m2.cls) (by rw [← e]; exact findClass_of_methodNamed q3) hkP hkPi hp hi hy
end New
end Jvm.RoadKit
namespace Jvm.Pilot.@@N@@
open Jvm Jvm.ClassFile Sem Op Lib Jvm.Free Jvm.Stand Jvm.LawKit Jvm.RoadKit Bundle Jvm.Pilot.@@N@@.Jvm.D
theorem d1_0 : decode prog_54_method_40_code 0 = .ok (.lconst 0, 1) := by decide +kernel
theorem d1_1 : decode prog_54_method_40_code 1 = .ok (.lstore_n 1, 1) := by decide +kernel
theorem d1_2 : decode prog_54_method_40_code 2 = .ok (.aload_n 0, 1) := by decide +kernel
theorem d1_3 : decode prog_54_method_40_code 3 = .ok (.astore_n 3, 1) := by decide +kernel
theorem d1_4 : decode prog_54_method_40_code 4 = .ok (.aload_n 3, 1) := by decide +kernel
theorem d1_5 : decode prog_54_method_40_code 5 = .ok (.arraylength, 1) := by decide +kernel
theorem d1_6 : decode prog_54_method_40_code 6 = .ok (.istore 4, 2) := by decide +kernel
theorem d1_8 : decode prog_54_method_40_code 8 = .ok (.iconst 0, 1) := by decide +kernel
theorem d1_9 : decode prog_54_method_40_code 9 = .ok (.istore 5, 2) := by decide +kernel
theorem d1_11 : decode prog_54_method_40_code 11 = .ok (.iload 5, 2) := by decide +kernel
theorem d1_13 : decode prog_54_method_40_code 13 = .ok (.iload 4, 2) := by decide +kernel
theorem d1_15 : decode prog_54_method_40_code 15 = .ok (.if_icmp .ge 22, 3) := by decide +kernel
theorem d1_18 : decode prog_54_method_40_code 18 = .ok (.aload_n 3, 1) := by decide +kernel
theorem d1_19 : decode prog_54_method_40_code 19 = .ok (.iload 5, 2) := by decide +kernel
theorem d1_21 : decode prog_54_method_40_code 21 = .ok (.caload, 1) := by decide +kernel
theorem d1_22 : decode prog_54_method_40_code 22 = .ok (.istore 6, 2) := by decide +kernel
theorem d1_24 : decode prog_54_method_40_code 24 = .ok (.lload_n 1, 1) := by decide +kernel
theorem d1_25 : decode prog_54_method_40_code 25 = .ok (.lconst 1, 1) := by decide +kernel
theorem d1_26 : decode prog_54_method_40_code 26 = .ok (.iload 6, 2) := by decide +kernel
theorem d1_28 : decode prog_54_method_40_code 28 = .ok (.lshl, 1) := by decide +kernel
theorem d1_29 : decode prog_54_method_40_code 29 = .ok (.lor, 1) := by decide +kernel
theorem d1_30 : decode prog_54_method_40_code 30 = .ok (.lstore_n 1, 1) := by decide +kernel
theorem d1_31 : decode prog_54_method_40_code 31 = .ok (.iinc 5 1, 3) := by decide +kernel
theorem d1_34 : decode prog_54_method_40_code 34 = .ok (.goto (-23), 3) := by decide +kernel
theorem d1_37 : decode prog_54_method_40_code 37 = .ok (.lload_n 1, 1) := by decide +kernel
theorem d1_38 : decode prog_54_method_40_code 38 = .ok (.lreturn, 1) := by decide +kernel
theorem pn_0 : plainName "com/example/biaoji/biaoji/Lexer" = true := by first | (simp [plainName, overriddenIn]; done) | decide +kernel
theorem pn_1 : plainName "com/example/biaoji/biaoji/LexerStopsPinLaw" = true := by first | (simp [plainName, overriddenIn]; done) | decide +kernel
theorem pd_2 : parseMethodDescriptor "([C)J" = some ⟨[(.array .char)], some .long⟩ := by decide +kernel
def own_b (P : Prop) [Decidable P] : Int32 := if P then 1 else 0
def own_bit (s : Int64) (d : Int32) : Int64 := ((s.toUInt64 >>> (d &&& 0x3f).toInt64.toUInt64).toInt64 &&& (1 : Int64))
theorem own_n3 (p n : Int32) (e : n = (p &&& (3 : Int32))) : n = 0 ∨ n = 1 ∨ n = 2 ∨ n = 3 := by
  have h1 := c_mask p 3 2 (by decide) (by decide)
  rw [← e] at h1
  simp only [← Int32.toInt_inj]
  have z0 : (0 : Int32).toInt = 0 := rfl
  have z1 : (1 : Int32).toInt = 1 := rfl
  have z2 : (2 : Int32).toInt = 2 := rfl
  have z3 : (3 : Int32).toInt = 3 := rfl
  omega
theorem own_bc {P Q : Prop} [Decidable P] [Decidable Q] (h : P ↔ Q) : own_b P = own_b Q := by simp [own_b, h]
theorem own_nat (d : Int32) (h0 : 0 ≤ d.toInt) (h1 : d.toInt < 64) : d.toBitVec.toNat % 64 = d.toInt.toNat := by
  have e : d.toInt = d.toBitVec.toInt := rfl
  have b := BitVec.toInt_eq_toNat_cond d.toBitVec
  have r := d.toBitVec.isLt
  split at b <;> omega
theorem own_bit_iff (s : Int64) (d : Int32) (h0 : 0 ≤ d.toInt) (h1 : d.toInt < 64) : own_bit s d = 1 ↔ s.toBitVec.getLsbD d.toInt.toNat = true := by
  have hq := sm64 d d.toInt.toNat (own_nat d h0 h1)
  have hs : (own_bit s d).toBitVec = (s.toBitVec >>> d.toInt.toNat) &&& 1#64 := by
    show (s.toBitVec >>> ((d &&& 0x3f).toInt64.toBitVec % 64)) &&& 1#64 = _
    rw [hq.1]
    congr 1
    have : (BitVec.ofNat 64 d.toInt.toNat % 64#64).toNat = d.toInt.toNat := by
      rw [BitVec.toNat_umod, BitVec.toNat_ofNat]
      show d.toInt.toNat % 2 ^ 64 % 64 = _
      omega
    show s.toBitVec >>> (BitVec.ofNat 64 d.toInt.toNat % 64#64).toNat = _
    rw [this]
  rw [← Int64.toBitVec_inj, hs]
  show (s.toBitVec >>> d.toInt.toNat) &&& 1#64 = 1#64 ↔ _
  rw [BitVec.and_one_eq_setWidth_ofBool_getLsbD, BitVec.getLsbD_ushiftRight]
  simp only [Nat.add_zero]
  cases s.toBitVec.getLsbD d.toInt.toNat <;> decide
theorem own_sbit (x : Int64) (a : Int32) (j : Nat) (h0 : 0 ≤ a.toInt) (h1 : a.toInt < 64) (hj : j < 64) : (x ||| ((1 : Int64) <<< (a &&& 0x3f).toInt64)).toBitVec.getLsbD j = (x.toBitVec.getLsbD j || decide (j = a.toInt.toNat)) := by
  have hq := sm64 a a.toInt.toNat (own_nat a h0 h1)
  show (x.toBitVec ||| (1#64 <<< ((a &&& 0x3f).toInt64.toBitVec.smod 64))).getLsbD j = _
  rw [hq.1, BitVec.getLsbD_or]
  congr 1
  show (1#64 <<< ((BitVec.ofNat 64 a.toInt.toNat).smod 64).toNat).getLsbD j = _
  rw [smod64 _ hq.2, BitVec.getLsbD_shiftLeft]
  generalize a.toInt.toNat = K
  have o : (1#64).getLsbD (j - K) = decide (j - K = 0) := by simp
  rw [o]
  by_cases g : j < K
  · have e : ¬ j = K := by omega
    simp [g, e]
  · by_cases e : j = K
    · subst e
      simp [hj]
    · have f : ¬ (j - K = 0) := by omega
      simp [e, f]
theorem own_c63 {y a : Int32} (e : a = ((y &&& (63 : Int32)).toUInt32.toUInt16.toUInt32.toInt32)) : 0 ≤ a.toInt ∧ a.toInt < 64 ∧ nar .char a = a := by
  have h1 := c_mask y 63 6 (by decide) (by decide)
  have h2 := c_i2c (y &&& (63 : Int32))
  have h3 := c_i2c a
  rw [← e] at h2
  refine ⟨by omega, by omega, ?_⟩
  rw [← Int32.toInt_inj]
  show (a.toUInt32.toUInt16.toUInt32.toInt32).toInt = a.toInt
  omega
theorem own_d63 {y a : Int32} (e : a = (y &&& (63 : Int32))) : 0 ≤ a.toInt ∧ a.toInt < 64 := by
  have h1 := c_mask y 63 6 (by decide) (by decide)
  rw [← e] at h1
  omega
theorem own_dq {a d : Int32} (h0 : 0 ≤ a.toInt) (h1 : 0 ≤ d.toInt) : d.toInt.toNat = a.toInt.toNat ↔ d = a := by
  rw [← Int32.toInt_inj]; omega
theorem own_st0 (d : Int32) {y : Int32} (e : d = (y &&& (63 : Int32))) : own_b (own_bit (0 : Int64) d = 1) = own_b False := own_bc (by
  have h := own_d63 e
  rw [own_bit_iff _ _ h.1 h.2]
  show (0#64).getLsbD _ = true ↔ False
  simp)
theorem own_st1 (a d : Int32) {y0 : Int32} (e0 : a = ((y0 &&& (63 : Int32)).toUInt32.toUInt16.toUInt32.toInt32)) {y : Int32} (e : d = (y &&& (63 : Int32))) : own_b (own_bit ((0 : Int64) ||| ((1 : Int64) <<< ((nar .char a) &&& 0x3f).toInt64)) d = 1) = own_b (d = a) := own_bc (by
  have h := own_d63 e
  have h0 := own_c63 e0
  rw [h0.2.2, own_bit_iff _ _ h.1 h.2, own_sbit _ _ _ h0.1 h0.2.1 (by omega)]
  have z : (0 : Int64).toBitVec.getLsbD d.toInt.toNat = false := by show (0#64).getLsbD _ = false; simp
  rw [z]
  simp only [Bool.false_or, Bool.or_eq_true, decide_eq_true_eq, own_dq h0.1 h.1]
  )
theorem own_st2 (a b d : Int32) {y0 : Int32} (e0 : a = ((y0 &&& (63 : Int32)).toUInt32.toUInt16.toUInt32.toInt32)) {y1 : Int32} (e1 : b = ((y1 &&& (63 : Int32)).toUInt32.toUInt16.toUInt32.toInt32)) {y : Int32} (e : d = (y &&& (63 : Int32))) : own_b (own_bit (((0 : Int64) ||| ((1 : Int64) <<< ((nar .char a) &&& 0x3f).toInt64)) ||| ((1 : Int64) <<< ((nar .char b) &&& 0x3f).toInt64)) d = 1) = own_b (d = a ∨ d = b) := own_bc (by
  have h := own_d63 e
  have h0 := own_c63 e0
  have h1 := own_c63 e1
  rw [h0.2.2, h1.2.2, own_bit_iff _ _ h.1 h.2, own_sbit _ _ _ h1.1 h1.2.1 (by omega), own_sbit _ _ _ h0.1 h0.2.1 (by omega)]
  have z : (0 : Int64).toBitVec.getLsbD d.toInt.toNat = false := by show (0#64).getLsbD _ = false; simp
  rw [z]
  simp only [Bool.false_or, Bool.or_eq_true, decide_eq_true_eq, own_dq h0.1 h.1, own_dq h1.1 h.1]
  )
theorem own_st3 (a b cc d : Int32) {y0 : Int32} (e0 : a = ((y0 &&& (63 : Int32)).toUInt32.toUInt16.toUInt32.toInt32)) {y1 : Int32} (e1 : b = ((y1 &&& (63 : Int32)).toUInt32.toUInt16.toUInt32.toInt32)) {y2 : Int32} (e2 : cc = ((y2 &&& (63 : Int32)).toUInt32.toUInt16.toUInt32.toInt32)) {y : Int32} (e : d = (y &&& (63 : Int32))) : own_b (own_bit ((((0 : Int64) ||| ((1 : Int64) <<< ((nar .char a) &&& 0x3f).toInt64)) ||| ((1 : Int64) <<< ((nar .char b) &&& 0x3f).toInt64)) ||| ((1 : Int64) <<< ((nar .char cc) &&& 0x3f).toInt64)) d = 1) = own_b (d = a ∨ d = b ∨ d = cc) := own_bc (by
  have h := own_d63 e
  have h0 := own_c63 e0
  have h1 := own_c63 e1
  have h2 := own_c63 e2
  rw [h0.2.2, h1.2.2, h2.2.2, own_bit_iff _ _ h.1 h.2, own_sbit _ _ _ h2.1 h2.2.1 (by omega), own_sbit _ _ _ h1.1 h1.2.1 (by omega), own_sbit _ _ _ h0.1 h0.2.1 (by omega)]
  have z : (0 : Int64).toBitVec.getLsbD d.toInt.toNat = false := by show (0#64).getLsbD _ = false; simp
  rw [z]
  simp only [Bool.false_or, Bool.or_eq_true, decide_eq_true_eq, own_dq h0.1 h.1, own_dq h1.1 h.1, own_dq h2.1 h.1]
  exact or_assoc)
abbrev sN0 : String := "com/example/biaoji/biaoji/Lexer"
theorem ef_rmStops0 (m : MethodId) (x0 : Addr) : entryFrame m #[(.ref x0)] 7 = mkF m 0 #[rv x0, .unset, .unset, .unset, .unset, .unset, .unset] [] := by first | (simp [entryFrame, mkF, argsToLocals, Value.category]; done) | rfl
def Q_rmStops0 (Z : State) (a1 : Addr) (k : ClassId) (h0 : Heap) (n0 : Nat) (v : Option Value) (h : Heap) (L : List Loc) : Prop := v = some (.long (0 : Int64)) ∧ Fr n0 L ∧ h = h0
set_option maxRecDepth 65536 in
set_option maxHeartbeats 40000000 in
theorem rmStops0 (l : Launch) (Z : State) (a0 : Array Value) (hw : ∀ d ∈ tables_1, d.before a0 Z = true) (ws : List Jvm.Cond) (a1 : Addr) (k : ClassId) (h0 : Heap) (n0 : Nat) (Z0 : n0 ≤ h0.size) (A_a1 : Arv Z h0 a1 k .char (0 : Int32) [] (.int (0 : Int32))) :
    MetFree l (⟨sN0, "stops", "([C)J"⟩ : MethodName) (head1 (Jvm.Cond.code (⟨sN0, "stops", "([C)J"⟩ : MethodName) prog_54_method_40_code 7 (some .long) :: ws) ({ frames := 0, cells := 0, slots := 0, locals := 0 } : Room)) (fun a U => a = #[(.ref a1)] ∧ Z.Warmed39 U.vm ∧ U.heap = h0) (fun _ _ _ _ _ => True) (fun _ U o U' => ∃ v L, o = .returned v ∧ Q_rmStops0 Z a1 k h0 n0 v U'.heap L ∧ FrameEnd U o U' L ({ frames := 0, cells := 0, slots := 0, locals := 0 } : Room).cells ({ frames := 0, cells := 0, slots := 0, locals := 0 } : Room).slots) := by
  refine MetFree.of_bodySF (plainFor_of_name pn_0) hisR ?_
  intro p e s m args below meth c s₁ Bd hml0 hP hK
  obtain ⟨rfl, hZ, hh⟩ := hP
  have hx := Bd.exec
  have hby := Bd.bytes
  have hml : c.maxLocals = 7 := hml0
  have hown : s.vm.findClass sN0 = some m.cls := findClass_of_methodNamed Bd.named
  have hnm := (name_of_methodNamed Bd.named Bd.method).1
  have X0 : Stand p l e ({ frames := 0, cells := 0, slots := 0, locals := 0 } : Room) s m #[(.ref a1)] below meth c s₁ [] 0 0 := Stand.of_body Bd
  have e0 : s₁.heap = h0 := by rw [← hh, Bd.state]; rfl
  have N0 := Fr.nil n0
  obtain ⟨f0, hf0⟩ : ∃ f : JFrame, f = mkF m 0 #[rv a1, .unset, .unset, .unset, .unset, .unset, .unset] [] := ⟨_, rfl⟩
  have pre0 : ∀ t, Steps p.tables e below (s₁.setTop f0) t → Steps p.tables e below (s₁.setTop (entryFrame m #[(.ref a1)] 7)) t := fun t k => castTop ((ef_rmStops0 m a1).trans hf0.symm) k
  have R0 : ∀ t, Steps p.tables e below (s₁.setTop (mkF m 0 #[rv a1, .unset, .unset, .unset, .unset, .unset, .unset] [])) t → Steps p.tables e below (s₁.setTop f0) t := by rw [hf0]; exact fun t k => k
  have R1 : ∀ t, Steps p.tables e below (s₁.setTop (mkF m 5 #[rv a1, .val (.long (0 : Int64)), .second, rv a1, .unset, .unset, .unset] [(.ref a1)])) t → Steps p.tables e below (s₁.setTop f0) t := fun t k => R0 t (by
    show Steps p.tables e below (s₁.setTop (mkF m 0 #[rv a1, .unset, .unset, .unset, .unset, .unset, .unset] [])) _
    refine XS.lconst X0.here hx rfl (hb hby d1_0) ?_
    show Steps p.tables e below (s₁.setTop (mkF m 1 #[rv a1, .unset, .unset, .unset, .unset, .unset, .unset] [(.long (0 : Int64))])) _
    refine XS.lstoreN X0.here hx rfl (hb hby d1_1) rfl (l' := #[rv a1, .val (.long (0 : Int64)), .second, .unset, .unset, .unset, .unset]) rfl ?_
    show Steps p.tables e below (s₁.setTop (mkF m 2 #[rv a1, .val (.long (0 : Int64)), .second, .unset, .unset, .unset, .unset] [])) _
    refine XS.aloadN X0.here hx rfl (hb hby d1_2) rfl rfl ?_
    show Steps p.tables e below (s₁.setTop (mkF m 3 #[rv a1, .val (.long (0 : Int64)), .second, .unset, .unset, .unset, .unset] [(.ref a1)])) _
    refine XS.astoreN X0.here hx rfl (hb hby d1_3) rfl rfl (l' := #[rv a1, .val (.long (0 : Int64)), .second, rv a1, .unset, .unset, .unset]) rfl ?_
    show Steps p.tables e below (s₁.setTop (mkF m 4 #[rv a1, .val (.long (0 : Int64)), .second, rv a1, .unset, .unset, .unset] [])) _
    refine XS.aloadN X0.here hx rfl (hb hby d1_4) rfl rfl ?_
    exact k)
  obtain ⟨cl2, Ar2, -, S2, N2_, -, -⟩ := id A_a1
  have R3 : ∀ t, Steps p.tables e below (s₁.setTop (mkF m 6 #[rv a1, .val (.long (0 : Int64)), .second, rv a1, .unset, .unset, .unset] [(.int (0 : Int32))])) t → Steps p.tables e below (s₁.setTop f0) t := fun t k => R1 t (X0.arraylength hx (by rw [e0]; exact Ar2.1) (State.isArrayOf_alike hZ.alike Ar2.2.1) (g := (mkF m 5 #[rv a1, .val (.long (0 : Int64)), .second, rv a1, .unset, .unset, .unset] [(.ref a1)])) rfl rfl (hb hby d1_5) _ (by rw [len_of S2 N2_]; exact k))
  have R4 : ∀ t, Steps p.tables e below (s₁.setTop (mkF m 38 #[rv a1, .val (.long (0 : Int64)), .second, rv a1, iv (0 : Int32), iv (0 : Int32), .unset] [(.long (0 : Int64))])) t → Steps p.tables e below (s₁.setTop f0) t := fun t k => R3 t (by
    show Steps p.tables e below (s₁.setTop (mkF m 6 #[rv a1, .val (.long (0 : Int64)), .second, rv a1, .unset, .unset, .unset] [(.int (0 : Int32))])) _
    refine XS.istore X0.here hx rfl (hb hby d1_6) rfl (l' := #[rv a1, .val (.long (0 : Int64)), .second, rv a1, iv (0 : Int32), .unset, .unset]) rfl ?_
    show Steps p.tables e below (s₁.setTop (mkF m 8 #[rv a1, .val (.long (0 : Int64)), .second, rv a1, iv (0 : Int32), .unset, .unset] [])) _
    refine XS.iconst X0.here hx rfl (hb hby d1_8) ?_
    show Steps p.tables e below (s₁.setTop (mkF m 9 #[rv a1, .val (.long (0 : Int64)), .second, rv a1, iv (0 : Int32), .unset, .unset] [(.int (0 : Int32))])) _
    refine XS.istore X0.here hx rfl (hb hby d1_9) rfl (l' := #[rv a1, .val (.long (0 : Int64)), .second, rv a1, iv (0 : Int32), iv (0 : Int32), .unset]) rfl ?_
    show Steps p.tables e below (s₁.setTop (mkF m 11 #[rv a1, .val (.long (0 : Int64)), .second, rv a1, iv (0 : Int32), iv (0 : Int32), .unset] [])) _
    refine XS.iload X0.here hx rfl (hb hby d1_11) rfl  ?_
    show Steps p.tables e below (s₁.setTop (mkF m 13 #[rv a1, .val (.long (0 : Int64)), .second, rv a1, iv (0 : Int32), iv (0 : Int32), .unset] [(.int (0 : Int32))])) _
    refine XS.iload X0.here hx rfl (hb hby d1_13) rfl  ?_
    show Steps p.tables e below (s₁.setTop (mkF m 15 #[rv a1, .val (.long (0 : Int64)), .second, rv a1, iv (0 : Int32), iv (0 : Int32), .unset] [(.int (0 : Int32)), (.int (0 : Int32))])) _
    refine XS.icmpYes X0.here hx rfl (pc0 := 15) (pc' := 37) rfl (hb hby d1_15) rfl (flt (by decide : ¬ ((0 : Int32) < (0 : Int32)))).2.1 (by decide) (by decide) ?_
    show Steps p.tables e below (s₁.setTop (mkF m 37 #[rv a1, .val (.long (0 : Int64)), .second, rv a1, iv (0 : Int32), iv (0 : Int32), .unset] [])) _
    refine XS.lloadN X0.here hx rfl (hb hby d1_37) rfl  ?_
    exact k)
  obtain ⟨fs, hr, hrun, hended, hW, hsame⟩ := X0.leave (v := some (.long (0 : Int64))) (fun h => by rw [Bd.returns] at h; cases h)
  refine ⟨_, _, pre0 _ (R4 _ ?_), hrun, hended, _, _, rfl, ?_, ⟨_, rfl⟩, hW, hsame.mono (by decide) (by decide)⟩
  · show Steps p.tables e below (s₁.setTop (mkF m 38 #[rv a1, .val (.long (0 : Int64)), .second, rv a1, iv (0 : Int32), iv (0 : Int32), .unset] [(.long (0 : Int64))])) _
    exact retOut X0 hx (t := .long) Bd.returns rfl (Or.inr (Or.inl ⟨rfl, rfl, _, rfl⟩)) (hb hby d1_38) hr
  · show Q_rmStops0 Z a1 k h0 n0 _ s₁.heap _
    rw [e0]
    exact ⟨rfl, N0, rfl⟩
theorem ef_rmStops1 (m : MethodId) (x0 : Addr) : entryFrame m #[(.ref x0)] 7 = mkF m 0 #[rv x0, .unset, .unset, .unset, .unset, .unset, .unset] [] := by first | (simp [entryFrame, mkF, argsToLocals, Value.category]; done) | rfl
def Q_rmStops1 (Z : State) (a1 : Addr) (k : ClassId) (x0 : Int32) (h0 : Heap) (n0 : Nat) (v : Option Value) (h : Heap) (L : List Loc) : Prop := v = some (.long ((0 : Int64) ||| ((1 : Int64) <<< (x0 &&& 0x3f).toInt64))) ∧ Fr n0 L ∧ h = h0
set_option maxRecDepth 65536 in
set_option maxHeartbeats 40000000 in
theorem rmStops1 (l : Launch) (Z : State) (a0 : Array Value) (hw : ∀ d ∈ tables_1, d.before a0 Z = true) (ws : List Jvm.Cond) (a1 : Addr) (k : ClassId) (x0 : Int32) (h0 : Heap) (n0 : Nat) (Z0 : n0 ≤ h0.size) (A_a1 : Arv Z h0 a1 k .char (1 : Int32) [(.int x0)] (.int (0 : Int32))) :
    MetFree l (⟨sN0, "stops", "([C)J"⟩ : MethodName) (head1 (Jvm.Cond.code (⟨sN0, "stops", "([C)J"⟩ : MethodName) prog_54_method_40_code 7 (some .long) :: ws) ({ frames := 0, cells := 0, slots := 0, locals := 0 } : Room)) (fun a U => a = #[(.ref a1)] ∧ Z.Warmed39 U.vm ∧ U.heap = h0) (fun _ _ _ _ _ => True) (fun _ U o U' => ∃ v L, o = .returned v ∧ Q_rmStops1 Z a1 k x0 h0 n0 v U'.heap L ∧ FrameEnd U o U' L ({ frames := 0, cells := 0, slots := 0, locals := 0 } : Room).cells ({ frames := 0, cells := 0, slots := 0, locals := 0 } : Room).slots) := by
  refine MetFree.of_bodySF (plainFor_of_name pn_0) hisR ?_
  intro p e s m args below meth c s₁ Bd hml0 hP hK
  obtain ⟨rfl, hZ, hh⟩ := hP
  have hx := Bd.exec
  have hby := Bd.bytes
  have hml : c.maxLocals = 7 := hml0
  have hown : s.vm.findClass sN0 = some m.cls := findClass_of_methodNamed Bd.named
  have hnm := (name_of_methodNamed Bd.named Bd.method).1
  have X0 : Stand p l e ({ frames := 0, cells := 0, slots := 0, locals := 0 } : Room) s m #[(.ref a1)] below meth c s₁ [] 0 0 := Stand.of_body Bd
  have e0 : s₁.heap = h0 := by rw [← hh, Bd.state]; rfl
  have N0 := Fr.nil n0
  obtain ⟨f0, hf0⟩ : ∃ f : JFrame, f = mkF m 0 #[rv a1, .unset, .unset, .unset, .unset, .unset, .unset] [] := ⟨_, rfl⟩
  have pre0 : ∀ t, Steps p.tables e below (s₁.setTop f0) t → Steps p.tables e below (s₁.setTop (entryFrame m #[(.ref a1)] 7)) t := fun t k => castTop ((ef_rmStops1 m a1).trans hf0.symm) k
  have R0 : ∀ t, Steps p.tables e below (s₁.setTop (mkF m 0 #[rv a1, .unset, .unset, .unset, .unset, .unset, .unset] [])) t → Steps p.tables e below (s₁.setTop f0) t := by rw [hf0]; exact fun t k => k
  have R1 : ∀ t, Steps p.tables e below (s₁.setTop (mkF m 5 #[rv a1, .val (.long (0 : Int64)), .second, rv a1, .unset, .unset, .unset] [(.ref a1)])) t → Steps p.tables e below (s₁.setTop f0) t := fun t k => R0 t (by
    show Steps p.tables e below (s₁.setTop (mkF m 0 #[rv a1, .unset, .unset, .unset, .unset, .unset, .unset] [])) _
    refine XS.lconst X0.here hx rfl (hb hby d1_0) ?_
    show Steps p.tables e below (s₁.setTop (mkF m 1 #[rv a1, .unset, .unset, .unset, .unset, .unset, .unset] [(.long (0 : Int64))])) _
    refine XS.lstoreN X0.here hx rfl (hb hby d1_1) rfl (l' := #[rv a1, .val (.long (0 : Int64)), .second, .unset, .unset, .unset, .unset]) rfl ?_
    show Steps p.tables e below (s₁.setTop (mkF m 2 #[rv a1, .val (.long (0 : Int64)), .second, .unset, .unset, .unset, .unset] [])) _
    refine XS.aloadN X0.here hx rfl (hb hby d1_2) rfl rfl ?_
    show Steps p.tables e below (s₁.setTop (mkF m 3 #[rv a1, .val (.long (0 : Int64)), .second, .unset, .unset, .unset, .unset] [(.ref a1)])) _
    refine XS.astoreN X0.here hx rfl (hb hby d1_3) rfl rfl (l' := #[rv a1, .val (.long (0 : Int64)), .second, rv a1, .unset, .unset, .unset]) rfl ?_
    show Steps p.tables e below (s₁.setTop (mkF m 4 #[rv a1, .val (.long (0 : Int64)), .second, rv a1, .unset, .unset, .unset] [])) _
    refine XS.aloadN X0.here hx rfl (hb hby d1_4) rfl rfl ?_
    exact k)
  obtain ⟨cl2, Ar2, -, S2, N2_, -, -⟩ := id A_a1
  have R3 : ∀ t, Steps p.tables e below (s₁.setTop (mkF m 6 #[rv a1, .val (.long (0 : Int64)), .second, rv a1, .unset, .unset, .unset] [(.int (1 : Int32))])) t → Steps p.tables e below (s₁.setTop f0) t := fun t k => R1 t (X0.arraylength hx (by rw [e0]; exact Ar2.1) (State.isArrayOf_alike hZ.alike Ar2.2.1) (g := (mkF m 5 #[rv a1, .val (.long (0 : Int64)), .second, rv a1, .unset, .unset, .unset] [(.ref a1)])) rfl rfl (hb hby d1_5) _ (by rw [len_of S2 N2_]; exact k))
  have R4 : ∀ t, Steps p.tables e below (s₁.setTop (mkF m 21 #[rv a1, .val (.long (0 : Int64)), .second, rv a1, iv (1 : Int32), iv (0 : Int32), .unset] [(.int (0 : Int32)), (.ref a1)])) t → Steps p.tables e below (s₁.setTop f0) t := fun t k => R3 t (by
    show Steps p.tables e below (s₁.setTop (mkF m 6 #[rv a1, .val (.long (0 : Int64)), .second, rv a1, .unset, .unset, .unset] [(.int (1 : Int32))])) _
    refine XS.istore X0.here hx rfl (hb hby d1_6) rfl (l' := #[rv a1, .val (.long (0 : Int64)), .second, rv a1, iv (1 : Int32), .unset, .unset]) rfl ?_
    show Steps p.tables e below (s₁.setTop (mkF m 8 #[rv a1, .val (.long (0 : Int64)), .second, rv a1, iv (1 : Int32), .unset, .unset] [])) _
    refine XS.iconst X0.here hx rfl (hb hby d1_8) ?_
    show Steps p.tables e below (s₁.setTop (mkF m 9 #[rv a1, .val (.long (0 : Int64)), .second, rv a1, iv (1 : Int32), .unset, .unset] [(.int (0 : Int32))])) _
    refine XS.istore X0.here hx rfl (hb hby d1_9) rfl (l' := #[rv a1, .val (.long (0 : Int64)), .second, rv a1, iv (1 : Int32), iv (0 : Int32), .unset]) rfl ?_
    show Steps p.tables e below (s₁.setTop (mkF m 11 #[rv a1, .val (.long (0 : Int64)), .second, rv a1, iv (1 : Int32), iv (0 : Int32), .unset] [])) _
    refine XS.iload X0.here hx rfl (hb hby d1_11) rfl  ?_
    show Steps p.tables e below (s₁.setTop (mkF m 13 #[rv a1, .val (.long (0 : Int64)), .second, rv a1, iv (1 : Int32), iv (0 : Int32), .unset] [(.int (0 : Int32))])) _
    refine XS.iload X0.here hx rfl (hb hby d1_13) rfl  ?_
    show Steps p.tables e below (s₁.setTop (mkF m 15 #[rv a1, .val (.long (0 : Int64)), .second, rv a1, iv (1 : Int32), iv (0 : Int32), .unset] [(.int (1 : Int32)), (.int (0 : Int32))])) _
    refine XS.icmpNo X0.here hx rfl (hb hby d1_15) rfl (tlt (by decide : (0 : Int32) < (1 : Int32))).2.1 ?_
    show Steps p.tables e below (s₁.setTop (mkF m 18 #[rv a1, .val (.long (0 : Int64)), .second, rv a1, iv (1 : Int32), iv (0 : Int32), .unset] [])) _
    refine XS.aloadN X0.here hx rfl (hb hby d1_18) rfl rfl ?_
    show Steps p.tables e below (s₁.setTop (mkF m 19 #[rv a1, .val (.long (0 : Int64)), .second, rv a1, iv (1 : Int32), iv (0 : Int32), .unset] [(.ref a1)])) _
    refine XS.iload X0.here hx rfl (hb hby d1_19) rfl  ?_
    exact k)
  obtain ⟨cl5, Ar5, q5, S5, n5_, H5, G5⟩ := id A_a1
  have hin5 : ¬ ((0 : Int32) < 0 ∨ cl5.slots.size ≤ ((0 : Int32)).toNatClampNeg) := inb_of S5 ⟨by decide, by decide⟩
  have hat5 : cl5.slots[((0 : Int32)).toNatClampNeg]? = some (.int x0) := Has.at H5 hin5 rfl
  have R6 : ∀ t, Steps p.tables e below (s₁.setTop (mkF m 22 #[rv a1, .val (.long (0 : Int64)), .second, rv a1, iv (1 : Int32), iv (0 : Int32), .unset] [(.int x0)])) t → Steps p.tables e below (s₁.setTop f0) t := fun t k => R4 t (X0.caload hx (j := (0 : Int32)) (v := (.int x0)) (by rw [e0]; exact Ar5.1) (State.isArrayOf_alike hZ.alike Ar5.2.1) Ar5.2.2 hin5 hat5 (g := (mkF m 21 #[rv a1, .val (.long (0 : Int64)), .second, rv a1, iv (1 : Int32), iv (0 : Int32), .unset] [(.int (0 : Int32)), (.ref a1)])) rfl rfl (hb hby d1_21) _ k)
  have R7 : ∀ t, Steps p.tables e below (s₁.setTop (mkF m 38 #[rv a1, .val (.long ((0 : Int64) ||| ((1 : Int64) <<< (x0 &&& 0x3f).toInt64))), .second, rv a1, iv (1 : Int32), iv (1 : Int32), iv x0] [(.long ((0 : Int64) ||| ((1 : Int64) <<< (x0 &&& 0x3f).toInt64)))])) t → Steps p.tables e below (s₁.setTop f0) t := fun t k => R6 t (by
    show Steps p.tables e below (s₁.setTop (mkF m 22 #[rv a1, .val (.long (0 : Int64)), .second, rv a1, iv (1 : Int32), iv (0 : Int32), .unset] [(.int x0)])) _
    refine XS.istore X0.here hx rfl (hb hby d1_22) rfl (l' := #[rv a1, .val (.long (0 : Int64)), .second, rv a1, iv (1 : Int32), iv (0 : Int32), iv x0]) rfl ?_
    show Steps p.tables e below (s₁.setTop (mkF m 24 #[rv a1, .val (.long (0 : Int64)), .second, rv a1, iv (1 : Int32), iv (0 : Int32), iv x0] [])) _
    refine XS.lloadN X0.here hx rfl (hb hby d1_24) rfl  ?_
    show Steps p.tables e below (s₁.setTop (mkF m 25 #[rv a1, .val (.long (0 : Int64)), .second, rv a1, iv (1 : Int32), iv (0 : Int32), iv x0] [(.long (0 : Int64))])) _
    refine XS.lconst X0.here hx rfl (hb hby d1_25) ?_
    show Steps p.tables e below (s₁.setTop (mkF m 26 #[rv a1, .val (.long (0 : Int64)), .second, rv a1, iv (1 : Int32), iv (0 : Int32), iv x0] [(.long (1 : Int64)), (.long (0 : Int64))])) _
    refine XS.iload X0.here hx rfl (hb hby d1_26) rfl  ?_
    show Steps p.tables e below (s₁.setTop (mkF m 28 #[rv a1, .val (.long (0 : Int64)), .second, rv a1, iv (1 : Int32), iv (0 : Int32), iv x0] [(.int x0), (.long (1 : Int64)), (.long (0 : Int64))])) _
    refine XS.lshl X0.here hx rfl (hb hby d1_28) rfl ?_
    show Steps p.tables e below (s₁.setTop (mkF m 29 #[rv a1, .val (.long (0 : Int64)), .second, rv a1, iv (1 : Int32), iv (0 : Int32), iv x0] [(.long ((1 : Int64) <<< (x0 &&& 0x3f).toInt64)), (.long (0 : Int64))])) _
    refine XS.lor X0.here hx rfl (hb hby d1_29) rfl ?_
    show Steps p.tables e below (s₁.setTop (mkF m 30 #[rv a1, .val (.long (0 : Int64)), .second, rv a1, iv (1 : Int32), iv (0 : Int32), iv x0] [(.long ((0 : Int64) ||| ((1 : Int64) <<< (x0 &&& 0x3f).toInt64)))])) _
    refine XS.lstoreN X0.here hx rfl (hb hby d1_30) rfl (l' := #[rv a1, .val (.long ((0 : Int64) ||| ((1 : Int64) <<< (x0 &&& 0x3f).toInt64))), .second, rv a1, iv (1 : Int32), iv (0 : Int32), iv x0]) rfl ?_
    show Steps p.tables e below (s₁.setTop (mkF m 31 #[rv a1, .val (.long ((0 : Int64) ||| ((1 : Int64) <<< (x0 &&& 0x3f).toInt64))), .second, rv a1, iv (1 : Int32), iv (0 : Int32), iv x0] [])) _
    refine XS.iinc X0.here hx rfl (hb hby d1_31) rfl (l' := #[rv a1, .val (.long ((0 : Int64) ||| ((1 : Int64) <<< (x0 &&& 0x3f).toInt64))), .second, rv a1, iv (1 : Int32), iv (1 : Int32), iv x0]) rfl ?_
    show Steps p.tables e below (s₁.setTop (mkF m 34 #[rv a1, .val (.long ((0 : Int64) ||| ((1 : Int64) <<< (x0 &&& 0x3f).toInt64))), .second, rv a1, iv (1 : Int32), iv (1 : Int32), iv x0] [])) _
    refine XS.goto X0.here hx rfl (pc0 := 34) (pc' := 11) rfl (hb hby d1_34) (by decide) (by decide) ?_
    show Steps p.tables e below (s₁.setTop (mkF m 11 #[rv a1, .val (.long ((0 : Int64) ||| ((1 : Int64) <<< (x0 &&& 0x3f).toInt64))), .second, rv a1, iv (1 : Int32), iv (1 : Int32), iv x0] [])) _
    refine XS.iload X0.here hx rfl (hb hby d1_11) rfl  ?_
    show Steps p.tables e below (s₁.setTop (mkF m 13 #[rv a1, .val (.long ((0 : Int64) ||| ((1 : Int64) <<< (x0 &&& 0x3f).toInt64))), .second, rv a1, iv (1 : Int32), iv (1 : Int32), iv x0] [(.int (1 : Int32))])) _
    refine XS.iload X0.here hx rfl (hb hby d1_13) rfl  ?_
    show Steps p.tables e below (s₁.setTop (mkF m 15 #[rv a1, .val (.long ((0 : Int64) ||| ((1 : Int64) <<< (x0 &&& 0x3f).toInt64))), .second, rv a1, iv (1 : Int32), iv (1 : Int32), iv x0] [(.int (1 : Int32)), (.int (1 : Int32))])) _
    refine XS.icmpYes X0.here hx rfl (pc0 := 15) (pc' := 37) rfl (hb hby d1_15) rfl (flt (by decide : ¬ ((1 : Int32) < (1 : Int32)))).2.1 (by decide) (by decide) ?_
    show Steps p.tables e below (s₁.setTop (mkF m 37 #[rv a1, .val (.long ((0 : Int64) ||| ((1 : Int64) <<< (x0 &&& 0x3f).toInt64))), .second, rv a1, iv (1 : Int32), iv (1 : Int32), iv x0] [])) _
    refine XS.lloadN X0.here hx rfl (hb hby d1_37) rfl  ?_
    exact k)
  obtain ⟨fs, hr, hrun, hended, hW, hsame⟩ := X0.leave (v := some (.long ((0 : Int64) ||| ((1 : Int64) <<< (x0 &&& 0x3f).toInt64)))) (fun h => by rw [Bd.returns] at h; cases h)
  refine ⟨_, _, pre0 _ (R7 _ ?_), hrun, hended, _, _, rfl, ?_, ⟨_, rfl⟩, hW, hsame.mono (by decide) (by decide)⟩
  · show Steps p.tables e below (s₁.setTop (mkF m 38 #[rv a1, .val (.long ((0 : Int64) ||| ((1 : Int64) <<< (x0 &&& 0x3f).toInt64))), .second, rv a1, iv (1 : Int32), iv (1 : Int32), iv x0] [(.long ((0 : Int64) ||| ((1 : Int64) <<< (x0 &&& 0x3f).toInt64)))])) _
    exact retOut X0 hx (t := .long) Bd.returns rfl (Or.inr (Or.inl ⟨rfl, rfl, _, rfl⟩)) (hb hby d1_38) hr
  · show Q_rmStops1 Z a1 k x0 h0 n0 _ s₁.heap _
    rw [e0]
    exact ⟨rfl, N0, rfl⟩
theorem ef_rmStops2 (m : MethodId) (x0 : Addr) : entryFrame m #[(.ref x0)] 7 = mkF m 0 #[rv x0, .unset, .unset, .unset, .unset, .unset, .unset] [] := by first | (simp [entryFrame, mkF, argsToLocals, Value.category]; done) | rfl
def Q_rmStops2 (Z : State) (a1 : Addr) (k : ClassId) (x0 : Int32) (x1 : Int32) (h0 : Heap) (n0 : Nat) (v : Option Value) (h : Heap) (L : List Loc) : Prop := v = some (.long (((0 : Int64) ||| ((1 : Int64) <<< (x0 &&& 0x3f).toInt64)) ||| ((1 : Int64) <<< (x1 &&& 0x3f).toInt64))) ∧ Fr n0 L ∧ h = h0
set_option maxRecDepth 65536 in
set_option maxHeartbeats 40000000 in
theorem rmStops2 (l : Launch) (Z : State) (a0 : Array Value) (hw : ∀ d ∈ tables_1, d.before a0 Z = true) (ws : List Jvm.Cond) (a1 : Addr) (k : ClassId) (x0 : Int32) (x1 : Int32) (h0 : Heap) (n0 : Nat) (Z0 : n0 ≤ h0.size) (A_a1 : Arv Z h0 a1 k .char (2 : Int32) [(.int x0), (.int x1)] (.int (0 : Int32))) :
    MetFree l (⟨sN0, "stops", "([C)J"⟩ : MethodName) (head1 (Jvm.Cond.code (⟨sN0, "stops", "([C)J"⟩ : MethodName) prog_54_method_40_code 7 (some .long) :: ws) ({ frames := 0, cells := 0, slots := 0, locals := 0 } : Room)) (fun a U => a = #[(.ref a1)] ∧ Z.Warmed39 U.vm ∧ U.heap = h0) (fun _ _ _ _ _ => True) (fun _ U o U' => ∃ v L, o = .returned v ∧ Q_rmStops2 Z a1 k x0 x1 h0 n0 v U'.heap L ∧ FrameEnd U o U' L ({ frames := 0, cells := 0, slots := 0, locals := 0 } : Room).cells ({ frames := 0, cells := 0, slots := 0, locals := 0 } : Room).slots) := by
  refine MetFree.of_bodySF (plainFor_of_name pn_0) hisR ?_
  intro p e s m args below meth c s₁ Bd hml0 hP hK
  obtain ⟨rfl, hZ, hh⟩ := hP
  have hx := Bd.exec
  have hby := Bd.bytes
  have hml : c.maxLocals = 7 := hml0
  have hown : s.vm.findClass sN0 = some m.cls := findClass_of_methodNamed Bd.named
  have hnm := (name_of_methodNamed Bd.named Bd.method).1
  have X0 : Stand p l e ({ frames := 0, cells := 0, slots := 0, locals := 0 } : Room) s m #[(.ref a1)] below meth c s₁ [] 0 0 := Stand.of_body Bd
  have e0 : s₁.heap = h0 := by rw [← hh, Bd.state]; rfl
  have N0 := Fr.nil n0
  obtain ⟨f0, hf0⟩ : ∃ f : JFrame, f = mkF m 0 #[rv a1, .unset, .unset, .unset, .unset, .unset, .unset] [] := ⟨_, rfl⟩
  have pre0 : ∀ t, Steps p.tables e below (s₁.setTop f0) t → Steps p.tables e below (s₁.setTop (entryFrame m #[(.ref a1)] 7)) t := fun t k => castTop ((ef_rmStops2 m a1).trans hf0.symm) k
  have R0 : ∀ t, Steps p.tables e below (s₁.setTop (mkF m 0 #[rv a1, .unset, .unset, .unset, .unset, .unset, .unset] [])) t → Steps p.tables e below (s₁.setTop f0) t := by rw [hf0]; exact fun t k => k
  have R1 : ∀ t, Steps p.tables e below (s₁.setTop (mkF m 5 #[rv a1, .val (.long (0 : Int64)), .second, rv a1, .unset, .unset, .unset] [(.ref a1)])) t → Steps p.tables e below (s₁.setTop f0) t := fun t k => R0 t (by
    show Steps p.tables e below (s₁.setTop (mkF m 0 #[rv a1, .unset, .unset, .unset, .unset, .unset, .unset] [])) _
    refine XS.lconst X0.here hx rfl (hb hby d1_0) ?_
    show Steps p.tables e below (s₁.setTop (mkF m 1 #[rv a1, .unset, .unset, .unset, .unset, .unset, .unset] [(.long (0 : Int64))])) _
    refine XS.lstoreN X0.here hx rfl (hb hby d1_1) rfl (l' := #[rv a1, .val (.long (0 : Int64)), .second, .unset, .unset, .unset, .unset]) rfl ?_
    show Steps p.tables e below (s₁.setTop (mkF m 2 #[rv a1, .val (.long (0 : Int64)), .second, .unset, .unset, .unset, .unset] [])) _
    refine XS.aloadN X0.here hx rfl (hb hby d1_2) rfl rfl ?_
    show Steps p.tables e below (s₁.setTop (mkF m 3 #[rv a1, .val (.long (0 : Int64)), .second, .unset, .unset, .unset, .unset] [(.ref a1)])) _
    refine XS.astoreN X0.here hx rfl (hb hby d1_3) rfl rfl (l' := #[rv a1, .val (.long (0 : Int64)), .second, rv a1, .unset, .unset, .unset]) rfl ?_
    show Steps p.tables e below (s₁.setTop (mkF m 4 #[rv a1, .val (.long (0 : Int64)), .second, rv a1, .unset, .unset, .unset] [])) _
    refine XS.aloadN X0.here hx rfl (hb hby d1_4) rfl rfl ?_
    exact k)
  obtain ⟨cl2, Ar2, -, S2, N2_, -, -⟩ := id A_a1
  have R3 : ∀ t, Steps p.tables e below (s₁.setTop (mkF m 6 #[rv a1, .val (.long (0 : Int64)), .second, rv a1, .unset, .unset, .unset] [(.int (2 : Int32))])) t → Steps p.tables e below (s₁.setTop f0) t := fun t k => R1 t (X0.arraylength hx (by rw [e0]; exact Ar2.1) (State.isArrayOf_alike hZ.alike Ar2.2.1) (g := (mkF m 5 #[rv a1, .val (.long (0 : Int64)), .second, rv a1, .unset, .unset, .unset] [(.ref a1)])) rfl rfl (hb hby d1_5) _ (by rw [len_of S2 N2_]; exact k))
  have R4 : ∀ t, Steps p.tables e below (s₁.setTop (mkF m 21 #[rv a1, .val (.long (0 : Int64)), .second, rv a1, iv (2 : Int32), iv (0 : Int32), .unset] [(.int (0 : Int32)), (.ref a1)])) t → Steps p.tables e below (s₁.setTop f0) t := fun t k => R3 t (by
    show Steps p.tables e below (s₁.setTop (mkF m 6 #[rv a1, .val (.long (0 : Int64)), .second, rv a1, .unset, .unset, .unset] [(.int (2 : Int32))])) _
    refine XS.istore X0.here hx rfl (hb hby d1_6) rfl (l' := #[rv a1, .val (.long (0 : Int64)), .second, rv a1, iv (2 : Int32), .unset, .unset]) rfl ?_
    show Steps p.tables e below (s₁.setTop (mkF m 8 #[rv a1, .val (.long (0 : Int64)), .second, rv a1, iv (2 : Int32), .unset, .unset] [])) _
    refine XS.iconst X0.here hx rfl (hb hby d1_8) ?_
    show Steps p.tables e below (s₁.setTop (mkF m 9 #[rv a1, .val (.long (0 : Int64)), .second, rv a1, iv (2 : Int32), .unset, .unset] [(.int (0 : Int32))])) _
    refine XS.istore X0.here hx rfl (hb hby d1_9) rfl (l' := #[rv a1, .val (.long (0 : Int64)), .second, rv a1, iv (2 : Int32), iv (0 : Int32), .unset]) rfl ?_
    show Steps p.tables e below (s₁.setTop (mkF m 11 #[rv a1, .val (.long (0 : Int64)), .second, rv a1, iv (2 : Int32), iv (0 : Int32), .unset] [])) _
    refine XS.iload X0.here hx rfl (hb hby d1_11) rfl  ?_
    show Steps p.tables e below (s₁.setTop (mkF m 13 #[rv a1, .val (.long (0 : Int64)), .second, rv a1, iv (2 : Int32), iv (0 : Int32), .unset] [(.int (0 : Int32))])) _
    refine XS.iload X0.here hx rfl (hb hby d1_13) rfl  ?_
    show Steps p.tables e below (s₁.setTop (mkF m 15 #[rv a1, .val (.long (0 : Int64)), .second, rv a1, iv (2 : Int32), iv (0 : Int32), .unset] [(.int (2 : Int32)), (.int (0 : Int32))])) _
    refine XS.icmpNo X0.here hx rfl (hb hby d1_15) rfl (tlt (by decide : (0 : Int32) < (2 : Int32))).2.1 ?_
    show Steps p.tables e below (s₁.setTop (mkF m 18 #[rv a1, .val (.long (0 : Int64)), .second, rv a1, iv (2 : Int32), iv (0 : Int32), .unset] [])) _
    refine XS.aloadN X0.here hx rfl (hb hby d1_18) rfl rfl ?_
    show Steps p.tables e below (s₁.setTop (mkF m 19 #[rv a1, .val (.long (0 : Int64)), .second, rv a1, iv (2 : Int32), iv (0 : Int32), .unset] [(.ref a1)])) _
    refine XS.iload X0.here hx rfl (hb hby d1_19) rfl  ?_
    exact k)
  obtain ⟨cl5, Ar5, q5, S5, n5_, H5, G5⟩ := id A_a1
  have hin5 : ¬ ((0 : Int32) < 0 ∨ cl5.slots.size ≤ ((0 : Int32)).toNatClampNeg) := inb_of S5 ⟨by decide, by decide⟩
  have hat5 : cl5.slots[((0 : Int32)).toNatClampNeg]? = some (.int x0) := Has.at H5 hin5 rfl
  have R6 : ∀ t, Steps p.tables e below (s₁.setTop (mkF m 22 #[rv a1, .val (.long (0 : Int64)), .second, rv a1, iv (2 : Int32), iv (0 : Int32), .unset] [(.int x0)])) t → Steps p.tables e below (s₁.setTop f0) t := fun t k => R4 t (X0.caload hx (j := (0 : Int32)) (v := (.int x0)) (by rw [e0]; exact Ar5.1) (State.isArrayOf_alike hZ.alike Ar5.2.1) Ar5.2.2 hin5 hat5 (g := (mkF m 21 #[rv a1, .val (.long (0 : Int64)), .second, rv a1, iv (2 : Int32), iv (0 : Int32), .unset] [(.int (0 : Int32)), (.ref a1)])) rfl rfl (hb hby d1_21) _ k)
  have R7 : ∀ t, Steps p.tables e below (s₁.setTop (mkF m 21 #[rv a1, .val (.long ((0 : Int64) ||| ((1 : Int64) <<< (x0 &&& 0x3f).toInt64))), .second, rv a1, iv (2 : Int32), iv (1 : Int32), iv x0] [(.int (1 : Int32)), (.ref a1)])) t → Steps p.tables e below (s₁.setTop f0) t := fun t k => R6 t (by
    show Steps p.tables e below (s₁.setTop (mkF m 22 #[rv a1, .val (.long (0 : Int64)), .second, rv a1, iv (2 : Int32), iv (0 : Int32), .unset] [(.int x0)])) _
    refine XS.istore X0.here hx rfl (hb hby d1_22) rfl (l' := #[rv a1, .val (.long (0 : Int64)), .second, rv a1, iv (2 : Int32), iv (0 : Int32), iv x0]) rfl ?_
    show Steps p.tables e below (s₁.setTop (mkF m 24 #[rv a1, .val (.long (0 : Int64)), .second, rv a1, iv (2 : Int32), iv (0 : Int32), iv x0] [])) _
    refine XS.lloadN X0.here hx rfl (hb hby d1_24) rfl  ?_
    show Steps p.tables e below (s₁.setTop (mkF m 25 #[rv a1, .val (.long (0 : Int64)), .second, rv a1, iv (2 : Int32), iv (0 : Int32), iv x0] [(.long (0 : Int64))])) _
    refine XS.lconst X0.here hx rfl (hb hby d1_25) ?_
    show Steps p.tables e below (s₁.setTop (mkF m 26 #[rv a1, .val (.long (0 : Int64)), .second, rv a1, iv (2 : Int32), iv (0 : Int32), iv x0] [(.long (1 : Int64)), (.long (0 : Int64))])) _
    refine XS.iload X0.here hx rfl (hb hby d1_26) rfl  ?_
    show Steps p.tables e below (s₁.setTop (mkF m 28 #[rv a1, .val (.long (0 : Int64)), .second, rv a1, iv (2 : Int32), iv (0 : Int32), iv x0] [(.int x0), (.long (1 : Int64)), (.long (0 : Int64))])) _
    refine XS.lshl X0.here hx rfl (hb hby d1_28) rfl ?_
    show Steps p.tables e below (s₁.setTop (mkF m 29 #[rv a1, .val (.long (0 : Int64)), .second, rv a1, iv (2 : Int32), iv (0 : Int32), iv x0] [(.long ((1 : Int64) <<< (x0 &&& 0x3f).toInt64)), (.long (0 : Int64))])) _
    refine XS.lor X0.here hx rfl (hb hby d1_29) rfl ?_
    show Steps p.tables e below (s₁.setTop (mkF m 30 #[rv a1, .val (.long (0 : Int64)), .second, rv a1, iv (2 : Int32), iv (0 : Int32), iv x0] [(.long ((0 : Int64) ||| ((1 : Int64) <<< (x0 &&& 0x3f).toInt64)))])) _
    refine XS.lstoreN X0.here hx rfl (hb hby d1_30) rfl (l' := #[rv a1, .val (.long ((0 : Int64) ||| ((1 : Int64) <<< (x0 &&& 0x3f).toInt64))), .second, rv a1, iv (2 : Int32), iv (0 : Int32), iv x0]) rfl ?_
    show Steps p.tables e below (s₁.setTop (mkF m 31 #[rv a1, .val (.long ((0 : Int64) ||| ((1 : Int64) <<< (x0 &&& 0x3f).toInt64))), .second, rv a1, iv (2 : Int32), iv (0 : Int32), iv x0] [])) _
    refine XS.iinc X0.here hx rfl (hb hby d1_31) rfl (l' := #[rv a1, .val (.long ((0 : Int64) ||| ((1 : Int64) <<< (x0 &&& 0x3f).toInt64))), .second, rv a1, iv (2 : Int32), iv (1 : Int32), iv x0]) rfl ?_
    show Steps p.tables e below (s₁.setTop (mkF m 34 #[rv a1, .val (.long ((0 : Int64) ||| ((1 : Int64) <<< (x0 &&& 0x3f).toInt64))), .second, rv a1, iv (2 : Int32), iv (1 : Int32), iv x0] [])) _
    refine XS.goto X0.here hx rfl (pc0 := 34) (pc' := 11) rfl (hb hby d1_34) (by decide) (by decide) ?_
    show Steps p.tables e below (s₁.setTop (mkF m 11 #[rv a1, .val (.long ((0 : Int64) ||| ((1 : Int64) <<< (x0 &&& 0x3f).toInt64))), .second, rv a1, iv (2 : Int32), iv (1 : Int32), iv x0] [])) _
    refine XS.iload X0.here hx rfl (hb hby d1_11) rfl  ?_
    show Steps p.tables e below (s₁.setTop (mkF m 13 #[rv a1, .val (.long ((0 : Int64) ||| ((1 : Int64) <<< (x0 &&& 0x3f).toInt64))), .second, rv a1, iv (2 : Int32), iv (1 : Int32), iv x0] [(.int (1 : Int32))])) _
    refine XS.iload X0.here hx rfl (hb hby d1_13) rfl  ?_
    show Steps p.tables e below (s₁.setTop (mkF m 15 #[rv a1, .val (.long ((0 : Int64) ||| ((1 : Int64) <<< (x0 &&& 0x3f).toInt64))), .second, rv a1, iv (2 : Int32), iv (1 : Int32), iv x0] [(.int (2 : Int32)), (.int (1 : Int32))])) _
    refine XS.icmpNo X0.here hx rfl (hb hby d1_15) rfl (tlt (by decide : (1 : Int32) < (2 : Int32))).2.1 ?_
    show Steps p.tables e below (s₁.setTop (mkF m 18 #[rv a1, .val (.long ((0 : Int64) ||| ((1 : Int64) <<< (x0 &&& 0x3f).toInt64))), .second, rv a1, iv (2 : Int32), iv (1 : Int32), iv x0] [])) _
    refine XS.aloadN X0.here hx rfl (hb hby d1_18) rfl rfl ?_
    show Steps p.tables e below (s₁.setTop (mkF m 19 #[rv a1, .val (.long ((0 : Int64) ||| ((1 : Int64) <<< (x0 &&& 0x3f).toInt64))), .second, rv a1, iv (2 : Int32), iv (1 : Int32), iv x0] [(.ref a1)])) _
    refine XS.iload X0.here hx rfl (hb hby d1_19) rfl  ?_
    exact k)
  obtain ⟨cl8, Ar8, q8, S8, n8_, H8, G8⟩ := id A_a1
  have hin8 : ¬ ((1 : Int32) < 0 ∨ cl8.slots.size ≤ ((1 : Int32)).toNatClampNeg) := inb_of S8 ⟨by decide, by decide⟩
  have hat8 : cl8.slots[((1 : Int32)).toNatClampNeg]? = some (.int x1) := Has.at H8 hin8 rfl
  have R9 : ∀ t, Steps p.tables e below (s₁.setTop (mkF m 22 #[rv a1, .val (.long ((0 : Int64) ||| ((1 : Int64) <<< (x0 &&& 0x3f).toInt64))), .second, rv a1, iv (2 : Int32), iv (1 : Int32), iv x0] [(.int x1)])) t → Steps p.tables e below (s₁.setTop f0) t := fun t k => R7 t (X0.caload hx (j := (1 : Int32)) (v := (.int x1)) (by rw [e0]; exact Ar8.1) (State.isArrayOf_alike hZ.alike Ar8.2.1) Ar8.2.2 hin8 hat8 (g := (mkF m 21 #[rv a1, .val (.long ((0 : Int64) ||| ((1 : Int64) <<< (x0 &&& 0x3f).toInt64))), .second, rv a1, iv (2 : Int32), iv (1 : Int32), iv x0] [(.int (1 : Int32)), (.ref a1)])) rfl rfl (hb hby d1_21) _ k)
  have R10 : ∀ t, Steps p.tables e below (s₁.setTop (mkF m 38 #[rv a1, .val (.long (((0 : Int64) ||| ((1 : Int64) <<< (x0 &&& 0x3f).toInt64)) ||| ((1 : Int64) <<< (x1 &&& 0x3f).toInt64))), .second, rv a1, iv (2 : Int32), iv (2 : Int32), iv x1] [(.long (((0 : Int64) ||| ((1 : Int64) <<< (x0 &&& 0x3f).toInt64)) ||| ((1 : Int64) <<< (x1 &&& 0x3f).toInt64)))])) t → Steps p.tables e below (s₁.setTop f0) t := fun t k => R9 t (by
    show Steps p.tables e below (s₁.setTop (mkF m 22 #[rv a1, .val (.long ((0 : Int64) ||| ((1 : Int64) <<< (x0 &&& 0x3f).toInt64))), .second, rv a1, iv (2 : Int32), iv (1 : Int32), iv x0] [(.int x1)])) _
    refine XS.istore X0.here hx rfl (hb hby d1_22) rfl (l' := #[rv a1, .val (.long ((0 : Int64) ||| ((1 : Int64) <<< (x0 &&& 0x3f).toInt64))), .second, rv a1, iv (2 : Int32), iv (1 : Int32), iv x1]) rfl ?_
    show Steps p.tables e below (s₁.setTop (mkF m 24 #[rv a1, .val (.long ((0 : Int64) ||| ((1 : Int64) <<< (x0 &&& 0x3f).toInt64))), .second, rv a1, iv (2 : Int32), iv (1 : Int32), iv x1] [])) _
    refine XS.lloadN X0.here hx rfl (hb hby d1_24) rfl  ?_
    show Steps p.tables e below (s₁.setTop (mkF m 25 #[rv a1, .val (.long ((0 : Int64) ||| ((1 : Int64) <<< (x0 &&& 0x3f).toInt64))), .second, rv a1, iv (2 : Int32), iv (1 : Int32), iv x1] [(.long ((0 : Int64) ||| ((1 : Int64) <<< (x0 &&& 0x3f).toInt64)))])) _
    refine XS.lconst X0.here hx rfl (hb hby d1_25) ?_
    show Steps p.tables e below (s₁.setTop (mkF m 26 #[rv a1, .val (.long ((0 : Int64) ||| ((1 : Int64) <<< (x0 &&& 0x3f).toInt64))), .second, rv a1, iv (2 : Int32), iv (1 : Int32), iv x1] [(.long (1 : Int64)), (.long ((0 : Int64) ||| ((1 : Int64) <<< (x0 &&& 0x3f).toInt64)))])) _
    refine XS.iload X0.here hx rfl (hb hby d1_26) rfl  ?_
    show Steps p.tables e below (s₁.setTop (mkF m 28 #[rv a1, .val (.long ((0 : Int64) ||| ((1 : Int64) <<< (x0 &&& 0x3f).toInt64))), .second, rv a1, iv (2 : Int32), iv (1 : Int32), iv x1] [(.int x1), (.long (1 : Int64)), (.long ((0 : Int64) ||| ((1 : Int64) <<< (x0 &&& 0x3f).toInt64)))])) _
    refine XS.lshl X0.here hx rfl (hb hby d1_28) rfl ?_
    show Steps p.tables e below (s₁.setTop (mkF m 29 #[rv a1, .val (.long ((0 : Int64) ||| ((1 : Int64) <<< (x0 &&& 0x3f).toInt64))), .second, rv a1, iv (2 : Int32), iv (1 : Int32), iv x1] [(.long ((1 : Int64) <<< (x1 &&& 0x3f).toInt64)), (.long ((0 : Int64) ||| ((1 : Int64) <<< (x0 &&& 0x3f).toInt64)))])) _
    refine XS.lor X0.here hx rfl (hb hby d1_29) rfl ?_
    show Steps p.tables e below (s₁.setTop (mkF m 30 #[rv a1, .val (.long ((0 : Int64) ||| ((1 : Int64) <<< (x0 &&& 0x3f).toInt64))), .second, rv a1, iv (2 : Int32), iv (1 : Int32), iv x1] [(.long (((0 : Int64) ||| ((1 : Int64) <<< (x0 &&& 0x3f).toInt64)) ||| ((1 : Int64) <<< (x1 &&& 0x3f).toInt64)))])) _
    refine XS.lstoreN X0.here hx rfl (hb hby d1_30) rfl (l' := #[rv a1, .val (.long (((0 : Int64) ||| ((1 : Int64) <<< (x0 &&& 0x3f).toInt64)) ||| ((1 : Int64) <<< (x1 &&& 0x3f).toInt64))), .second, rv a1, iv (2 : Int32), iv (1 : Int32), iv x1]) rfl ?_
    show Steps p.tables e below (s₁.setTop (mkF m 31 #[rv a1, .val (.long (((0 : Int64) ||| ((1 : Int64) <<< (x0 &&& 0x3f).toInt64)) ||| ((1 : Int64) <<< (x1 &&& 0x3f).toInt64))), .second, rv a1, iv (2 : Int32), iv (1 : Int32), iv x1] [])) _
    refine XS.iinc X0.here hx rfl (hb hby d1_31) rfl (l' := #[rv a1, .val (.long (((0 : Int64) ||| ((1 : Int64) <<< (x0 &&& 0x3f).toInt64)) ||| ((1 : Int64) <<< (x1 &&& 0x3f).toInt64))), .second, rv a1, iv (2 : Int32), iv (2 : Int32), iv x1]) rfl ?_
    show Steps p.tables e below (s₁.setTop (mkF m 34 #[rv a1, .val (.long (((0 : Int64) ||| ((1 : Int64) <<< (x0 &&& 0x3f).toInt64)) ||| ((1 : Int64) <<< (x1 &&& 0x3f).toInt64))), .second, rv a1, iv (2 : Int32), iv (2 : Int32), iv x1] [])) _
    refine XS.goto X0.here hx rfl (pc0 := 34) (pc' := 11) rfl (hb hby d1_34) (by decide) (by decide) ?_
    show Steps p.tables e below (s₁.setTop (mkF m 11 #[rv a1, .val (.long (((0 : Int64) ||| ((1 : Int64) <<< (x0 &&& 0x3f).toInt64)) ||| ((1 : Int64) <<< (x1 &&& 0x3f).toInt64))), .second, rv a1, iv (2 : Int32), iv (2 : Int32), iv x1] [])) _
    refine XS.iload X0.here hx rfl (hb hby d1_11) rfl  ?_
    show Steps p.tables e below (s₁.setTop (mkF m 13 #[rv a1, .val (.long (((0 : Int64) ||| ((1 : Int64) <<< (x0 &&& 0x3f).toInt64)) ||| ((1 : Int64) <<< (x1 &&& 0x3f).toInt64))), .second, rv a1, iv (2 : Int32), iv (2 : Int32), iv x1] [(.int (2 : Int32))])) _
    refine XS.iload X0.here hx rfl (hb hby d1_13) rfl  ?_
    show Steps p.tables e below (s₁.setTop (mkF m 15 #[rv a1, .val (.long (((0 : Int64) ||| ((1 : Int64) <<< (x0 &&& 0x3f).toInt64)) ||| ((1 : Int64) <<< (x1 &&& 0x3f).toInt64))), .second, rv a1, iv (2 : Int32), iv (2 : Int32), iv x1] [(.int (2 : Int32)), (.int (2 : Int32))])) _
    refine XS.icmpYes X0.here hx rfl (pc0 := 15) (pc' := 37) rfl (hb hby d1_15) rfl (flt (by decide : ¬ ((2 : Int32) < (2 : Int32)))).2.1 (by decide) (by decide) ?_
    show Steps p.tables e below (s₁.setTop (mkF m 37 #[rv a1, .val (.long (((0 : Int64) ||| ((1 : Int64) <<< (x0 &&& 0x3f).toInt64)) ||| ((1 : Int64) <<< (x1 &&& 0x3f).toInt64))), .second, rv a1, iv (2 : Int32), iv (2 : Int32), iv x1] [])) _
    refine XS.lloadN X0.here hx rfl (hb hby d1_37) rfl  ?_
    exact k)
  obtain ⟨fs, hr, hrun, hended, hW, hsame⟩ := X0.leave (v := some (.long (((0 : Int64) ||| ((1 : Int64) <<< (x0 &&& 0x3f).toInt64)) ||| ((1 : Int64) <<< (x1 &&& 0x3f).toInt64)))) (fun h => by rw [Bd.returns] at h; cases h)
  refine ⟨_, _, pre0 _ (R10 _ ?_), hrun, hended, _, _, rfl, ?_, ⟨_, rfl⟩, hW, hsame.mono (by decide) (by decide)⟩
  · show Steps p.tables e below (s₁.setTop (mkF m 38 #[rv a1, .val (.long (((0 : Int64) ||| ((1 : Int64) <<< (x0 &&& 0x3f).toInt64)) ||| ((1 : Int64) <<< (x1 &&& 0x3f).toInt64))), .second, rv a1, iv (2 : Int32), iv (2 : Int32), iv x1] [(.long (((0 : Int64) ||| ((1 : Int64) <<< (x0 &&& 0x3f).toInt64)) ||| ((1 : Int64) <<< (x1 &&& 0x3f).toInt64)))])) _
    exact retOut X0 hx (t := .long) Bd.returns rfl (Or.inr (Or.inl ⟨rfl, rfl, _, rfl⟩)) (hb hby d1_38) hr
  · show Q_rmStops2 Z a1 k x0 x1 h0 n0 _ s₁.heap _
    rw [e0]
    exact ⟨rfl, N0, rfl⟩
theorem ef_rmStops3 (m : MethodId) (x0 : Addr) : entryFrame m #[(.ref x0)] 7 = mkF m 0 #[rv x0, .unset, .unset, .unset, .unset, .unset, .unset] [] := by first | (simp [entryFrame, mkF, argsToLocals, Value.category]; done) | rfl
def Q_rmStops3 (Z : State) (a1 : Addr) (k : ClassId) (x0 : Int32) (x1 : Int32) (x2 : Int32) (h0 : Heap) (n0 : Nat) (v : Option Value) (h : Heap) (L : List Loc) : Prop := v = some (.long ((((0 : Int64) ||| ((1 : Int64) <<< (x0 &&& 0x3f).toInt64)) ||| ((1 : Int64) <<< (x1 &&& 0x3f).toInt64)) ||| ((1 : Int64) <<< (x2 &&& 0x3f).toInt64))) ∧ Fr n0 L ∧ h = h0
set_option maxRecDepth 65536 in
set_option maxHeartbeats 40000000 in
theorem rmStops3 (l : Launch) (Z : State) (a0 : Array Value) (hw : ∀ d ∈ tables_1, d.before a0 Z = true) (ws : List Jvm.Cond) (a1 : Addr) (k : ClassId) (x0 : Int32) (x1 : Int32) (x2 : Int32) (h0 : Heap) (n0 : Nat) (Z0 : n0 ≤ h0.size) (A_a1 : Arv Z h0 a1 k .char (3 : Int32) [(.int x0), (.int x1), (.int x2)] (.int (0 : Int32))) :
    MetFree l (⟨sN0, "stops", "([C)J"⟩ : MethodName) (head1 (Jvm.Cond.code (⟨sN0, "stops", "([C)J"⟩ : MethodName) prog_54_method_40_code 7 (some .long) :: ws) ({ frames := 0, cells := 0, slots := 0, locals := 0 } : Room)) (fun a U => a = #[(.ref a1)] ∧ Z.Warmed39 U.vm ∧ U.heap = h0) (fun _ _ _ _ _ => True) (fun _ U o U' => ∃ v L, o = .returned v ∧ Q_rmStops3 Z a1 k x0 x1 x2 h0 n0 v U'.heap L ∧ FrameEnd U o U' L ({ frames := 0, cells := 0, slots := 0, locals := 0 } : Room).cells ({ frames := 0, cells := 0, slots := 0, locals := 0 } : Room).slots) := by
  refine MetFree.of_bodySF (plainFor_of_name pn_0) hisR ?_
  intro p e s m args below meth c s₁ Bd hml0 hP hK
  obtain ⟨rfl, hZ, hh⟩ := hP
  have hx := Bd.exec
  have hby := Bd.bytes
  have hml : c.maxLocals = 7 := hml0
  have hown : s.vm.findClass sN0 = some m.cls := findClass_of_methodNamed Bd.named
  have hnm := (name_of_methodNamed Bd.named Bd.method).1
  have X0 : Stand p l e ({ frames := 0, cells := 0, slots := 0, locals := 0 } : Room) s m #[(.ref a1)] below meth c s₁ [] 0 0 := Stand.of_body Bd
  have e0 : s₁.heap = h0 := by rw [← hh, Bd.state]; rfl
  have N0 := Fr.nil n0
  obtain ⟨f0, hf0⟩ : ∃ f : JFrame, f = mkF m 0 #[rv a1, .unset, .unset, .unset, .unset, .unset, .unset] [] := ⟨_, rfl⟩
  have pre0 : ∀ t, Steps p.tables e below (s₁.setTop f0) t → Steps p.tables e below (s₁.setTop (entryFrame m #[(.ref a1)] 7)) t := fun t k => castTop ((ef_rmStops3 m a1).trans hf0.symm) k
  have R0 : ∀ t, Steps p.tables e below (s₁.setTop (mkF m 0 #[rv a1, .unset, .unset, .unset, .unset, .unset, .unset] [])) t → Steps p.tables e below (s₁.setTop f0) t := by rw [hf0]; exact fun t k => k
  have R1 : ∀ t, Steps p.tables e below (s₁.setTop (mkF m 5 #[rv a1, .val (.long (0 : Int64)), .second, rv a1, .unset, .unset, .unset] [(.ref a1)])) t → Steps p.tables e below (s₁.setTop f0) t := fun t k => R0 t (by
    show Steps p.tables e below (s₁.setTop (mkF m 0 #[rv a1, .unset, .unset, .unset, .unset, .unset, .unset] [])) _
    refine XS.lconst X0.here hx rfl (hb hby d1_0) ?_
    show Steps p.tables e below (s₁.setTop (mkF m 1 #[rv a1, .unset, .unset, .unset, .unset, .unset, .unset] [(.long (0 : Int64))])) _
    refine XS.lstoreN X0.here hx rfl (hb hby d1_1) rfl (l' := #[rv a1, .val (.long (0 : Int64)), .second, .unset, .unset, .unset, .unset]) rfl ?_
    show Steps p.tables e below (s₁.setTop (mkF m 2 #[rv a1, .val (.long (0 : Int64)), .second, .unset, .unset, .unset, .unset] [])) _
    refine XS.aloadN X0.here hx rfl (hb hby d1_2) rfl rfl ?_
    show Steps p.tables e below (s₁.setTop (mkF m 3 #[rv a1, .val (.long (0 : Int64)), .second, .unset, .unset, .unset, .unset] [(.ref a1)])) _
    refine XS.astoreN X0.here hx rfl (hb hby d1_3) rfl rfl (l' := #[rv a1, .val (.long (0 : Int64)), .second, rv a1, .unset, .unset, .unset]) rfl ?_
    show Steps p.tables e below (s₁.setTop (mkF m 4 #[rv a1, .val (.long (0 : Int64)), .second, rv a1, .unset, .unset, .unset] [])) _
    refine XS.aloadN X0.here hx rfl (hb hby d1_4) rfl rfl ?_
    exact k)
  obtain ⟨cl2, Ar2, -, S2, N2_, -, -⟩ := id A_a1
  have R3 : ∀ t, Steps p.tables e below (s₁.setTop (mkF m 6 #[rv a1, .val (.long (0 : Int64)), .second, rv a1, .unset, .unset, .unset] [(.int (3 : Int32))])) t → Steps p.tables e below (s₁.setTop f0) t := fun t k => R1 t (X0.arraylength hx (by rw [e0]; exact Ar2.1) (State.isArrayOf_alike hZ.alike Ar2.2.1) (g := (mkF m 5 #[rv a1, .val (.long (0 : Int64)), .second, rv a1, .unset, .unset, .unset] [(.ref a1)])) rfl rfl (hb hby d1_5) _ (by rw [len_of S2 N2_]; exact k))
  have R4 : ∀ t, Steps p.tables e below (s₁.setTop (mkF m 21 #[rv a1, .val (.long (0 : Int64)), .second, rv a1, iv (3 : Int32), iv (0 : Int32), .unset] [(.int (0 : Int32)), (.ref a1)])) t → Steps p.tables e below (s₁.setTop f0) t := fun t k => R3 t (by
    show Steps p.tables e below (s₁.setTop (mkF m 6 #[rv a1, .val (.long (0 : Int64)), .second, rv a1, .unset, .unset, .unset] [(.int (3 : Int32))])) _
    refine XS.istore X0.here hx rfl (hb hby d1_6) rfl (l' := #[rv a1, .val (.long (0 : Int64)), .second, rv a1, iv (3 : Int32), .unset, .unset]) rfl ?_
    show Steps p.tables e below (s₁.setTop (mkF m 8 #[rv a1, .val (.long (0 : Int64)), .second, rv a1, iv (3 : Int32), .unset, .unset] [])) _
    refine XS.iconst X0.here hx rfl (hb hby d1_8) ?_
    show Steps p.tables e below (s₁.setTop (mkF m 9 #[rv a1, .val (.long (0 : Int64)), .second, rv a1, iv (3 : Int32), .unset, .unset] [(.int (0 : Int32))])) _
    refine XS.istore X0.here hx rfl (hb hby d1_9) rfl (l' := #[rv a1, .val (.long (0 : Int64)), .second, rv a1, iv (3 : Int32), iv (0 : Int32), .unset]) rfl ?_
    show Steps p.tables e below (s₁.setTop (mkF m 11 #[rv a1, .val (.long (0 : Int64)), .second, rv a1, iv (3 : Int32), iv (0 : Int32), .unset] [])) _
    refine XS.iload X0.here hx rfl (hb hby d1_11) rfl  ?_
    show Steps p.tables e below (s₁.setTop (mkF m 13 #[rv a1, .val (.long (0 : Int64)), .second, rv a1, iv (3 : Int32), iv (0 : Int32), .unset] [(.int (0 : Int32))])) _
    refine XS.iload X0.here hx rfl (hb hby d1_13) rfl  ?_
    show Steps p.tables e below (s₁.setTop (mkF m 15 #[rv a1, .val (.long (0 : Int64)), .second, rv a1, iv (3 : Int32), iv (0 : Int32), .unset] [(.int (3 : Int32)), (.int (0 : Int32))])) _
    refine XS.icmpNo X0.here hx rfl (hb hby d1_15) rfl (tlt (by decide : (0 : Int32) < (3 : Int32))).2.1 ?_
    show Steps p.tables e below (s₁.setTop (mkF m 18 #[rv a1, .val (.long (0 : Int64)), .second, rv a1, iv (3 : Int32), iv (0 : Int32), .unset] [])) _
    refine XS.aloadN X0.here hx rfl (hb hby d1_18) rfl rfl ?_
    show Steps p.tables e below (s₁.setTop (mkF m 19 #[rv a1, .val (.long (0 : Int64)), .second, rv a1, iv (3 : Int32), iv (0 : Int32), .unset] [(.ref a1)])) _
    refine XS.iload X0.here hx rfl (hb hby d1_19) rfl  ?_
    exact k)
  obtain ⟨cl5, Ar5, q5, S5, n5_, H5, G5⟩ := id A_a1
  have hin5 : ¬ ((0 : Int32) < 0 ∨ cl5.slots.size ≤ ((0 : Int32)).toNatClampNeg) := inb_of S5 ⟨by decide, by decide⟩
  have hat5 : cl5.slots[((0 : Int32)).toNatClampNeg]? = some (.int x0) := Has.at H5 hin5 rfl
  have R6 : ∀ t, Steps p.tables e below (s₁.setTop (mkF m 22 #[rv a1, .val (.long (0 : Int64)), .second, rv a1, iv (3 : Int32), iv (0 : Int32), .unset] [(.int x0)])) t → Steps p.tables e below (s₁.setTop f0) t := fun t k => R4 t (X0.caload hx (j := (0 : Int32)) (v := (.int x0)) (by rw [e0]; exact Ar5.1) (State.isArrayOf_alike hZ.alike Ar5.2.1) Ar5.2.2 hin5 hat5 (g := (mkF m 21 #[rv a1, .val (.long (0 : Int64)), .second, rv a1, iv (3 : Int32), iv (0 : Int32), .unset] [(.int (0 : Int32)), (.ref a1)])) rfl rfl (hb hby d1_21) _ k)
  have R7 : ∀ t, Steps p.tables e below (s₁.setTop (mkF m 21 #[rv a1, .val (.long ((0 : Int64) ||| ((1 : Int64) <<< (x0 &&& 0x3f).toInt64))), .second, rv a1, iv (3 : Int32), iv (1 : Int32), iv x0] [(.int (1 : Int32)), (.ref a1)])) t → Steps p.tables e below (s₁.setTop f0) t := fun t k => R6 t (by
    show Steps p.tables e below (s₁.setTop (mkF m 22 #[rv a1, .val (.long (0 : Int64)), .second, rv a1, iv (3 : Int32), iv (0 : Int32), .unset] [(.int x0)])) _
    refine XS.istore X0.here hx rfl (hb hby d1_22) rfl (l' := #[rv a1, .val (.long (0 : Int64)), .second, rv a1, iv (3 : Int32), iv (0 : Int32), iv x0]) rfl ?_
    show Steps p.tables e below (s₁.setTop (mkF m 24 #[rv a1, .val (.long (0 : Int64)), .second, rv a1, iv (3 : Int32), iv (0 : Int32), iv x0] [])) _
    refine XS.lloadN X0.here hx rfl (hb hby d1_24) rfl  ?_
    show Steps p.tables e below (s₁.setTop (mkF m 25 #[rv a1, .val (.long (0 : Int64)), .second, rv a1, iv (3 : Int32), iv (0 : Int32), iv x0] [(.long (0 : Int64))])) _
    refine XS.lconst X0.here hx rfl (hb hby d1_25) ?_
    show Steps p.tables e below (s₁.setTop (mkF m 26 #[rv a1, .val (.long (0 : Int64)), .second, rv a1, iv (3 : Int32), iv (0 : Int32), iv x0] [(.long (1 : Int64)), (.long (0 : Int64))])) _
    refine XS.iload X0.here hx rfl (hb hby d1_26) rfl  ?_
    show Steps p.tables e below (s₁.setTop (mkF m 28 #[rv a1, .val (.long (0 : Int64)), .second, rv a1, iv (3 : Int32), iv (0 : Int32), iv x0] [(.int x0), (.long (1 : Int64)), (.long (0 : Int64))])) _
    refine XS.lshl X0.here hx rfl (hb hby d1_28) rfl ?_
    show Steps p.tables e below (s₁.setTop (mkF m 29 #[rv a1, .val (.long (0 : Int64)), .second, rv a1, iv (3 : Int32), iv (0 : Int32), iv x0] [(.long ((1 : Int64) <<< (x0 &&& 0x3f).toInt64)), (.long (0 : Int64))])) _
    refine XS.lor X0.here hx rfl (hb hby d1_29) rfl ?_
    show Steps p.tables e below (s₁.setTop (mkF m 30 #[rv a1, .val (.long (0 : Int64)), .second, rv a1, iv (3 : Int32), iv (0 : Int32), iv x0] [(.long ((0 : Int64) ||| ((1 : Int64) <<< (x0 &&& 0x3f).toInt64)))])) _
    refine XS.lstoreN X0.here hx rfl (hb hby d1_30) rfl (l' := #[rv a1, .val (.long ((0 : Int64) ||| ((1 : Int64) <<< (x0 &&& 0x3f).toInt64))), .second, rv a1, iv (3 : Int32), iv (0 : Int32), iv x0]) rfl ?_
    show Steps p.tables e below (s₁.setTop (mkF m 31 #[rv a1, .val (.long ((0 : Int64) ||| ((1 : Int64) <<< (x0 &&& 0x3f).toInt64))), .second, rv a1, iv (3 : Int32), iv (0 : Int32), iv x0] [])) _
    refine XS.iinc X0.here hx rfl (hb hby d1_31) rfl (l' := #[rv a1, .val (.long ((0 : Int64) ||| ((1 : Int64) <<< (x0 &&& 0x3f).toInt64))), .second, rv a1, iv (3 : Int32), iv (1 : Int32), iv x0]) rfl ?_
    show Steps p.tables e below (s₁.setTop (mkF m 34 #[rv a1, .val (.long ((0 : Int64) ||| ((1 : Int64) <<< (x0 &&& 0x3f).toInt64))), .second, rv a1, iv (3 : Int32), iv (1 : Int32), iv x0] [])) _
    refine XS.goto X0.here hx rfl (pc0 := 34) (pc' := 11) rfl (hb hby d1_34) (by decide) (by decide) ?_
    show Steps p.tables e below (s₁.setTop (mkF m 11 #[rv a1, .val (.long ((0 : Int64) ||| ((1 : Int64) <<< (x0 &&& 0x3f).toInt64))), .second, rv a1, iv (3 : Int32), iv (1 : Int32), iv x0] [])) _
    refine XS.iload X0.here hx rfl (hb hby d1_11) rfl  ?_
    show Steps p.tables e below (s₁.setTop (mkF m 13 #[rv a1, .val (.long ((0 : Int64) ||| ((1 : Int64) <<< (x0 &&& 0x3f).toInt64))), .second, rv a1, iv (3 : Int32), iv (1 : Int32), iv x0] [(.int (1 : Int32))])) _
    refine XS.iload X0.here hx rfl (hb hby d1_13) rfl  ?_
    show Steps p.tables e below (s₁.setTop (mkF m 15 #[rv a1, .val (.long ((0 : Int64) ||| ((1 : Int64) <<< (x0 &&& 0x3f).toInt64))), .second, rv a1, iv (3 : Int32), iv (1 : Int32), iv x0] [(.int (3 : Int32)), (.int (1 : Int32))])) _
    refine XS.icmpNo X0.here hx rfl (hb hby d1_15) rfl (tlt (by decide : (1 : Int32) < (3 : Int32))).2.1 ?_
    show Steps p.tables e below (s₁.setTop (mkF m 18 #[rv a1, .val (.long ((0 : Int64) ||| ((1 : Int64) <<< (x0 &&& 0x3f).toInt64))), .second, rv a1, iv (3 : Int32), iv (1 : Int32), iv x0] [])) _
    refine XS.aloadN X0.here hx rfl (hb hby d1_18) rfl rfl ?_
    show Steps p.tables e below (s₁.setTop (mkF m 19 #[rv a1, .val (.long ((0 : Int64) ||| ((1 : Int64) <<< (x0 &&& 0x3f).toInt64))), .second, rv a1, iv (3 : Int32), iv (1 : Int32), iv x0] [(.ref a1)])) _
    refine XS.iload X0.here hx rfl (hb hby d1_19) rfl  ?_
    exact k)
  obtain ⟨cl8, Ar8, q8, S8, n8_, H8, G8⟩ := id A_a1
  have hin8 : ¬ ((1 : Int32) < 0 ∨ cl8.slots.size ≤ ((1 : Int32)).toNatClampNeg) := inb_of S8 ⟨by decide, by decide⟩
  have hat8 : cl8.slots[((1 : Int32)).toNatClampNeg]? = some (.int x1) := Has.at H8 hin8 rfl
  have R9 : ∀ t, Steps p.tables e below (s₁.setTop (mkF m 22 #[rv a1, .val (.long ((0 : Int64) ||| ((1 : Int64) <<< (x0 &&& 0x3f).toInt64))), .second, rv a1, iv (3 : Int32), iv (1 : Int32), iv x0] [(.int x1)])) t → Steps p.tables e below (s₁.setTop f0) t := fun t k => R7 t (X0.caload hx (j := (1 : Int32)) (v := (.int x1)) (by rw [e0]; exact Ar8.1) (State.isArrayOf_alike hZ.alike Ar8.2.1) Ar8.2.2 hin8 hat8 (g := (mkF m 21 #[rv a1, .val (.long ((0 : Int64) ||| ((1 : Int64) <<< (x0 &&& 0x3f).toInt64))), .second, rv a1, iv (3 : Int32), iv (1 : Int32), iv x0] [(.int (1 : Int32)), (.ref a1)])) rfl rfl (hb hby d1_21) _ k)
  have R10 : ∀ t, Steps p.tables e below (s₁.setTop (mkF m 21 #[rv a1, .val (.long (((0 : Int64) ||| ((1 : Int64) <<< (x0 &&& 0x3f).toInt64)) ||| ((1 : Int64) <<< (x1 &&& 0x3f).toInt64))), .second, rv a1, iv (3 : Int32), iv (2 : Int32), iv x1] [(.int (2 : Int32)), (.ref a1)])) t → Steps p.tables e below (s₁.setTop f0) t := fun t k => R9 t (by
    show Steps p.tables e below (s₁.setTop (mkF m 22 #[rv a1, .val (.long ((0 : Int64) ||| ((1 : Int64) <<< (x0 &&& 0x3f).toInt64))), .second, rv a1, iv (3 : Int32), iv (1 : Int32), iv x0] [(.int x1)])) _
    refine XS.istore X0.here hx rfl (hb hby d1_22) rfl (l' := #[rv a1, .val (.long ((0 : Int64) ||| ((1 : Int64) <<< (x0 &&& 0x3f).toInt64))), .second, rv a1, iv (3 : Int32), iv (1 : Int32), iv x1]) rfl ?_
    show Steps p.tables e below (s₁.setTop (mkF m 24 #[rv a1, .val (.long ((0 : Int64) ||| ((1 : Int64) <<< (x0 &&& 0x3f).toInt64))), .second, rv a1, iv (3 : Int32), iv (1 : Int32), iv x1] [])) _
    refine XS.lloadN X0.here hx rfl (hb hby d1_24) rfl  ?_
    show Steps p.tables e below (s₁.setTop (mkF m 25 #[rv a1, .val (.long ((0 : Int64) ||| ((1 : Int64) <<< (x0 &&& 0x3f).toInt64))), .second, rv a1, iv (3 : Int32), iv (1 : Int32), iv x1] [(.long ((0 : Int64) ||| ((1 : Int64) <<< (x0 &&& 0x3f).toInt64)))])) _
    refine XS.lconst X0.here hx rfl (hb hby d1_25) ?_
    show Steps p.tables e below (s₁.setTop (mkF m 26 #[rv a1, .val (.long ((0 : Int64) ||| ((1 : Int64) <<< (x0 &&& 0x3f).toInt64))), .second, rv a1, iv (3 : Int32), iv (1 : Int32), iv x1] [(.long (1 : Int64)), (.long ((0 : Int64) ||| ((1 : Int64) <<< (x0 &&& 0x3f).toInt64)))])) _
    refine XS.iload X0.here hx rfl (hb hby d1_26) rfl  ?_
    show Steps p.tables e below (s₁.setTop (mkF m 28 #[rv a1, .val (.long ((0 : Int64) ||| ((1 : Int64) <<< (x0 &&& 0x3f).toInt64))), .second, rv a1, iv (3 : Int32), iv (1 : Int32), iv x1] [(.int x1), (.long (1 : Int64)), (.long ((0 : Int64) ||| ((1 : Int64) <<< (x0 &&& 0x3f).toInt64)))])) _
    refine XS.lshl X0.here hx rfl (hb hby d1_28) rfl ?_
    show Steps p.tables e below (s₁.setTop (mkF m 29 #[rv a1, .val (.long ((0 : Int64) ||| ((1 : Int64) <<< (x0 &&& 0x3f).toInt64))), .second, rv a1, iv (3 : Int32), iv (1 : Int32), iv x1] [(.long ((1 : Int64) <<< (x1 &&& 0x3f).toInt64)), (.long ((0 : Int64) ||| ((1 : Int64) <<< (x0 &&& 0x3f).toInt64)))])) _
    refine XS.lor X0.here hx rfl (hb hby d1_29) rfl ?_
    show Steps p.tables e below (s₁.setTop (mkF m 30 #[rv a1, .val (.long ((0 : Int64) ||| ((1 : Int64) <<< (x0 &&& 0x3f).toInt64))), .second, rv a1, iv (3 : Int32), iv (1 : Int32), iv x1] [(.long (((0 : Int64) ||| ((1 : Int64) <<< (x0 &&& 0x3f).toInt64)) ||| ((1 : Int64) <<< (x1 &&& 0x3f).toInt64)))])) _
    refine XS.lstoreN X0.here hx rfl (hb hby d1_30) rfl (l' := #[rv a1, .val (.long (((0 : Int64) ||| ((1 : Int64) <<< (x0 &&& 0x3f).toInt64)) ||| ((1 : Int64) <<< (x1 &&& 0x3f).toInt64))), .second, rv a1, iv (3 : Int32), iv (1 : Int32), iv x1]) rfl ?_
    show Steps p.tables e below (s₁.setTop (mkF m 31 #[rv a1, .val (.long (((0 : Int64) ||| ((1 : Int64) <<< (x0 &&& 0x3f).toInt64)) ||| ((1 : Int64) <<< (x1 &&& 0x3f).toInt64))), .second, rv a1, iv (3 : Int32), iv (1 : Int32), iv x1] [])) _
    refine XS.iinc X0.here hx rfl (hb hby d1_31) rfl (l' := #[rv a1, .val (.long (((0 : Int64) ||| ((1 : Int64) <<< (x0 &&& 0x3f).toInt64)) ||| ((1 : Int64) <<< (x1 &&& 0x3f).toInt64))), .second, rv a1, iv (3 : Int32), iv (2 : Int32), iv x1]) rfl ?_
    show Steps p.tables e below (s₁.setTop (mkF m 34 #[rv a1, .val (.long (((0 : Int64) ||| ((1 : Int64) <<< (x0 &&& 0x3f).toInt64)) ||| ((1 : Int64) <<< (x1 &&& 0x3f).toInt64))), .second, rv a1, iv (3 : Int32), iv (2 : Int32), iv x1] [])) _
    refine XS.goto X0.here hx rfl (pc0 := 34) (pc' := 11) rfl (hb hby d1_34) (by decide) (by decide) ?_
    show Steps p.tables e below (s₁.setTop (mkF m 11 #[rv a1, .val (.long (((0 : Int64) ||| ((1 : Int64) <<< (x0 &&& 0x3f).toInt64)) ||| ((1 : Int64) <<< (x1 &&& 0x3f).toInt64))), .second, rv a1, iv (3 : Int32), iv (2 : Int32), iv x1] [])) _
    refine XS.iload X0.here hx rfl (hb hby d1_11) rfl  ?_
    show Steps p.tables e below (s₁.setTop (mkF m 13 #[rv a1, .val (.long (((0 : Int64) ||| ((1 : Int64) <<< (x0 &&& 0x3f).toInt64)) ||| ((1 : Int64) <<< (x1 &&& 0x3f).toInt64))), .second, rv a1, iv (3 : Int32), iv (2 : Int32), iv x1] [(.int (2 : Int32))])) _
    refine XS.iload X0.here hx rfl (hb hby d1_13) rfl  ?_
    show Steps p.tables e below (s₁.setTop (mkF m 15 #[rv a1, .val (.long (((0 : Int64) ||| ((1 : Int64) <<< (x0 &&& 0x3f).toInt64)) ||| ((1 : Int64) <<< (x1 &&& 0x3f).toInt64))), .second, rv a1, iv (3 : Int32), iv (2 : Int32), iv x1] [(.int (3 : Int32)), (.int (2 : Int32))])) _
    refine XS.icmpNo X0.here hx rfl (hb hby d1_15) rfl (tlt (by decide : (2 : Int32) < (3 : Int32))).2.1 ?_
    show Steps p.tables e below (s₁.setTop (mkF m 18 #[rv a1, .val (.long (((0 : Int64) ||| ((1 : Int64) <<< (x0 &&& 0x3f).toInt64)) ||| ((1 : Int64) <<< (x1 &&& 0x3f).toInt64))), .second, rv a1, iv (3 : Int32), iv (2 : Int32), iv x1] [])) _
    refine XS.aloadN X0.here hx rfl (hb hby d1_18) rfl rfl ?_
    show Steps p.tables e below (s₁.setTop (mkF m 19 #[rv a1, .val (.long (((0 : Int64) ||| ((1 : Int64) <<< (x0 &&& 0x3f).toInt64)) ||| ((1 : Int64) <<< (x1 &&& 0x3f).toInt64))), .second, rv a1, iv (3 : Int32), iv (2 : Int32), iv x1] [(.ref a1)])) _
    refine XS.iload X0.here hx rfl (hb hby d1_19) rfl  ?_
    exact k)
  obtain ⟨cl11, Ar11, q11, S11, n11_, H11, G11⟩ := id A_a1
  have hin11 : ¬ ((2 : Int32) < 0 ∨ cl11.slots.size ≤ ((2 : Int32)).toNatClampNeg) := inb_of S11 ⟨by decide, by decide⟩
  have hat11 : cl11.slots[((2 : Int32)).toNatClampNeg]? = some (.int x2) := Has.at H11 hin11 rfl
  have R12 : ∀ t, Steps p.tables e below (s₁.setTop (mkF m 22 #[rv a1, .val (.long (((0 : Int64) ||| ((1 : Int64) <<< (x0 &&& 0x3f).toInt64)) ||| ((1 : Int64) <<< (x1 &&& 0x3f).toInt64))), .second, rv a1, iv (3 : Int32), iv (2 : Int32), iv x1] [(.int x2)])) t → Steps p.tables e below (s₁.setTop f0) t := fun t k => R10 t (X0.caload hx (j := (2 : Int32)) (v := (.int x2)) (by rw [e0]; exact Ar11.1) (State.isArrayOf_alike hZ.alike Ar11.2.1) Ar11.2.2 hin11 hat11 (g := (mkF m 21 #[rv a1, .val (.long (((0 : Int64) ||| ((1 : Int64) <<< (x0 &&& 0x3f).toInt64)) ||| ((1 : Int64) <<< (x1 &&& 0x3f).toInt64))), .second, rv a1, iv (3 : Int32), iv (2 : Int32), iv x1] [(.int (2 : Int32)), (.ref a1)])) rfl rfl (hb hby d1_21) _ k)
  have R13 : ∀ t, Steps p.tables e below (s₁.setTop (mkF m 38 #[rv a1, .val (.long ((((0 : Int64) ||| ((1 : Int64) <<< (x0 &&& 0x3f).toInt64)) ||| ((1 : Int64) <<< (x1 &&& 0x3f).toInt64)) ||| ((1 : Int64) <<< (x2 &&& 0x3f).toInt64))), .second, rv a1, iv (3 : Int32), iv (3 : Int32), iv x2] [(.long ((((0 : Int64) ||| ((1 : Int64) <<< (x0 &&& 0x3f).toInt64)) ||| ((1 : Int64) <<< (x1 &&& 0x3f).toInt64)) ||| ((1 : Int64) <<< (x2 &&& 0x3f).toInt64)))])) t → Steps p.tables e below (s₁.setTop f0) t := fun t k => R12 t (by
    show Steps p.tables e below (s₁.setTop (mkF m 22 #[rv a1, .val (.long (((0 : Int64) ||| ((1 : Int64) <<< (x0 &&& 0x3f).toInt64)) ||| ((1 : Int64) <<< (x1 &&& 0x3f).toInt64))), .second, rv a1, iv (3 : Int32), iv (2 : Int32), iv x1] [(.int x2)])) _
    refine XS.istore X0.here hx rfl (hb hby d1_22) rfl (l' := #[rv a1, .val (.long (((0 : Int64) ||| ((1 : Int64) <<< (x0 &&& 0x3f).toInt64)) ||| ((1 : Int64) <<< (x1 &&& 0x3f).toInt64))), .second, rv a1, iv (3 : Int32), iv (2 : Int32), iv x2]) rfl ?_
    show Steps p.tables e below (s₁.setTop (mkF m 24 #[rv a1, .val (.long (((0 : Int64) ||| ((1 : Int64) <<< (x0 &&& 0x3f).toInt64)) ||| ((1 : Int64) <<< (x1 &&& 0x3f).toInt64))), .second, rv a1, iv (3 : Int32), iv (2 : Int32), iv x2] [])) _
    refine XS.lloadN X0.here hx rfl (hb hby d1_24) rfl  ?_
    show Steps p.tables e below (s₁.setTop (mkF m 25 #[rv a1, .val (.long (((0 : Int64) ||| ((1 : Int64) <<< (x0 &&& 0x3f).toInt64)) ||| ((1 : Int64) <<< (x1 &&& 0x3f).toInt64))), .second, rv a1, iv (3 : Int32), iv (2 : Int32), iv x2] [(.long (((0 : Int64) ||| ((1 : Int64) <<< (x0 &&& 0x3f).toInt64)) ||| ((1 : Int64) <<< (x1 &&& 0x3f).toInt64)))])) _
    refine XS.lconst X0.here hx rfl (hb hby d1_25) ?_
    show Steps p.tables e below (s₁.setTop (mkF m 26 #[rv a1, .val (.long (((0 : Int64) ||| ((1 : Int64) <<< (x0 &&& 0x3f).toInt64)) ||| ((1 : Int64) <<< (x1 &&& 0x3f).toInt64))), .second, rv a1, iv (3 : Int32), iv (2 : Int32), iv x2] [(.long (1 : Int64)), (.long (((0 : Int64) ||| ((1 : Int64) <<< (x0 &&& 0x3f).toInt64)) ||| ((1 : Int64) <<< (x1 &&& 0x3f).toInt64)))])) _
    refine XS.iload X0.here hx rfl (hb hby d1_26) rfl  ?_
    show Steps p.tables e below (s₁.setTop (mkF m 28 #[rv a1, .val (.long (((0 : Int64) ||| ((1 : Int64) <<< (x0 &&& 0x3f).toInt64)) ||| ((1 : Int64) <<< (x1 &&& 0x3f).toInt64))), .second, rv a1, iv (3 : Int32), iv (2 : Int32), iv x2] [(.int x2), (.long (1 : Int64)), (.long (((0 : Int64) ||| ((1 : Int64) <<< (x0 &&& 0x3f).toInt64)) ||| ((1 : Int64) <<< (x1 &&& 0x3f).toInt64)))])) _
    refine XS.lshl X0.here hx rfl (hb hby d1_28) rfl ?_
    show Steps p.tables e below (s₁.setTop (mkF m 29 #[rv a1, .val (.long (((0 : Int64) ||| ((1 : Int64) <<< (x0 &&& 0x3f).toInt64)) ||| ((1 : Int64) <<< (x1 &&& 0x3f).toInt64))), .second, rv a1, iv (3 : Int32), iv (2 : Int32), iv x2] [(.long ((1 : Int64) <<< (x2 &&& 0x3f).toInt64)), (.long (((0 : Int64) ||| ((1 : Int64) <<< (x0 &&& 0x3f).toInt64)) ||| ((1 : Int64) <<< (x1 &&& 0x3f).toInt64)))])) _
    refine XS.lor X0.here hx rfl (hb hby d1_29) rfl ?_
    show Steps p.tables e below (s₁.setTop (mkF m 30 #[rv a1, .val (.long (((0 : Int64) ||| ((1 : Int64) <<< (x0 &&& 0x3f).toInt64)) ||| ((1 : Int64) <<< (x1 &&& 0x3f).toInt64))), .second, rv a1, iv (3 : Int32), iv (2 : Int32), iv x2] [(.long ((((0 : Int64) ||| ((1 : Int64) <<< (x0 &&& 0x3f).toInt64)) ||| ((1 : Int64) <<< (x1 &&& 0x3f).toInt64)) ||| ((1 : Int64) <<< (x2 &&& 0x3f).toInt64)))])) _
    refine XS.lstoreN X0.here hx rfl (hb hby d1_30) rfl (l' := #[rv a1, .val (.long ((((0 : Int64) ||| ((1 : Int64) <<< (x0 &&& 0x3f).toInt64)) ||| ((1 : Int64) <<< (x1 &&& 0x3f).toInt64)) ||| ((1 : Int64) <<< (x2 &&& 0x3f).toInt64))), .second, rv a1, iv (3 : Int32), iv (2 : Int32), iv x2]) rfl ?_
    show Steps p.tables e below (s₁.setTop (mkF m 31 #[rv a1, .val (.long ((((0 : Int64) ||| ((1 : Int64) <<< (x0 &&& 0x3f).toInt64)) ||| ((1 : Int64) <<< (x1 &&& 0x3f).toInt64)) ||| ((1 : Int64) <<< (x2 &&& 0x3f).toInt64))), .second, rv a1, iv (3 : Int32), iv (2 : Int32), iv x2] [])) _
    refine XS.iinc X0.here hx rfl (hb hby d1_31) rfl (l' := #[rv a1, .val (.long ((((0 : Int64) ||| ((1 : Int64) <<< (x0 &&& 0x3f).toInt64)) ||| ((1 : Int64) <<< (x1 &&& 0x3f).toInt64)) ||| ((1 : Int64) <<< (x2 &&& 0x3f).toInt64))), .second, rv a1, iv (3 : Int32), iv (3 : Int32), iv x2]) rfl ?_
    show Steps p.tables e below (s₁.setTop (mkF m 34 #[rv a1, .val (.long ((((0 : Int64) ||| ((1 : Int64) <<< (x0 &&& 0x3f).toInt64)) ||| ((1 : Int64) <<< (x1 &&& 0x3f).toInt64)) ||| ((1 : Int64) <<< (x2 &&& 0x3f).toInt64))), .second, rv a1, iv (3 : Int32), iv (3 : Int32), iv x2] [])) _
    refine XS.goto X0.here hx rfl (pc0 := 34) (pc' := 11) rfl (hb hby d1_34) (by decide) (by decide) ?_
    show Steps p.tables e below (s₁.setTop (mkF m 11 #[rv a1, .val (.long ((((0 : Int64) ||| ((1 : Int64) <<< (x0 &&& 0x3f).toInt64)) ||| ((1 : Int64) <<< (x1 &&& 0x3f).toInt64)) ||| ((1 : Int64) <<< (x2 &&& 0x3f).toInt64))), .second, rv a1, iv (3 : Int32), iv (3 : Int32), iv x2] [])) _
    refine XS.iload X0.here hx rfl (hb hby d1_11) rfl  ?_
    show Steps p.tables e below (s₁.setTop (mkF m 13 #[rv a1, .val (.long ((((0 : Int64) ||| ((1 : Int64) <<< (x0 &&& 0x3f).toInt64)) ||| ((1 : Int64) <<< (x1 &&& 0x3f).toInt64)) ||| ((1 : Int64) <<< (x2 &&& 0x3f).toInt64))), .second, rv a1, iv (3 : Int32), iv (3 : Int32), iv x2] [(.int (3 : Int32))])) _
    refine XS.iload X0.here hx rfl (hb hby d1_13) rfl  ?_
    show Steps p.tables e below (s₁.setTop (mkF m 15 #[rv a1, .val (.long ((((0 : Int64) ||| ((1 : Int64) <<< (x0 &&& 0x3f).toInt64)) ||| ((1 : Int64) <<< (x1 &&& 0x3f).toInt64)) ||| ((1 : Int64) <<< (x2 &&& 0x3f).toInt64))), .second, rv a1, iv (3 : Int32), iv (3 : Int32), iv x2] [(.int (3 : Int32)), (.int (3 : Int32))])) _
    refine XS.icmpYes X0.here hx rfl (pc0 := 15) (pc' := 37) rfl (hb hby d1_15) rfl (flt (by decide : ¬ ((3 : Int32) < (3 : Int32)))).2.1 (by decide) (by decide) ?_
    show Steps p.tables e below (s₁.setTop (mkF m 37 #[rv a1, .val (.long ((((0 : Int64) ||| ((1 : Int64) <<< (x0 &&& 0x3f).toInt64)) ||| ((1 : Int64) <<< (x1 &&& 0x3f).toInt64)) ||| ((1 : Int64) <<< (x2 &&& 0x3f).toInt64))), .second, rv a1, iv (3 : Int32), iv (3 : Int32), iv x2] [])) _
    refine XS.lloadN X0.here hx rfl (hb hby d1_37) rfl  ?_
    exact k)
  obtain ⟨fs, hr, hrun, hended, hW, hsame⟩ := X0.leave (v := some (.long ((((0 : Int64) ||| ((1 : Int64) <<< (x0 &&& 0x3f).toInt64)) ||| ((1 : Int64) <<< (x1 &&& 0x3f).toInt64)) ||| ((1 : Int64) <<< (x2 &&& 0x3f).toInt64)))) (fun h => by rw [Bd.returns] at h; cases h)
  refine ⟨_, _, pre0 _ (R13 _ ?_), hrun, hended, _, _, rfl, ?_, ⟨_, rfl⟩, hW, hsame.mono (by decide) (by decide)⟩
  · show Steps p.tables e below (s₁.setTop (mkF m 38 #[rv a1, .val (.long ((((0 : Int64) ||| ((1 : Int64) <<< (x0 &&& 0x3f).toInt64)) ||| ((1 : Int64) <<< (x1 &&& 0x3f).toInt64)) ||| ((1 : Int64) <<< (x2 &&& 0x3f).toInt64))), .second, rv a1, iv (3 : Int32), iv (3 : Int32), iv x2] [(.long ((((0 : Int64) ||| ((1 : Int64) <<< (x0 &&& 0x3f).toInt64)) ||| ((1 : Int64) <<< (x1 &&& 0x3f).toInt64)) ||| ((1 : Int64) <<< (x2 &&& 0x3f).toInt64)))])) _
    exact retOut X0 hx (t := .long) Bd.returns rfl (Or.inr (Or.inl ⟨rfl, rfl, _, rfl⟩)) (hb hby d1_38) hr
  · show Q_rmStops3 Z a1 k x0 x1 x2 h0 n0 _ s₁.heap _
    rw [e0]
    exact ⟨rfl, N0, rfl⟩
theorem ef_rmLaw (m : MethodId) (x0 : Int32) (x1 : Int32) (x2 : Int32) (x3 : Int32) (x4 : Int32) : entryFrame m #[(.int x0), (.int x1), (.int x2), (.int x3), (.int x4)] maxLocals = mkF m 0 #[iv x0, iv x1, iv x2, iv x3, iv x4, .unset, .unset, .unset, .unset, .unset, .unset, .unset, .unset, .unset, .unset] [] := by first | (simp [entryFrame, mkF, argsToLocals, Value.category, maxLocals]; done) | rfl
def Q_rmLaw (Z : State) (p0 : Int32) (p1 : Int32) (p2 : Int32) (p3 : Int32) (p4 : Int32) (h0 : Heap) (n0 : Nat) (v : Option Value) (h : Heap) (L : List Loc) : Prop := v = some (.int (1 : Int32)) ∧ Fr n0 L
set_option maxRecDepth 65536 in
set_option maxHeartbeats 40000000 in
theorem rmLaw (l : Launch) (Z : State) (a0 : Array Value) (hw : ∀ d ∈ tables_1, d.before a0 Z = true) (ws : List Jvm.Cond) (p0 : Int32) (p1 : Int32) (p2 : Int32) (p3 : Int32) (p4 : Int32) (h0 : Heap) (n0 : Nat) (Z0 : n0 ≤ h0.size) :
    MetFree l x (head1 (Jvm.Cond.code x code maxLocals ret :: ws) room_1) (fun a U => a = #[(.int p0), (.int p1), (.int p2), (.int p3), (.int p4)] ∧ Z.Warmed39 U.vm ∧ U.heap = h0) (fun _ _ _ _ _ => True) (fun _ U o U' => ∃ v L, o = .returned v ∧ Q_rmLaw Z p0 p1 p2 p3 p4 h0 n0 v U'.heap L ∧ FrameEnd U o U' L room_1.cells room_1.slots) := by
  refine MetFree.of_bodySF (plainFor_of_name pn_1) hisR ?_
  intro p e s m args below meth c s₁ Bd hml0 hP hK
  obtain ⟨rfl, hZ, hh⟩ := hP
  have hx := Bd.exec
  have hby := Bd.bytes
  have hml : c.maxLocals = 15 := hml0
  have hown : s.vm.findClass "com/example/biaoji/biaoji/LexerStopsPinLaw" = some m.cls := findClass_of_methodNamed Bd.named
  have hnm := (name_of_methodNamed Bd.named Bd.method).1
  have X0 : Stand p l e room_1 s m #[(.int p0), (.int p1), (.int p2), (.int p3), (.int p4)] below meth c s₁ [] 0 0 := Stand.of_body Bd
  have e0 : s₁.heap = h0 := by rw [← hh, Bd.state]; rfl
  have N0 := Fr.nil n0
  obtain ⟨f0, hf0⟩ : ∃ f : JFrame, f = mkF m 0 #[iv p0, iv p1, iv p2, iv p3, iv p4, .unset, .unset, .unset, .unset, .unset, .unset, .unset, .unset, .unset, .unset] [] := ⟨_, rfl⟩
  have pre0 : ∀ t, Steps p.tables e below (s₁.setTop f0) t → Steps p.tables e below (s₁.setTop (entryFrame m #[(.int p0), (.int p1), (.int p2), (.int p3), (.int p4)] maxLocals)) t := fun t k => castTop ((ef_rmLaw m p0 p1 p2 p3 p4).trans hf0.symm) k
  have R0 : ∀ t, Steps p.tables e below (s₁.setTop (mkF m 0 #[iv p0, iv p1, iv p2, iv p3, iv p4, .unset, .unset, .unset, .unset, .unset, .unset, .unset, .unset, .unset, .unset] [])) t → Steps p.tables e below (s₁.setTop f0) t := by rw [hf0]; exact fun t k => k
  have R1 : ∀ t, Steps p.tables e below (s₁.setTop (mkF m 3 #[iv p0, iv p1, iv p2, iv p3, iv p4, .unset, .unset, .unset, .unset, .unset, .unset, .unset, .unset, .unset, .unset] [(.int (p0 &&& (3 : Int32)))])) t → Steps p.tables e below (s₁.setTop f0) t := fun t k => R0 t (by
    show Steps p.tables e below (s₁.setTop (mkF m 0 #[iv p0, iv p1, iv p2, iv p3, iv p4, .unset, .unset, .unset, .unset, .unset, .unset, .unset, .unset, .unset, .unset] [])) _
    refine XS.iloadN X0.here hx rfl (hb hby at_0) rfl  ?_
    show Steps p.tables e below (s₁.setTop (mkF m 1 #[iv p0, iv p1, iv p2, iv p3, iv p4, .unset, .unset, .unset, .unset, .unset, .unset, .unset, .unset, .unset, .unset] [(.int p0)])) _
    refine XS.iconst X0.here hx rfl (hb hby at_1) ?_
    show Steps p.tables e below (s₁.setTop (mkF m 2 #[iv p0, iv p1, iv p2, iv p3, iv p4, .unset, .unset, .unset, .unset, .unset, .unset, .unset, .unset, .unset, .unset] [(.int (3 : Int32)), (.int p0)])) _
    refine XS.iand X0.here hx rfl (hb hby at_2) rfl ?_
    exact k)
  obtain ⟨n, e_n⟩ : ∃ z : Int32, z = (p0 &&& (3 : Int32)) := ⟨_, rfl⟩
  have R2 : ∀ t, Steps p.tables e below (s₁.setTop (mkF m 3 #[iv p0, iv p1, iv p2, iv p3, iv p4, .unset, .unset, .unset, .unset, .unset, .unset, .unset, .unset, .unset, .unset] [(.int n)])) t → Steps p.tables e below (s₁.setTop f0) t := by have q := R1; rw [← e_n] at q; exact q
  have R3 : ∀ t, Steps p.tables e below (s₁.setTop (mkF m 10 #[iv p0, iv p1, iv p2, iv p3, iv p4, iv n, .unset, .unset, .unset, .unset, .unset, .unset, .unset, .unset, .unset] [(.int ((p1 &&& (63 : Int32)).toUInt32.toUInt16.toUInt32.toInt32))])) t → Steps p.tables e below (s₁.setTop f0) t := fun t k => R2 t (by
    show Steps p.tables e below (s₁.setTop (mkF m 3 #[iv p0, iv p1, iv p2, iv p3, iv p4, .unset, .unset, .unset, .unset, .unset, .unset, .unset, .unset, .unset, .unset] [(.int n)])) _
    refine XS.istore X0.here hx rfl (hb hby at_3) rfl (l' := #[iv p0, iv p1, iv p2, iv p3, iv p4, iv n, .unset, .unset, .unset, .unset, .unset, .unset, .unset, .unset, .unset]) rfl ?_
    show Steps p.tables e below (s₁.setTop (mkF m 5 #[iv p0, iv p1, iv p2, iv p3, iv p4, iv n, .unset, .unset, .unset, .unset, .unset, .unset, .unset, .unset, .unset] [])) _
    refine XS.iloadN X0.here hx rfl (hb hby at_5) rfl  ?_
    show Steps p.tables e below (s₁.setTop (mkF m 6 #[iv p0, iv p1, iv p2, iv p3, iv p4, iv n, .unset, .unset, .unset, .unset, .unset, .unset, .unset, .unset, .unset] [(.int p1)])) _
    refine XS.bipush X0.here hx rfl (hb hby at_6) ?_
    show Steps p.tables e below (s₁.setTop (mkF m 8 #[iv p0, iv p1, iv p2, iv p3, iv p4, iv n, .unset, .unset, .unset, .unset, .unset, .unset, .unset, .unset, .unset] [(.int (63 : Int32)), (.int p1)])) _
    refine XS.iand X0.here hx rfl (hb hby at_8) rfl ?_
    show Steps p.tables e below (s₁.setTop (mkF m 9 #[iv p0, iv p1, iv p2, iv p3, iv p4, iv n, .unset, .unset, .unset, .unset, .unset, .unset, .unset, .unset, .unset] [(.int (p1 &&& (63 : Int32)))])) _
    refine XS.i2c X0.here hx rfl (hb hby at_9) rfl ?_
    exact k)
  obtain ⟨a, e_a⟩ : ∃ z : Int32, z = ((p1 &&& (63 : Int32)).toUInt32.toUInt16.toUInt32.toInt32) := ⟨_, rfl⟩
  have R4 : ∀ t, Steps p.tables e below (s₁.setTop (mkF m 10 #[iv p0, iv p1, iv p2, iv p3, iv p4, iv n, .unset, .unset, .unset, .unset, .unset, .unset, .unset, .unset, .unset] [(.int a)])) t → Steps p.tables e below (s₁.setTop f0) t := by have q := R3; rw [← e_a] at q; exact q
  have R5 : ∀ t, Steps p.tables e below (s₁.setTop (mkF m 17 #[iv p0, iv p1, iv p2, iv p3, iv p4, iv n, iv a, .unset, .unset, .unset, .unset, .unset, .unset, .unset, .unset] [(.int ((p2 &&& (63 : Int32)).toUInt32.toUInt16.toUInt32.toInt32))])) t → Steps p.tables e below (s₁.setTop f0) t := fun t k => R4 t (by
    show Steps p.tables e below (s₁.setTop (mkF m 10 #[iv p0, iv p1, iv p2, iv p3, iv p4, iv n, .unset, .unset, .unset, .unset, .unset, .unset, .unset, .unset, .unset] [(.int a)])) _
    refine XS.istore X0.here hx rfl (hb hby at_10) rfl (l' := #[iv p0, iv p1, iv p2, iv p3, iv p4, iv n, iv a, .unset, .unset, .unset, .unset, .unset, .unset, .unset, .unset]) rfl ?_
    show Steps p.tables e below (s₁.setTop (mkF m 12 #[iv p0, iv p1, iv p2, iv p3, iv p4, iv n, iv a, .unset, .unset, .unset, .unset, .unset, .unset, .unset, .unset] [])) _
    refine XS.iloadN X0.here hx rfl (hb hby at_12) rfl  ?_
    show Steps p.tables e below (s₁.setTop (mkF m 13 #[iv p0, iv p1, iv p2, iv p3, iv p4, iv n, iv a, .unset, .unset, .unset, .unset, .unset, .unset, .unset, .unset] [(.int p2)])) _
    refine XS.bipush X0.here hx rfl (hb hby at_13) ?_
    show Steps p.tables e below (s₁.setTop (mkF m 15 #[iv p0, iv p1, iv p2, iv p3, iv p4, iv n, iv a, .unset, .unset, .unset, .unset, .unset, .unset, .unset, .unset] [(.int (63 : Int32)), (.int p2)])) _
    refine XS.iand X0.here hx rfl (hb hby at_15) rfl ?_
    show Steps p.tables e below (s₁.setTop (mkF m 16 #[iv p0, iv p1, iv p2, iv p3, iv p4, iv n, iv a, .unset, .unset, .unset, .unset, .unset, .unset, .unset, .unset] [(.int (p2 &&& (63 : Int32)))])) _
    refine XS.i2c X0.here hx rfl (hb hby at_16) rfl ?_
    exact k)
  obtain ⟨b, e_b⟩ : ∃ z : Int32, z = ((p2 &&& (63 : Int32)).toUInt32.toUInt16.toUInt32.toInt32) := ⟨_, rfl⟩
  have R6 : ∀ t, Steps p.tables e below (s₁.setTop (mkF m 17 #[iv p0, iv p1, iv p2, iv p3, iv p4, iv n, iv a, .unset, .unset, .unset, .unset, .unset, .unset, .unset, .unset] [(.int b)])) t → Steps p.tables e below (s₁.setTop f0) t := by have q := R5; rw [← e_b] at q; exact q
  have R7 : ∀ t, Steps p.tables e below (s₁.setTop (mkF m 24 #[iv p0, iv p1, iv p2, iv p3, iv p4, iv n, iv a, iv b, .unset, .unset, .unset, .unset, .unset, .unset, .unset] [(.int ((p3 &&& (63 : Int32)).toUInt32.toUInt16.toUInt32.toInt32))])) t → Steps p.tables e below (s₁.setTop f0) t := fun t k => R6 t (by
    show Steps p.tables e below (s₁.setTop (mkF m 17 #[iv p0, iv p1, iv p2, iv p3, iv p4, iv n, iv a, .unset, .unset, .unset, .unset, .unset, .unset, .unset, .unset] [(.int b)])) _
    refine XS.istore X0.here hx rfl (hb hby at_17) rfl (l' := #[iv p0, iv p1, iv p2, iv p3, iv p4, iv n, iv a, iv b, .unset, .unset, .unset, .unset, .unset, .unset, .unset]) rfl ?_
    show Steps p.tables e below (s₁.setTop (mkF m 19 #[iv p0, iv p1, iv p2, iv p3, iv p4, iv n, iv a, iv b, .unset, .unset, .unset, .unset, .unset, .unset, .unset] [])) _
    refine XS.iloadN X0.here hx rfl (hb hby at_19) rfl  ?_
    show Steps p.tables e below (s₁.setTop (mkF m 20 #[iv p0, iv p1, iv p2, iv p3, iv p4, iv n, iv a, iv b, .unset, .unset, .unset, .unset, .unset, .unset, .unset] [(.int p3)])) _
    refine XS.bipush X0.here hx rfl (hb hby at_20) ?_
    show Steps p.tables e below (s₁.setTop (mkF m 22 #[iv p0, iv p1, iv p2, iv p3, iv p4, iv n, iv a, iv b, .unset, .unset, .unset, .unset, .unset, .unset, .unset] [(.int (63 : Int32)), (.int p3)])) _
    refine XS.iand X0.here hx rfl (hb hby at_22) rfl ?_
    show Steps p.tables e below (s₁.setTop (mkF m 23 #[iv p0, iv p1, iv p2, iv p3, iv p4, iv n, iv a, iv b, .unset, .unset, .unset, .unset, .unset, .unset, .unset] [(.int (p3 &&& (63 : Int32)))])) _
    refine XS.i2c X0.here hx rfl (hb hby at_23) rfl ?_
    exact k)
  obtain ⟨cc, e_cc⟩ : ∃ z : Int32, z = ((p3 &&& (63 : Int32)).toUInt32.toUInt16.toUInt32.toInt32) := ⟨_, rfl⟩
  have R8 : ∀ t, Steps p.tables e below (s₁.setTop (mkF m 24 #[iv p0, iv p1, iv p2, iv p3, iv p4, iv n, iv a, iv b, .unset, .unset, .unset, .unset, .unset, .unset, .unset] [(.int cc)])) t → Steps p.tables e below (s₁.setTop f0) t := by have q := R7; rw [← e_cc] at q; exact q
  have R9 : ∀ t, Steps p.tables e below (s₁.setTop (mkF m 31 #[iv p0, iv p1, iv p2, iv p3, iv p4, iv n, iv a, iv b, iv cc, .unset, .unset, .unset, .unset, .unset, .unset] [(.int (p4 &&& (63 : Int32)))])) t → Steps p.tables e below (s₁.setTop f0) t := fun t k => R8 t (by
    show Steps p.tables e below (s₁.setTop (mkF m 24 #[iv p0, iv p1, iv p2, iv p3, iv p4, iv n, iv a, iv b, .unset, .unset, .unset, .unset, .unset, .unset, .unset] [(.int cc)])) _
    refine XS.istore X0.here hx rfl (hb hby at_24) rfl (l' := #[iv p0, iv p1, iv p2, iv p3, iv p4, iv n, iv a, iv b, iv cc, .unset, .unset, .unset, .unset, .unset, .unset]) rfl ?_
    show Steps p.tables e below (s₁.setTop (mkF m 26 #[iv p0, iv p1, iv p2, iv p3, iv p4, iv n, iv a, iv b, iv cc, .unset, .unset, .unset, .unset, .unset, .unset] [])) _
    refine XS.iload X0.here hx rfl (hb hby at_26) rfl  ?_
    show Steps p.tables e below (s₁.setTop (mkF m 28 #[iv p0, iv p1, iv p2, iv p3, iv p4, iv n, iv a, iv b, iv cc, .unset, .unset, .unset, .unset, .unset, .unset] [(.int p4)])) _
    refine XS.bipush X0.here hx rfl (hb hby at_28) ?_
    show Steps p.tables e below (s₁.setTop (mkF m 30 #[iv p0, iv p1, iv p2, iv p3, iv p4, iv n, iv a, iv b, iv cc, .unset, .unset, .unset, .unset, .unset, .unset] [(.int (63 : Int32)), (.int p4)])) _
    refine XS.iand X0.here hx rfl (hb hby at_30) rfl ?_
    exact k)
  obtain ⟨dd, e_dd⟩ : ∃ z : Int32, z = (p4 &&& (63 : Int32)) := ⟨_, rfl⟩
  have R10 : ∀ t, Steps p.tables e below (s₁.setTop (mkF m 31 #[iv p0, iv p1, iv p2, iv p3, iv p4, iv n, iv a, iv b, iv cc, .unset, .unset, .unset, .unset, .unset, .unset] [(.int dd)])) t → Steps p.tables e below (s₁.setTop f0) t := by have q := R9; rw [← e_dd] at q; exact q
  have R11 : ∀ t, Steps p.tables e below (s₁.setTop (mkF m 33 #[iv p0, iv p1, iv p2, iv p3, iv p4, iv n, iv a, iv b, iv cc, iv dd, .unset, .unset, .unset, .unset, .unset] [])) t → Steps p.tables e below (s₁.setTop f0) t := fun t k => R10 t (by
    show Steps p.tables e below (s₁.setTop (mkF m 31 #[iv p0, iv p1, iv p2, iv p3, iv p4, iv n, iv a, iv b, iv cc, .unset, .unset, .unset, .unset, .unset, .unset] [(.int dd)])) _
    refine XS.istore X0.here hx rfl (hb hby at_31) rfl (l' := #[iv p0, iv p1, iv p2, iv p3, iv p4, iv n, iv a, iv b, iv cc, iv dd, .unset, .unset, .unset, .unset, .unset]) rfl ?_
    exact k)
  rcases own_n3 p0 n e_n with hn | hn | hn | hn
  · skip
    have R12 : ∀ t, Steps p.tables e below (s₁.setTop (mkF m 33 #[iv p0, iv p1, iv p2, iv p3, iv p4, iv (0 : Int32), iv a, iv b, iv cc, iv dd, .unset, .unset, .unset, .unset, .unset] [])) t → Steps p.tables e below (s₁.setTop f0) t := by have q := R11; rw [(hn : n = (0 : Int32))] at q; exact q
    have R13 : ∀ t, Steps p.tables e below (s₁.setTop (mkF m 39 #[iv p0, iv p1, iv p2, iv p3, iv p4, iv (0 : Int32), iv a, iv b, iv cc, iv dd, .unset, .unset, .unset, .unset, .unset] [(.int (0 : Int32))])) t → Steps p.tables e below (s₁.setTop f0) t := fun t k => R12 t (by
      show Steps p.tables e below (s₁.setTop (mkF m 33 #[iv p0, iv p1, iv p2, iv p3, iv p4, iv (0 : Int32), iv a, iv b, iv cc, iv dd, .unset, .unset, .unset, .unset, .unset] [])) _
      refine XS.iload X0.here hx rfl (hb hby at_33) rfl  ?_
      show Steps p.tables e below (s₁.setTop (mkF m 35 #[iv p0, iv p1, iv p2, iv p3, iv p4, iv (0 : Int32), iv a, iv b, iv cc, iv dd, .unset, .unset, .unset, .unset, .unset] [(.int (0 : Int32))])) _
      refine XS.ifNo X0.here hx rfl (hb hby at_35) rfl ((if0 _ _).trans (teq (by decide : (0 : Int32) = (0 : Int32))).2) ?_
      show Steps p.tables e below (s₁.setTop (mkF m 38 #[iv p0, iv p1, iv p2, iv p3, iv p4, iv (0 : Int32), iv a, iv b, iv cc, iv dd, .unset, .unset, .unset, .unset, .unset] [])) _
      refine XS.iconst X0.here hx rfl (hb hby at_38) ?_
      exact k)
    obtain ⟨T14, h14, k14, X14, e14, E14, A14, st14⟩ := newP X0 hx hZ (hw _ (List.mem_of_getElem? (i := 0) rfl)) e0 (g := (mkF m 39 #[iv p0, iv p1, iv p2, iv p3, iv p4, iv (0 : Int32), iv a, iv b, iv cc, iv dd, .unset, .unset, .unset, .unset, .unset] [(.int (0 : Int32))])) rfl (hb hby at_39) rfl (by decide) (cap := 0) (by decide) (by decide) (by decide) (by decide)
    obtain ⟨b14, g14⟩ : ∃ z, z = h0.size := ⟨_, rfl⟩
    rw [← g14] at A14 st14
    have g_b14 : n0 ≤ b14 := Nat.le_trans Z0 (Nat.le_of_eq g14.symm)
    have sz_b14 : h0.size ≤ b14 := Nat.le_trans (Keep.refl h0 []).1 (Nat.le_of_eq g14.symm)
    have z14 : n0 ≤ h14.size := Nat.le_trans Z0 E14.1
    have K14 : Keep h0 h14 [] := (Keep.refl h0 []).ext E14
    have v14 : Arv Z h14 b14 k14 .char (0 : Int32) [] (.int (0 : Int32)) := Arv.new A14 (by decide)
    have R15 : ∀ t, Steps p.tables e below (T14.setTop (mkF m 41 #[iv p0, iv p1, iv p2, iv p3, iv p4, iv (0 : Int32), iv a, iv b, iv cc, iv dd, .unset, .unset, .unset, .unset, .unset] [(.ref b14)])) t → Steps p.tables e below (s₁.setTop f0) t := fun t k => R13 t (st14 t k)
    have R16 : ∀ t, Steps p.tables e below (T14.setTop (mkF m 111 #[iv p0, iv p1, iv p2, iv p3, iv p4, iv (0 : Int32), iv a, iv b, iv cc, iv dd, rv b14, .unset, .unset, .unset, .unset] [(.ref b14)])) t → Steps p.tables e below (s₁.setTop f0) t := fun t k => R15 t (by
      show Steps p.tables e below (T14.setTop (mkF m 41 #[iv p0, iv p1, iv p2, iv p3, iv p4, iv (0 : Int32), iv a, iv b, iv cc, iv dd, .unset, .unset, .unset, .unset, .unset] [(.ref b14)])) _
      refine XS.astore X14.here hx rfl (hb hby at_41) rfl rfl (l' := #[iv p0, iv p1, iv p2, iv p3, iv p4, iv (0 : Int32), iv a, iv b, iv cc, iv dd, rv b14, .unset, .unset, .unset, .unset]) rfl ?_
      show Steps p.tables e below (T14.setTop (mkF m 43 #[iv p0, iv p1, iv p2, iv p3, iv p4, iv (0 : Int32), iv a, iv b, iv cc, iv dd, rv b14, .unset, .unset, .unset, .unset] [])) _
      refine XS.goto X14.here hx rfl (pc0 := 43) (pc' := 109) rfl (hb hby at_43) (by decide) (by decide) ?_
      show Steps p.tables e below (T14.setTop (mkF m 109 #[iv p0, iv p1, iv p2, iv p3, iv p4, iv (0 : Int32), iv a, iv b, iv cc, iv dd, rv b14, .unset, .unset, .unset, .unset] [])) _
      refine XS.aload X14.here hx rfl (hb hby at_109) rfl rfl ?_
      exact k)
    obtain ⟨_, _, ⟨T17, L17, k17, n17⟩, -, X17, ⟨Lc17, hQ17, l17, y17, z17⟩, st17⟩ := Jvm.LawKit.callS X14 hx (y := (⟨sN0, "stops", "([C)J"⟩ : MethodName)) hown (mvT hZ (hw _ (List.mem_of_getElem? (i := 1) rfl))) (mvT hZ (hw _ (List.mem_of_getElem? (i := 2) rfl))) (mvT hZ (hw _ (List.mem_of_getElem? (i := 3) rfl))) (mvT hZ (hw _ (List.mem_of_getElem? (i := 4) rfl))) (by decide) (backOf (W := 0) (rmStops0 l Z a0 hw [] b14 k14 h14 n0 z14 v14) hZ (hw _ (List.mem_of_getElem? (i := 4) rfl)) (hw _ (List.mem_of_getElem? (i := 3) rfl)) (by decide) (by decide)) (g := (mkF m 111 #[iv p0, iv p1, iv p2, iv p3, iv p4, iv (0 : Int32), iv a, iv b, iv cc, iv dd, rv b14, .unset, .unset, .unset, .unset] [(.ref b14)])) rfl (by rw [hml]; rfl) (argsL := [(.ref b14)]) (rest := []) (lenOf pd_2 rfl) rfl (by show 2 * 0 + _ ≤ _; exact Nat.le_of_eq rfl) (hb hby at_111) (fun _ _ => ⟨rfl, e14, (by decide : 1 + 0 ≤ _), (by decide : 0 + 0 ≤ _)⟩)
    dsimp only [Pt.U, Pt.locs, Pt.cells, Pt.slots] at X17 l17 y17 z17 st17 hQ17
    subst l17 y17 z17
    obtain ⟨rfl, N17q, p17_0⟩ := hQ17
    have N17 := Fr.app N0 N17q
    have R18 : ∀ t, Steps p.tables e below (T17.setTop (mkF m 114 #[iv p0, iv p1, iv p2, iv p3, iv p4, iv (0 : Int32), iv a, iv b, iv cc, iv dd, rv b14, .unset, .unset, .unset, .unset] [(.long (0 : Int64))])) t → Steps p.tables e below (s₁.setTop f0) t := fun t k => R16 t (st17 t k)
    have R19 : ∀ t, Steps p.tables e below (T17.setTop (mkF m 116 #[iv p0, iv p1, iv p2, iv p3, iv p4, iv (0 : Int32), iv a, iv b, iv cc, iv dd, rv b14, .val (.long (0 : Int64)), .second, .unset, .unset] [])) t → Steps p.tables e below (s₁.setTop f0) t := fun t k => R18 t (by
      show Steps p.tables e below (T17.setTop (mkF m 114 #[iv p0, iv p1, iv p2, iv p3, iv p4, iv (0 : Int32), iv a, iv b, iv cc, iv dd, rv b14, .unset, .unset, .unset, .unset] [(.long (0 : Int64))])) _
      refine XS.lstore X17.here hx rfl (hb hby at_114) rfl (l' := #[iv p0, iv p1, iv p2, iv p3, iv p4, iv (0 : Int32), iv a, iv b, iv cc, iv dd, rv b14, .val (.long (0 : Int64)), .second, .unset, .unset]) rfl ?_
      exact k)
    have R20 : ∀ t, Steps p.tables e below (T17.setTop (mkF m 160 #[iv p0, iv p1, iv p2, iv p3, iv p4, iv (0 : Int32), iv a, iv b, iv cc, iv dd, rv b14, .val (.long (0 : Int64)), .second, .unset, .unset] [(.int (own_b (False)))])) t → Steps p.tables e below (s₁.setTop f0) t := by
      intro t k
      refine R19 t ?_
      show Steps p.tables e below (T17.setTop (mkF m 116 #[iv p0, iv p1, iv p2, iv p3, iv p4, iv (0 : Int32), iv a, iv b, iv cc, iv dd, rv b14, .val (.long (0 : Int64)), .second, .unset, .unset] [])) _
      refine XS.iload X17.here hx rfl (hb hby at_116) rfl  ?_
      show Steps p.tables e below (T17.setTop (mkF m 118 #[iv p0, iv p1, iv p2, iv p3, iv p4, iv (0 : Int32), iv a, iv b, iv cc, iv dd, rv b14, .val (.long (0 : Int64)), .second, .unset, .unset] [(.int (0 : Int32))])) _
      refine XS.iconst X17.here hx rfl (hb hby at_118) ?_
      show Steps p.tables e below (T17.setTop (mkF m 119 #[iv p0, iv p1, iv p2, iv p3, iv p4, iv (0 : Int32), iv a, iv b, iv cc, iv dd, rv b14, .val (.long (0 : Int64)), .second, .unset, .unset] [(.int (1 : Int32)), (.int (0 : Int32))])) _
      refine XS.icmpYes X17.here hx rfl (pc0 := 119) (pc' := 129) rfl (hb hby at_119) rfl (tlt (by decide : (0 : Int32) < (1 : Int32))).1 (by decide) (by decide) ?_
      show Steps p.tables e below (T17.setTop (mkF m 129 #[iv p0, iv p1, iv p2, iv p3, iv p4, iv (0 : Int32), iv a, iv b, iv cc, iv dd, rv b14, .val (.long (0 : Int64)), .second, .unset, .unset] [])) _
      refine XS.iload X17.here hx rfl (hb hby at_129) rfl  ?_
      show Steps p.tables e below (T17.setTop (mkF m 131 #[iv p0, iv p1, iv p2, iv p3, iv p4, iv (0 : Int32), iv a, iv b, iv cc, iv dd, rv b14, .val (.long (0 : Int64)), .second, .unset, .unset] [(.int (0 : Int32))])) _
      refine XS.iconst X17.here hx rfl (hb hby at_131) ?_
      show Steps p.tables e below (T17.setTop (mkF m 132 #[iv p0, iv p1, iv p2, iv p3, iv p4, iv (0 : Int32), iv a, iv b, iv cc, iv dd, rv b14, .val (.long (0 : Int64)), .second, .unset, .unset] [(.int (2 : Int32)), (.int (0 : Int32))])) _
      refine XS.icmpYes X17.here hx rfl (pc0 := 132) (pc' := 142) rfl (hb hby at_132) rfl (tlt (by decide : (0 : Int32) < (2 : Int32))).1 (by decide) (by decide) ?_
      show Steps p.tables e below (T17.setTop (mkF m 142 #[iv p0, iv p1, iv p2, iv p3, iv p4, iv (0 : Int32), iv a, iv b, iv cc, iv dd, rv b14, .val (.long (0 : Int64)), .second, .unset, .unset] [])) _
      refine XS.iload X17.here hx rfl (hb hby at_142) rfl  ?_
      show Steps p.tables e below (T17.setTop (mkF m 144 #[iv p0, iv p1, iv p2, iv p3, iv p4, iv (0 : Int32), iv a, iv b, iv cc, iv dd, rv b14, .val (.long (0 : Int64)), .second, .unset, .unset] [(.int (0 : Int32))])) _
      refine XS.iconst X17.here hx rfl (hb hby at_144) ?_
      show Steps p.tables e below (T17.setTop (mkF m 145 #[iv p0, iv p1, iv p2, iv p3, iv p4, iv (0 : Int32), iv a, iv b, iv cc, iv dd, rv b14, .val (.long (0 : Int64)), .second, .unset, .unset] [(.int (3 : Int32)), (.int (0 : Int32))])) _
      refine XS.icmpYes X17.here hx rfl (pc0 := 145) (pc' := 159) rfl (hb hby at_145) rfl (tlt (by decide : (0 : Int32) < (3 : Int32))).1 (by decide) (by decide) ?_
      show Steps p.tables e below (T17.setTop (mkF m 159 #[iv p0, iv p1, iv p2, iv p3, iv p4, iv (0 : Int32), iv a, iv b, iv cc, iv dd, rv b14, .val (.long (0 : Int64)), .second, .unset, .unset] [])) _
      refine XS.iconst X17.here hx rfl (hb hby at_159) ?_
      have hv : (own_b (False)) = (0 : Int32) := by simp [own_b]
      rw [hv] at k
      exact k
    have R21 : ∀ t, Steps p.tables e below (T17.setTop (mkF m 162 #[iv p0, iv p1, iv p2, iv p3, iv p4, iv (0 : Int32), iv a, iv b, iv cc, iv dd, rv b14, .val (.long (0 : Int64)), .second, iv (own_b (False)), .unset] [])) t → Steps p.tables e below (s₁.setTop f0) t := fun t k => R20 t (by
      show Steps p.tables e below (T17.setTop (mkF m 160 #[iv p0, iv p1, iv p2, iv p3, iv p4, iv (0 : Int32), iv a, iv b, iv cc, iv dd, rv b14, .val (.long (0 : Int64)), .second, .unset, .unset] [(.int (own_b (False)))])) _
      refine XS.istore X17.here hx rfl (hb hby at_160) rfl (l' := #[iv p0, iv p1, iv p2, iv p3, iv p4, iv (0 : Int32), iv a, iv b, iv cc, iv dd, rv b14, .val (.long (0 : Int64)), .second, iv (own_b (False)), .unset]) rfl ?_
      exact k)
    have R22 : ∀ t, Steps p.tables e below (T17.setTop (mkF m 179 #[iv p0, iv p1, iv p2, iv p3, iv p4, iv (0 : Int32), iv a, iv b, iv cc, iv dd, rv b14, .val (.long (0 : Int64)), .second, iv (own_b (False)), .unset] [(.int (own_b (own_bit (0 : Int64) dd = 1)))])) t → Steps p.tables e below (s₁.setTop f0) t := by
      intro t k
      refine R21 t ?_
      show Steps p.tables e below (T17.setTop (mkF m 162 #[iv p0, iv p1, iv p2, iv p3, iv p4, iv (0 : Int32), iv a, iv b, iv cc, iv dd, rv b14, .val (.long (0 : Int64)), .second, iv (own_b (False)), .unset] [])) _
      refine XS.lload X17.here hx rfl (hb hby at_162) rfl  ?_
      show Steps p.tables e below (T17.setTop (mkF m 164 #[iv p0, iv p1, iv p2, iv p3, iv p4, iv (0 : Int32), iv a, iv b, iv cc, iv dd, rv b14, .val (.long (0 : Int64)), .second, iv (own_b (False)), .unset] [(.long (0 : Int64))])) _
      refine XS.iload X17.here hx rfl (hb hby at_164) rfl  ?_
      show Steps p.tables e below (T17.setTop (mkF m 166 #[iv p0, iv p1, iv p2, iv p3, iv p4, iv (0 : Int32), iv a, iv b, iv cc, iv dd, rv b14, .val (.long (0 : Int64)), .second, iv (own_b (False)), .unset] [(.int dd), (.long (0 : Int64))])) _
      refine XS.lushr X17.here hx rfl (hb hby at_166) rfl ?_
      show Steps p.tables e below (T17.setTop (mkF m 167 #[iv p0, iv p1, iv p2, iv p3, iv p4, iv (0 : Int32), iv a, iv b, iv cc, iv dd, rv b14, .val (.long (0 : Int64)), .second, iv (own_b (False)), .unset] [(.long (((0 : Int64).toUInt64 >>> (dd &&& 0x3f).toInt64.toUInt64).toInt64))])) _
      refine XS.lconst X17.here hx rfl (hb hby at_167) ?_
      show Steps p.tables e below (T17.setTop (mkF m 168 #[iv p0, iv p1, iv p2, iv p3, iv p4, iv (0 : Int32), iv a, iv b, iv cc, iv dd, rv b14, .val (.long (0 : Int64)), .second, iv (own_b (False)), .unset] [(.long (1 : Int64)), (.long (((0 : Int64).toUInt64 >>> (dd &&& 0x3f).toInt64.toUInt64).toInt64))])) _
      refine XS.land X17.here hx rfl (hb hby at_168) rfl ?_
      show Steps p.tables e below (T17.setTop (mkF m 169 #[iv p0, iv p1, iv p2, iv p3, iv p4, iv (0 : Int32), iv a, iv b, iv cc, iv dd, rv b14, .val (.long (0 : Int64)), .second, iv (own_b (False)), .unset] [(.long ((((0 : Int64).toUInt64 >>> (dd &&& 0x3f).toInt64.toUInt64).toInt64) &&& (1 : Int64)))])) _
      refine XS.lconst X17.here hx rfl (hb hby at_169) ?_
      show Steps p.tables e below (T17.setTop (mkF m 170 #[iv p0, iv p1, iv p2, iv p3, iv p4, iv (0 : Int32), iv a, iv b, iv cc, iv dd, rv b14, .val (.long (0 : Int64)), .second, iv (own_b (False)), .unset] [(.long (1 : Int64)), (.long ((((0 : Int64).toUInt64 >>> (dd &&& 0x3f).toInt64.toUInt64).toInt64) &&& (1 : Int64)))])) _
      refine XS.lcmp X17.here hx rfl (hb hby at_170) rfl ?_
      by_cases hm1 : (lcmpW ((((0 : Int64).toUInt64 >>> (dd &&& 0x3f).toInt64.toUInt64).toInt64) &&& (1 : Int64)) (1 : Int64)) = (0 : Int32)
      · skip
        show Steps p.tables e below (T17.setTop (mkF m 171 #[iv p0, iv p1, iv p2, iv p3, iv p4, iv (0 : Int32), iv a, iv b, iv cc, iv dd, rv b14, .val (.long (0 : Int64)), .second, iv (own_b (False)), .unset] [(.int (lcmpW ((((0 : Int64).toUInt64 >>> (dd &&& 0x3f).toInt64.toUInt64).toInt64) &&& (1 : Int64)) (1 : Int64)))])) _
        refine XS.ifNo X17.here hx rfl (hb hby at_171) rfl ((if0 _ _).trans (teq hm1).2) ?_
        show Steps p.tables e below (T17.setTop (mkF m 174 #[iv p0, iv p1, iv p2, iv p3, iv p4, iv (0 : Int32), iv a, iv b, iv cc, iv dd, rv b14, .val (.long (0 : Int64)), .second, iv (own_b (False)), .unset] [])) _
        refine XS.iconst X17.here hx rfl (hb hby at_174) ?_
        show Steps p.tables e below (T17.setTop (mkF m 175 #[iv p0, iv p1, iv p2, iv p3, iv p4, iv (0 : Int32), iv a, iv b, iv cc, iv dd, rv b14, .val (.long (0 : Int64)), .second, iv (own_b (False)), .unset] [(.int (1 : Int32))])) _
        refine XS.goto X17.here hx rfl (pc0 := 175) (pc' := 179) rfl (hb hby at_175) (by decide) (by decide) ?_
        have hv : (own_b (own_bit (0 : Int64) dd = 1)) = (1 : Int32) := by (try simp only [lw_eq] at hm1); (first | (change own_bit (0 : Int64) dd = 1 at hm1) | (change ¬ own_bit (0 : Int64) dd = 1 at hm1)); first | exact if_pos hm1 | exact if_neg hm1
        rw [hv] at k
        exact k
      · skip
        show Steps p.tables e below (T17.setTop (mkF m 171 #[iv p0, iv p1, iv p2, iv p3, iv p4, iv (0 : Int32), iv a, iv b, iv cc, iv dd, rv b14, .val (.long (0 : Int64)), .second, iv (own_b (False)), .unset] [(.int (lcmpW ((((0 : Int64).toUInt64 >>> (dd &&& 0x3f).toInt64.toUInt64).toInt64) &&& (1 : Int64)) (1 : Int64)))])) _
        refine XS.ifYes X17.here hx rfl (pc0 := 171) (pc' := 178) rfl (hb hby at_171) rfl ((if0 _ _).trans (feq hm1).2) (by decide) (by decide) ?_
        show Steps p.tables e below (T17.setTop (mkF m 178 #[iv p0, iv p1, iv p2, iv p3, iv p4, iv (0 : Int32), iv a, iv b, iv cc, iv dd, rv b14, .val (.long (0 : Int64)), .second, iv (own_b (False)), .unset] [])) _
        refine XS.iconst X17.here hx rfl (hb hby at_178) ?_
        have hv : (own_b (own_bit (0 : Int64) dd = 1)) = (0 : Int32) := by (try simp only [lw_eq] at hm1); (first | (change own_bit (0 : Int64) dd = 1 at hm1) | (change ¬ own_bit (0 : Int64) dd = 1 at hm1)); first | exact if_pos hm1 | exact if_neg hm1
        rw [hv] at k
        exact k
    have R23 : ∀ t, Steps p.tables e below (T17.setTop (mkF m 193 #[iv p0, iv p1, iv p2, iv p3, iv p4, iv (0 : Int32), iv a, iv b, iv cc, iv dd, rv b14, .val (.long (0 : Int64)), .second, iv (own_b (False)), iv (own_b (own_bit (0 : Int64) dd = 1))] [(.int (1 : Int32))])) t → Steps p.tables e below (s₁.setTop f0) t := fun t k => R22 t (by
      show Steps p.tables e below (T17.setTop (mkF m 179 #[iv p0, iv p1, iv p2, iv p3, iv p4, iv (0 : Int32), iv a, iv b, iv cc, iv dd, rv b14, .val (.long (0 : Int64)), .second, iv (own_b (False)), .unset] [(.int (own_b (own_bit (0 : Int64) dd = 1)))])) _
      refine XS.istore X17.here hx rfl (hb hby at_179) rfl (l' := #[iv p0, iv p1, iv p2, iv p3, iv p4, iv (0 : Int32), iv a, iv b, iv cc, iv dd, rv b14, .val (.long (0 : Int64)), .second, iv (own_b (False)), iv (own_b (own_bit (0 : Int64) dd = 1))]) rfl ?_
      show Steps p.tables e below (T17.setTop (mkF m 181 #[iv p0, iv p1, iv p2, iv p3, iv p4, iv (0 : Int32), iv a, iv b, iv cc, iv dd, rv b14, .val (.long (0 : Int64)), .second, iv (own_b (False)), iv (own_b (own_bit (0 : Int64) dd = 1))] [])) _
      refine XS.iload X17.here hx rfl (hb hby at_181) rfl  ?_
      show Steps p.tables e below (T17.setTop (mkF m 183 #[iv p0, iv p1, iv p2, iv p3, iv p4, iv (0 : Int32), iv a, iv b, iv cc, iv dd, rv b14, .val (.long (0 : Int64)), .second, iv (own_b (False)), iv (own_b (own_bit (0 : Int64) dd = 1))] [(.int (own_b (own_bit (0 : Int64) dd = 1)))])) _
      refine XS.iload X17.here hx rfl (hb hby at_183) rfl  ?_
      show Steps p.tables e below (T17.setTop (mkF m 185 #[iv p0, iv p1, iv p2, iv p3, iv p4, iv (0 : Int32), iv a, iv b, iv cc, iv dd, rv b14, .val (.long (0 : Int64)), .second, iv (own_b (False)), iv (own_b (own_bit (0 : Int64) dd = 1))] [(.int (own_b (False))), (.int (own_b (own_bit (0 : Int64) dd = 1)))])) _
      refine XS.icmpNo X17.here hx rfl (hb hby at_185) rfl (teq (own_st0  dd e_dd : (own_b (own_bit (0 : Int64) dd = 1)) = (own_b (False)))).2 ?_
      show Steps p.tables e below (T17.setTop (mkF m 188 #[iv p0, iv p1, iv p2, iv p3, iv p4, iv (0 : Int32), iv a, iv b, iv cc, iv dd, rv b14, .val (.long (0 : Int64)), .second, iv (own_b (False)), iv (own_b (own_bit (0 : Int64) dd = 1))] [])) _
      refine XS.iconst X17.here hx rfl (hb hby at_188) ?_
      show Steps p.tables e below (T17.setTop (mkF m 189 #[iv p0, iv p1, iv p2, iv p3, iv p4, iv (0 : Int32), iv a, iv b, iv cc, iv dd, rv b14, .val (.long (0 : Int64)), .second, iv (own_b (False)), iv (own_b (own_bit (0 : Int64) dd = 1))] [(.int (1 : Int32))])) _
      refine XS.goto X17.here hx rfl (pc0 := 189) (pc' := 193) rfl (hb hby at_189) (by decide) (by decide) ?_
      exact k)
    obtain ⟨fs, hr, hrun, hended, hW, hsame⟩ := X17.leave (v := some (.int (1 : Int32))) (fun h => by rw [Bd.returns] at h; cases h)
    refine ⟨_, _, pre0 _ (R23 _ ?_), hrun, hended, _, _, rfl, ?_, ⟨_, rfl⟩, hW, hsame.mono (by decide) (by decide)⟩
    · show Steps p.tables e below (T17.setTop (mkF m 193 #[iv p0, iv p1, iv p2, iv p3, iv p4, iv (0 : Int32), iv a, iv b, iv cc, iv dd, rv b14, .val (.long (0 : Int64)), .second, iv (own_b (False)), iv (own_b (own_bit (0 : Int64) dd = 1))] [(.int (1 : Int32))])) _
      exact retN X17 hx (t := .boolean) Bd.returns (by simp) (hb hby at_193) hr
    · show Q_rmLaw Z p0 p1 p2 p3 p4 h0 n0 _ T17.heap _
      rw [p17_0]
      exact ⟨rfl, N17⟩
  · skip
    have R24 : ∀ t, Steps p.tables e below (s₁.setTop (mkF m 33 #[iv p0, iv p1, iv p2, iv p3, iv p4, iv (1 : Int32), iv a, iv b, iv cc, iv dd, .unset, .unset, .unset, .unset, .unset] [])) t → Steps p.tables e below (s₁.setTop f0) t := by have q := R11; rw [(hn : n = (1 : Int32))] at q; exact q
    have R25 : ∀ t, Steps p.tables e below (s₁.setTop (mkF m 53 #[iv p0, iv p1, iv p2, iv p3, iv p4, iv (1 : Int32), iv a, iv b, iv cc, iv dd, .unset, .unset, .unset, .unset, .unset] [(.int (1 : Int32))])) t → Steps p.tables e below (s₁.setTop f0) t := fun t k => R24 t (by
      show Steps p.tables e below (s₁.setTop (mkF m 33 #[iv p0, iv p1, iv p2, iv p3, iv p4, iv (1 : Int32), iv a, iv b, iv cc, iv dd, .unset, .unset, .unset, .unset, .unset] [])) _
      refine XS.iload X0.here hx rfl (hb hby at_33) rfl  ?_
      show Steps p.tables e below (s₁.setTop (mkF m 35 #[iv p0, iv p1, iv p2, iv p3, iv p4, iv (1 : Int32), iv a, iv b, iv cc, iv dd, .unset, .unset, .unset, .unset, .unset] [(.int (1 : Int32))])) _
      refine XS.ifYes X0.here hx rfl (pc0 := 35) (pc' := 46) rfl (hb hby at_35) rfl ((if0 _ _).trans (feq (by decide : ¬ ((1 : Int32) = (0 : Int32)))).2) (by decide) (by decide) ?_
      show Steps p.tables e below (s₁.setTop (mkF m 46 #[iv p0, iv p1, iv p2, iv p3, iv p4, iv (1 : Int32), iv a, iv b, iv cc, iv dd, .unset, .unset, .unset, .unset, .unset] [])) _
      refine XS.iload X0.here hx rfl (hb hby at_46) rfl  ?_
      show Steps p.tables e below (s₁.setTop (mkF m 48 #[iv p0, iv p1, iv p2, iv p3, iv p4, iv (1 : Int32), iv a, iv b, iv cc, iv dd, .unset, .unset, .unset, .unset, .unset] [(.int (1 : Int32))])) _
      refine XS.iconst X0.here hx rfl (hb hby at_48) ?_
      show Steps p.tables e below (s₁.setTop (mkF m 49 #[iv p0, iv p1, iv p2, iv p3, iv p4, iv (1 : Int32), iv a, iv b, iv cc, iv dd, .unset, .unset, .unset, .unset, .unset] [(.int (1 : Int32)), (.int (1 : Int32))])) _
      refine XS.icmpNo X0.here hx rfl (hb hby at_49) rfl (teq (by decide : (1 : Int32) = (1 : Int32))).2 ?_
      show Steps p.tables e below (s₁.setTop (mkF m 52 #[iv p0, iv p1, iv p2, iv p3, iv p4, iv (1 : Int32), iv a, iv b, iv cc, iv dd, .unset, .unset, .unset, .unset, .unset] [])) _
      refine XS.iconst X0.here hx rfl (hb hby at_52) ?_
      exact k)
    obtain ⟨T26, h26, k26, X26, e26, E26, A26, st26⟩ := newP X0 hx hZ (hw _ (List.mem_of_getElem? (i := 0) rfl)) e0 (g := (mkF m 53 #[iv p0, iv p1, iv p2, iv p3, iv p4, iv (1 : Int32), iv a, iv b, iv cc, iv dd, .unset, .unset, .unset, .unset, .unset] [(.int (1 : Int32))])) rfl (hb hby at_53) rfl (by decide) (cap := 1) (by decide) (by decide) (by decide) (by decide)
    obtain ⟨b26, g26⟩ : ∃ z, z = h0.size := ⟨_, rfl⟩
    rw [← g26] at A26 st26
    have g_b26 : n0 ≤ b26 := Nat.le_trans Z0 (Nat.le_of_eq g26.symm)
    have sz_b26 : h0.size ≤ b26 := Nat.le_trans (Keep.refl h0 []).1 (Nat.le_of_eq g26.symm)
    have z26 : n0 ≤ h26.size := Nat.le_trans Z0 E26.1
    have K26 : Keep h0 h26 [] := (Keep.refl h0 []).ext E26
    have v26 : Arv Z h26 b26 k26 .char (1 : Int32) [(.int (0 : Int32))] (.int (0 : Int32)) := (Arv.new A26 (by decide)).pad (pad_rep [] (.int (0 : Int32)) 1)
    have R27 : ∀ t, Steps p.tables e below (T26.setTop (mkF m 55 #[iv p0, iv p1, iv p2, iv p3, iv p4, iv (1 : Int32), iv a, iv b, iv cc, iv dd, .unset, .unset, .unset, .unset, .unset] [(.ref b26)])) t → Steps p.tables e below (s₁.setTop f0) t := fun t k => R25 t (st26 t k)
    have R28 : ∀ t, Steps p.tables e below (T26.setTop (mkF m 59 #[iv p0, iv p1, iv p2, iv p3, iv p4, iv (1 : Int32), iv a, iv b, iv cc, iv dd, .unset, .unset, .unset, .unset, .unset] [(.int a), (.int (0 : Int32)), (.ref b26), (.ref b26)])) t → Steps p.tables e below (s₁.setTop f0) t := fun t k => R27 t (by
      show Steps p.tables e below (T26.setTop (mkF m 55 #[iv p0, iv p1, iv p2, iv p3, iv p4, iv (1 : Int32), iv a, iv b, iv cc, iv dd, .unset, .unset, .unset, .unset, .unset] [(.ref b26)])) _
      refine XS.dup X26.here hx rfl (hb hby at_55) rfl rfl ?_
      show Steps p.tables e below (T26.setTop (mkF m 56 #[iv p0, iv p1, iv p2, iv p3, iv p4, iv (1 : Int32), iv a, iv b, iv cc, iv dd, .unset, .unset, .unset, .unset, .unset] [(.ref b26), (.ref b26)])) _
      refine XS.iconst X26.here hx rfl (hb hby at_56) ?_
      show Steps p.tables e below (T26.setTop (mkF m 57 #[iv p0, iv p1, iv p2, iv p3, iv p4, iv (1 : Int32), iv a, iv b, iv cc, iv dd, .unset, .unset, .unset, .unset, .unset] [(.int (0 : Int32)), (.ref b26), (.ref b26)])) _
      refine XS.iload X26.here hx rfl (hb hby at_57) rfl  ?_
      exact k)
    obtain ⟨cl29, Ar29, q29, S29, n29_, H29, G29⟩ := id v26
    have hin29 : ¬ ((0 : Int32) < 0 ∨ cl29.slots.size ≤ ((0 : Int32)).toNatClampNeg) := inb_of S29 ⟨by decide, by decide⟩
    obtain ⟨T29, h29, X29, e29, W29, st29⟩ := stC X26 hx hZ e26 Ar29 (j := (0 : Int32)) hin29 (g := (mkF m 59 #[iv p0, iv p1, iv p2, iv p3, iv p4, iv (1 : Int32), iv a, iv b, iv cc, iv dd, .unset, .unset, .unset, .unset, .unset] [(.int a), (.int (0 : Int32)), (.ref b26), (.ref b26)])) rfl rfl (hb hby at_59)
    have z29 : n0 ≤ h29.size := by rw [W29.size]; exact z26
    have K29 : Keep h0 h29 [] := K26.wr W29 (Or.inr sz_b26)
    have v29 : Arv Z h29 b26 k26 .char (1 : Int32) [(.int (nar .char a))] (.int (0 : Int32)) := Arv.set Ar29 q29 S29 n29_ H29 G29 (fits_nar_char _) W29 0 rfl (Nat.le_of_ble_eq_true rfl)
    have N29 := Fr.snoc X29 N0 g_b26
    have R30 : ∀ t, Steps p.tables e below (T29.setTop (mkF m 60 #[iv p0, iv p1, iv p2, iv p3, iv p4, iv (1 : Int32), iv a, iv b, iv cc, iv dd, .unset, .unset, .unset, .unset, .unset] [(.ref b26)])) t → Steps p.tables e below (s₁.setTop f0) t := fun t k => R28 t (st29 t k)
    have R31 : ∀ t, Steps p.tables e below (T29.setTop (mkF m 111 #[iv p0, iv p1, iv p2, iv p3, iv p4, iv (1 : Int32), iv a, iv b, iv cc, iv dd, rv b26, .unset, .unset, .unset, .unset] [(.ref b26)])) t → Steps p.tables e below (s₁.setTop f0) t := fun t k => R30 t (by
      show Steps p.tables e below (T29.setTop (mkF m 60 #[iv p0, iv p1, iv p2, iv p3, iv p4, iv (1 : Int32), iv a, iv b, iv cc, iv dd, .unset, .unset, .unset, .unset, .unset] [(.ref b26)])) _
      refine XS.astore X29.here hx rfl (hb hby at_60) rfl rfl (l' := #[iv p0, iv p1, iv p2, iv p3, iv p4, iv (1 : Int32), iv a, iv b, iv cc, iv dd, rv b26, .unset, .unset, .unset, .unset]) rfl ?_
      show Steps p.tables e below (T29.setTop (mkF m 62 #[iv p0, iv p1, iv p2, iv p3, iv p4, iv (1 : Int32), iv a, iv b, iv cc, iv dd, rv b26, .unset, .unset, .unset, .unset] [])) _
      refine XS.goto X29.here hx rfl (pc0 := 62) (pc' := 109) rfl (hb hby at_62) (by decide) (by decide) ?_
      show Steps p.tables e below (T29.setTop (mkF m 109 #[iv p0, iv p1, iv p2, iv p3, iv p4, iv (1 : Int32), iv a, iv b, iv cc, iv dd, rv b26, .unset, .unset, .unset, .unset] [])) _
      refine XS.aload X29.here hx rfl (hb hby at_109) rfl rfl ?_
      exact k)
    obtain ⟨_, _, ⟨T32, L32, k32, n32⟩, -, X32, ⟨Lc32, hQ32, l32, y32, z32⟩, st32⟩ := Jvm.LawKit.callS X29 hx (y := (⟨sN0, "stops", "([C)J"⟩ : MethodName)) hown (mvT hZ (hw _ (List.mem_of_getElem? (i := 1) rfl))) (mvT hZ (hw _ (List.mem_of_getElem? (i := 2) rfl))) (mvT hZ (hw _ (List.mem_of_getElem? (i := 3) rfl))) (mvT hZ (hw _ (List.mem_of_getElem? (i := 4) rfl))) (by decide) (backOf (W := 0) (rmStops1 l Z a0 hw [] b26 k26 (nar .char a) h29 n0 z29 v29) hZ (hw _ (List.mem_of_getElem? (i := 4) rfl)) (hw _ (List.mem_of_getElem? (i := 3) rfl)) (by decide) (by decide)) (g := (mkF m 111 #[iv p0, iv p1, iv p2, iv p3, iv p4, iv (1 : Int32), iv a, iv b, iv cc, iv dd, rv b26, .unset, .unset, .unset, .unset] [(.ref b26)])) rfl (by rw [hml]; rfl) (argsL := [(.ref b26)]) (rest := []) (lenOf pd_2 rfl) rfl (by show 2 * 0 + _ ≤ _; exact Nat.le_of_eq rfl) (hb hby at_111) (fun _ _ => ⟨rfl, e29, (by decide : 1 + 0 ≤ _), (by decide : 1 + 0 ≤ _)⟩)
    dsimp only [Pt.U, Pt.locs, Pt.cells, Pt.slots] at X32 l32 y32 z32 st32 hQ32
    subst l32 y32 z32
    obtain ⟨rfl, N32q, p32_0⟩ := hQ32
    have N32 := Fr.app N29 N32q
    have R33 : ∀ t, Steps p.tables e below (T32.setTop (mkF m 114 #[iv p0, iv p1, iv p2, iv p3, iv p4, iv (1 : Int32), iv a, iv b, iv cc, iv dd, rv b26, .unset, .unset, .unset, .unset] [(.long ((0 : Int64) ||| ((1 : Int64) <<< ((nar .char a) &&& 0x3f).toInt64)))])) t → Steps p.tables e below (s₁.setTop f0) t := fun t k => R31 t (st32 t k)
    have R34 : ∀ t, Steps p.tables e below (T32.setTop (mkF m 116 #[iv p0, iv p1, iv p2, iv p3, iv p4, iv (1 : Int32), iv a, iv b, iv cc, iv dd, rv b26, .val (.long ((0 : Int64) ||| ((1 : Int64) <<< ((nar .char a) &&& 0x3f).toInt64))), .second, .unset, .unset] [])) t → Steps p.tables e below (s₁.setTop f0) t := fun t k => R33 t (by
      show Steps p.tables e below (T32.setTop (mkF m 114 #[iv p0, iv p1, iv p2, iv p3, iv p4, iv (1 : Int32), iv a, iv b, iv cc, iv dd, rv b26, .unset, .unset, .unset, .unset] [(.long ((0 : Int64) ||| ((1 : Int64) <<< ((nar .char a) &&& 0x3f).toInt64)))])) _
      refine XS.lstore X32.here hx rfl (hb hby at_114) rfl (l' := #[iv p0, iv p1, iv p2, iv p3, iv p4, iv (1 : Int32), iv a, iv b, iv cc, iv dd, rv b26, .val (.long ((0 : Int64) ||| ((1 : Int64) <<< ((nar .char a) &&& 0x3f).toInt64))), .second, .unset, .unset]) rfl ?_
      exact k)
    have R35 : ∀ t, Steps p.tables e below (T32.setTop (mkF m 160 #[iv p0, iv p1, iv p2, iv p3, iv p4, iv (1 : Int32), iv a, iv b, iv cc, iv dd, rv b26, .val (.long ((0 : Int64) ||| ((1 : Int64) <<< ((nar .char a) &&& 0x3f).toInt64))), .second, .unset, .unset] [(.int (own_b (dd = a)))])) t → Steps p.tables e below (s₁.setTop f0) t := by
      intro t k
      refine R34 t ?_
      show Steps p.tables e below (T32.setTop (mkF m 116 #[iv p0, iv p1, iv p2, iv p3, iv p4, iv (1 : Int32), iv a, iv b, iv cc, iv dd, rv b26, .val (.long ((0 : Int64) ||| ((1 : Int64) <<< ((nar .char a) &&& 0x3f).toInt64))), .second, .unset, .unset] [])) _
      refine XS.iload X32.here hx rfl (hb hby at_116) rfl  ?_
      show Steps p.tables e below (T32.setTop (mkF m 118 #[iv p0, iv p1, iv p2, iv p3, iv p4, iv (1 : Int32), iv a, iv b, iv cc, iv dd, rv b26, .val (.long ((0 : Int64) ||| ((1 : Int64) <<< ((nar .char a) &&& 0x3f).toInt64))), .second, .unset, .unset] [(.int (1 : Int32))])) _
      refine XS.iconst X32.here hx rfl (hb hby at_118) ?_
      show Steps p.tables e below (T32.setTop (mkF m 119 #[iv p0, iv p1, iv p2, iv p3, iv p4, iv (1 : Int32), iv a, iv b, iv cc, iv dd, rv b26, .val (.long ((0 : Int64) ||| ((1 : Int64) <<< ((nar .char a) &&& 0x3f).toInt64))), .second, .unset, .unset] [(.int (1 : Int32)), (.int (1 : Int32))])) _
      refine XS.icmpNo X32.here hx rfl (hb hby at_119) rfl (flt (by decide : ¬ ((1 : Int32) < (1 : Int32)))).1 ?_
      show Steps p.tables e below (T32.setTop (mkF m 122 #[iv p0, iv p1, iv p2, iv p3, iv p4, iv (1 : Int32), iv a, iv b, iv cc, iv dd, rv b26, .val (.long ((0 : Int64) ||| ((1 : Int64) <<< ((nar .char a) &&& 0x3f).toInt64))), .second, .unset, .unset] [])) _
      refine XS.iload X32.here hx rfl (hb hby at_122) rfl  ?_
      show Steps p.tables e below (T32.setTop (mkF m 124 #[iv p0, iv p1, iv p2, iv p3, iv p4, iv (1 : Int32), iv a, iv b, iv cc, iv dd, rv b26, .val (.long ((0 : Int64) ||| ((1 : Int64) <<< ((nar .char a) &&& 0x3f).toInt64))), .second, .unset, .unset] [(.int dd)])) _
      refine XS.iload X32.here hx rfl (hb hby at_124) rfl  ?_
      by_cases hm1 : dd = a
      · skip
        show Steps p.tables e below (T32.setTop (mkF m 126 #[iv p0, iv p1, iv p2, iv p3, iv p4, iv (1 : Int32), iv a, iv b, iv cc, iv dd, rv b26, .val (.long ((0 : Int64) ||| ((1 : Int64) <<< ((nar .char a) &&& 0x3f).toInt64))), .second, .unset, .unset] [(.int a), (.int dd)])) _
        refine XS.icmpYes X32.here hx rfl (pc0 := 126) (pc' := 155) rfl (hb hby at_126) rfl (teq hm1).1 (by decide) (by decide) ?_
        show Steps p.tables e below (T32.setTop (mkF m 155 #[iv p0, iv p1, iv p2, iv p3, iv p4, iv (1 : Int32), iv a, iv b, iv cc, iv dd, rv b26, .val (.long ((0 : Int64) ||| ((1 : Int64) <<< ((nar .char a) &&& 0x3f).toInt64))), .second, .unset, .unset] [])) _
        refine XS.iconst X32.here hx rfl (hb hby at_155) ?_
        show Steps p.tables e below (T32.setTop (mkF m 156 #[iv p0, iv p1, iv p2, iv p3, iv p4, iv (1 : Int32), iv a, iv b, iv cc, iv dd, rv b26, .val (.long ((0 : Int64) ||| ((1 : Int64) <<< ((nar .char a) &&& 0x3f).toInt64))), .second, .unset, .unset] [(.int (1 : Int32))])) _
        refine XS.goto X32.here hx rfl (pc0 := 156) (pc' := 160) rfl (hb hby at_156) (by decide) (by decide) ?_
        have hv : (own_b (dd = a)) = (1 : Int32) := by (try simp only [lw_gt, lw_lt, lw_eq] at hm1); simp [own_b, hm1]
        rw [hv] at k
        exact k
      · skip
        show Steps p.tables e below (T32.setTop (mkF m 126 #[iv p0, iv p1, iv p2, iv p3, iv p4, iv (1 : Int32), iv a, iv b, iv cc, iv dd, rv b26, .val (.long ((0 : Int64) ||| ((1 : Int64) <<< ((nar .char a) &&& 0x3f).toInt64))), .second, .unset, .unset] [(.int a), (.int dd)])) _
        refine XS.icmpNo X32.here hx rfl (hb hby at_126) rfl (feq hm1).1 ?_
        show Steps p.tables e below (T32.setTop (mkF m 129 #[iv p0, iv p1, iv p2, iv p3, iv p4, iv (1 : Int32), iv a, iv b, iv cc, iv dd, rv b26, .val (.long ((0 : Int64) ||| ((1 : Int64) <<< ((nar .char a) &&& 0x3f).toInt64))), .second, .unset, .unset] [])) _
        refine XS.iload X32.here hx rfl (hb hby at_129) rfl  ?_
        show Steps p.tables e below (T32.setTop (mkF m 131 #[iv p0, iv p1, iv p2, iv p3, iv p4, iv (1 : Int32), iv a, iv b, iv cc, iv dd, rv b26, .val (.long ((0 : Int64) ||| ((1 : Int64) <<< ((nar .char a) &&& 0x3f).toInt64))), .second, .unset, .unset] [(.int (1 : Int32))])) _
        refine XS.iconst X32.here hx rfl (hb hby at_131) ?_
        show Steps p.tables e below (T32.setTop (mkF m 132 #[iv p0, iv p1, iv p2, iv p3, iv p4, iv (1 : Int32), iv a, iv b, iv cc, iv dd, rv b26, .val (.long ((0 : Int64) ||| ((1 : Int64) <<< ((nar .char a) &&& 0x3f).toInt64))), .second, .unset, .unset] [(.int (2 : Int32)), (.int (1 : Int32))])) _
        refine XS.icmpYes X32.here hx rfl (pc0 := 132) (pc' := 142) rfl (hb hby at_132) rfl (tlt (by decide : (1 : Int32) < (2 : Int32))).1 (by decide) (by decide) ?_
        show Steps p.tables e below (T32.setTop (mkF m 142 #[iv p0, iv p1, iv p2, iv p3, iv p4, iv (1 : Int32), iv a, iv b, iv cc, iv dd, rv b26, .val (.long ((0 : Int64) ||| ((1 : Int64) <<< ((nar .char a) &&& 0x3f).toInt64))), .second, .unset, .unset] [])) _
        refine XS.iload X32.here hx rfl (hb hby at_142) rfl  ?_
        show Steps p.tables e below (T32.setTop (mkF m 144 #[iv p0, iv p1, iv p2, iv p3, iv p4, iv (1 : Int32), iv a, iv b, iv cc, iv dd, rv b26, .val (.long ((0 : Int64) ||| ((1 : Int64) <<< ((nar .char a) &&& 0x3f).toInt64))), .second, .unset, .unset] [(.int (1 : Int32))])) _
        refine XS.iconst X32.here hx rfl (hb hby at_144) ?_
        show Steps p.tables e below (T32.setTop (mkF m 145 #[iv p0, iv p1, iv p2, iv p3, iv p4, iv (1 : Int32), iv a, iv b, iv cc, iv dd, rv b26, .val (.long ((0 : Int64) ||| ((1 : Int64) <<< ((nar .char a) &&& 0x3f).toInt64))), .second, .unset, .unset] [(.int (3 : Int32)), (.int (1 : Int32))])) _
        refine XS.icmpYes X32.here hx rfl (pc0 := 145) (pc' := 159) rfl (hb hby at_145) rfl (tlt (by decide : (1 : Int32) < (3 : Int32))).1 (by decide) (by decide) ?_
        show Steps p.tables e below (T32.setTop (mkF m 159 #[iv p0, iv p1, iv p2, iv p3, iv p4, iv (1 : Int32), iv a, iv b, iv cc, iv dd, rv b26, .val (.long ((0 : Int64) ||| ((1 : Int64) <<< ((nar .char a) &&& 0x3f).toInt64))), .second, .unset, .unset] [])) _
        refine XS.iconst X32.here hx rfl (hb hby at_159) ?_
        have hv : (own_b (dd = a)) = (0 : Int32) := by (try simp only [lw_gt, lw_lt, lw_eq] at hm1); simp [own_b, hm1]
        rw [hv] at k
        exact k
    have R36 : ∀ t, Steps p.tables e below (T32.setTop (mkF m 162 #[iv p0, iv p1, iv p2, iv p3, iv p4, iv (1 : Int32), iv a, iv b, iv cc, iv dd, rv b26, .val (.long ((0 : Int64) ||| ((1 : Int64) <<< ((nar .char a) &&& 0x3f).toInt64))), .second, iv (own_b (dd = a)), .unset] [])) t → Steps p.tables e below (s₁.setTop f0) t := fun t k => R35 t (by
      show Steps p.tables e below (T32.setTop (mkF m 160 #[iv p0, iv p1, iv p2, iv p3, iv p4, iv (1 : Int32), iv a, iv b, iv cc, iv dd, rv b26, .val (.long ((0 : Int64) ||| ((1 : Int64) <<< ((nar .char a) &&& 0x3f).toInt64))), .second, .unset, .unset] [(.int (own_b (dd = a)))])) _
      refine XS.istore X32.here hx rfl (hb hby at_160) rfl (l' := #[iv p0, iv p1, iv p2, iv p3, iv p4, iv (1 : Int32), iv a, iv b, iv cc, iv dd, rv b26, .val (.long ((0 : Int64) ||| ((1 : Int64) <<< ((nar .char a) &&& 0x3f).toInt64))), .second, iv (own_b (dd = a)), .unset]) rfl ?_
      exact k)
    have R37 : ∀ t, Steps p.tables e below (T32.setTop (mkF m 179 #[iv p0, iv p1, iv p2, iv p3, iv p4, iv (1 : Int32), iv a, iv b, iv cc, iv dd, rv b26, .val (.long ((0 : Int64) ||| ((1 : Int64) <<< ((nar .char a) &&& 0x3f).toInt64))), .second, iv (own_b (dd = a)), .unset] [(.int (own_b (own_bit ((0 : Int64) ||| ((1 : Int64) <<< ((nar .char a) &&& 0x3f).toInt64)) dd = 1)))])) t → Steps p.tables e below (s₁.setTop f0) t := by
      intro t k
      refine R36 t ?_
      show Steps p.tables e below (T32.setTop (mkF m 162 #[iv p0, iv p1, iv p2, iv p3, iv p4, iv (1 : Int32), iv a, iv b, iv cc, iv dd, rv b26, .val (.long ((0 : Int64) ||| ((1 : Int64) <<< ((nar .char a) &&& 0x3f).toInt64))), .second, iv (own_b (dd = a)), .unset] [])) _
      refine XS.lload X32.here hx rfl (hb hby at_162) rfl  ?_
      show Steps p.tables e below (T32.setTop (mkF m 164 #[iv p0, iv p1, iv p2, iv p3, iv p4, iv (1 : Int32), iv a, iv b, iv cc, iv dd, rv b26, .val (.long ((0 : Int64) ||| ((1 : Int64) <<< ((nar .char a) &&& 0x3f).toInt64))), .second, iv (own_b (dd = a)), .unset] [(.long ((0 : Int64) ||| ((1 : Int64) <<< ((nar .char a) &&& 0x3f).toInt64)))])) _
      refine XS.iload X32.here hx rfl (hb hby at_164) rfl  ?_
      show Steps p.tables e below (T32.setTop (mkF m 166 #[iv p0, iv p1, iv p2, iv p3, iv p4, iv (1 : Int32), iv a, iv b, iv cc, iv dd, rv b26, .val (.long ((0 : Int64) ||| ((1 : Int64) <<< ((nar .char a) &&& 0x3f).toInt64))), .second, iv (own_b (dd = a)), .unset] [(.int dd), (.long ((0 : Int64) ||| ((1 : Int64) <<< ((nar .char a) &&& 0x3f).toInt64)))])) _
      refine XS.lushr X32.here hx rfl (hb hby at_166) rfl ?_
      show Steps p.tables e below (T32.setTop (mkF m 167 #[iv p0, iv p1, iv p2, iv p3, iv p4, iv (1 : Int32), iv a, iv b, iv cc, iv dd, rv b26, .val (.long ((0 : Int64) ||| ((1 : Int64) <<< ((nar .char a) &&& 0x3f).toInt64))), .second, iv (own_b (dd = a)), .unset] [(.long ((((0 : Int64) ||| ((1 : Int64) <<< ((nar .char a) &&& 0x3f).toInt64)).toUInt64 >>> (dd &&& 0x3f).toInt64.toUInt64).toInt64))])) _
      refine XS.lconst X32.here hx rfl (hb hby at_167) ?_
      show Steps p.tables e below (T32.setTop (mkF m 168 #[iv p0, iv p1, iv p2, iv p3, iv p4, iv (1 : Int32), iv a, iv b, iv cc, iv dd, rv b26, .val (.long ((0 : Int64) ||| ((1 : Int64) <<< ((nar .char a) &&& 0x3f).toInt64))), .second, iv (own_b (dd = a)), .unset] [(.long (1 : Int64)), (.long ((((0 : Int64) ||| ((1 : Int64) <<< ((nar .char a) &&& 0x3f).toInt64)).toUInt64 >>> (dd &&& 0x3f).toInt64.toUInt64).toInt64))])) _
      refine XS.land X32.here hx rfl (hb hby at_168) rfl ?_
      show Steps p.tables e below (T32.setTop (mkF m 169 #[iv p0, iv p1, iv p2, iv p3, iv p4, iv (1 : Int32), iv a, iv b, iv cc, iv dd, rv b26, .val (.long ((0 : Int64) ||| ((1 : Int64) <<< ((nar .char a) &&& 0x3f).toInt64))), .second, iv (own_b (dd = a)), .unset] [(.long (((((0 : Int64) ||| ((1 : Int64) <<< ((nar .char a) &&& 0x3f).toInt64)).toUInt64 >>> (dd &&& 0x3f).toInt64.toUInt64).toInt64) &&& (1 : Int64)))])) _
      refine XS.lconst X32.here hx rfl (hb hby at_169) ?_
      show Steps p.tables e below (T32.setTop (mkF m 170 #[iv p0, iv p1, iv p2, iv p3, iv p4, iv (1 : Int32), iv a, iv b, iv cc, iv dd, rv b26, .val (.long ((0 : Int64) ||| ((1 : Int64) <<< ((nar .char a) &&& 0x3f).toInt64))), .second, iv (own_b (dd = a)), .unset] [(.long (1 : Int64)), (.long (((((0 : Int64) ||| ((1 : Int64) <<< ((nar .char a) &&& 0x3f).toInt64)).toUInt64 >>> (dd &&& 0x3f).toInt64.toUInt64).toInt64) &&& (1 : Int64)))])) _
      refine XS.lcmp X32.here hx rfl (hb hby at_170) rfl ?_
      by_cases hm1 : (lcmpW (((((0 : Int64) ||| ((1 : Int64) <<< ((nar .char a) &&& 0x3f).toInt64)).toUInt64 >>> (dd &&& 0x3f).toInt64.toUInt64).toInt64) &&& (1 : Int64)) (1 : Int64)) = (0 : Int32)
      · skip
        show Steps p.tables e below (T32.setTop (mkF m 171 #[iv p0, iv p1, iv p2, iv p3, iv p4, iv (1 : Int32), iv a, iv b, iv cc, iv dd, rv b26, .val (.long ((0 : Int64) ||| ((1 : Int64) <<< ((nar .char a) &&& 0x3f).toInt64))), .second, iv (own_b (dd = a)), .unset] [(.int (lcmpW (((((0 : Int64) ||| ((1 : Int64) <<< ((nar .char a) &&& 0x3f).toInt64)).toUInt64 >>> (dd &&& 0x3f).toInt64.toUInt64).toInt64) &&& (1 : Int64)) (1 : Int64)))])) _
        refine XS.ifNo X32.here hx rfl (hb hby at_171) rfl ((if0 _ _).trans (teq hm1).2) ?_
        show Steps p.tables e below (T32.setTop (mkF m 174 #[iv p0, iv p1, iv p2, iv p3, iv p4, iv (1 : Int32), iv a, iv b, iv cc, iv dd, rv b26, .val (.long ((0 : Int64) ||| ((1 : Int64) <<< ((nar .char a) &&& 0x3f).toInt64))), .second, iv (own_b (dd = a)), .unset] [])) _
        refine XS.iconst X32.here hx rfl (hb hby at_174) ?_
        show Steps p.tables e below (T32.setTop (mkF m 175 #[iv p0, iv p1, iv p2, iv p3, iv p4, iv (1 : Int32), iv a, iv b, iv cc, iv dd, rv b26, .val (.long ((0 : Int64) ||| ((1 : Int64) <<< ((nar .char a) &&& 0x3f).toInt64))), .second, iv (own_b (dd = a)), .unset] [(.int (1 : Int32))])) _
        refine XS.goto X32.here hx rfl (pc0 := 175) (pc' := 179) rfl (hb hby at_175) (by decide) (by decide) ?_
        have hv : (own_b (own_bit ((0 : Int64) ||| ((1 : Int64) <<< ((nar .char a) &&& 0x3f).toInt64)) dd = 1)) = (1 : Int32) := by (try simp only [lw_eq] at hm1); (first | (change own_bit ((0 : Int64) ||| ((1 : Int64) <<< ((nar .char a) &&& 0x3f).toInt64)) dd = 1 at hm1) | (change ¬ own_bit ((0 : Int64) ||| ((1 : Int64) <<< ((nar .char a) &&& 0x3f).toInt64)) dd = 1 at hm1)); first | exact if_pos hm1 | exact if_neg hm1
        rw [hv] at k
        exact k
      · skip
        show Steps p.tables e below (T32.setTop (mkF m 171 #[iv p0, iv p1, iv p2, iv p3, iv p4, iv (1 : Int32), iv a, iv b, iv cc, iv dd, rv b26, .val (.long ((0 : Int64) ||| ((1 : Int64) <<< ((nar .char a) &&& 0x3f).toInt64))), .second, iv (own_b (dd = a)), .unset] [(.int (lcmpW (((((0 : Int64) ||| ((1 : Int64) <<< ((nar .char a) &&& 0x3f).toInt64)).toUInt64 >>> (dd &&& 0x3f).toInt64.toUInt64).toInt64) &&& (1 : Int64)) (1 : Int64)))])) _
        refine XS.ifYes X32.here hx rfl (pc0 := 171) (pc' := 178) rfl (hb hby at_171) rfl ((if0 _ _).trans (feq hm1).2) (by decide) (by decide) ?_
        show Steps p.tables e below (T32.setTop (mkF m 178 #[iv p0, iv p1, iv p2, iv p3, iv p4, iv (1 : Int32), iv a, iv b, iv cc, iv dd, rv b26, .val (.long ((0 : Int64) ||| ((1 : Int64) <<< ((nar .char a) &&& 0x3f).toInt64))), .second, iv (own_b (dd = a)), .unset] [])) _
        refine XS.iconst X32.here hx rfl (hb hby at_178) ?_
        have hv : (own_b (own_bit ((0 : Int64) ||| ((1 : Int64) <<< ((nar .char a) &&& 0x3f).toInt64)) dd = 1)) = (0 : Int32) := by (try simp only [lw_eq] at hm1); (first | (change own_bit ((0 : Int64) ||| ((1 : Int64) <<< ((nar .char a) &&& 0x3f).toInt64)) dd = 1 at hm1) | (change ¬ own_bit ((0 : Int64) ||| ((1 : Int64) <<< ((nar .char a) &&& 0x3f).toInt64)) dd = 1 at hm1)); first | exact if_pos hm1 | exact if_neg hm1
        rw [hv] at k
        exact k
    have R38 : ∀ t, Steps p.tables e below (T32.setTop (mkF m 193 #[iv p0, iv p1, iv p2, iv p3, iv p4, iv (1 : Int32), iv a, iv b, iv cc, iv dd, rv b26, .val (.long ((0 : Int64) ||| ((1 : Int64) <<< ((nar .char a) &&& 0x3f).toInt64))), .second, iv (own_b (dd = a)), iv (own_b (own_bit ((0 : Int64) ||| ((1 : Int64) <<< ((nar .char a) &&& 0x3f).toInt64)) dd = 1))] [(.int (1 : Int32))])) t → Steps p.tables e below (s₁.setTop f0) t := fun t k => R37 t (by
      show Steps p.tables e below (T32.setTop (mkF m 179 #[iv p0, iv p1, iv p2, iv p3, iv p4, iv (1 : Int32), iv a, iv b, iv cc, iv dd, rv b26, .val (.long ((0 : Int64) ||| ((1 : Int64) <<< ((nar .char a) &&& 0x3f).toInt64))), .second, iv (own_b (dd = a)), .unset] [(.int (own_b (own_bit ((0 : Int64) ||| ((1 : Int64) <<< ((nar .char a) &&& 0x3f).toInt64)) dd = 1)))])) _
      refine XS.istore X32.here hx rfl (hb hby at_179) rfl (l' := #[iv p0, iv p1, iv p2, iv p3, iv p4, iv (1 : Int32), iv a, iv b, iv cc, iv dd, rv b26, .val (.long ((0 : Int64) ||| ((1 : Int64) <<< ((nar .char a) &&& 0x3f).toInt64))), .second, iv (own_b (dd = a)), iv (own_b (own_bit ((0 : Int64) ||| ((1 : Int64) <<< ((nar .char a) &&& 0x3f).toInt64)) dd = 1))]) rfl ?_
      show Steps p.tables e below (T32.setTop (mkF m 181 #[iv p0, iv p1, iv p2, iv p3, iv p4, iv (1 : Int32), iv a, iv b, iv cc, iv dd, rv b26, .val (.long ((0 : Int64) ||| ((1 : Int64) <<< ((nar .char a) &&& 0x3f).toInt64))), .second, iv (own_b (dd = a)), iv (own_b (own_bit ((0 : Int64) ||| ((1 : Int64) <<< ((nar .char a) &&& 0x3f).toInt64)) dd = 1))] [])) _
      refine XS.iload X32.here hx rfl (hb hby at_181) rfl  ?_
      show Steps p.tables e below (T32.setTop (mkF m 183 #[iv p0, iv p1, iv p2, iv p3, iv p4, iv (1 : Int32), iv a, iv b, iv cc, iv dd, rv b26, .val (.long ((0 : Int64) ||| ((1 : Int64) <<< ((nar .char a) &&& 0x3f).toInt64))), .second, iv (own_b (dd = a)), iv (own_b (own_bit ((0 : Int64) ||| ((1 : Int64) <<< ((nar .char a) &&& 0x3f).toInt64)) dd = 1))] [(.int (own_b (own_bit ((0 : Int64) ||| ((1 : Int64) <<< ((nar .char a) &&& 0x3f).toInt64)) dd = 1)))])) _
      refine XS.iload X32.here hx rfl (hb hby at_183) rfl  ?_
      show Steps p.tables e below (T32.setTop (mkF m 185 #[iv p0, iv p1, iv p2, iv p3, iv p4, iv (1 : Int32), iv a, iv b, iv cc, iv dd, rv b26, .val (.long ((0 : Int64) ||| ((1 : Int64) <<< ((nar .char a) &&& 0x3f).toInt64))), .second, iv (own_b (dd = a)), iv (own_b (own_bit ((0 : Int64) ||| ((1 : Int64) <<< ((nar .char a) &&& 0x3f).toInt64)) dd = 1))] [(.int (own_b (dd = a))), (.int (own_b (own_bit ((0 : Int64) ||| ((1 : Int64) <<< ((nar .char a) &&& 0x3f).toInt64)) dd = 1)))])) _
      refine XS.icmpNo X32.here hx rfl (hb hby at_185) rfl (teq (own_st1 a dd e_a e_dd : (own_b (own_bit ((0 : Int64) ||| ((1 : Int64) <<< ((nar .char a) &&& 0x3f).toInt64)) dd = 1)) = (own_b (dd = a)))).2 ?_
      show Steps p.tables e below (T32.setTop (mkF m 188 #[iv p0, iv p1, iv p2, iv p3, iv p4, iv (1 : Int32), iv a, iv b, iv cc, iv dd, rv b26, .val (.long ((0 : Int64) ||| ((1 : Int64) <<< ((nar .char a) &&& 0x3f).toInt64))), .second, iv (own_b (dd = a)), iv (own_b (own_bit ((0 : Int64) ||| ((1 : Int64) <<< ((nar .char a) &&& 0x3f).toInt64)) dd = 1))] [])) _
      refine XS.iconst X32.here hx rfl (hb hby at_188) ?_
      show Steps p.tables e below (T32.setTop (mkF m 189 #[iv p0, iv p1, iv p2, iv p3, iv p4, iv (1 : Int32), iv a, iv b, iv cc, iv dd, rv b26, .val (.long ((0 : Int64) ||| ((1 : Int64) <<< ((nar .char a) &&& 0x3f).toInt64))), .second, iv (own_b (dd = a)), iv (own_b (own_bit ((0 : Int64) ||| ((1 : Int64) <<< ((nar .char a) &&& 0x3f).toInt64)) dd = 1))] [(.int (1 : Int32))])) _
      refine XS.goto X32.here hx rfl (pc0 := 189) (pc' := 193) rfl (hb hby at_189) (by decide) (by decide) ?_
      exact k)
    obtain ⟨fs, hr, hrun, hended, hW, hsame⟩ := X32.leave (v := some (.int (1 : Int32))) (fun h => by rw [Bd.returns] at h; cases h)
    refine ⟨_, _, pre0 _ (R38 _ ?_), hrun, hended, _, _, rfl, ?_, ⟨_, rfl⟩, hW, hsame.mono (by decide) (by decide)⟩
    · show Steps p.tables e below (T32.setTop (mkF m 193 #[iv p0, iv p1, iv p2, iv p3, iv p4, iv (1 : Int32), iv a, iv b, iv cc, iv dd, rv b26, .val (.long ((0 : Int64) ||| ((1 : Int64) <<< ((nar .char a) &&& 0x3f).toInt64))), .second, iv (own_b (dd = a)), iv (own_b (own_bit ((0 : Int64) ||| ((1 : Int64) <<< ((nar .char a) &&& 0x3f).toInt64)) dd = 1))] [(.int (1 : Int32))])) _
      exact retN X32 hx (t := .boolean) Bd.returns (by simp) (hb hby at_193) hr
    · show Q_rmLaw Z p0 p1 p2 p3 p4 h0 n0 _ T32.heap _
      rw [p32_0]
      exact ⟨rfl, N32⟩
  · skip
    have R39 : ∀ t, Steps p.tables e below (s₁.setTop (mkF m 33 #[iv p0, iv p1, iv p2, iv p3, iv p4, iv (2 : Int32), iv a, iv b, iv cc, iv dd, .unset, .unset, .unset, .unset, .unset] [])) t → Steps p.tables e below (s₁.setTop f0) t := by have q := R11; rw [(hn : n = (2 : Int32))] at q; exact q
    have R40 : ∀ t, Steps p.tables e below (s₁.setTop (mkF m 72 #[iv p0, iv p1, iv p2, iv p3, iv p4, iv (2 : Int32), iv a, iv b, iv cc, iv dd, .unset, .unset, .unset, .unset, .unset] [(.int (2 : Int32))])) t → Steps p.tables e below (s₁.setTop f0) t := fun t k => R39 t (by
      show Steps p.tables e below (s₁.setTop (mkF m 33 #[iv p0, iv p1, iv p2, iv p3, iv p4, iv (2 : Int32), iv a, iv b, iv cc, iv dd, .unset, .unset, .unset, .unset, .unset] [])) _
      refine XS.iload X0.here hx rfl (hb hby at_33) rfl  ?_
      show Steps p.tables e below (s₁.setTop (mkF m 35 #[iv p0, iv p1, iv p2, iv p3, iv p4, iv (2 : Int32), iv a, iv b, iv cc, iv dd, .unset, .unset, .unset, .unset, .unset] [(.int (2 : Int32))])) _
      refine XS.ifYes X0.here hx rfl (pc0 := 35) (pc' := 46) rfl (hb hby at_35) rfl ((if0 _ _).trans (feq (by decide : ¬ ((2 : Int32) = (0 : Int32)))).2) (by decide) (by decide) ?_
      show Steps p.tables e below (s₁.setTop (mkF m 46 #[iv p0, iv p1, iv p2, iv p3, iv p4, iv (2 : Int32), iv a, iv b, iv cc, iv dd, .unset, .unset, .unset, .unset, .unset] [])) _
      refine XS.iload X0.here hx rfl (hb hby at_46) rfl  ?_
      show Steps p.tables e below (s₁.setTop (mkF m 48 #[iv p0, iv p1, iv p2, iv p3, iv p4, iv (2 : Int32), iv a, iv b, iv cc, iv dd, .unset, .unset, .unset, .unset, .unset] [(.int (2 : Int32))])) _
      refine XS.iconst X0.here hx rfl (hb hby at_48) ?_
      show Steps p.tables e below (s₁.setTop (mkF m 49 #[iv p0, iv p1, iv p2, iv p3, iv p4, iv (2 : Int32), iv a, iv b, iv cc, iv dd, .unset, .unset, .unset, .unset, .unset] [(.int (1 : Int32)), (.int (2 : Int32))])) _
      refine XS.icmpYes X0.here hx rfl (pc0 := 49) (pc' := 65) rfl (hb hby at_49) rfl (feq (by decide : ¬ ((2 : Int32) = (1 : Int32)))).2 (by decide) (by decide) ?_
      show Steps p.tables e below (s₁.setTop (mkF m 65 #[iv p0, iv p1, iv p2, iv p3, iv p4, iv (2 : Int32), iv a, iv b, iv cc, iv dd, .unset, .unset, .unset, .unset, .unset] [])) _
      refine XS.iload X0.here hx rfl (hb hby at_65) rfl  ?_
      show Steps p.tables e below (s₁.setTop (mkF m 67 #[iv p0, iv p1, iv p2, iv p3, iv p4, iv (2 : Int32), iv a, iv b, iv cc, iv dd, .unset, .unset, .unset, .unset, .unset] [(.int (2 : Int32))])) _
      refine XS.iconst X0.here hx rfl (hb hby at_67) ?_
      show Steps p.tables e below (s₁.setTop (mkF m 68 #[iv p0, iv p1, iv p2, iv p3, iv p4, iv (2 : Int32), iv a, iv b, iv cc, iv dd, .unset, .unset, .unset, .unset, .unset] [(.int (2 : Int32)), (.int (2 : Int32))])) _
      refine XS.icmpNo X0.here hx rfl (hb hby at_68) rfl (teq (by decide : (2 : Int32) = (2 : Int32))).2 ?_
      show Steps p.tables e below (s₁.setTop (mkF m 71 #[iv p0, iv p1, iv p2, iv p3, iv p4, iv (2 : Int32), iv a, iv b, iv cc, iv dd, .unset, .unset, .unset, .unset, .unset] [])) _
      refine XS.iconst X0.here hx rfl (hb hby at_71) ?_
      exact k)
    obtain ⟨T41, h41, k41, X41, e41, E41, A41, st41⟩ := newP X0 hx hZ (hw _ (List.mem_of_getElem? (i := 0) rfl)) e0 (g := (mkF m 72 #[iv p0, iv p1, iv p2, iv p3, iv p4, iv (2 : Int32), iv a, iv b, iv cc, iv dd, .unset, .unset, .unset, .unset, .unset] [(.int (2 : Int32))])) rfl (hb hby at_72) rfl (by decide) (cap := 2) (by decide) (by decide) (by decide) (by decide)
    obtain ⟨b41, g41⟩ : ∃ z, z = h0.size := ⟨_, rfl⟩
    rw [← g41] at A41 st41
    have g_b41 : n0 ≤ b41 := Nat.le_trans Z0 (Nat.le_of_eq g41.symm)
    have sz_b41 : h0.size ≤ b41 := Nat.le_trans (Keep.refl h0 []).1 (Nat.le_of_eq g41.symm)
    have z41 : n0 ≤ h41.size := Nat.le_trans Z0 E41.1
    have K41 : Keep h0 h41 [] := (Keep.refl h0 []).ext E41
    have v41 : Arv Z h41 b41 k41 .char (2 : Int32) [(.int (0 : Int32)), (.int (0 : Int32))] (.int (0 : Int32)) := (Arv.new A41 (by decide)).pad (pad_rep [] (.int (0 : Int32)) 2)
    have R42 : ∀ t, Steps p.tables e below (T41.setTop (mkF m 74 #[iv p0, iv p1, iv p2, iv p3, iv p4, iv (2 : Int32), iv a, iv b, iv cc, iv dd, .unset, .unset, .unset, .unset, .unset] [(.ref b41)])) t → Steps p.tables e below (s₁.setTop f0) t := fun t k => R40 t (st41 t k)
    have R43 : ∀ t, Steps p.tables e below (T41.setTop (mkF m 78 #[iv p0, iv p1, iv p2, iv p3, iv p4, iv (2 : Int32), iv a, iv b, iv cc, iv dd, .unset, .unset, .unset, .unset, .unset] [(.int a), (.int (0 : Int32)), (.ref b41), (.ref b41)])) t → Steps p.tables e below (s₁.setTop f0) t := fun t k => R42 t (by
      show Steps p.tables e below (T41.setTop (mkF m 74 #[iv p0, iv p1, iv p2, iv p3, iv p4, iv (2 : Int32), iv a, iv b, iv cc, iv dd, .unset, .unset, .unset, .unset, .unset] [(.ref b41)])) _
      refine XS.dup X41.here hx rfl (hb hby at_74) rfl rfl ?_
      show Steps p.tables e below (T41.setTop (mkF m 75 #[iv p0, iv p1, iv p2, iv p3, iv p4, iv (2 : Int32), iv a, iv b, iv cc, iv dd, .unset, .unset, .unset, .unset, .unset] [(.ref b41), (.ref b41)])) _
      refine XS.iconst X41.here hx rfl (hb hby at_75) ?_
      show Steps p.tables e below (T41.setTop (mkF m 76 #[iv p0, iv p1, iv p2, iv p3, iv p4, iv (2 : Int32), iv a, iv b, iv cc, iv dd, .unset, .unset, .unset, .unset, .unset] [(.int (0 : Int32)), (.ref b41), (.ref b41)])) _
      refine XS.iload X41.here hx rfl (hb hby at_76) rfl  ?_
      exact k)
    obtain ⟨cl44, Ar44, q44, S44, n44_, H44, G44⟩ := id v41
    have hin44 : ¬ ((0 : Int32) < 0 ∨ cl44.slots.size ≤ ((0 : Int32)).toNatClampNeg) := inb_of S44 ⟨by decide, by decide⟩
    obtain ⟨T44, h44, X44, e44, W44, st44⟩ := stC X41 hx hZ e41 Ar44 (j := (0 : Int32)) hin44 (g := (mkF m 78 #[iv p0, iv p1, iv p2, iv p3, iv p4, iv (2 : Int32), iv a, iv b, iv cc, iv dd, .unset, .unset, .unset, .unset, .unset] [(.int a), (.int (0 : Int32)), (.ref b41), (.ref b41)])) rfl rfl (hb hby at_78)
    have z44 : n0 ≤ h44.size := by rw [W44.size]; exact z41
    have K44 : Keep h0 h44 [] := K41.wr W44 (Or.inr sz_b41)
    have v44 : Arv Z h44 b41 k41 .char (2 : Int32) [(.int (nar .char a)), (.int (0 : Int32))] (.int (0 : Int32)) := Arv.set Ar44 q44 S44 n44_ H44 G44 (fits_nar_char _) W44 0 rfl (Nat.le_of_ble_eq_true rfl)
    have N44 := Fr.snoc X44 N0 g_b41
    have R45 : ∀ t, Steps p.tables e below (T44.setTop (mkF m 79 #[iv p0, iv p1, iv p2, iv p3, iv p4, iv (2 : Int32), iv a, iv b, iv cc, iv dd, .unset, .unset, .unset, .unset, .unset] [(.ref b41)])) t → Steps p.tables e below (s₁.setTop f0) t := fun t k => R43 t (st44 t k)
    have R46 : ∀ t, Steps p.tables e below (T44.setTop (mkF m 83 #[iv p0, iv p1, iv p2, iv p3, iv p4, iv (2 : Int32), iv a, iv b, iv cc, iv dd, .unset, .unset, .unset, .unset, .unset] [(.int b), (.int (1 : Int32)), (.ref b41), (.ref b41)])) t → Steps p.tables e below (s₁.setTop f0) t := fun t k => R45 t (by
      show Steps p.tables e below (T44.setTop (mkF m 79 #[iv p0, iv p1, iv p2, iv p3, iv p4, iv (2 : Int32), iv a, iv b, iv cc, iv dd, .unset, .unset, .unset, .unset, .unset] [(.ref b41)])) _
      refine XS.dup X44.here hx rfl (hb hby at_79) rfl rfl ?_
      show Steps p.tables e below (T44.setTop (mkF m 80 #[iv p0, iv p1, iv p2, iv p3, iv p4, iv (2 : Int32), iv a, iv b, iv cc, iv dd, .unset, .unset, .unset, .unset, .unset] [(.ref b41), (.ref b41)])) _
      refine XS.iconst X44.here hx rfl (hb hby at_80) ?_
      show Steps p.tables e below (T44.setTop (mkF m 81 #[iv p0, iv p1, iv p2, iv p3, iv p4, iv (2 : Int32), iv a, iv b, iv cc, iv dd, .unset, .unset, .unset, .unset, .unset] [(.int (1 : Int32)), (.ref b41), (.ref b41)])) _
      refine XS.iload X44.here hx rfl (hb hby at_81) rfl  ?_
      exact k)
    obtain ⟨cl47, Ar47, q47, S47, n47_, H47, G47⟩ := id v44
    have hin47 : ¬ ((1 : Int32) < 0 ∨ cl47.slots.size ≤ ((1 : Int32)).toNatClampNeg) := inb_of S47 ⟨by decide, by decide⟩
    obtain ⟨T47, h47, X47, e47, W47, st47⟩ := stC X44 hx hZ e44 Ar47 (j := (1 : Int32)) hin47 (g := (mkF m 83 #[iv p0, iv p1, iv p2, iv p3, iv p4, iv (2 : Int32), iv a, iv b, iv cc, iv dd, .unset, .unset, .unset, .unset, .unset] [(.int b), (.int (1 : Int32)), (.ref b41), (.ref b41)])) rfl rfl (hb hby at_83)
    have z47 : n0 ≤ h47.size := by rw [W47.size]; exact z44
    have K47 : Keep h0 h47 [] := K44.wr W47 (Or.inr sz_b41)
    have v47 : Arv Z h47 b41 k41 .char (2 : Int32) [(.int (nar .char a)), (.int (nar .char b))] (.int (0 : Int32)) := Arv.set Ar47 q47 S47 n47_ H47 G47 (fits_nar_char _) W47 1 rfl (Nat.le_of_ble_eq_true rfl)
    have N47 := Fr.snoc X47 N44 g_b41
    have R48 : ∀ t, Steps p.tables e below (T47.setTop (mkF m 84 #[iv p0, iv p1, iv p2, iv p3, iv p4, iv (2 : Int32), iv a, iv b, iv cc, iv dd, .unset, .unset, .unset, .unset, .unset] [(.ref b41)])) t → Steps p.tables e below (s₁.setTop f0) t := fun t k => R46 t (st47 t k)
    have R49 : ∀ t, Steps p.tables e below (T47.setTop (mkF m 111 #[iv p0, iv p1, iv p2, iv p3, iv p4, iv (2 : Int32), iv a, iv b, iv cc, iv dd, rv b41, .unset, .unset, .unset, .unset] [(.ref b41)])) t → Steps p.tables e below (s₁.setTop f0) t := fun t k => R48 t (by
      show Steps p.tables e below (T47.setTop (mkF m 84 #[iv p0, iv p1, iv p2, iv p3, iv p4, iv (2 : Int32), iv a, iv b, iv cc, iv dd, .unset, .unset, .unset, .unset, .unset] [(.ref b41)])) _
      refine XS.astore X47.here hx rfl (hb hby at_84) rfl rfl (l' := #[iv p0, iv p1, iv p2, iv p3, iv p4, iv (2 : Int32), iv a, iv b, iv cc, iv dd, rv b41, .unset, .unset, .unset, .unset]) rfl ?_
      show Steps p.tables e below (T47.setTop (mkF m 86 #[iv p0, iv p1, iv p2, iv p3, iv p4, iv (2 : Int32), iv a, iv b, iv cc, iv dd, rv b41, .unset, .unset, .unset, .unset] [])) _
      refine XS.goto X47.here hx rfl (pc0 := 86) (pc' := 109) rfl (hb hby at_86) (by decide) (by decide) ?_
      show Steps p.tables e below (T47.setTop (mkF m 109 #[iv p0, iv p1, iv p2, iv p3, iv p4, iv (2 : Int32), iv a, iv b, iv cc, iv dd, rv b41, .unset, .unset, .unset, .unset] [])) _
      refine XS.aload X47.here hx rfl (hb hby at_109) rfl rfl ?_
      exact k)
    obtain ⟨_, _, ⟨T50, L50, k50, n50⟩, -, X50, ⟨Lc50, hQ50, l50, y50, z50⟩, st50⟩ := Jvm.LawKit.callS X47 hx (y := (⟨sN0, "stops", "([C)J"⟩ : MethodName)) hown (mvT hZ (hw _ (List.mem_of_getElem? (i := 1) rfl))) (mvT hZ (hw _ (List.mem_of_getElem? (i := 2) rfl))) (mvT hZ (hw _ (List.mem_of_getElem? (i := 3) rfl))) (mvT hZ (hw _ (List.mem_of_getElem? (i := 4) rfl))) (by decide) (backOf (W := 0) (rmStops2 l Z a0 hw [] b41 k41 (nar .char a) (nar .char b) h47 n0 z47 v47) hZ (hw _ (List.mem_of_getElem? (i := 4) rfl)) (hw _ (List.mem_of_getElem? (i := 3) rfl)) (by decide) (by decide)) (g := (mkF m 111 #[iv p0, iv p1, iv p2, iv p3, iv p4, iv (2 : Int32), iv a, iv b, iv cc, iv dd, rv b41, .unset, .unset, .unset, .unset] [(.ref b41)])) rfl (by rw [hml]; rfl) (argsL := [(.ref b41)]) (rest := []) (lenOf pd_2 rfl) rfl (by show 2 * 0 + _ ≤ _; exact Nat.le_of_eq rfl) (hb hby at_111) (fun _ _ => ⟨rfl, e47, (by decide : 1 + 0 ≤ _), (by decide : 2 + 0 ≤ _)⟩)
    dsimp only [Pt.U, Pt.locs, Pt.cells, Pt.slots] at X50 l50 y50 z50 st50 hQ50
    subst l50 y50 z50
    obtain ⟨rfl, N50q, p50_0⟩ := hQ50
    have N50 := Fr.app N47 N50q
    have R51 : ∀ t, Steps p.tables e below (T50.setTop (mkF m 114 #[iv p0, iv p1, iv p2, iv p3, iv p4, iv (2 : Int32), iv a, iv b, iv cc, iv dd, rv b41, .unset, .unset, .unset, .unset] [(.long (((0 : Int64) ||| ((1 : Int64) <<< ((nar .char a) &&& 0x3f).toInt64)) ||| ((1 : Int64) <<< ((nar .char b) &&& 0x3f).toInt64)))])) t → Steps p.tables e below (s₁.setTop f0) t := fun t k => R49 t (st50 t k)
    have R52 : ∀ t, Steps p.tables e below (T50.setTop (mkF m 116 #[iv p0, iv p1, iv p2, iv p3, iv p4, iv (2 : Int32), iv a, iv b, iv cc, iv dd, rv b41, .val (.long (((0 : Int64) ||| ((1 : Int64) <<< ((nar .char a) &&& 0x3f).toInt64)) ||| ((1 : Int64) <<< ((nar .char b) &&& 0x3f).toInt64))), .second, .unset, .unset] [])) t → Steps p.tables e below (s₁.setTop f0) t := fun t k => R51 t (by
      show Steps p.tables e below (T50.setTop (mkF m 114 #[iv p0, iv p1, iv p2, iv p3, iv p4, iv (2 : Int32), iv a, iv b, iv cc, iv dd, rv b41, .unset, .unset, .unset, .unset] [(.long (((0 : Int64) ||| ((1 : Int64) <<< ((nar .char a) &&& 0x3f).toInt64)) ||| ((1 : Int64) <<< ((nar .char b) &&& 0x3f).toInt64)))])) _
      refine XS.lstore X50.here hx rfl (hb hby at_114) rfl (l' := #[iv p0, iv p1, iv p2, iv p3, iv p4, iv (2 : Int32), iv a, iv b, iv cc, iv dd, rv b41, .val (.long (((0 : Int64) ||| ((1 : Int64) <<< ((nar .char a) &&& 0x3f).toInt64)) ||| ((1 : Int64) <<< ((nar .char b) &&& 0x3f).toInt64))), .second, .unset, .unset]) rfl ?_
      exact k)
    have R53 : ∀ t, Steps p.tables e below (T50.setTop (mkF m 160 #[iv p0, iv p1, iv p2, iv p3, iv p4, iv (2 : Int32), iv a, iv b, iv cc, iv dd, rv b41, .val (.long (((0 : Int64) ||| ((1 : Int64) <<< ((nar .char a) &&& 0x3f).toInt64)) ||| ((1 : Int64) <<< ((nar .char b) &&& 0x3f).toInt64))), .second, .unset, .unset] [(.int (own_b (dd = a ∨ dd = b)))])) t → Steps p.tables e below (s₁.setTop f0) t := by
      intro t k
      refine R52 t ?_
      show Steps p.tables e below (T50.setTop (mkF m 116 #[iv p0, iv p1, iv p2, iv p3, iv p4, iv (2 : Int32), iv a, iv b, iv cc, iv dd, rv b41, .val (.long (((0 : Int64) ||| ((1 : Int64) <<< ((nar .char a) &&& 0x3f).toInt64)) ||| ((1 : Int64) <<< ((nar .char b) &&& 0x3f).toInt64))), .second, .unset, .unset] [])) _
      refine XS.iload X50.here hx rfl (hb hby at_116) rfl  ?_
      show Steps p.tables e below (T50.setTop (mkF m 118 #[iv p0, iv p1, iv p2, iv p3, iv p4, iv (2 : Int32), iv a, iv b, iv cc, iv dd, rv b41, .val (.long (((0 : Int64) ||| ((1 : Int64) <<< ((nar .char a) &&& 0x3f).toInt64)) ||| ((1 : Int64) <<< ((nar .char b) &&& 0x3f).toInt64))), .second, .unset, .unset] [(.int (2 : Int32))])) _
      refine XS.iconst X50.here hx rfl (hb hby at_118) ?_
      show Steps p.tables e below (T50.setTop (mkF m 119 #[iv p0, iv p1, iv p2, iv p3, iv p4, iv (2 : Int32), iv a, iv b, iv cc, iv dd, rv b41, .val (.long (((0 : Int64) ||| ((1 : Int64) <<< ((nar .char a) &&& 0x3f).toInt64)) ||| ((1 : Int64) <<< ((nar .char b) &&& 0x3f).toInt64))), .second, .unset, .unset] [(.int (1 : Int32)), (.int (2 : Int32))])) _
      refine XS.icmpNo X50.here hx rfl (hb hby at_119) rfl (flt (by decide : ¬ ((2 : Int32) < (1 : Int32)))).1 ?_
      show Steps p.tables e below (T50.setTop (mkF m 122 #[iv p0, iv p1, iv p2, iv p3, iv p4, iv (2 : Int32), iv a, iv b, iv cc, iv dd, rv b41, .val (.long (((0 : Int64) ||| ((1 : Int64) <<< ((nar .char a) &&& 0x3f).toInt64)) ||| ((1 : Int64) <<< ((nar .char b) &&& 0x3f).toInt64))), .second, .unset, .unset] [])) _
      refine XS.iload X50.here hx rfl (hb hby at_122) rfl  ?_
      show Steps p.tables e below (T50.setTop (mkF m 124 #[iv p0, iv p1, iv p2, iv p3, iv p4, iv (2 : Int32), iv a, iv b, iv cc, iv dd, rv b41, .val (.long (((0 : Int64) ||| ((1 : Int64) <<< ((nar .char a) &&& 0x3f).toInt64)) ||| ((1 : Int64) <<< ((nar .char b) &&& 0x3f).toInt64))), .second, .unset, .unset] [(.int dd)])) _
      refine XS.iload X50.here hx rfl (hb hby at_124) rfl  ?_
      by_cases hm1 : dd = a
      · skip
        show Steps p.tables e below (T50.setTop (mkF m 126 #[iv p0, iv p1, iv p2, iv p3, iv p4, iv (2 : Int32), iv a, iv b, iv cc, iv dd, rv b41, .val (.long (((0 : Int64) ||| ((1 : Int64) <<< ((nar .char a) &&& 0x3f).toInt64)) ||| ((1 : Int64) <<< ((nar .char b) &&& 0x3f).toInt64))), .second, .unset, .unset] [(.int a), (.int dd)])) _
        refine XS.icmpYes X50.here hx rfl (pc0 := 126) (pc' := 155) rfl (hb hby at_126) rfl (teq hm1).1 (by decide) (by decide) ?_
        show Steps p.tables e below (T50.setTop (mkF m 155 #[iv p0, iv p1, iv p2, iv p3, iv p4, iv (2 : Int32), iv a, iv b, iv cc, iv dd, rv b41, .val (.long (((0 : Int64) ||| ((1 : Int64) <<< ((nar .char a) &&& 0x3f).toInt64)) ||| ((1 : Int64) <<< ((nar .char b) &&& 0x3f).toInt64))), .second, .unset, .unset] [])) _
        refine XS.iconst X50.here hx rfl (hb hby at_155) ?_
        show Steps p.tables e below (T50.setTop (mkF m 156 #[iv p0, iv p1, iv p2, iv p3, iv p4, iv (2 : Int32), iv a, iv b, iv cc, iv dd, rv b41, .val (.long (((0 : Int64) ||| ((1 : Int64) <<< ((nar .char a) &&& 0x3f).toInt64)) ||| ((1 : Int64) <<< ((nar .char b) &&& 0x3f).toInt64))), .second, .unset, .unset] [(.int (1 : Int32))])) _
        refine XS.goto X50.here hx rfl (pc0 := 156) (pc' := 160) rfl (hb hby at_156) (by decide) (by decide) ?_
        have hv : (own_b (dd = a ∨ dd = b)) = (1 : Int32) := by (try simp only [lw_gt, lw_lt, lw_eq] at hm1); simp [own_b, hm1]
        rw [hv] at k
        exact k
      · skip
        show Steps p.tables e below (T50.setTop (mkF m 126 #[iv p0, iv p1, iv p2, iv p3, iv p4, iv (2 : Int32), iv a, iv b, iv cc, iv dd, rv b41, .val (.long (((0 : Int64) ||| ((1 : Int64) <<< ((nar .char a) &&& 0x3f).toInt64)) ||| ((1 : Int64) <<< ((nar .char b) &&& 0x3f).toInt64))), .second, .unset, .unset] [(.int a), (.int dd)])) _
        refine XS.icmpNo X50.here hx rfl (hb hby at_126) rfl (feq hm1).1 ?_
        show Steps p.tables e below (T50.setTop (mkF m 129 #[iv p0, iv p1, iv p2, iv p3, iv p4, iv (2 : Int32), iv a, iv b, iv cc, iv dd, rv b41, .val (.long (((0 : Int64) ||| ((1 : Int64) <<< ((nar .char a) &&& 0x3f).toInt64)) ||| ((1 : Int64) <<< ((nar .char b) &&& 0x3f).toInt64))), .second, .unset, .unset] [])) _
        refine XS.iload X50.here hx rfl (hb hby at_129) rfl  ?_
        show Steps p.tables e below (T50.setTop (mkF m 131 #[iv p0, iv p1, iv p2, iv p3, iv p4, iv (2 : Int32), iv a, iv b, iv cc, iv dd, rv b41, .val (.long (((0 : Int64) ||| ((1 : Int64) <<< ((nar .char a) &&& 0x3f).toInt64)) ||| ((1 : Int64) <<< ((nar .char b) &&& 0x3f).toInt64))), .second, .unset, .unset] [(.int (2 : Int32))])) _
        refine XS.iconst X50.here hx rfl (hb hby at_131) ?_
        show Steps p.tables e below (T50.setTop (mkF m 132 #[iv p0, iv p1, iv p2, iv p3, iv p4, iv (2 : Int32), iv a, iv b, iv cc, iv dd, rv b41, .val (.long (((0 : Int64) ||| ((1 : Int64) <<< ((nar .char a) &&& 0x3f).toInt64)) ||| ((1 : Int64) <<< ((nar .char b) &&& 0x3f).toInt64))), .second, .unset, .unset] [(.int (2 : Int32)), (.int (2 : Int32))])) _
        refine XS.icmpNo X50.here hx rfl (hb hby at_132) rfl (flt (by decide : ¬ ((2 : Int32) < (2 : Int32)))).1 ?_
        show Steps p.tables e below (T50.setTop (mkF m 135 #[iv p0, iv p1, iv p2, iv p3, iv p4, iv (2 : Int32), iv a, iv b, iv cc, iv dd, rv b41, .val (.long (((0 : Int64) ||| ((1 : Int64) <<< ((nar .char a) &&& 0x3f).toInt64)) ||| ((1 : Int64) <<< ((nar .char b) &&& 0x3f).toInt64))), .second, .unset, .unset] [])) _
        refine XS.iload X50.here hx rfl (hb hby at_135) rfl  ?_
        show Steps p.tables e below (T50.setTop (mkF m 137 #[iv p0, iv p1, iv p2, iv p3, iv p4, iv (2 : Int32), iv a, iv b, iv cc, iv dd, rv b41, .val (.long (((0 : Int64) ||| ((1 : Int64) <<< ((nar .char a) &&& 0x3f).toInt64)) ||| ((1 : Int64) <<< ((nar .char b) &&& 0x3f).toInt64))), .second, .unset, .unset] [(.int dd)])) _
        refine XS.iload X50.here hx rfl (hb hby at_137) rfl  ?_
        by_cases hm2 : dd = b
        · skip
          show Steps p.tables e below (T50.setTop (mkF m 139 #[iv p0, iv p1, iv p2, iv p3, iv p4, iv (2 : Int32), iv a, iv b, iv cc, iv dd, rv b41, .val (.long (((0 : Int64) ||| ((1 : Int64) <<< ((nar .char a) &&& 0x3f).toInt64)) ||| ((1 : Int64) <<< ((nar .char b) &&& 0x3f).toInt64))), .second, .unset, .unset] [(.int b), (.int dd)])) _
          refine XS.icmpYes X50.here hx rfl (pc0 := 139) (pc' := 155) rfl (hb hby at_139) rfl (teq hm2).1 (by decide) (by decide) ?_
          show Steps p.tables e below (T50.setTop (mkF m 155 #[iv p0, iv p1, iv p2, iv p3, iv p4, iv (2 : Int32), iv a, iv b, iv cc, iv dd, rv b41, .val (.long (((0 : Int64) ||| ((1 : Int64) <<< ((nar .char a) &&& 0x3f).toInt64)) ||| ((1 : Int64) <<< ((nar .char b) &&& 0x3f).toInt64))), .second, .unset, .unset] [])) _
          refine XS.iconst X50.here hx rfl (hb hby at_155) ?_
          show Steps p.tables e below (T50.setTop (mkF m 156 #[iv p0, iv p1, iv p2, iv p3, iv p4, iv (2 : Int32), iv a, iv b, iv cc, iv dd, rv b41, .val (.long (((0 : Int64) ||| ((1 : Int64) <<< ((nar .char a) &&& 0x3f).toInt64)) ||| ((1 : Int64) <<< ((nar .char b) &&& 0x3f).toInt64))), .second, .unset, .unset] [(.int (1 : Int32))])) _
          refine XS.goto X50.here hx rfl (pc0 := 156) (pc' := 160) rfl (hb hby at_156) (by decide) (by decide) ?_
          have hv : (own_b (dd = a ∨ dd = b)) = (1 : Int32) := by (try simp only [lw_gt, lw_lt, lw_eq] at hm1); (try simp only [lw_gt, lw_lt, lw_eq] at hm2); simp [own_b, hm1, hm2]
          rw [hv] at k
          exact k
        · skip
          show Steps p.tables e below (T50.setTop (mkF m 139 #[iv p0, iv p1, iv p2, iv p3, iv p4, iv (2 : Int32), iv a, iv b, iv cc, iv dd, rv b41, .val (.long (((0 : Int64) ||| ((1 : Int64) <<< ((nar .char a) &&& 0x3f).toInt64)) ||| ((1 : Int64) <<< ((nar .char b) &&& 0x3f).toInt64))), .second, .unset, .unset] [(.int b), (.int dd)])) _
          refine XS.icmpNo X50.here hx rfl (hb hby at_139) rfl (feq hm2).1 ?_
          show Steps p.tables e below (T50.setTop (mkF m 142 #[iv p0, iv p1, iv p2, iv p3, iv p4, iv (2 : Int32), iv a, iv b, iv cc, iv dd, rv b41, .val (.long (((0 : Int64) ||| ((1 : Int64) <<< ((nar .char a) &&& 0x3f).toInt64)) ||| ((1 : Int64) <<< ((nar .char b) &&& 0x3f).toInt64))), .second, .unset, .unset] [])) _
          refine XS.iload X50.here hx rfl (hb hby at_142) rfl  ?_
          show Steps p.tables e below (T50.setTop (mkF m 144 #[iv p0, iv p1, iv p2, iv p3, iv p4, iv (2 : Int32), iv a, iv b, iv cc, iv dd, rv b41, .val (.long (((0 : Int64) ||| ((1 : Int64) <<< ((nar .char a) &&& 0x3f).toInt64)) ||| ((1 : Int64) <<< ((nar .char b) &&& 0x3f).toInt64))), .second, .unset, .unset] [(.int (2 : Int32))])) _
          refine XS.iconst X50.here hx rfl (hb hby at_144) ?_
          show Steps p.tables e below (T50.setTop (mkF m 145 #[iv p0, iv p1, iv p2, iv p3, iv p4, iv (2 : Int32), iv a, iv b, iv cc, iv dd, rv b41, .val (.long (((0 : Int64) ||| ((1 : Int64) <<< ((nar .char a) &&& 0x3f).toInt64)) ||| ((1 : Int64) <<< ((nar .char b) &&& 0x3f).toInt64))), .second, .unset, .unset] [(.int (3 : Int32)), (.int (2 : Int32))])) _
          refine XS.icmpYes X50.here hx rfl (pc0 := 145) (pc' := 159) rfl (hb hby at_145) rfl (tlt (by decide : (2 : Int32) < (3 : Int32))).1 (by decide) (by decide) ?_
          show Steps p.tables e below (T50.setTop (mkF m 159 #[iv p0, iv p1, iv p2, iv p3, iv p4, iv (2 : Int32), iv a, iv b, iv cc, iv dd, rv b41, .val (.long (((0 : Int64) ||| ((1 : Int64) <<< ((nar .char a) &&& 0x3f).toInt64)) ||| ((1 : Int64) <<< ((nar .char b) &&& 0x3f).toInt64))), .second, .unset, .unset] [])) _
          refine XS.iconst X50.here hx rfl (hb hby at_159) ?_
          have hv : (own_b (dd = a ∨ dd = b)) = (0 : Int32) := by (try simp only [lw_gt, lw_lt, lw_eq] at hm1); (try simp only [lw_gt, lw_lt, lw_eq] at hm2); simp [own_b, hm1, hm2]
          rw [hv] at k
          exact k
    have R54 : ∀ t, Steps p.tables e below (T50.setTop (mkF m 162 #[iv p0, iv p1, iv p2, iv p3, iv p4, iv (2 : Int32), iv a, iv b, iv cc, iv dd, rv b41, .val (.long (((0 : Int64) ||| ((1 : Int64) <<< ((nar .char a) &&& 0x3f).toInt64)) ||| ((1 : Int64) <<< ((nar .char b) &&& 0x3f).toInt64))), .second, iv (own_b (dd = a ∨ dd = b)), .unset] [])) t → Steps p.tables e below (s₁.setTop f0) t := fun t k => R53 t (by
      show Steps p.tables e below (T50.setTop (mkF m 160 #[iv p0, iv p1, iv p2, iv p3, iv p4, iv (2 : Int32), iv a, iv b, iv cc, iv dd, rv b41, .val (.long (((0 : Int64) ||| ((1 : Int64) <<< ((nar .char a) &&& 0x3f).toInt64)) ||| ((1 : Int64) <<< ((nar .char b) &&& 0x3f).toInt64))), .second, .unset, .unset] [(.int (own_b (dd = a ∨ dd = b)))])) _
      refine XS.istore X50.here hx rfl (hb hby at_160) rfl (l' := #[iv p0, iv p1, iv p2, iv p3, iv p4, iv (2 : Int32), iv a, iv b, iv cc, iv dd, rv b41, .val (.long (((0 : Int64) ||| ((1 : Int64) <<< ((nar .char a) &&& 0x3f).toInt64)) ||| ((1 : Int64) <<< ((nar .char b) &&& 0x3f).toInt64))), .second, iv (own_b (dd = a ∨ dd = b)), .unset]) rfl ?_
      exact k)
    have R55 : ∀ t, Steps p.tables e below (T50.setTop (mkF m 179 #[iv p0, iv p1, iv p2, iv p3, iv p4, iv (2 : Int32), iv a, iv b, iv cc, iv dd, rv b41, .val (.long (((0 : Int64) ||| ((1 : Int64) <<< ((nar .char a) &&& 0x3f).toInt64)) ||| ((1 : Int64) <<< ((nar .char b) &&& 0x3f).toInt64))), .second, iv (own_b (dd = a ∨ dd = b)), .unset] [(.int (own_b (own_bit (((0 : Int64) ||| ((1 : Int64) <<< ((nar .char a) &&& 0x3f).toInt64)) ||| ((1 : Int64) <<< ((nar .char b) &&& 0x3f).toInt64)) dd = 1)))])) t → Steps p.tables e below (s₁.setTop f0) t := by
      intro t k
      refine R54 t ?_
      show Steps p.tables e below (T50.setTop (mkF m 162 #[iv p0, iv p1, iv p2, iv p3, iv p4, iv (2 : Int32), iv a, iv b, iv cc, iv dd, rv b41, .val (.long (((0 : Int64) ||| ((1 : Int64) <<< ((nar .char a) &&& 0x3f).toInt64)) ||| ((1 : Int64) <<< ((nar .char b) &&& 0x3f).toInt64))), .second, iv (own_b (dd = a ∨ dd = b)), .unset] [])) _
      refine XS.lload X50.here hx rfl (hb hby at_162) rfl  ?_
      show Steps p.tables e below (T50.setTop (mkF m 164 #[iv p0, iv p1, iv p2, iv p3, iv p4, iv (2 : Int32), iv a, iv b, iv cc, iv dd, rv b41, .val (.long (((0 : Int64) ||| ((1 : Int64) <<< ((nar .char a) &&& 0x3f).toInt64)) ||| ((1 : Int64) <<< ((nar .char b) &&& 0x3f).toInt64))), .second, iv (own_b (dd = a ∨ dd = b)), .unset] [(.long (((0 : Int64) ||| ((1 : Int64) <<< ((nar .char a) &&& 0x3f).toInt64)) ||| ((1 : Int64) <<< ((nar .char b) &&& 0x3f).toInt64)))])) _
      refine XS.iload X50.here hx rfl (hb hby at_164) rfl  ?_
      show Steps p.tables e below (T50.setTop (mkF m 166 #[iv p0, iv p1, iv p2, iv p3, iv p4, iv (2 : Int32), iv a, iv b, iv cc, iv dd, rv b41, .val (.long (((0 : Int64) ||| ((1 : Int64) <<< ((nar .char a) &&& 0x3f).toInt64)) ||| ((1 : Int64) <<< ((nar .char b) &&& 0x3f).toInt64))), .second, iv (own_b (dd = a ∨ dd = b)), .unset] [(.int dd), (.long (((0 : Int64) ||| ((1 : Int64) <<< ((nar .char a) &&& 0x3f).toInt64)) ||| ((1 : Int64) <<< ((nar .char b) &&& 0x3f).toInt64)))])) _
      refine XS.lushr X50.here hx rfl (hb hby at_166) rfl ?_
      show Steps p.tables e below (T50.setTop (mkF m 167 #[iv p0, iv p1, iv p2, iv p3, iv p4, iv (2 : Int32), iv a, iv b, iv cc, iv dd, rv b41, .val (.long (((0 : Int64) ||| ((1 : Int64) <<< ((nar .char a) &&& 0x3f).toInt64)) ||| ((1 : Int64) <<< ((nar .char b) &&& 0x3f).toInt64))), .second, iv (own_b (dd = a ∨ dd = b)), .unset] [(.long (((((0 : Int64) ||| ((1 : Int64) <<< ((nar .char a) &&& 0x3f).toInt64)) ||| ((1 : Int64) <<< ((nar .char b) &&& 0x3f).toInt64)).toUInt64 >>> (dd &&& 0x3f).toInt64.toUInt64).toInt64))])) _
      refine XS.lconst X50.here hx rfl (hb hby at_167) ?_
      show Steps p.tables e below (T50.setTop (mkF m 168 #[iv p0, iv p1, iv p2, iv p3, iv p4, iv (2 : Int32), iv a, iv b, iv cc, iv dd, rv b41, .val (.long (((0 : Int64) ||| ((1 : Int64) <<< ((nar .char a) &&& 0x3f).toInt64)) ||| ((1 : Int64) <<< ((nar .char b) &&& 0x3f).toInt64))), .second, iv (own_b (dd = a ∨ dd = b)), .unset] [(.long (1 : Int64)), (.long (((((0 : Int64) ||| ((1 : Int64) <<< ((nar .char a) &&& 0x3f).toInt64)) ||| ((1 : Int64) <<< ((nar .char b) &&& 0x3f).toInt64)).toUInt64 >>> (dd &&& 0x3f).toInt64.toUInt64).toInt64))])) _
      refine XS.land X50.here hx rfl (hb hby at_168) rfl ?_
      show Steps p.tables e below (T50.setTop (mkF m 169 #[iv p0, iv p1, iv p2, iv p3, iv p4, iv (2 : Int32), iv a, iv b, iv cc, iv dd, rv b41, .val (.long (((0 : Int64) ||| ((1 : Int64) <<< ((nar .char a) &&& 0x3f).toInt64)) ||| ((1 : Int64) <<< ((nar .char b) &&& 0x3f).toInt64))), .second, iv (own_b (dd = a ∨ dd = b)), .unset] [(.long ((((((0 : Int64) ||| ((1 : Int64) <<< ((nar .char a) &&& 0x3f).toInt64)) ||| ((1 : Int64) <<< ((nar .char b) &&& 0x3f).toInt64)).toUInt64 >>> (dd &&& 0x3f).toInt64.toUInt64).toInt64) &&& (1 : Int64)))])) _
      refine XS.lconst X50.here hx rfl (hb hby at_169) ?_
      show Steps p.tables e below (T50.setTop (mkF m 170 #[iv p0, iv p1, iv p2, iv p3, iv p4, iv (2 : Int32), iv a, iv b, iv cc, iv dd, rv b41, .val (.long (((0 : Int64) ||| ((1 : Int64) <<< ((nar .char a) &&& 0x3f).toInt64)) ||| ((1 : Int64) <<< ((nar .char b) &&& 0x3f).toInt64))), .second, iv (own_b (dd = a ∨ dd = b)), .unset] [(.long (1 : Int64)), (.long ((((((0 : Int64) ||| ((1 : Int64) <<< ((nar .char a) &&& 0x3f).toInt64)) ||| ((1 : Int64) <<< ((nar .char b) &&& 0x3f).toInt64)).toUInt64 >>> (dd &&& 0x3f).toInt64.toUInt64).toInt64) &&& (1 : Int64)))])) _
      refine XS.lcmp X50.here hx rfl (hb hby at_170) rfl ?_
      by_cases hm1 : (lcmpW ((((((0 : Int64) ||| ((1 : Int64) <<< ((nar .char a) &&& 0x3f).toInt64)) ||| ((1 : Int64) <<< ((nar .char b) &&& 0x3f).toInt64)).toUInt64 >>> (dd &&& 0x3f).toInt64.toUInt64).toInt64) &&& (1 : Int64)) (1 : Int64)) = (0 : Int32)
      · skip
        show Steps p.tables e below (T50.setTop (mkF m 171 #[iv p0, iv p1, iv p2, iv p3, iv p4, iv (2 : Int32), iv a, iv b, iv cc, iv dd, rv b41, .val (.long (((0 : Int64) ||| ((1 : Int64) <<< ((nar .char a) &&& 0x3f).toInt64)) ||| ((1 : Int64) <<< ((nar .char b) &&& 0x3f).toInt64))), .second, iv (own_b (dd = a ∨ dd = b)), .unset] [(.int (lcmpW ((((((0 : Int64) ||| ((1 : Int64) <<< ((nar .char a) &&& 0x3f).toInt64)) ||| ((1 : Int64) <<< ((nar .char b) &&& 0x3f).toInt64)).toUInt64 >>> (dd &&& 0x3f).toInt64.toUInt64).toInt64) &&& (1 : Int64)) (1 : Int64)))])) _
        refine XS.ifNo X50.here hx rfl (hb hby at_171) rfl ((if0 _ _).trans (teq hm1).2) ?_
        show Steps p.tables e below (T50.setTop (mkF m 174 #[iv p0, iv p1, iv p2, iv p3, iv p4, iv (2 : Int32), iv a, iv b, iv cc, iv dd, rv b41, .val (.long (((0 : Int64) ||| ((1 : Int64) <<< ((nar .char a) &&& 0x3f).toInt64)) ||| ((1 : Int64) <<< ((nar .char b) &&& 0x3f).toInt64))), .second, iv (own_b (dd = a ∨ dd = b)), .unset] [])) _
        refine XS.iconst X50.here hx rfl (hb hby at_174) ?_
        show Steps p.tables e below (T50.setTop (mkF m 175 #[iv p0, iv p1, iv p2, iv p3, iv p4, iv (2 : Int32), iv a, iv b, iv cc, iv dd, rv b41, .val (.long (((0 : Int64) ||| ((1 : Int64) <<< ((nar .char a) &&& 0x3f).toInt64)) ||| ((1 : Int64) <<< ((nar .char b) &&& 0x3f).toInt64))), .second, iv (own_b (dd = a ∨ dd = b)), .unset] [(.int (1 : Int32))])) _
        refine XS.goto X50.here hx rfl (pc0 := 175) (pc' := 179) rfl (hb hby at_175) (by decide) (by decide) ?_
        have hv : (own_b (own_bit (((0 : Int64) ||| ((1 : Int64) <<< ((nar .char a) &&& 0x3f).toInt64)) ||| ((1 : Int64) <<< ((nar .char b) &&& 0x3f).toInt64)) dd = 1)) = (1 : Int32) := by (try simp only [lw_eq] at hm1); (first | (change own_bit (((0 : Int64) ||| ((1 : Int64) <<< ((nar .char a) &&& 0x3f).toInt64)) ||| ((1 : Int64) <<< ((nar .char b) &&& 0x3f).toInt64)) dd = 1 at hm1) | (change ¬ own_bit (((0 : Int64) ||| ((1 : Int64) <<< ((nar .char a) &&& 0x3f).toInt64)) ||| ((1 : Int64) <<< ((nar .char b) &&& 0x3f).toInt64)) dd = 1 at hm1)); first | exact if_pos hm1 | exact if_neg hm1
        rw [hv] at k
        exact k
      · skip
        show Steps p.tables e below (T50.setTop (mkF m 171 #[iv p0, iv p1, iv p2, iv p3, iv p4, iv (2 : Int32), iv a, iv b, iv cc, iv dd, rv b41, .val (.long (((0 : Int64) ||| ((1 : Int64) <<< ((nar .char a) &&& 0x3f).toInt64)) ||| ((1 : Int64) <<< ((nar .char b) &&& 0x3f).toInt64))), .second, iv (own_b (dd = a ∨ dd = b)), .unset] [(.int (lcmpW ((((((0 : Int64) ||| ((1 : Int64) <<< ((nar .char a) &&& 0x3f).toInt64)) ||| ((1 : Int64) <<< ((nar .char b) &&& 0x3f).toInt64)).toUInt64 >>> (dd &&& 0x3f).toInt64.toUInt64).toInt64) &&& (1 : Int64)) (1 : Int64)))])) _
        refine XS.ifYes X50.here hx rfl (pc0 := 171) (pc' := 178) rfl (hb hby at_171) rfl ((if0 _ _).trans (feq hm1).2) (by decide) (by decide) ?_
        show Steps p.tables e below (T50.setTop (mkF m 178 #[iv p0, iv p1, iv p2, iv p3, iv p4, iv (2 : Int32), iv a, iv b, iv cc, iv dd, rv b41, .val (.long (((0 : Int64) ||| ((1 : Int64) <<< ((nar .char a) &&& 0x3f).toInt64)) ||| ((1 : Int64) <<< ((nar .char b) &&& 0x3f).toInt64))), .second, iv (own_b (dd = a ∨ dd = b)), .unset] [])) _
        refine XS.iconst X50.here hx rfl (hb hby at_178) ?_
        have hv : (own_b (own_bit (((0 : Int64) ||| ((1 : Int64) <<< ((nar .char a) &&& 0x3f).toInt64)) ||| ((1 : Int64) <<< ((nar .char b) &&& 0x3f).toInt64)) dd = 1)) = (0 : Int32) := by (try simp only [lw_eq] at hm1); (first | (change own_bit (((0 : Int64) ||| ((1 : Int64) <<< ((nar .char a) &&& 0x3f).toInt64)) ||| ((1 : Int64) <<< ((nar .char b) &&& 0x3f).toInt64)) dd = 1 at hm1) | (change ¬ own_bit (((0 : Int64) ||| ((1 : Int64) <<< ((nar .char a) &&& 0x3f).toInt64)) ||| ((1 : Int64) <<< ((nar .char b) &&& 0x3f).toInt64)) dd = 1 at hm1)); first | exact if_pos hm1 | exact if_neg hm1
        rw [hv] at k
        exact k
    have R56 : ∀ t, Steps p.tables e below (T50.setTop (mkF m 193 #[iv p0, iv p1, iv p2, iv p3, iv p4, iv (2 : Int32), iv a, iv b, iv cc, iv dd, rv b41, .val (.long (((0 : Int64) ||| ((1 : Int64) <<< ((nar .char a) &&& 0x3f).toInt64)) ||| ((1 : Int64) <<< ((nar .char b) &&& 0x3f).toInt64))), .second, iv (own_b (dd = a ∨ dd = b)), iv (own_b (own_bit (((0 : Int64) ||| ((1 : Int64) <<< ((nar .char a) &&& 0x3f).toInt64)) ||| ((1 : Int64) <<< ((nar .char b) &&& 0x3f).toInt64)) dd = 1))] [(.int (1 : Int32))])) t → Steps p.tables e below (s₁.setTop f0) t := fun t k => R55 t (by
      show Steps p.tables e below (T50.setTop (mkF m 179 #[iv p0, iv p1, iv p2, iv p3, iv p4, iv (2 : Int32), iv a, iv b, iv cc, iv dd, rv b41, .val (.long (((0 : Int64) ||| ((1 : Int64) <<< ((nar .char a) &&& 0x3f).toInt64)) ||| ((1 : Int64) <<< ((nar .char b) &&& 0x3f).toInt64))), .second, iv (own_b (dd = a ∨ dd = b)), .unset] [(.int (own_b (own_bit (((0 : Int64) ||| ((1 : Int64) <<< ((nar .char a) &&& 0x3f).toInt64)) ||| ((1 : Int64) <<< ((nar .char b) &&& 0x3f).toInt64)) dd = 1)))])) _
      refine XS.istore X50.here hx rfl (hb hby at_179) rfl (l' := #[iv p0, iv p1, iv p2, iv p3, iv p4, iv (2 : Int32), iv a, iv b, iv cc, iv dd, rv b41, .val (.long (((0 : Int64) ||| ((1 : Int64) <<< ((nar .char a) &&& 0x3f).toInt64)) ||| ((1 : Int64) <<< ((nar .char b) &&& 0x3f).toInt64))), .second, iv (own_b (dd = a ∨ dd = b)), iv (own_b (own_bit (((0 : Int64) ||| ((1 : Int64) <<< ((nar .char a) &&& 0x3f).toInt64)) ||| ((1 : Int64) <<< ((nar .char b) &&& 0x3f).toInt64)) dd = 1))]) rfl ?_
      show Steps p.tables e below (T50.setTop (mkF m 181 #[iv p0, iv p1, iv p2, iv p3, iv p4, iv (2 : Int32), iv a, iv b, iv cc, iv dd, rv b41, .val (.long (((0 : Int64) ||| ((1 : Int64) <<< ((nar .char a) &&& 0x3f).toInt64)) ||| ((1 : Int64) <<< ((nar .char b) &&& 0x3f).toInt64))), .second, iv (own_b (dd = a ∨ dd = b)), iv (own_b (own_bit (((0 : Int64) ||| ((1 : Int64) <<< ((nar .char a) &&& 0x3f).toInt64)) ||| ((1 : Int64) <<< ((nar .char b) &&& 0x3f).toInt64)) dd = 1))] [])) _
      refine XS.iload X50.here hx rfl (hb hby at_181) rfl  ?_
      show Steps p.tables e below (T50.setTop (mkF m 183 #[iv p0, iv p1, iv p2, iv p3, iv p4, iv (2 : Int32), iv a, iv b, iv cc, iv dd, rv b41, .val (.long (((0 : Int64) ||| ((1 : Int64) <<< ((nar .char a) &&& 0x3f).toInt64)) ||| ((1 : Int64) <<< ((nar .char b) &&& 0x3f).toInt64))), .second, iv (own_b (dd = a ∨ dd = b)), iv (own_b (own_bit (((0 : Int64) ||| ((1 : Int64) <<< ((nar .char a) &&& 0x3f).toInt64)) ||| ((1 : Int64) <<< ((nar .char b) &&& 0x3f).toInt64)) dd = 1))] [(.int (own_b (own_bit (((0 : Int64) ||| ((1 : Int64) <<< ((nar .char a) &&& 0x3f).toInt64)) ||| ((1 : Int64) <<< ((nar .char b) &&& 0x3f).toInt64)) dd = 1)))])) _
      refine XS.iload X50.here hx rfl (hb hby at_183) rfl  ?_
      show Steps p.tables e below (T50.setTop (mkF m 185 #[iv p0, iv p1, iv p2, iv p3, iv p4, iv (2 : Int32), iv a, iv b, iv cc, iv dd, rv b41, .val (.long (((0 : Int64) ||| ((1 : Int64) <<< ((nar .char a) &&& 0x3f).toInt64)) ||| ((1 : Int64) <<< ((nar .char b) &&& 0x3f).toInt64))), .second, iv (own_b (dd = a ∨ dd = b)), iv (own_b (own_bit (((0 : Int64) ||| ((1 : Int64) <<< ((nar .char a) &&& 0x3f).toInt64)) ||| ((1 : Int64) <<< ((nar .char b) &&& 0x3f).toInt64)) dd = 1))] [(.int (own_b (dd = a ∨ dd = b))), (.int (own_b (own_bit (((0 : Int64) ||| ((1 : Int64) <<< ((nar .char a) &&& 0x3f).toInt64)) ||| ((1 : Int64) <<< ((nar .char b) &&& 0x3f).toInt64)) dd = 1)))])) _
      refine XS.icmpNo X50.here hx rfl (hb hby at_185) rfl (teq (own_st2 a b dd e_a e_b e_dd : (own_b (own_bit (((0 : Int64) ||| ((1 : Int64) <<< ((nar .char a) &&& 0x3f).toInt64)) ||| ((1 : Int64) <<< ((nar .char b) &&& 0x3f).toInt64)) dd = 1)) = (own_b (dd = a ∨ dd = b)))).2 ?_
      show Steps p.tables e below (T50.setTop (mkF m 188 #[iv p0, iv p1, iv p2, iv p3, iv p4, iv (2 : Int32), iv a, iv b, iv cc, iv dd, rv b41, .val (.long (((0 : Int64) ||| ((1 : Int64) <<< ((nar .char a) &&& 0x3f).toInt64)) ||| ((1 : Int64) <<< ((nar .char b) &&& 0x3f).toInt64))), .second, iv (own_b (dd = a ∨ dd = b)), iv (own_b (own_bit (((0 : Int64) ||| ((1 : Int64) <<< ((nar .char a) &&& 0x3f).toInt64)) ||| ((1 : Int64) <<< ((nar .char b) &&& 0x3f).toInt64)) dd = 1))] [])) _
      refine XS.iconst X50.here hx rfl (hb hby at_188) ?_
      show Steps p.tables e below (T50.setTop (mkF m 189 #[iv p0, iv p1, iv p2, iv p3, iv p4, iv (2 : Int32), iv a, iv b, iv cc, iv dd, rv b41, .val (.long (((0 : Int64) ||| ((1 : Int64) <<< ((nar .char a) &&& 0x3f).toInt64)) ||| ((1 : Int64) <<< ((nar .char b) &&& 0x3f).toInt64))), .second, iv (own_b (dd = a ∨ dd = b)), iv (own_b (own_bit (((0 : Int64) ||| ((1 : Int64) <<< ((nar .char a) &&& 0x3f).toInt64)) ||| ((1 : Int64) <<< ((nar .char b) &&& 0x3f).toInt64)) dd = 1))] [(.int (1 : Int32))])) _
      refine XS.goto X50.here hx rfl (pc0 := 189) (pc' := 193) rfl (hb hby at_189) (by decide) (by decide) ?_
      exact k)
    obtain ⟨fs, hr, hrun, hended, hW, hsame⟩ := X50.leave (v := some (.int (1 : Int32))) (fun h => by rw [Bd.returns] at h; cases h)
    refine ⟨_, _, pre0 _ (R56 _ ?_), hrun, hended, _, _, rfl, ?_, ⟨_, rfl⟩, hW, hsame.mono (by decide) (by decide)⟩
    · show Steps p.tables e below (T50.setTop (mkF m 193 #[iv p0, iv p1, iv p2, iv p3, iv p4, iv (2 : Int32), iv a, iv b, iv cc, iv dd, rv b41, .val (.long (((0 : Int64) ||| ((1 : Int64) <<< ((nar .char a) &&& 0x3f).toInt64)) ||| ((1 : Int64) <<< ((nar .char b) &&& 0x3f).toInt64))), .second, iv (own_b (dd = a ∨ dd = b)), iv (own_b (own_bit (((0 : Int64) ||| ((1 : Int64) <<< ((nar .char a) &&& 0x3f).toInt64)) ||| ((1 : Int64) <<< ((nar .char b) &&& 0x3f).toInt64)) dd = 1))] [(.int (1 : Int32))])) _
      exact retN X50 hx (t := .boolean) Bd.returns (by simp) (hb hby at_193) hr
    · show Q_rmLaw Z p0 p1 p2 p3 p4 h0 n0 _ T50.heap _
      rw [p50_0]
      exact ⟨rfl, N50⟩
  · skip
    have R57 : ∀ t, Steps p.tables e below (s₁.setTop (mkF m 33 #[iv p0, iv p1, iv p2, iv p3, iv p4, iv (3 : Int32), iv a, iv b, iv cc, iv dd, .unset, .unset, .unset, .unset, .unset] [])) t → Steps p.tables e below (s₁.setTop f0) t := by have q := R11; rw [(hn : n = (3 : Int32))] at q; exact q
    have R58 : ∀ t, Steps p.tables e below (s₁.setTop (mkF m 90 #[iv p0, iv p1, iv p2, iv p3, iv p4, iv (3 : Int32), iv a, iv b, iv cc, iv dd, .unset, .unset, .unset, .unset, .unset] [(.int (3 : Int32))])) t → Steps p.tables e below (s₁.setTop f0) t := fun t k => R57 t (by
      show Steps p.tables e below (s₁.setTop (mkF m 33 #[iv p0, iv p1, iv p2, iv p3, iv p4, iv (3 : Int32), iv a, iv b, iv cc, iv dd, .unset, .unset, .unset, .unset, .unset] [])) _
      refine XS.iload X0.here hx rfl (hb hby at_33) rfl  ?_
      show Steps p.tables e below (s₁.setTop (mkF m 35 #[iv p0, iv p1, iv p2, iv p3, iv p4, iv (3 : Int32), iv a, iv b, iv cc, iv dd, .unset, .unset, .unset, .unset, .unset] [(.int (3 : Int32))])) _
      refine XS.ifYes X0.here hx rfl (pc0 := 35) (pc' := 46) rfl (hb hby at_35) rfl ((if0 _ _).trans (feq (by decide : ¬ ((3 : Int32) = (0 : Int32)))).2) (by decide) (by decide) ?_
      show Steps p.tables e below (s₁.setTop (mkF m 46 #[iv p0, iv p1, iv p2, iv p3, iv p4, iv (3 : Int32), iv a, iv b, iv cc, iv dd, .unset, .unset, .unset, .unset, .unset] [])) _
      refine XS.iload X0.here hx rfl (hb hby at_46) rfl  ?_
      show Steps p.tables e below (s₁.setTop (mkF m 48 #[iv p0, iv p1, iv p2, iv p3, iv p4, iv (3 : Int32), iv a, iv b, iv cc, iv dd, .unset, .unset, .unset, .unset, .unset] [(.int (3 : Int32))])) _
      refine XS.iconst X0.here hx rfl (hb hby at_48) ?_
      show Steps p.tables e below (s₁.setTop (mkF m 49 #[iv p0, iv p1, iv p2, iv p3, iv p4, iv (3 : Int32), iv a, iv b, iv cc, iv dd, .unset, .unset, .unset, .unset, .unset] [(.int (1 : Int32)), (.int (3 : Int32))])) _
      refine XS.icmpYes X0.here hx rfl (pc0 := 49) (pc' := 65) rfl (hb hby at_49) rfl (feq (by decide : ¬ ((3 : Int32) = (1 : Int32)))).2 (by decide) (by decide) ?_
      show Steps p.tables e below (s₁.setTop (mkF m 65 #[iv p0, iv p1, iv p2, iv p3, iv p4, iv (3 : Int32), iv a, iv b, iv cc, iv dd, .unset, .unset, .unset, .unset, .unset] [])) _
      refine XS.iload X0.here hx rfl (hb hby at_65) rfl  ?_
      show Steps p.tables e below (s₁.setTop (mkF m 67 #[iv p0, iv p1, iv p2, iv p3, iv p4, iv (3 : Int32), iv a, iv b, iv cc, iv dd, .unset, .unset, .unset, .unset, .unset] [(.int (3 : Int32))])) _
      refine XS.iconst X0.here hx rfl (hb hby at_67) ?_
      show Steps p.tables e below (s₁.setTop (mkF m 68 #[iv p0, iv p1, iv p2, iv p3, iv p4, iv (3 : Int32), iv a, iv b, iv cc, iv dd, .unset, .unset, .unset, .unset, .unset] [(.int (2 : Int32)), (.int (3 : Int32))])) _
      refine XS.icmpYes X0.here hx rfl (pc0 := 68) (pc' := 89) rfl (hb hby at_68) rfl (feq (by decide : ¬ ((3 : Int32) = (2 : Int32)))).2 (by decide) (by decide) ?_
      show Steps p.tables e below (s₁.setTop (mkF m 89 #[iv p0, iv p1, iv p2, iv p3, iv p4, iv (3 : Int32), iv a, iv b, iv cc, iv dd, .unset, .unset, .unset, .unset, .unset] [])) _
      refine XS.iconst X0.here hx rfl (hb hby at_89) ?_
      exact k)
    obtain ⟨T59, h59, k59, X59, e59, E59, A59, st59⟩ := newP X0 hx hZ (hw _ (List.mem_of_getElem? (i := 0) rfl)) e0 (g := (mkF m 90 #[iv p0, iv p1, iv p2, iv p3, iv p4, iv (3 : Int32), iv a, iv b, iv cc, iv dd, .unset, .unset, .unset, .unset, .unset] [(.int (3 : Int32))])) rfl (hb hby at_90) rfl (by decide) (cap := 3) (by decide) (by decide) (by decide) (by decide)
    obtain ⟨b59, g59⟩ : ∃ z, z = h0.size := ⟨_, rfl⟩
    rw [← g59] at A59 st59
    have g_b59 : n0 ≤ b59 := Nat.le_trans Z0 (Nat.le_of_eq g59.symm)
    have sz_b59 : h0.size ≤ b59 := Nat.le_trans (Keep.refl h0 []).1 (Nat.le_of_eq g59.symm)
    have z59 : n0 ≤ h59.size := Nat.le_trans Z0 E59.1
    have K59 : Keep h0 h59 [] := (Keep.refl h0 []).ext E59
    have v59 : Arv Z h59 b59 k59 .char (3 : Int32) [(.int (0 : Int32)), (.int (0 : Int32)), (.int (0 : Int32))] (.int (0 : Int32)) := (Arv.new A59 (by decide)).pad (pad_rep [] (.int (0 : Int32)) 3)
    have R60 : ∀ t, Steps p.tables e below (T59.setTop (mkF m 92 #[iv p0, iv p1, iv p2, iv p3, iv p4, iv (3 : Int32), iv a, iv b, iv cc, iv dd, .unset, .unset, .unset, .unset, .unset] [(.ref b59)])) t → Steps p.tables e below (s₁.setTop f0) t := fun t k => R58 t (st59 t k)
    have R61 : ∀ t, Steps p.tables e below (T59.setTop (mkF m 96 #[iv p0, iv p1, iv p2, iv p3, iv p4, iv (3 : Int32), iv a, iv b, iv cc, iv dd, .unset, .unset, .unset, .unset, .unset] [(.int a), (.int (0 : Int32)), (.ref b59), (.ref b59)])) t → Steps p.tables e below (s₁.setTop f0) t := fun t k => R60 t (by
      show Steps p.tables e below (T59.setTop (mkF m 92 #[iv p0, iv p1, iv p2, iv p3, iv p4, iv (3 : Int32), iv a, iv b, iv cc, iv dd, .unset, .unset, .unset, .unset, .unset] [(.ref b59)])) _
      refine XS.dup X59.here hx rfl (hb hby at_92) rfl rfl ?_
      show Steps p.tables e below (T59.setTop (mkF m 93 #[iv p0, iv p1, iv p2, iv p3, iv p4, iv (3 : Int32), iv a, iv b, iv cc, iv dd, .unset, .unset, .unset, .unset, .unset] [(.ref b59), (.ref b59)])) _
      refine XS.iconst X59.here hx rfl (hb hby at_93) ?_
      show Steps p.tables e below (T59.setTop (mkF m 94 #[iv p0, iv p1, iv p2, iv p3, iv p4, iv (3 : Int32), iv a, iv b, iv cc, iv dd, .unset, .unset, .unset, .unset, .unset] [(.int (0 : Int32)), (.ref b59), (.ref b59)])) _
      refine XS.iload X59.here hx rfl (hb hby at_94) rfl  ?_
      exact k)
    obtain ⟨cl62, Ar62, q62, S62, n62_, H62, G62⟩ := id v59
    have hin62 : ¬ ((0 : Int32) < 0 ∨ cl62.slots.size ≤ ((0 : Int32)).toNatClampNeg) := inb_of S62 ⟨by decide, by decide⟩
    obtain ⟨T62, h62, X62, e62, W62, st62⟩ := stC X59 hx hZ e59 Ar62 (j := (0 : Int32)) hin62 (g := (mkF m 96 #[iv p0, iv p1, iv p2, iv p3, iv p4, iv (3 : Int32), iv a, iv b, iv cc, iv dd, .unset, .unset, .unset, .unset, .unset] [(.int a), (.int (0 : Int32)), (.ref b59), (.ref b59)])) rfl rfl (hb hby at_96)
    have z62 : n0 ≤ h62.size := by rw [W62.size]; exact z59
    have K62 : Keep h0 h62 [] := K59.wr W62 (Or.inr sz_b59)
    have v62 : Arv Z h62 b59 k59 .char (3 : Int32) [(.int (nar .char a)), (.int (0 : Int32)), (.int (0 : Int32))] (.int (0 : Int32)) := Arv.set Ar62 q62 S62 n62_ H62 G62 (fits_nar_char _) W62 0 rfl (Nat.le_of_ble_eq_true rfl)
    have N62 := Fr.snoc X62 N0 g_b59
    have R63 : ∀ t, Steps p.tables e below (T62.setTop (mkF m 97 #[iv p0, iv p1, iv p2, iv p3, iv p4, iv (3 : Int32), iv a, iv b, iv cc, iv dd, .unset, .unset, .unset, .unset, .unset] [(.ref b59)])) t → Steps p.tables e below (s₁.setTop f0) t := fun t k => R61 t (st62 t k)
    have R64 : ∀ t, Steps p.tables e below (T62.setTop (mkF m 101 #[iv p0, iv p1, iv p2, iv p3, iv p4, iv (3 : Int32), iv a, iv b, iv cc, iv dd, .unset, .unset, .unset, .unset, .unset] [(.int b), (.int (1 : Int32)), (.ref b59), (.ref b59)])) t → Steps p.tables e below (s₁.setTop f0) t := fun t k => R63 t (by
      show Steps p.tables e below (T62.setTop (mkF m 97 #[iv p0, iv p1, iv p2, iv p3, iv p4, iv (3 : Int32), iv a, iv b, iv cc, iv dd, .unset, .unset, .unset, .unset, .unset] [(.ref b59)])) _
      refine XS.dup X62.here hx rfl (hb hby at_97) rfl rfl ?_
      show Steps p.tables e below (T62.setTop (mkF m 98 #[iv p0, iv p1, iv p2, iv p3, iv p4, iv (3 : Int32), iv a, iv b, iv cc, iv dd, .unset, .unset, .unset, .unset, .unset] [(.ref b59), (.ref b59)])) _
      refine XS.iconst X62.here hx rfl (hb hby at_98) ?_
      show Steps p.tables e below (T62.setTop (mkF m 99 #[iv p0, iv p1, iv p2, iv p3, iv p4, iv (3 : Int32), iv a, iv b, iv cc, iv dd, .unset, .unset, .unset, .unset, .unset] [(.int (1 : Int32)), (.ref b59), (.ref b59)])) _
      refine XS.iload X62.here hx rfl (hb hby at_99) rfl  ?_
      exact k)
    obtain ⟨cl65, Ar65, q65, S65, n65_, H65, G65⟩ := id v62
    have hin65 : ¬ ((1 : Int32) < 0 ∨ cl65.slots.size ≤ ((1 : Int32)).toNatClampNeg) := inb_of S65 ⟨by decide, by decide⟩
    obtain ⟨T65, h65, X65, e65, W65, st65⟩ := stC X62 hx hZ e62 Ar65 (j := (1 : Int32)) hin65 (g := (mkF m 101 #[iv p0, iv p1, iv p2, iv p3, iv p4, iv (3 : Int32), iv a, iv b, iv cc, iv dd, .unset, .unset, .unset, .unset, .unset] [(.int b), (.int (1 : Int32)), (.ref b59), (.ref b59)])) rfl rfl (hb hby at_101)
    have z65 : n0 ≤ h65.size := by rw [W65.size]; exact z62
    have K65 : Keep h0 h65 [] := K62.wr W65 (Or.inr sz_b59)
    have v65 : Arv Z h65 b59 k59 .char (3 : Int32) [(.int (nar .char a)), (.int (nar .char b)), (.int (0 : Int32))] (.int (0 : Int32)) := Arv.set Ar65 q65 S65 n65_ H65 G65 (fits_nar_char _) W65 1 rfl (Nat.le_of_ble_eq_true rfl)
    have N65 := Fr.snoc X65 N62 g_b59
    have R66 : ∀ t, Steps p.tables e below (T65.setTop (mkF m 102 #[iv p0, iv p1, iv p2, iv p3, iv p4, iv (3 : Int32), iv a, iv b, iv cc, iv dd, .unset, .unset, .unset, .unset, .unset] [(.ref b59)])) t → Steps p.tables e below (s₁.setTop f0) t := fun t k => R64 t (st65 t k)
    have R67 : ∀ t, Steps p.tables e below (T65.setTop (mkF m 106 #[iv p0, iv p1, iv p2, iv p3, iv p4, iv (3 : Int32), iv a, iv b, iv cc, iv dd, .unset, .unset, .unset, .unset, .unset] [(.int cc), (.int (2 : Int32)), (.ref b59), (.ref b59)])) t → Steps p.tables e below (s₁.setTop f0) t := fun t k => R66 t (by
      show Steps p.tables e below (T65.setTop (mkF m 102 #[iv p0, iv p1, iv p2, iv p3, iv p4, iv (3 : Int32), iv a, iv b, iv cc, iv dd, .unset, .unset, .unset, .unset, .unset] [(.ref b59)])) _
      refine XS.dup X65.here hx rfl (hb hby at_102) rfl rfl ?_
      show Steps p.tables e below (T65.setTop (mkF m 103 #[iv p0, iv p1, iv p2, iv p3, iv p4, iv (3 : Int32), iv a, iv b, iv cc, iv dd, .unset, .unset, .unset, .unset, .unset] [(.ref b59), (.ref b59)])) _
      refine XS.iconst X65.here hx rfl (hb hby at_103) ?_
      show Steps p.tables e below (T65.setTop (mkF m 104 #[iv p0, iv p1, iv p2, iv p3, iv p4, iv (3 : Int32), iv a, iv b, iv cc, iv dd, .unset, .unset, .unset, .unset, .unset] [(.int (2 : Int32)), (.ref b59), (.ref b59)])) _
      refine XS.iload X65.here hx rfl (hb hby at_104) rfl  ?_
      exact k)
    obtain ⟨cl68, Ar68, q68, S68, n68_, H68, G68⟩ := id v65
    have hin68 : ¬ ((2 : Int32) < 0 ∨ cl68.slots.size ≤ ((2 : Int32)).toNatClampNeg) := inb_of S68 ⟨by decide, by decide⟩
    obtain ⟨T68, h68, X68, e68, W68, st68⟩ := stC X65 hx hZ e65 Ar68 (j := (2 : Int32)) hin68 (g := (mkF m 106 #[iv p0, iv p1, iv p2, iv p3, iv p4, iv (3 : Int32), iv a, iv b, iv cc, iv dd, .unset, .unset, .unset, .unset, .unset] [(.int cc), (.int (2 : Int32)), (.ref b59), (.ref b59)])) rfl rfl (hb hby at_106)
    have z68 : n0 ≤ h68.size := by rw [W68.size]; exact z65
    have K68 : Keep h0 h68 [] := K65.wr W68 (Or.inr sz_b59)
    have v68 : Arv Z h68 b59 k59 .char (3 : Int32) [(.int (nar .char a)), (.int (nar .char b)), (.int (nar .char cc))] (.int (0 : Int32)) := Arv.set Ar68 q68 S68 n68_ H68 G68 (fits_nar_char _) W68 2 rfl (Nat.le_of_ble_eq_true rfl)
    have N68 := Fr.snoc X68 N65 g_b59
    have R69 : ∀ t, Steps p.tables e below (T68.setTop (mkF m 107 #[iv p0, iv p1, iv p2, iv p3, iv p4, iv (3 : Int32), iv a, iv b, iv cc, iv dd, .unset, .unset, .unset, .unset, .unset] [(.ref b59)])) t → Steps p.tables e below (s₁.setTop f0) t := fun t k => R67 t (st68 t k)
    have R70 : ∀ t, Steps p.tables e below (T68.setTop (mkF m 111 #[iv p0, iv p1, iv p2, iv p3, iv p4, iv (3 : Int32), iv a, iv b, iv cc, iv dd, rv b59, .unset, .unset, .unset, .unset] [(.ref b59)])) t → Steps p.tables e below (s₁.setTop f0) t := fun t k => R69 t (by
      show Steps p.tables e below (T68.setTop (mkF m 107 #[iv p0, iv p1, iv p2, iv p3, iv p4, iv (3 : Int32), iv a, iv b, iv cc, iv dd, .unset, .unset, .unset, .unset, .unset] [(.ref b59)])) _
      refine XS.astore X68.here hx rfl (hb hby at_107) rfl rfl (l' := #[iv p0, iv p1, iv p2, iv p3, iv p4, iv (3 : Int32), iv a, iv b, iv cc, iv dd, rv b59, .unset, .unset, .unset, .unset]) rfl ?_
      show Steps p.tables e below (T68.setTop (mkF m 109 #[iv p0, iv p1, iv p2, iv p3, iv p4, iv (3 : Int32), iv a, iv b, iv cc, iv dd, rv b59, .unset, .unset, .unset, .unset] [])) _
      refine XS.aload X68.here hx rfl (hb hby at_109) rfl rfl ?_
      exact k)
    obtain ⟨_, _, ⟨T71, L71, k71, n71⟩, -, X71, ⟨Lc71, hQ71, l71, y71, z71⟩, st71⟩ := Jvm.LawKit.callS X68 hx (y := (⟨sN0, "stops", "([C)J"⟩ : MethodName)) hown (mvT hZ (hw _ (List.mem_of_getElem? (i := 1) rfl))) (mvT hZ (hw _ (List.mem_of_getElem? (i := 2) rfl))) (mvT hZ (hw _ (List.mem_of_getElem? (i := 3) rfl))) (mvT hZ (hw _ (List.mem_of_getElem? (i := 4) rfl))) (by decide) (backOf (W := 0) (rmStops3 l Z a0 hw [] b59 k59 (nar .char a) (nar .char b) (nar .char cc) h68 n0 z68 v68) hZ (hw _ (List.mem_of_getElem? (i := 4) rfl)) (hw _ (List.mem_of_getElem? (i := 3) rfl)) (by decide) (by decide)) (g := (mkF m 111 #[iv p0, iv p1, iv p2, iv p3, iv p4, iv (3 : Int32), iv a, iv b, iv cc, iv dd, rv b59, .unset, .unset, .unset, .unset] [(.ref b59)])) rfl (by rw [hml]; rfl) (argsL := [(.ref b59)]) (rest := []) (lenOf pd_2 rfl) rfl (by show 2 * 0 + _ ≤ _; exact Nat.le_of_eq rfl) (hb hby at_111) (fun _ _ => ⟨rfl, e68, (by decide : 1 + 0 ≤ _), (by decide : 3 + 0 ≤ _)⟩)
    dsimp only [Pt.U, Pt.locs, Pt.cells, Pt.slots] at X71 l71 y71 z71 st71 hQ71
    subst l71 y71 z71
    obtain ⟨rfl, N71q, p71_0⟩ := hQ71
    have N71 := Fr.app N68 N71q
    have R72 : ∀ t, Steps p.tables e below (T71.setTop (mkF m 114 #[iv p0, iv p1, iv p2, iv p3, iv p4, iv (3 : Int32), iv a, iv b, iv cc, iv dd, rv b59, .unset, .unset, .unset, .unset] [(.long ((((0 : Int64) ||| ((1 : Int64) <<< ((nar .char a) &&& 0x3f).toInt64)) ||| ((1 : Int64) <<< ((nar .char b) &&& 0x3f).toInt64)) ||| ((1 : Int64) <<< ((nar .char cc) &&& 0x3f).toInt64)))])) t → Steps p.tables e below (s₁.setTop f0) t := fun t k => R70 t (st71 t k)
    have R73 : ∀ t, Steps p.tables e below (T71.setTop (mkF m 116 #[iv p0, iv p1, iv p2, iv p3, iv p4, iv (3 : Int32), iv a, iv b, iv cc, iv dd, rv b59, .val (.long ((((0 : Int64) ||| ((1 : Int64) <<< ((nar .char a) &&& 0x3f).toInt64)) ||| ((1 : Int64) <<< ((nar .char b) &&& 0x3f).toInt64)) ||| ((1 : Int64) <<< ((nar .char cc) &&& 0x3f).toInt64))), .second, .unset, .unset] [])) t → Steps p.tables e below (s₁.setTop f0) t := fun t k => R72 t (by
      show Steps p.tables e below (T71.setTop (mkF m 114 #[iv p0, iv p1, iv p2, iv p3, iv p4, iv (3 : Int32), iv a, iv b, iv cc, iv dd, rv b59, .unset, .unset, .unset, .unset] [(.long ((((0 : Int64) ||| ((1 : Int64) <<< ((nar .char a) &&& 0x3f).toInt64)) ||| ((1 : Int64) <<< ((nar .char b) &&& 0x3f).toInt64)) ||| ((1 : Int64) <<< ((nar .char cc) &&& 0x3f).toInt64)))])) _
      refine XS.lstore X71.here hx rfl (hb hby at_114) rfl (l' := #[iv p0, iv p1, iv p2, iv p3, iv p4, iv (3 : Int32), iv a, iv b, iv cc, iv dd, rv b59, .val (.long ((((0 : Int64) ||| ((1 : Int64) <<< ((nar .char a) &&& 0x3f).toInt64)) ||| ((1 : Int64) <<< ((nar .char b) &&& 0x3f).toInt64)) ||| ((1 : Int64) <<< ((nar .char cc) &&& 0x3f).toInt64))), .second, .unset, .unset]) rfl ?_
      exact k)
    have R74 : ∀ t, Steps p.tables e below (T71.setTop (mkF m 160 #[iv p0, iv p1, iv p2, iv p3, iv p4, iv (3 : Int32), iv a, iv b, iv cc, iv dd, rv b59, .val (.long ((((0 : Int64) ||| ((1 : Int64) <<< ((nar .char a) &&& 0x3f).toInt64)) ||| ((1 : Int64) <<< ((nar .char b) &&& 0x3f).toInt64)) ||| ((1 : Int64) <<< ((nar .char cc) &&& 0x3f).toInt64))), .second, .unset, .unset] [(.int (own_b (dd = a ∨ dd = b ∨ dd = cc)))])) t → Steps p.tables e below (s₁.setTop f0) t := by
      intro t k
      refine R73 t ?_
      show Steps p.tables e below (T71.setTop (mkF m 116 #[iv p0, iv p1, iv p2, iv p3, iv p4, iv (3 : Int32), iv a, iv b, iv cc, iv dd, rv b59, .val (.long ((((0 : Int64) ||| ((1 : Int64) <<< ((nar .char a) &&& 0x3f).toInt64)) ||| ((1 : Int64) <<< ((nar .char b) &&& 0x3f).toInt64)) ||| ((1 : Int64) <<< ((nar .char cc) &&& 0x3f).toInt64))), .second, .unset, .unset] [])) _
      refine XS.iload X71.here hx rfl (hb hby at_116) rfl  ?_
      show Steps p.tables e below (T71.setTop (mkF m 118 #[iv p0, iv p1, iv p2, iv p3, iv p4, iv (3 : Int32), iv a, iv b, iv cc, iv dd, rv b59, .val (.long ((((0 : Int64) ||| ((1 : Int64) <<< ((nar .char a) &&& 0x3f).toInt64)) ||| ((1 : Int64) <<< ((nar .char b) &&& 0x3f).toInt64)) ||| ((1 : Int64) <<< ((nar .char cc) &&& 0x3f).toInt64))), .second, .unset, .unset] [(.int (3 : Int32))])) _
      refine XS.iconst X71.here hx rfl (hb hby at_118) ?_
      show Steps p.tables e below (T71.setTop (mkF m 119 #[iv p0, iv p1, iv p2, iv p3, iv p4, iv (3 : Int32), iv a, iv b, iv cc, iv dd, rv b59, .val (.long ((((0 : Int64) ||| ((1 : Int64) <<< ((nar .char a) &&& 0x3f).toInt64)) ||| ((1 : Int64) <<< ((nar .char b) &&& 0x3f).toInt64)) ||| ((1 : Int64) <<< ((nar .char cc) &&& 0x3f).toInt64))), .second, .unset, .unset] [(.int (1 : Int32)), (.int (3 : Int32))])) _
      refine XS.icmpNo X71.here hx rfl (hb hby at_119) rfl (flt (by decide : ¬ ((3 : Int32) < (1 : Int32)))).1 ?_
      show Steps p.tables e below (T71.setTop (mkF m 122 #[iv p0, iv p1, iv p2, iv p3, iv p4, iv (3 : Int32), iv a, iv b, iv cc, iv dd, rv b59, .val (.long ((((0 : Int64) ||| ((1 : Int64) <<< ((nar .char a) &&& 0x3f).toInt64)) ||| ((1 : Int64) <<< ((nar .char b) &&& 0x3f).toInt64)) ||| ((1 : Int64) <<< ((nar .char cc) &&& 0x3f).toInt64))), .second, .unset, .unset] [])) _
      refine XS.iload X71.here hx rfl (hb hby at_122) rfl  ?_
      show Steps p.tables e below (T71.setTop (mkF m 124 #[iv p0, iv p1, iv p2, iv p3, iv p4, iv (3 : Int32), iv a, iv b, iv cc, iv dd, rv b59, .val (.long ((((0 : Int64) ||| ((1 : Int64) <<< ((nar .char a) &&& 0x3f).toInt64)) ||| ((1 : Int64) <<< ((nar .char b) &&& 0x3f).toInt64)) ||| ((1 : Int64) <<< ((nar .char cc) &&& 0x3f).toInt64))), .second, .unset, .unset] [(.int dd)])) _
      refine XS.iload X71.here hx rfl (hb hby at_124) rfl  ?_
      by_cases hm1 : dd = a
      · skip
        show Steps p.tables e below (T71.setTop (mkF m 126 #[iv p0, iv p1, iv p2, iv p3, iv p4, iv (3 : Int32), iv a, iv b, iv cc, iv dd, rv b59, .val (.long ((((0 : Int64) ||| ((1 : Int64) <<< ((nar .char a) &&& 0x3f).toInt64)) ||| ((1 : Int64) <<< ((nar .char b) &&& 0x3f).toInt64)) ||| ((1 : Int64) <<< ((nar .char cc) &&& 0x3f).toInt64))), .second, .unset, .unset] [(.int a), (.int dd)])) _
        refine XS.icmpYes X71.here hx rfl (pc0 := 126) (pc' := 155) rfl (hb hby at_126) rfl (teq hm1).1 (by decide) (by decide) ?_
        show Steps p.tables e below (T71.setTop (mkF m 155 #[iv p0, iv p1, iv p2, iv p3, iv p4, iv (3 : Int32), iv a, iv b, iv cc, iv dd, rv b59, .val (.long ((((0 : Int64) ||| ((1 : Int64) <<< ((nar .char a) &&& 0x3f).toInt64)) ||| ((1 : Int64) <<< ((nar .char b) &&& 0x3f).toInt64)) ||| ((1 : Int64) <<< ((nar .char cc) &&& 0x3f).toInt64))), .second, .unset, .unset] [])) _
        refine XS.iconst X71.here hx rfl (hb hby at_155) ?_
        show Steps p.tables e below (T71.setTop (mkF m 156 #[iv p0, iv p1, iv p2, iv p3, iv p4, iv (3 : Int32), iv a, iv b, iv cc, iv dd, rv b59, .val (.long ((((0 : Int64) ||| ((1 : Int64) <<< ((nar .char a) &&& 0x3f).toInt64)) ||| ((1 : Int64) <<< ((nar .char b) &&& 0x3f).toInt64)) ||| ((1 : Int64) <<< ((nar .char cc) &&& 0x3f).toInt64))), .second, .unset, .unset] [(.int (1 : Int32))])) _
        refine XS.goto X71.here hx rfl (pc0 := 156) (pc' := 160) rfl (hb hby at_156) (by decide) (by decide) ?_
        have hv : (own_b (dd = a ∨ dd = b ∨ dd = cc)) = (1 : Int32) := by (try simp only [lw_gt, lw_lt, lw_eq] at hm1); simp [own_b, hm1]
        rw [hv] at k
        exact k
      · skip
        show Steps p.tables e below (T71.setTop (mkF m 126 #[iv p0, iv p1, iv p2, iv p3, iv p4, iv (3 : Int32), iv a, iv b, iv cc, iv dd, rv b59, .val (.long ((((0 : Int64) ||| ((1 : Int64) <<< ((nar .char a) &&& 0x3f).toInt64)) ||| ((1 : Int64) <<< ((nar .char b) &&& 0x3f).toInt64)) ||| ((1 : Int64) <<< ((nar .char cc) &&& 0x3f).toInt64))), .second, .unset, .unset] [(.int a), (.int dd)])) _
        refine XS.icmpNo X71.here hx rfl (hb hby at_126) rfl (feq hm1).1 ?_
        show Steps p.tables e below (T71.setTop (mkF m 129 #[iv p0, iv p1, iv p2, iv p3, iv p4, iv (3 : Int32), iv a, iv b, iv cc, iv dd, rv b59, .val (.long ((((0 : Int64) ||| ((1 : Int64) <<< ((nar .char a) &&& 0x3f).toInt64)) ||| ((1 : Int64) <<< ((nar .char b) &&& 0x3f).toInt64)) ||| ((1 : Int64) <<< ((nar .char cc) &&& 0x3f).toInt64))), .second, .unset, .unset] [])) _
        refine XS.iload X71.here hx rfl (hb hby at_129) rfl  ?_
        show Steps p.tables e below (T71.setTop (mkF m 131 #[iv p0, iv p1, iv p2, iv p3, iv p4, iv (3 : Int32), iv a, iv b, iv cc, iv dd, rv b59, .val (.long ((((0 : Int64) ||| ((1 : Int64) <<< ((nar .char a) &&& 0x3f).toInt64)) ||| ((1 : Int64) <<< ((nar .char b) &&& 0x3f).toInt64)) ||| ((1 : Int64) <<< ((nar .char cc) &&& 0x3f).toInt64))), .second, .unset, .unset] [(.int (3 : Int32))])) _
        refine XS.iconst X71.here hx rfl (hb hby at_131) ?_
        show Steps p.tables e below (T71.setTop (mkF m 132 #[iv p0, iv p1, iv p2, iv p3, iv p4, iv (3 : Int32), iv a, iv b, iv cc, iv dd, rv b59, .val (.long ((((0 : Int64) ||| ((1 : Int64) <<< ((nar .char a) &&& 0x3f).toInt64)) ||| ((1 : Int64) <<< ((nar .char b) &&& 0x3f).toInt64)) ||| ((1 : Int64) <<< ((nar .char cc) &&& 0x3f).toInt64))), .second, .unset, .unset] [(.int (2 : Int32)), (.int (3 : Int32))])) _
        refine XS.icmpNo X71.here hx rfl (hb hby at_132) rfl (flt (by decide : ¬ ((3 : Int32) < (2 : Int32)))).1 ?_
        show Steps p.tables e below (T71.setTop (mkF m 135 #[iv p0, iv p1, iv p2, iv p3, iv p4, iv (3 : Int32), iv a, iv b, iv cc, iv dd, rv b59, .val (.long ((((0 : Int64) ||| ((1 : Int64) <<< ((nar .char a) &&& 0x3f).toInt64)) ||| ((1 : Int64) <<< ((nar .char b) &&& 0x3f).toInt64)) ||| ((1 : Int64) <<< ((nar .char cc) &&& 0x3f).toInt64))), .second, .unset, .unset] [])) _
        refine XS.iload X71.here hx rfl (hb hby at_135) rfl  ?_
        show Steps p.tables e below (T71.setTop (mkF m 137 #[iv p0, iv p1, iv p2, iv p3, iv p4, iv (3 : Int32), iv a, iv b, iv cc, iv dd, rv b59, .val (.long ((((0 : Int64) ||| ((1 : Int64) <<< ((nar .char a) &&& 0x3f).toInt64)) ||| ((1 : Int64) <<< ((nar .char b) &&& 0x3f).toInt64)) ||| ((1 : Int64) <<< ((nar .char cc) &&& 0x3f).toInt64))), .second, .unset, .unset] [(.int dd)])) _
        refine XS.iload X71.here hx rfl (hb hby at_137) rfl  ?_
        by_cases hm2 : dd = b
        · skip
          show Steps p.tables e below (T71.setTop (mkF m 139 #[iv p0, iv p1, iv p2, iv p3, iv p4, iv (3 : Int32), iv a, iv b, iv cc, iv dd, rv b59, .val (.long ((((0 : Int64) ||| ((1 : Int64) <<< ((nar .char a) &&& 0x3f).toInt64)) ||| ((1 : Int64) <<< ((nar .char b) &&& 0x3f).toInt64)) ||| ((1 : Int64) <<< ((nar .char cc) &&& 0x3f).toInt64))), .second, .unset, .unset] [(.int b), (.int dd)])) _
          refine XS.icmpYes X71.here hx rfl (pc0 := 139) (pc' := 155) rfl (hb hby at_139) rfl (teq hm2).1 (by decide) (by decide) ?_
          show Steps p.tables e below (T71.setTop (mkF m 155 #[iv p0, iv p1, iv p2, iv p3, iv p4, iv (3 : Int32), iv a, iv b, iv cc, iv dd, rv b59, .val (.long ((((0 : Int64) ||| ((1 : Int64) <<< ((nar .char a) &&& 0x3f).toInt64)) ||| ((1 : Int64) <<< ((nar .char b) &&& 0x3f).toInt64)) ||| ((1 : Int64) <<< ((nar .char cc) &&& 0x3f).toInt64))), .second, .unset, .unset] [])) _
          refine XS.iconst X71.here hx rfl (hb hby at_155) ?_
          show Steps p.tables e below (T71.setTop (mkF m 156 #[iv p0, iv p1, iv p2, iv p3, iv p4, iv (3 : Int32), iv a, iv b, iv cc, iv dd, rv b59, .val (.long ((((0 : Int64) ||| ((1 : Int64) <<< ((nar .char a) &&& 0x3f).toInt64)) ||| ((1 : Int64) <<< ((nar .char b) &&& 0x3f).toInt64)) ||| ((1 : Int64) <<< ((nar .char cc) &&& 0x3f).toInt64))), .second, .unset, .unset] [(.int (1 : Int32))])) _
          refine XS.goto X71.here hx rfl (pc0 := 156) (pc' := 160) rfl (hb hby at_156) (by decide) (by decide) ?_
          have hv : (own_b (dd = a ∨ dd = b ∨ dd = cc)) = (1 : Int32) := by (try simp only [lw_gt, lw_lt, lw_eq] at hm1); (try simp only [lw_gt, lw_lt, lw_eq] at hm2); simp [own_b, hm1, hm2]
          rw [hv] at k
          exact k
        · skip
          show Steps p.tables e below (T71.setTop (mkF m 139 #[iv p0, iv p1, iv p2, iv p3, iv p4, iv (3 : Int32), iv a, iv b, iv cc, iv dd, rv b59, .val (.long ((((0 : Int64) ||| ((1 : Int64) <<< ((nar .char a) &&& 0x3f).toInt64)) ||| ((1 : Int64) <<< ((nar .char b) &&& 0x3f).toInt64)) ||| ((1 : Int64) <<< ((nar .char cc) &&& 0x3f).toInt64))), .second, .unset, .unset] [(.int b), (.int dd)])) _
          refine XS.icmpNo X71.here hx rfl (hb hby at_139) rfl (feq hm2).1 ?_
          show Steps p.tables e below (T71.setTop (mkF m 142 #[iv p0, iv p1, iv p2, iv p3, iv p4, iv (3 : Int32), iv a, iv b, iv cc, iv dd, rv b59, .val (.long ((((0 : Int64) ||| ((1 : Int64) <<< ((nar .char a) &&& 0x3f).toInt64)) ||| ((1 : Int64) <<< ((nar .char b) &&& 0x3f).toInt64)) ||| ((1 : Int64) <<< ((nar .char cc) &&& 0x3f).toInt64))), .second, .unset, .unset] [])) _
          refine XS.iload X71.here hx rfl (hb hby at_142) rfl  ?_
          show Steps p.tables e below (T71.setTop (mkF m 144 #[iv p0, iv p1, iv p2, iv p3, iv p4, iv (3 : Int32), iv a, iv b, iv cc, iv dd, rv b59, .val (.long ((((0 : Int64) ||| ((1 : Int64) <<< ((nar .char a) &&& 0x3f).toInt64)) ||| ((1 : Int64) <<< ((nar .char b) &&& 0x3f).toInt64)) ||| ((1 : Int64) <<< ((nar .char cc) &&& 0x3f).toInt64))), .second, .unset, .unset] [(.int (3 : Int32))])) _
          refine XS.iconst X71.here hx rfl (hb hby at_144) ?_
          show Steps p.tables e below (T71.setTop (mkF m 145 #[iv p0, iv p1, iv p2, iv p3, iv p4, iv (3 : Int32), iv a, iv b, iv cc, iv dd, rv b59, .val (.long ((((0 : Int64) ||| ((1 : Int64) <<< ((nar .char a) &&& 0x3f).toInt64)) ||| ((1 : Int64) <<< ((nar .char b) &&& 0x3f).toInt64)) ||| ((1 : Int64) <<< ((nar .char cc) &&& 0x3f).toInt64))), .second, .unset, .unset] [(.int (3 : Int32)), (.int (3 : Int32))])) _
          refine XS.icmpNo X71.here hx rfl (hb hby at_145) rfl (flt (by decide : ¬ ((3 : Int32) < (3 : Int32)))).1 ?_
          show Steps p.tables e below (T71.setTop (mkF m 148 #[iv p0, iv p1, iv p2, iv p3, iv p4, iv (3 : Int32), iv a, iv b, iv cc, iv dd, rv b59, .val (.long ((((0 : Int64) ||| ((1 : Int64) <<< ((nar .char a) &&& 0x3f).toInt64)) ||| ((1 : Int64) <<< ((nar .char b) &&& 0x3f).toInt64)) ||| ((1 : Int64) <<< ((nar .char cc) &&& 0x3f).toInt64))), .second, .unset, .unset] [])) _
          refine XS.iload X71.here hx rfl (hb hby at_148) rfl  ?_
          show Steps p.tables e below (T71.setTop (mkF m 150 #[iv p0, iv p1, iv p2, iv p3, iv p4, iv (3 : Int32), iv a, iv b, iv cc, iv dd, rv b59, .val (.long ((((0 : Int64) ||| ((1 : Int64) <<< ((nar .char a) &&& 0x3f).toInt64)) ||| ((1 : Int64) <<< ((nar .char b) &&& 0x3f).toInt64)) ||| ((1 : Int64) <<< ((nar .char cc) &&& 0x3f).toInt64))), .second, .unset, .unset] [(.int dd)])) _
          refine XS.iload X71.here hx rfl (hb hby at_150) rfl  ?_
          by_cases hm3 : dd = cc
          · skip
            show Steps p.tables e below (T71.setTop (mkF m 152 #[iv p0, iv p1, iv p2, iv p3, iv p4, iv (3 : Int32), iv a, iv b, iv cc, iv dd, rv b59, .val (.long ((((0 : Int64) ||| ((1 : Int64) <<< ((nar .char a) &&& 0x3f).toInt64)) ||| ((1 : Int64) <<< ((nar .char b) &&& 0x3f).toInt64)) ||| ((1 : Int64) <<< ((nar .char cc) &&& 0x3f).toInt64))), .second, .unset, .unset] [(.int cc), (.int dd)])) _
            refine XS.icmpNo X71.here hx rfl (hb hby at_152) rfl (teq hm3).2 ?_
            show Steps p.tables e below (T71.setTop (mkF m 155 #[iv p0, iv p1, iv p2, iv p3, iv p4, iv (3 : Int32), iv a, iv b, iv cc, iv dd, rv b59, .val (.long ((((0 : Int64) ||| ((1 : Int64) <<< ((nar .char a) &&& 0x3f).toInt64)) ||| ((1 : Int64) <<< ((nar .char b) &&& 0x3f).toInt64)) ||| ((1 : Int64) <<< ((nar .char cc) &&& 0x3f).toInt64))), .second, .unset, .unset] [])) _
            refine XS.iconst X71.here hx rfl (hb hby at_155) ?_
            show Steps p.tables e below (T71.setTop (mkF m 156 #[iv p0, iv p1, iv p2, iv p3, iv p4, iv (3 : Int32), iv a, iv b, iv cc, iv dd, rv b59, .val (.long ((((0 : Int64) ||| ((1 : Int64) <<< ((nar .char a) &&& 0x3f).toInt64)) ||| ((1 : Int64) <<< ((nar .char b) &&& 0x3f).toInt64)) ||| ((1 : Int64) <<< ((nar .char cc) &&& 0x3f).toInt64))), .second, .unset, .unset] [(.int (1 : Int32))])) _
            refine XS.goto X71.here hx rfl (pc0 := 156) (pc' := 160) rfl (hb hby at_156) (by decide) (by decide) ?_
            have hv : (own_b (dd = a ∨ dd = b ∨ dd = cc)) = (1 : Int32) := by (try simp only [lw_gt, lw_lt, lw_eq] at hm1); (try simp only [lw_gt, lw_lt, lw_eq] at hm2); (try simp only [lw_gt, lw_lt, lw_eq] at hm3); simp [own_b, hm1, hm2, hm3]
            rw [hv] at k
            exact k
          · skip
            show Steps p.tables e below (T71.setTop (mkF m 152 #[iv p0, iv p1, iv p2, iv p3, iv p4, iv (3 : Int32), iv a, iv b, iv cc, iv dd, rv b59, .val (.long ((((0 : Int64) ||| ((1 : Int64) <<< ((nar .char a) &&& 0x3f).toInt64)) ||| ((1 : Int64) <<< ((nar .char b) &&& 0x3f).toInt64)) ||| ((1 : Int64) <<< ((nar .char cc) &&& 0x3f).toInt64))), .second, .unset, .unset] [(.int cc), (.int dd)])) _
            refine XS.icmpYes X71.here hx rfl (pc0 := 152) (pc' := 159) rfl (hb hby at_152) rfl (feq hm3).2 (by decide) (by decide) ?_
            show Steps p.tables e below (T71.setTop (mkF m 159 #[iv p0, iv p1, iv p2, iv p3, iv p4, iv (3 : Int32), iv a, iv b, iv cc, iv dd, rv b59, .val (.long ((((0 : Int64) ||| ((1 : Int64) <<< ((nar .char a) &&& 0x3f).toInt64)) ||| ((1 : Int64) <<< ((nar .char b) &&& 0x3f).toInt64)) ||| ((1 : Int64) <<< ((nar .char cc) &&& 0x3f).toInt64))), .second, .unset, .unset] [])) _
            refine XS.iconst X71.here hx rfl (hb hby at_159) ?_
            have hv : (own_b (dd = a ∨ dd = b ∨ dd = cc)) = (0 : Int32) := by (try simp only [lw_gt, lw_lt, lw_eq] at hm1); (try simp only [lw_gt, lw_lt, lw_eq] at hm2); (try simp only [lw_gt, lw_lt, lw_eq] at hm3); simp [own_b, hm1, hm2, hm3]
            rw [hv] at k
            exact k
    have R75 : ∀ t, Steps p.tables e below (T71.setTop (mkF m 162 #[iv p0, iv p1, iv p2, iv p3, iv p4, iv (3 : Int32), iv a, iv b, iv cc, iv dd, rv b59, .val (.long ((((0 : Int64) ||| ((1 : Int64) <<< ((nar .char a) &&& 0x3f).toInt64)) ||| ((1 : Int64) <<< ((nar .char b) &&& 0x3f).toInt64)) ||| ((1 : Int64) <<< ((nar .char cc) &&& 0x3f).toInt64))), .second, iv (own_b (dd = a ∨ dd = b ∨ dd = cc)), .unset] [])) t → Steps p.tables e below (s₁.setTop f0) t := fun t k => R74 t (by
      show Steps p.tables e below (T71.setTop (mkF m 160 #[iv p0, iv p1, iv p2, iv p3, iv p4, iv (3 : Int32), iv a, iv b, iv cc, iv dd, rv b59, .val (.long ((((0 : Int64) ||| ((1 : Int64) <<< ((nar .char a) &&& 0x3f).toInt64)) ||| ((1 : Int64) <<< ((nar .char b) &&& 0x3f).toInt64)) ||| ((1 : Int64) <<< ((nar .char cc) &&& 0x3f).toInt64))), .second, .unset, .unset] [(.int (own_b (dd = a ∨ dd = b ∨ dd = cc)))])) _
      refine XS.istore X71.here hx rfl (hb hby at_160) rfl (l' := #[iv p0, iv p1, iv p2, iv p3, iv p4, iv (3 : Int32), iv a, iv b, iv cc, iv dd, rv b59, .val (.long ((((0 : Int64) ||| ((1 : Int64) <<< ((nar .char a) &&& 0x3f).toInt64)) ||| ((1 : Int64) <<< ((nar .char b) &&& 0x3f).toInt64)) ||| ((1 : Int64) <<< ((nar .char cc) &&& 0x3f).toInt64))), .second, iv (own_b (dd = a ∨ dd = b ∨ dd = cc)), .unset]) rfl ?_
      exact k)
    have R76 : ∀ t, Steps p.tables e below (T71.setTop (mkF m 179 #[iv p0, iv p1, iv p2, iv p3, iv p4, iv (3 : Int32), iv a, iv b, iv cc, iv dd, rv b59, .val (.long ((((0 : Int64) ||| ((1 : Int64) <<< ((nar .char a) &&& 0x3f).toInt64)) ||| ((1 : Int64) <<< ((nar .char b) &&& 0x3f).toInt64)) ||| ((1 : Int64) <<< ((nar .char cc) &&& 0x3f).toInt64))), .second, iv (own_b (dd = a ∨ dd = b ∨ dd = cc)), .unset] [(.int (own_b (own_bit ((((0 : Int64) ||| ((1 : Int64) <<< ((nar .char a) &&& 0x3f).toInt64)) ||| ((1 : Int64) <<< ((nar .char b) &&& 0x3f).toInt64)) ||| ((1 : Int64) <<< ((nar .char cc) &&& 0x3f).toInt64)) dd = 1)))])) t → Steps p.tables e below (s₁.setTop f0) t := by
      intro t k
      refine R75 t ?_
      show Steps p.tables e below (T71.setTop (mkF m 162 #[iv p0, iv p1, iv p2, iv p3, iv p4, iv (3 : Int32), iv a, iv b, iv cc, iv dd, rv b59, .val (.long ((((0 : Int64) ||| ((1 : Int64) <<< ((nar .char a) &&& 0x3f).toInt64)) ||| ((1 : Int64) <<< ((nar .char b) &&& 0x3f).toInt64)) ||| ((1 : Int64) <<< ((nar .char cc) &&& 0x3f).toInt64))), .second, iv (own_b (dd = a ∨ dd = b ∨ dd = cc)), .unset] [])) _
      refine XS.lload X71.here hx rfl (hb hby at_162) rfl  ?_
      show Steps p.tables e below (T71.setTop (mkF m 164 #[iv p0, iv p1, iv p2, iv p3, iv p4, iv (3 : Int32), iv a, iv b, iv cc, iv dd, rv b59, .val (.long ((((0 : Int64) ||| ((1 : Int64) <<< ((nar .char a) &&& 0x3f).toInt64)) ||| ((1 : Int64) <<< ((nar .char b) &&& 0x3f).toInt64)) ||| ((1 : Int64) <<< ((nar .char cc) &&& 0x3f).toInt64))), .second, iv (own_b (dd = a ∨ dd = b ∨ dd = cc)), .unset] [(.long ((((0 : Int64) ||| ((1 : Int64) <<< ((nar .char a) &&& 0x3f).toInt64)) ||| ((1 : Int64) <<< ((nar .char b) &&& 0x3f).toInt64)) ||| ((1 : Int64) <<< ((nar .char cc) &&& 0x3f).toInt64)))])) _
      refine XS.iload X71.here hx rfl (hb hby at_164) rfl  ?_
      show Steps p.tables e below (T71.setTop (mkF m 166 #[iv p0, iv p1, iv p2, iv p3, iv p4, iv (3 : Int32), iv a, iv b, iv cc, iv dd, rv b59, .val (.long ((((0 : Int64) ||| ((1 : Int64) <<< ((nar .char a) &&& 0x3f).toInt64)) ||| ((1 : Int64) <<< ((nar .char b) &&& 0x3f).toInt64)) ||| ((1 : Int64) <<< ((nar .char cc) &&& 0x3f).toInt64))), .second, iv (own_b (dd = a ∨ dd = b ∨ dd = cc)), .unset] [(.int dd), (.long ((((0 : Int64) ||| ((1 : Int64) <<< ((nar .char a) &&& 0x3f).toInt64)) ||| ((1 : Int64) <<< ((nar .char b) &&& 0x3f).toInt64)) ||| ((1 : Int64) <<< ((nar .char cc) &&& 0x3f).toInt64)))])) _
      refine XS.lushr X71.here hx rfl (hb hby at_166) rfl ?_
      show Steps p.tables e below (T71.setTop (mkF m 167 #[iv p0, iv p1, iv p2, iv p3, iv p4, iv (3 : Int32), iv a, iv b, iv cc, iv dd, rv b59, .val (.long ((((0 : Int64) ||| ((1 : Int64) <<< ((nar .char a) &&& 0x3f).toInt64)) ||| ((1 : Int64) <<< ((nar .char b) &&& 0x3f).toInt64)) ||| ((1 : Int64) <<< ((nar .char cc) &&& 0x3f).toInt64))), .second, iv (own_b (dd = a ∨ dd = b ∨ dd = cc)), .unset] [(.long ((((((0 : Int64) ||| ((1 : Int64) <<< ((nar .char a) &&& 0x3f).toInt64)) ||| ((1 : Int64) <<< ((nar .char b) &&& 0x3f).toInt64)) ||| ((1 : Int64) <<< ((nar .char cc) &&& 0x3f).toInt64)).toUInt64 >>> (dd &&& 0x3f).toInt64.toUInt64).toInt64))])) _
      refine XS.lconst X71.here hx rfl (hb hby at_167) ?_
      show Steps p.tables e below (T71.setTop (mkF m 168 #[iv p0, iv p1, iv p2, iv p3, iv p4, iv (3 : Int32), iv a, iv b, iv cc, iv dd, rv b59, .val (.long ((((0 : Int64) ||| ((1 : Int64) <<< ((nar .char a) &&& 0x3f).toInt64)) ||| ((1 : Int64) <<< ((nar .char b) &&& 0x3f).toInt64)) ||| ((1 : Int64) <<< ((nar .char cc) &&& 0x3f).toInt64))), .second, iv (own_b (dd = a ∨ dd = b ∨ dd = cc)), .unset] [(.long (1 : Int64)), (.long ((((((0 : Int64) ||| ((1 : Int64) <<< ((nar .char a) &&& 0x3f).toInt64)) ||| ((1 : Int64) <<< ((nar .char b) &&& 0x3f).toInt64)) ||| ((1 : Int64) <<< ((nar .char cc) &&& 0x3f).toInt64)).toUInt64 >>> (dd &&& 0x3f).toInt64.toUInt64).toInt64))])) _
      refine XS.land X71.here hx rfl (hb hby at_168) rfl ?_
      show Steps p.tables e below (T71.setTop (mkF m 169 #[iv p0, iv p1, iv p2, iv p3, iv p4, iv (3 : Int32), iv a, iv b, iv cc, iv dd, rv b59, .val (.long ((((0 : Int64) ||| ((1 : Int64) <<< ((nar .char a) &&& 0x3f).toInt64)) ||| ((1 : Int64) <<< ((nar .char b) &&& 0x3f).toInt64)) ||| ((1 : Int64) <<< ((nar .char cc) &&& 0x3f).toInt64))), .second, iv (own_b (dd = a ∨ dd = b ∨ dd = cc)), .unset] [(.long (((((((0 : Int64) ||| ((1 : Int64) <<< ((nar .char a) &&& 0x3f).toInt64)) ||| ((1 : Int64) <<< ((nar .char b) &&& 0x3f).toInt64)) ||| ((1 : Int64) <<< ((nar .char cc) &&& 0x3f).toInt64)).toUInt64 >>> (dd &&& 0x3f).toInt64.toUInt64).toInt64) &&& (1 : Int64)))])) _
      refine XS.lconst X71.here hx rfl (hb hby at_169) ?_
      show Steps p.tables e below (T71.setTop (mkF m 170 #[iv p0, iv p1, iv p2, iv p3, iv p4, iv (3 : Int32), iv a, iv b, iv cc, iv dd, rv b59, .val (.long ((((0 : Int64) ||| ((1 : Int64) <<< ((nar .char a) &&& 0x3f).toInt64)) ||| ((1 : Int64) <<< ((nar .char b) &&& 0x3f).toInt64)) ||| ((1 : Int64) <<< ((nar .char cc) &&& 0x3f).toInt64))), .second, iv (own_b (dd = a ∨ dd = b ∨ dd = cc)), .unset] [(.long (1 : Int64)), (.long (((((((0 : Int64) ||| ((1 : Int64) <<< ((nar .char a) &&& 0x3f).toInt64)) ||| ((1 : Int64) <<< ((nar .char b) &&& 0x3f).toInt64)) ||| ((1 : Int64) <<< ((nar .char cc) &&& 0x3f).toInt64)).toUInt64 >>> (dd &&& 0x3f).toInt64.toUInt64).toInt64) &&& (1 : Int64)))])) _
      refine XS.lcmp X71.here hx rfl (hb hby at_170) rfl ?_
      by_cases hm1 : (lcmpW (((((((0 : Int64) ||| ((1 : Int64) <<< ((nar .char a) &&& 0x3f).toInt64)) ||| ((1 : Int64) <<< ((nar .char b) &&& 0x3f).toInt64)) ||| ((1 : Int64) <<< ((nar .char cc) &&& 0x3f).toInt64)).toUInt64 >>> (dd &&& 0x3f).toInt64.toUInt64).toInt64) &&& (1 : Int64)) (1 : Int64)) = (0 : Int32)
      · skip
        show Steps p.tables e below (T71.setTop (mkF m 171 #[iv p0, iv p1, iv p2, iv p3, iv p4, iv (3 : Int32), iv a, iv b, iv cc, iv dd, rv b59, .val (.long ((((0 : Int64) ||| ((1 : Int64) <<< ((nar .char a) &&& 0x3f).toInt64)) ||| ((1 : Int64) <<< ((nar .char b) &&& 0x3f).toInt64)) ||| ((1 : Int64) <<< ((nar .char cc) &&& 0x3f).toInt64))), .second, iv (own_b (dd = a ∨ dd = b ∨ dd = cc)), .unset] [(.int (lcmpW (((((((0 : Int64) ||| ((1 : Int64) <<< ((nar .char a) &&& 0x3f).toInt64)) ||| ((1 : Int64) <<< ((nar .char b) &&& 0x3f).toInt64)) ||| ((1 : Int64) <<< ((nar .char cc) &&& 0x3f).toInt64)).toUInt64 >>> (dd &&& 0x3f).toInt64.toUInt64).toInt64) &&& (1 : Int64)) (1 : Int64)))])) _
        refine XS.ifNo X71.here hx rfl (hb hby at_171) rfl ((if0 _ _).trans (teq hm1).2) ?_
        show Steps p.tables e below (T71.setTop (mkF m 174 #[iv p0, iv p1, iv p2, iv p3, iv p4, iv (3 : Int32), iv a, iv b, iv cc, iv dd, rv b59, .val (.long ((((0 : Int64) ||| ((1 : Int64) <<< ((nar .char a) &&& 0x3f).toInt64)) ||| ((1 : Int64) <<< ((nar .char b) &&& 0x3f).toInt64)) ||| ((1 : Int64) <<< ((nar .char cc) &&& 0x3f).toInt64))), .second, iv (own_b (dd = a ∨ dd = b ∨ dd = cc)), .unset] [])) _
        refine XS.iconst X71.here hx rfl (hb hby at_174) ?_
        show Steps p.tables e below (T71.setTop (mkF m 175 #[iv p0, iv p1, iv p2, iv p3, iv p4, iv (3 : Int32), iv a, iv b, iv cc, iv dd, rv b59, .val (.long ((((0 : Int64) ||| ((1 : Int64) <<< ((nar .char a) &&& 0x3f).toInt64)) ||| ((1 : Int64) <<< ((nar .char b) &&& 0x3f).toInt64)) ||| ((1 : Int64) <<< ((nar .char cc) &&& 0x3f).toInt64))), .second, iv (own_b (dd = a ∨ dd = b ∨ dd = cc)), .unset] [(.int (1 : Int32))])) _
        refine XS.goto X71.here hx rfl (pc0 := 175) (pc' := 179) rfl (hb hby at_175) (by decide) (by decide) ?_
        have hv : (own_b (own_bit ((((0 : Int64) ||| ((1 : Int64) <<< ((nar .char a) &&& 0x3f).toInt64)) ||| ((1 : Int64) <<< ((nar .char b) &&& 0x3f).toInt64)) ||| ((1 : Int64) <<< ((nar .char cc) &&& 0x3f).toInt64)) dd = 1)) = (1 : Int32) := by (try simp only [lw_eq] at hm1); (first | (change own_bit ((((0 : Int64) ||| ((1 : Int64) <<< ((nar .char a) &&& 0x3f).toInt64)) ||| ((1 : Int64) <<< ((nar .char b) &&& 0x3f).toInt64)) ||| ((1 : Int64) <<< ((nar .char cc) &&& 0x3f).toInt64)) dd = 1 at hm1) | (change ¬ own_bit ((((0 : Int64) ||| ((1 : Int64) <<< ((nar .char a) &&& 0x3f).toInt64)) ||| ((1 : Int64) <<< ((nar .char b) &&& 0x3f).toInt64)) ||| ((1 : Int64) <<< ((nar .char cc) &&& 0x3f).toInt64)) dd = 1 at hm1)); first | exact if_pos hm1 | exact if_neg hm1
        rw [hv] at k
        exact k
      · skip
        show Steps p.tables e below (T71.setTop (mkF m 171 #[iv p0, iv p1, iv p2, iv p3, iv p4, iv (3 : Int32), iv a, iv b, iv cc, iv dd, rv b59, .val (.long ((((0 : Int64) ||| ((1 : Int64) <<< ((nar .char a) &&& 0x3f).toInt64)) ||| ((1 : Int64) <<< ((nar .char b) &&& 0x3f).toInt64)) ||| ((1 : Int64) <<< ((nar .char cc) &&& 0x3f).toInt64))), .second, iv (own_b (dd = a ∨ dd = b ∨ dd = cc)), .unset] [(.int (lcmpW (((((((0 : Int64) ||| ((1 : Int64) <<< ((nar .char a) &&& 0x3f).toInt64)) ||| ((1 : Int64) <<< ((nar .char b) &&& 0x3f).toInt64)) ||| ((1 : Int64) <<< ((nar .char cc) &&& 0x3f).toInt64)).toUInt64 >>> (dd &&& 0x3f).toInt64.toUInt64).toInt64) &&& (1 : Int64)) (1 : Int64)))])) _
        refine XS.ifYes X71.here hx rfl (pc0 := 171) (pc' := 178) rfl (hb hby at_171) rfl ((if0 _ _).trans (feq hm1).2) (by decide) (by decide) ?_
        show Steps p.tables e below (T71.setTop (mkF m 178 #[iv p0, iv p1, iv p2, iv p3, iv p4, iv (3 : Int32), iv a, iv b, iv cc, iv dd, rv b59, .val (.long ((((0 : Int64) ||| ((1 : Int64) <<< ((nar .char a) &&& 0x3f).toInt64)) ||| ((1 : Int64) <<< ((nar .char b) &&& 0x3f).toInt64)) ||| ((1 : Int64) <<< ((nar .char cc) &&& 0x3f).toInt64))), .second, iv (own_b (dd = a ∨ dd = b ∨ dd = cc)), .unset] [])) _
        refine XS.iconst X71.here hx rfl (hb hby at_178) ?_
        have hv : (own_b (own_bit ((((0 : Int64) ||| ((1 : Int64) <<< ((nar .char a) &&& 0x3f).toInt64)) ||| ((1 : Int64) <<< ((nar .char b) &&& 0x3f).toInt64)) ||| ((1 : Int64) <<< ((nar .char cc) &&& 0x3f).toInt64)) dd = 1)) = (0 : Int32) := by (try simp only [lw_eq] at hm1); (first | (change own_bit ((((0 : Int64) ||| ((1 : Int64) <<< ((nar .char a) &&& 0x3f).toInt64)) ||| ((1 : Int64) <<< ((nar .char b) &&& 0x3f).toInt64)) ||| ((1 : Int64) <<< ((nar .char cc) &&& 0x3f).toInt64)) dd = 1 at hm1) | (change ¬ own_bit ((((0 : Int64) ||| ((1 : Int64) <<< ((nar .char a) &&& 0x3f).toInt64)) ||| ((1 : Int64) <<< ((nar .char b) &&& 0x3f).toInt64)) ||| ((1 : Int64) <<< ((nar .char cc) &&& 0x3f).toInt64)) dd = 1 at hm1)); first | exact if_pos hm1 | exact if_neg hm1
        rw [hv] at k
        exact k
    have R77 : ∀ t, Steps p.tables e below (T71.setTop (mkF m 193 #[iv p0, iv p1, iv p2, iv p3, iv p4, iv (3 : Int32), iv a, iv b, iv cc, iv dd, rv b59, .val (.long ((((0 : Int64) ||| ((1 : Int64) <<< ((nar .char a) &&& 0x3f).toInt64)) ||| ((1 : Int64) <<< ((nar .char b) &&& 0x3f).toInt64)) ||| ((1 : Int64) <<< ((nar .char cc) &&& 0x3f).toInt64))), .second, iv (own_b (dd = a ∨ dd = b ∨ dd = cc)), iv (own_b (own_bit ((((0 : Int64) ||| ((1 : Int64) <<< ((nar .char a) &&& 0x3f).toInt64)) ||| ((1 : Int64) <<< ((nar .char b) &&& 0x3f).toInt64)) ||| ((1 : Int64) <<< ((nar .char cc) &&& 0x3f).toInt64)) dd = 1))] [(.int (1 : Int32))])) t → Steps p.tables e below (s₁.setTop f0) t := fun t k => R76 t (by
      show Steps p.tables e below (T71.setTop (mkF m 179 #[iv p0, iv p1, iv p2, iv p3, iv p4, iv (3 : Int32), iv a, iv b, iv cc, iv dd, rv b59, .val (.long ((((0 : Int64) ||| ((1 : Int64) <<< ((nar .char a) &&& 0x3f).toInt64)) ||| ((1 : Int64) <<< ((nar .char b) &&& 0x3f).toInt64)) ||| ((1 : Int64) <<< ((nar .char cc) &&& 0x3f).toInt64))), .second, iv (own_b (dd = a ∨ dd = b ∨ dd = cc)), .unset] [(.int (own_b (own_bit ((((0 : Int64) ||| ((1 : Int64) <<< ((nar .char a) &&& 0x3f).toInt64)) ||| ((1 : Int64) <<< ((nar .char b) &&& 0x3f).toInt64)) ||| ((1 : Int64) <<< ((nar .char cc) &&& 0x3f).toInt64)) dd = 1)))])) _
      refine XS.istore X71.here hx rfl (hb hby at_179) rfl (l' := #[iv p0, iv p1, iv p2, iv p3, iv p4, iv (3 : Int32), iv a, iv b, iv cc, iv dd, rv b59, .val (.long ((((0 : Int64) ||| ((1 : Int64) <<< ((nar .char a) &&& 0x3f).toInt64)) ||| ((1 : Int64) <<< ((nar .char b) &&& 0x3f).toInt64)) ||| ((1 : Int64) <<< ((nar .char cc) &&& 0x3f).toInt64))), .second, iv (own_b (dd = a ∨ dd = b ∨ dd = cc)), iv (own_b (own_bit ((((0 : Int64) ||| ((1 : Int64) <<< ((nar .char a) &&& 0x3f).toInt64)) ||| ((1 : Int64) <<< ((nar .char b) &&& 0x3f).toInt64)) ||| ((1 : Int64) <<< ((nar .char cc) &&& 0x3f).toInt64)) dd = 1))]) rfl ?_
      show Steps p.tables e below (T71.setTop (mkF m 181 #[iv p0, iv p1, iv p2, iv p3, iv p4, iv (3 : Int32), iv a, iv b, iv cc, iv dd, rv b59, .val (.long ((((0 : Int64) ||| ((1 : Int64) <<< ((nar .char a) &&& 0x3f).toInt64)) ||| ((1 : Int64) <<< ((nar .char b) &&& 0x3f).toInt64)) ||| ((1 : Int64) <<< ((nar .char cc) &&& 0x3f).toInt64))), .second, iv (own_b (dd = a ∨ dd = b ∨ dd = cc)), iv (own_b (own_bit ((((0 : Int64) ||| ((1 : Int64) <<< ((nar .char a) &&& 0x3f).toInt64)) ||| ((1 : Int64) <<< ((nar .char b) &&& 0x3f).toInt64)) ||| ((1 : Int64) <<< ((nar .char cc) &&& 0x3f).toInt64)) dd = 1))] [])) _
      refine XS.iload X71.here hx rfl (hb hby at_181) rfl  ?_
      show Steps p.tables e below (T71.setTop (mkF m 183 #[iv p0, iv p1, iv p2, iv p3, iv p4, iv (3 : Int32), iv a, iv b, iv cc, iv dd, rv b59, .val (.long ((((0 : Int64) ||| ((1 : Int64) <<< ((nar .char a) &&& 0x3f).toInt64)) ||| ((1 : Int64) <<< ((nar .char b) &&& 0x3f).toInt64)) ||| ((1 : Int64) <<< ((nar .char cc) &&& 0x3f).toInt64))), .second, iv (own_b (dd = a ∨ dd = b ∨ dd = cc)), iv (own_b (own_bit ((((0 : Int64) ||| ((1 : Int64) <<< ((nar .char a) &&& 0x3f).toInt64)) ||| ((1 : Int64) <<< ((nar .char b) &&& 0x3f).toInt64)) ||| ((1 : Int64) <<< ((nar .char cc) &&& 0x3f).toInt64)) dd = 1))] [(.int (own_b (own_bit ((((0 : Int64) ||| ((1 : Int64) <<< ((nar .char a) &&& 0x3f).toInt64)) ||| ((1 : Int64) <<< ((nar .char b) &&& 0x3f).toInt64)) ||| ((1 : Int64) <<< ((nar .char cc) &&& 0x3f).toInt64)) dd = 1)))])) _
      refine XS.iload X71.here hx rfl (hb hby at_183) rfl  ?_
      show Steps p.tables e below (T71.setTop (mkF m 185 #[iv p0, iv p1, iv p2, iv p3, iv p4, iv (3 : Int32), iv a, iv b, iv cc, iv dd, rv b59, .val (.long ((((0 : Int64) ||| ((1 : Int64) <<< ((nar .char a) &&& 0x3f).toInt64)) ||| ((1 : Int64) <<< ((nar .char b) &&& 0x3f).toInt64)) ||| ((1 : Int64) <<< ((nar .char cc) &&& 0x3f).toInt64))), .second, iv (own_b (dd = a ∨ dd = b ∨ dd = cc)), iv (own_b (own_bit ((((0 : Int64) ||| ((1 : Int64) <<< ((nar .char a) &&& 0x3f).toInt64)) ||| ((1 : Int64) <<< ((nar .char b) &&& 0x3f).toInt64)) ||| ((1 : Int64) <<< ((nar .char cc) &&& 0x3f).toInt64)) dd = 1))] [(.int (own_b (dd = a ∨ dd = b ∨ dd = cc))), (.int (own_b (own_bit ((((0 : Int64) ||| ((1 : Int64) <<< ((nar .char a) &&& 0x3f).toInt64)) ||| ((1 : Int64) <<< ((nar .char b) &&& 0x3f).toInt64)) ||| ((1 : Int64) <<< ((nar .char cc) &&& 0x3f).toInt64)) dd = 1)))])) _
      refine XS.icmpNo X71.here hx rfl (hb hby at_185) rfl (teq (own_st3 a b cc dd e_a e_b e_cc e_dd : (own_b (own_bit ((((0 : Int64) ||| ((1 : Int64) <<< ((nar .char a) &&& 0x3f).toInt64)) ||| ((1 : Int64) <<< ((nar .char b) &&& 0x3f).toInt64)) ||| ((1 : Int64) <<< ((nar .char cc) &&& 0x3f).toInt64)) dd = 1)) = (own_b (dd = a ∨ dd = b ∨ dd = cc)))).2 ?_
      show Steps p.tables e below (T71.setTop (mkF m 188 #[iv p0, iv p1, iv p2, iv p3, iv p4, iv (3 : Int32), iv a, iv b, iv cc, iv dd, rv b59, .val (.long ((((0 : Int64) ||| ((1 : Int64) <<< ((nar .char a) &&& 0x3f).toInt64)) ||| ((1 : Int64) <<< ((nar .char b) &&& 0x3f).toInt64)) ||| ((1 : Int64) <<< ((nar .char cc) &&& 0x3f).toInt64))), .second, iv (own_b (dd = a ∨ dd = b ∨ dd = cc)), iv (own_b (own_bit ((((0 : Int64) ||| ((1 : Int64) <<< ((nar .char a) &&& 0x3f).toInt64)) ||| ((1 : Int64) <<< ((nar .char b) &&& 0x3f).toInt64)) ||| ((1 : Int64) <<< ((nar .char cc) &&& 0x3f).toInt64)) dd = 1))] [])) _
      refine XS.iconst X71.here hx rfl (hb hby at_188) ?_
      show Steps p.tables e below (T71.setTop (mkF m 189 #[iv p0, iv p1, iv p2, iv p3, iv p4, iv (3 : Int32), iv a, iv b, iv cc, iv dd, rv b59, .val (.long ((((0 : Int64) ||| ((1 : Int64) <<< ((nar .char a) &&& 0x3f).toInt64)) ||| ((1 : Int64) <<< ((nar .char b) &&& 0x3f).toInt64)) ||| ((1 : Int64) <<< ((nar .char cc) &&& 0x3f).toInt64))), .second, iv (own_b (dd = a ∨ dd = b ∨ dd = cc)), iv (own_b (own_bit ((((0 : Int64) ||| ((1 : Int64) <<< ((nar .char a) &&& 0x3f).toInt64)) ||| ((1 : Int64) <<< ((nar .char b) &&& 0x3f).toInt64)) ||| ((1 : Int64) <<< ((nar .char cc) &&& 0x3f).toInt64)) dd = 1))] [(.int (1 : Int32))])) _
      refine XS.goto X71.here hx rfl (pc0 := 189) (pc' := 193) rfl (hb hby at_189) (by decide) (by decide) ?_
      exact k)
    obtain ⟨fs, hr, hrun, hended, hW, hsame⟩ := X71.leave (v := some (.int (1 : Int32))) (fun h => by rw [Bd.returns] at h; cases h)
    refine ⟨_, _, pre0 _ (R77 _ ?_), hrun, hended, _, _, rfl, ?_, ⟨_, rfl⟩, hW, hsame.mono (by decide) (by decide)⟩
    · show Steps p.tables e below (T71.setTop (mkF m 193 #[iv p0, iv p1, iv p2, iv p3, iv p4, iv (3 : Int32), iv a, iv b, iv cc, iv dd, rv b59, .val (.long ((((0 : Int64) ||| ((1 : Int64) <<< ((nar .char a) &&& 0x3f).toInt64)) ||| ((1 : Int64) <<< ((nar .char b) &&& 0x3f).toInt64)) ||| ((1 : Int64) <<< ((nar .char cc) &&& 0x3f).toInt64))), .second, iv (own_b (dd = a ∨ dd = b ∨ dd = cc)), iv (own_b (own_bit ((((0 : Int64) ||| ((1 : Int64) <<< ((nar .char a) &&& 0x3f).toInt64)) ||| ((1 : Int64) <<< ((nar .char b) &&& 0x3f).toInt64)) ||| ((1 : Int64) <<< ((nar .char cc) &&& 0x3f).toInt64)) dd = 1))] [(.int (1 : Int32))])) _
      exact retN X71 hx (t := .boolean) Bd.returns (by simp) (hb hby at_193) hr
    · show Q_rmLaw Z p0 p1 p2 p3 p4 h0 n0 _ T71.heap _
      rw [p71_0]
      exact ⟨rfl, N71⟩
set_option maxRecDepth 65536 in
set_option maxHeartbeats 40000000 in
theorem comes_1 {Post : Tables → Env → Array Value → State → Outcome → State → Prop} (hpost : ∀ tb e args s v u, (limb_1_1.after args s (.returned v) u = true ∧ limb_1_2.after args s (.returned v) u = true ∧ True) → FrameEnd s (.returned v) u (Jvm.fieldLocs frame_1_writes args s ++ Jvm.arrayLocs frame_1_arrays args s ++ Jvm.staticLocs frame_1_statics s) 16 128 → Post tb e args s (.returned v) u) :
    ArmFor flags0 classFile x code maxLocals ret World_1 tables_1 room_1 Calls_1 rest_1 Pre_1 Post := by
  intro l hfl _ _ p e ha hc hk s m args below hf hA hF happ hP
  obtain ⟨hcalls, hrest, hpre⟩ := hP
  obtain ⟨-, -, -, hnamed, -, -, -, hat⟩ := (Spec.applies_iff hf).mp happ
  obtain ⟨hg, hn⟩ := and_e (Cond.before_iff.mp (show (Jvm.Cond.and given_1 narrow_1).before args s = true from hpre))
  obtain ⟨gg1, gg2⟩ := and_e hg
  obtain ⟨gg3, gg4⟩ := and_e gg2
  obtain ⟨gg5, gg6⟩ := and_e gg4
  obtain ⟨gg7, gg8⟩ := and_e gg6
  obtain ⟨gg9, gg10⟩ := and_e gg8
  obtain ⟨w0, w1, w2, w3, w4, rfl⟩ : ∃ w0 w1 w2 w3 w4 : Value, args = #[w0, w1, w2, w3, w4] := by
    have hs : args.size = 5 := by simpa [Cond.value, given_1] using gg1
    obtain ⟨L⟩ := args
    match L, hs with
    | [w0, w1, w2, w3, w4], _ => exact ⟨w0, w1, w2, w3, w4, rfl⟩
  have hw := fun d (hd : d ∈ tables_1) => atoms_spec (ws := Jvm.Cond.code x code maxLocals ret :: tables_1) hat d (List.mem_cons_of_mem _ hd)
  have hfit : Fit s := fun {y c} hc i hi => by
    obtain ⟨ha, rfl⟩ := Array.getElem?_eq_some_iff.mp hc
    have q := List.all_eq_true.mp ((Array.all_eq_true_iff_forall_mem.mp hF) _ (Array.getElem_mem ha)) i (List.mem_range.mpr hi)
    simpa [Array.getElem?_eq_getElem hi] using q
  obtain ⟨i0, ei0⟩ := is_v gg3
  obtain rfl : w0 = (.int i0) := Option.some.inj ei0
  obtain ⟨i1, ei1⟩ := is_v gg5
  obtain rfl : w1 = (.int i1) := Option.some.inj ei1
  obtain ⟨i2, ei2⟩ := is_v gg7
  obtain rfl : w2 = (.int i2) := Option.some.inj ei2
  obtain ⟨i3, ei3⟩ := is_v gg9
  obtain rfl : w3 = (.int i3) := Option.some.inj ei3
  obtain ⟨i4, ei4⟩ := is_v gg10
  obtain rfl : w4 = (.int i4) := Option.some.inj ei4
  obtain ⟨n, o, h1, h2, h3, _, L, rfl, ⟨rfl, N⟩, hq⟩ := rmLaw l s _ hw tables_1 i0 i1 i2 i3 i4 s.heap s.heap.size (Nat.le_refl _) p e ha hc hk s m _ below hf ((Spec.applies_iff_loose hf).mp happ).1 ⟨rfl, State.Warmed39.refl s, rfl⟩ trivial
  refine ⟨n, _, h1, h2, h3, hpost _ _ _ _ _ _ ⟨Cond.after_iff.mpr rfl, Cond.after_iff.mpr (eq_i res_at (Term.int_eval (1)) rfl), trivial⟩ ⟨hq.1, hq.2.1, (hq.2.2.sift fun y hy => Or.inr (N y hy)).mono (by decide) (by decide)⟩⟩
theorem main_1_1 : Claimed_1_1 := comes_1 fun _ _ _ _ _ _ h hF => ⟨h.1, hF⟩
theorem main_1_2 : Claimed_1_2 := comes_1 fun _ _ _ _ _ _ h hF => ⟨h.2.1, hF⟩
end Jvm.Pilot.@@N@@
namespace Jvm.Pilot.@@N@@
open Jvm Jvm.ClassFile Sem Op Lib Jvm.Free Jvm.Stand Jvm.Pilot.@@N@@.Jvm.D
/-! MADE BY PROGRAM (witnessworld.py) out of the Statement's table words and the real class files: 11 classes; the members and pool entries that the words name. The judged class is class 1, her method 1. -/
namespace start1
open Jvm.ClassFile
def u (s : String) : CpInfo := .utf8 (stringToUtf16 s)
/-- a pool by its gaps: so many unusable entries, then the entry; so many at the end -/
def gap : Nat → List CpInfo → List CpInfo
  | 0, r => r
  | n + 1, r => .unusable :: gap n r
def poolList (es : List (Nat × CpInfo)) (last : Nat) : List CpInfo := es.foldr (fun e r => gap e.1 (e.2 :: r)) (gap last [])
def pool (es : List (Nat × CpInfo)) (last : Nat) : Array CpInfo := ⟨poolList es last⟩
def fileOf (pool : Array CpInfo) (this : Nat) (attrs : Array Attribute := #[]) (ms : Array MethodInfo := #[]) (fl : Nat := 33) (sup : Nat := 0) (ifs : Array Nat := #[]) (fds : Array FieldInfo := #[]) : ClassFile where
  minorVersion := 0
  majorVersion := 65
  constantPool := pool
  accessFlags := fl
  thisClass := this
  superClass := sup
  interfaces := ifs
  fields := fds
  methods := ms
  attributes := attrs
def plain (name : String) (sup : Option ClassId) : Class where
  name := name
  kind := .ordinary
  loader := none
  accessFlags := 33
  super := sup
  interfaces := #[]
  cf := none
  fields := #[]
  methods := #[]
  instanceTypes := #[]
  staticTypes := #[]
  resolved := #[]
  callSites := []
  init := .initialized
  statics := none
  mirror := none

def pool0 : Array CpInfo := pool [(5, u "<init>"), (0, u "()V"), (1, .class_ 10), (1, u "java/lang/Object")] 113

def k0m0 : Method := { name := "<init>", desc := "()V", sig := { parameters := [], returnType := none }, accessFlags := 1, code := none }
/-- java/lang/Object -/
def k0 : Class := { plain "java/lang/Object" none with
  accessFlags := 33
  interfaces := #[]
  cf := some (fileOf pool0 8 #[] #[{ accessFlags := 1, nameIndex := 5, descriptorIndex := 6, attributes := #[] }] 33 0 #[] #[])
  fields := #[]
  methods := #[k0m0]
  instanceTypes := #[]
  staticTypes := #[]
  resolved := Array.replicate 124 none
  statics := none }

def pool1 : Array CpInfo := pool [(2, .class_ 4), (1, u "java/lang/Object"), (0, u "<init>"), (0, u "()V"), (0, .methodref 8 9), (0, .class_ 10), (0, .nameAndType 11 12), (0, u "com/example/biaoji/biaoji/Lexer"), (0, u "stops"), (0, u "([C)J"), (0, .class_ 14), (0, u "com/example/biaoji/biaoji/LexerStopsPinLaw"), (2, u "law"), (0, u "(IIIII)Z")] 5

def k1m0 : Method := { name := "<init>", desc := "()V", sig := { parameters := [], returnType := none }, accessFlags := 2, code := none }
def k1c1 : Code := { maxStack := 4, maxLocals := 15, code := code, exceptionTable := #[], attributes := #[] }
def k1m1 : Method := { name := "law", desc := "(IIIII)Z", sig := { parameters := [.int, .int, .int, .int, .int], returnType := some .boolean }, accessFlags := 9, code := some k1c1 }
/-- com/example/biaoji/biaoji/LexerStopsPinLaw -/
def k1 : Class := { plain "com/example/biaoji/biaoji/LexerStopsPinLaw" (some 0) with
  accessFlags := 49
  interfaces := #[]
  cf := some (fileOf pool1 13 #[] #[{ accessFlags := 2, nameIndex := 5, descriptorIndex := 6, attributes := #[] }, { accessFlags := 9, nameIndex := 17, descriptorIndex := 18, attributes := #[] }] 49 2 #[] #[])
  fields := #[]
  methods := #[k1m0, k1m1]
  instanceTypes := #[]
  staticTypes := #[]
  resolved := Array.replicate 24 none
  statics := none }

def pool2 : Array CpInfo := pool [(4, .class_ 6), (1, u "java/lang/Object"), (6, .class_ 15), (1, u "com/example/biaoji/biaoji/Lexer"), (0, u "nameBuffer"), (0, u "Ljava/lang/StringBuilder;"), (2, u "valueBuffer"), (2, u "dtd"), (0, u "Lcom/example/biaoji/biaoji/Dtd;"), (2, u "entities"), (0, u "Lcom/example/biaoji/biaoji/EntityStack;"), (8, u "reader"), (0, u "Lcom/example/biaoji/biaoji/EntityReader;"), (2, u "names"), (0, u "Lcom/example/biaoji/biaoji/NameTable;"), (2, u "namespaces"), (0, u "Z"), (2, u "validating"), (2, u "documentVersion"), (0, u "Ljava/lang/String;"), (131, u "I"), (61, .class_ 249), (1, u "com/example/biaoji/biaoji/Lexer$Keywords"), (82, u "QUOTE"), (0, u "J"), (2, u "APOSTROPHE"), (78, u "DASH"), (6, u "lastDeclaration"), (0, u "Lcom/example/biaoji/biaoji/Lexer$Declaration;"), (1, .class_ 427), (1, u "com/example/biaoji/biaoji/Lexer$Declaration"), (35, u "declaredEncoding"), (2, u "declaredStandalone"), (0, u "Ljava/lang/Boolean;"), (14, u "declaredEncodingLine"), (2, u "declaredEncodingColumn"), (47, u "DECLARATION_PARTS"), (0, u "Lcom/example/biaoji/biaoji/Lexer$Keywords;"), (99, u "QUESTION_MARK"), (46, u "stops"), (0, u "([C)J"), (0, u "EOF"), (2, u "NOT_PREDEFINED"), (0, u "ENCODING_PART"), (1, u "STANDALONE_PART"), (1, u "DEFAULT_VERSION")] 106

def k2c0 : Code := { maxStack := 5, maxLocals := 7, code := prog_54_method_40_code, exceptionTable := #[], attributes := #[] }
def k2m0 : Method := { name := "stops", desc := "([C)J", sig := { parameters := [(.array .char)], returnType := some .long }, accessFlags := 136, code := some k2c0 }
/-- com/example/biaoji/biaoji/Lexer -/
def k2 : Class := { plain "com/example/biaoji/biaoji/Lexer" (some 0) with
  accessFlags := 48
  interfaces := #[]
  cf := some (fileOf pool2 13 #[.nestMembers #[425, 247]] #[{ accessFlags := 136, nameIndex := 681, descriptorIndex := 682, attributes := #[] }] 48 4 #[] #[{ accessFlags := 24, nameIndex := 683, descriptorIndex := 185, attributes := #[] }, { accessFlags := 24, nameIndex := 686, descriptorIndex := 185, attributes := #[] }, { accessFlags := 26, nameIndex := 533, descriptorIndex := 534, attributes := #[] }, { accessFlags := 26, nameIndex := 687, descriptorIndex := 185, attributes := #[] }, { accessFlags := 26, nameIndex := 689, descriptorIndex := 185, attributes := #[] }, { accessFlags := 26, nameIndex := 415, descriptorIndex := 333, attributes := #[] }, { accessFlags := 26, nameIndex := 634, descriptorIndex := 333, attributes := #[] }, { accessFlags := 26, nameIndex := 332, descriptorIndex := 333, attributes := #[] }, { accessFlags := 26, nameIndex := 336, descriptorIndex := 333, attributes := #[] }, { accessFlags := 26, nameIndex := 691, descriptorIndex := 53, attributes := #[] }, { accessFlags := 18, nameIndex := 23, descriptorIndex := 24, attributes := #[] }, { accessFlags := 18, nameIndex := 27, descriptorIndex := 28, attributes := #[] }, { accessFlags := 2, nameIndex := 45, descriptorIndex := 46, attributes := #[] }, { accessFlags := 2, nameIndex := 49, descriptorIndex := 46, attributes := #[] }, { accessFlags := 2, nameIndex := 41, descriptorIndex := 42, attributes := #[] }, { accessFlags := 18, nameIndex := 16, descriptorIndex := 17, attributes := #[] }, { accessFlags := 18, nameIndex := 20, descriptorIndex := 17, attributes := #[] }, { accessFlags := 2, nameIndex := 37, descriptorIndex := 38, attributes := #[] }, { accessFlags := 2, nameIndex := 52, descriptorIndex := 53, attributes := #[] }, { accessFlags := 2, nameIndex := 422, descriptorIndex := 423, attributes := #[] }, { accessFlags := 2, nameIndex := 463, descriptorIndex := 53, attributes := #[] }, { accessFlags := 2, nameIndex := 482, descriptorIndex := 185, attributes := #[] }, { accessFlags := 2, nameIndex := 485, descriptorIndex := 185, attributes := #[] }, { accessFlags := 2, nameIndex := 466, descriptorIndex := 467, attributes := #[] }])
  fields := #[{ name := "EOF", type := .int, accessFlags := 24, slot := 0, constantValue := 0 }, { name := "NOT_PREDEFINED", type := .int, accessFlags := 24, slot := 1, constantValue := 0 }, { name := "DECLARATION_PARTS", type := (.object "com/example/biaoji/biaoji/Lexer$Keywords"), accessFlags := 26, slot := 2, constantValue := 0 }, { name := "ENCODING_PART", type := .int, accessFlags := 26, slot := 3, constantValue := 0 }, { name := "STANDALONE_PART", type := .int, accessFlags := 26, slot := 4, constantValue := 0 }, { name := "DASH", type := .long, accessFlags := 26, slot := 5, constantValue := 0 }, { name := "QUESTION_MARK", type := .long, accessFlags := 26, slot := 6, constantValue := 0 }, { name := "QUOTE", type := .long, accessFlags := 26, slot := 7, constantValue := 0 }, { name := "APOSTROPHE", type := .long, accessFlags := 26, slot := 8, constantValue := 0 }, { name := "DEFAULT_VERSION", type := (.object "java/lang/String"), accessFlags := 26, slot := 9, constantValue := 0 }, { name := "dtd", type := (.object "com/example/biaoji/biaoji/Dtd"), accessFlags := 18, slot := 0, constantValue := 0 }, { name := "entities", type := (.object "com/example/biaoji/biaoji/EntityStack"), accessFlags := 18, slot := 1, constantValue := 0 }, { name := "namespaces", type := .boolean, accessFlags := 2, slot := 2, constantValue := 0 }, { name := "validating", type := .boolean, accessFlags := 2, slot := 3, constantValue := 0 }, { name := "names", type := (.object "com/example/biaoji/biaoji/NameTable"), accessFlags := 2, slot := 4, constantValue := 0 }, { name := "nameBuffer", type := (.object "java/lang/StringBuilder"), accessFlags := 18, slot := 5, constantValue := 0 }, { name := "valueBuffer", type := (.object "java/lang/StringBuilder"), accessFlags := 18, slot := 6, constantValue := 0 }, { name := "reader", type := (.object "com/example/biaoji/biaoji/EntityReader"), accessFlags := 2, slot := 7, constantValue := 0 }, { name := "documentVersion", type := (.object "java/lang/String"), accessFlags := 2, slot := 8, constantValue := 0 }, { name := "lastDeclaration", type := (.object "com/example/biaoji/biaoji/Lexer$Declaration"), accessFlags := 2, slot := 9, constantValue := 0 }, { name := "declaredEncoding", type := (.object "java/lang/String"), accessFlags := 2, slot := 10, constantValue := 0 }, { name := "declaredEncodingLine", type := .int, accessFlags := 2, slot := 11, constantValue := 0 }, { name := "declaredEncodingColumn", type := .int, accessFlags := 2, slot := 12, constantValue := 0 }, { name := "declaredStandalone", type := (.object "java/lang/Boolean"), accessFlags := 2, slot := 13, constantValue := 0 }]
  methods := #[k2m0]
  instanceTypes := #[(.object "com/example/biaoji/biaoji/Dtd"), (.object "com/example/biaoji/biaoji/EntityStack"), .boolean, .boolean, (.object "com/example/biaoji/biaoji/NameTable"), (.object "java/lang/StringBuilder"), (.object "java/lang/StringBuilder"), (.object "com/example/biaoji/biaoji/EntityReader"), (.object "java/lang/String"), (.object "com/example/biaoji/biaoji/Lexer$Declaration"), (.object "java/lang/String"), .int, .int, (.object "java/lang/Boolean")]
  staticTypes := #[.int, .int, (.object "com/example/biaoji/biaoji/Lexer$Keywords"), .int, .int, .long, .long, .long, .long, (.object "java/lang/String")]
  resolved := Array.replicate 798 none
  statics := none }

def pool3 : Array CpInfo := pool [(1, u "java/lang/Cloneable"), (0, .class_ 1), (0, u "java/lang/Object"), (0, .class_ 3)] 3

/-- java/lang/Cloneable -/
def k3 : Class := { plain "java/lang/Cloneable" (some 0) with
  accessFlags := 1537
  interfaces := #[]
  cf := some (fileOf pool3 2 #[] #[] 1537 4 #[] #[])
  fields := #[]
  methods := #[]
  instanceTypes := #[]
  staticTypes := #[]
  resolved := Array.replicate 8 none
  statics := none }

def pool4 : Array CpInfo := pool [(1, u "java/io/Serializable"), (0, .class_ 1), (0, u "java/lang/Object"), (0, .class_ 3)] 3

/-- java/io/Serializable -/
def k4 : Class := { plain "java/io/Serializable" (some 0) with
  accessFlags := 1537
  interfaces := #[]
  cf := some (fileOf pool4 2 #[] #[] 1537 4 #[] #[])
  fields := #[]
  methods := #[]
  instanceTypes := #[]
  staticTypes := #[]
  resolved := Array.replicate 8 none
  statics := none }

/-- the primitive byte -/
def k5 : Class := { plain "byte" none with kind := .primitive 'B', accessFlags := 0x411 }
/-- [B -/
def k6 : Class := { plain "[B" (some 0) with kind := .array 5 .byte, interfaces := #[3, 4], accessFlags := 1041 }

/-- the primitive char -/
def k7 : Class := { plain "char" none with kind := .primitive 'C', accessFlags := 0x411 }
/-- [C -/
def k8 : Class := { plain "[C" (some 0) with kind := .array 7 .char, interfaces := #[3, 4], accessFlags := 1041 }

/-- the primitive int -/
def k9 : Class := { plain "int" none with kind := .primitive 'I', accessFlags := 0x411 }
/-- [I -/
def k10 : Class := { plain "[I" (some 0) with kind := .array 9 .int, interfaces := #[3, 4], accessFlags := 1041 }

def heap : Heap := #[]
def classes : Array Class := #[k0, k1, k2, k3, k4, k5, k6, k7, k8, k9, k10]
def interned : List (Array UInt16 × Addr) := []
def slotsUsed : Nat := 0
def theMethod : MethodId := ⟨1, 1⟩
def args0 : Array Value := #[.int 9, .int 3, .int 7, .int 7, .int 7]
def aboutOver (below : List Frame) : State where
  vm := { classes := classes, interned := interned.toArray }
  heap := heap
  slotsUsed := slotsUsed
  threads := #[{ frames := .invoking theMethod args0 :: below }]
def below0 : List Frame := [.native { method := ⟨0, 0⟩, args := #[] }]
def about1 : State := aboutOver below0
def p0 : Program := .bare "" "" ""
def e0 : Env := launch0.env 0 0 0
theorem w_frames : about1.frames = Frame.invoking theMethod args0 :: below0 := rfl
set_option maxRecDepth 65536 in
theorem w_args : argsFit about1.vm theMethod args0 = true := by decide +kernel
set_option maxRecDepth 65536 in
theorem w_heap : heapFits about1 = true := by decide +kernel
set_option maxRecDepth 65536 in
theorem w_runnable : about1.curStatus? = some .runnable := by decide +kernel
set_option maxRecDepth 65536 in
theorem w_alone : about1.alone = true := by decide +kernel
set_option maxRecDepth 65536 in
theorem w_named : about1.methodNamed? x = some theMethod := by decide +kernel
set_option maxRecDepth 65536 in
theorem w_hears : about1.hears theMethod below0 = true := by decide +kernel
set_option maxRecDepth 65536 in
theorem w_ripe : about1.ripe theMethod args0 below0 = true := by decide +kernel
theorem w_running : about1.status = .running := rfl
set_option maxRecDepth 65536 in
theorem w_room : about1.hasRoom e0.platform room_1 = true :=
  launch0.hasRoom_least _ room_1 (by decide +kernel) (by decide +kernel) (by decide +kernel) (by decide +kernel) (by decide +kernel) (by decide +kernel)
theorem allAtoms_all (ts : List Jvm.Cond) (a : Array Jvm.Value) (st : Jvm.State) : (allAtoms ts).before a st = ts.all (fun c => c.before a st) := by
  induction ts with
  | nil => rfl
  | cons c t ih =>
    show (Jvm.Cond.and c (allAtoms t)).before a st = _
    rw [Jvm.Cond.before_and, ih, List.all_cons]
def words1 : List Jvm.Cond := Jvm.Cond.code x code maxLocals ret :: tables_1
/-- a 'code' word, met by the world's own term for the bytes: nothing is compared byte by byte -/
theorem code_word {y : MethodName} {bytes : ByteArray} {mx : Nat} {rt : Option FieldType} {a : Array Value} {s : State} {m : MethodId} {meth : Method} {c : Code} (h1 : s.methodNamed? y = some m) (h2 : s.vm.method? m = some meth) (h3 : meth.code = some c) (h4 : c.code = bytes)
    (h5 : (c.maxLocals == mx && c.exceptionTable.isEmpty && decide (c.maxStack ≤ mostOperands) && decide (meth.sig.returnType = rt) && !meth.locks && decide (parseMethodDescriptor y.desc = some meth.sig)) = true) : (Jvm.Cond.code y bytes mx rt).before a s = true := by
  simp only [Bool.and_eq_true, beq_iff_eq, Bool.not_eq_true', decide_eq_true_eq] at h5
  obtain ⟨⟨⟨⟨⟨g1, g2⟩, g3⟩, g4⟩, g5⟩, g6⟩ := h5
  simp [Cond.before, Cond.holds, Cond.value, h1, h2, h3, h4, g1, g2, g3, g4, g5, g6]
def isCode : Jvm.Cond → Bool
  | .code _ _ _ _ => true
  | _ => false
theorem all_split {L : List Jvm.Cond} {P : Jvm.Cond → Bool} (h1 : L.all (fun c => isCode c || P c) = true) (h2 : ∀ c ∈ L.filter isCode, P c = true) : L.all P = true := by
  refine List.all_eq_true.mpr fun c hc => ?_
  have h := List.all_eq_true.mp h1 c hc
  rcases Bool.eq_false_or_eq_true (isCode c) with hi | hi
  · exact h2 c (List.mem_filter.mpr ⟨hc, hi⟩)
  · simpa [hi] using h
set_option maxRecDepth 65536 in
theorem w_c0 : (Jvm.Cond.code x code maxLocals ret).before args0 about1 = true := code_word (m := ⟨1, 1⟩) (meth := k1m1) (c := k1c1) (by decide +kernel) rfl rfl rfl (by decide +kernel)
set_option maxRecDepth 65536 in
theorem w_c1 : (Jvm.Cond.code ({ cls := "com/example/biaoji/biaoji/Lexer", name := "stops", desc := "([C)J" } : Jvm.MethodName) prog_54_method_40_code (7 : Nat) (Option.some Jvm.ClassFile.FieldType.long)).before args0 about1 = true := code_word (m := ⟨2, 0⟩) (meth := k2m0) (c := k2c0) (by decide +kernel) rfl rfl rfl (by decide +kernel)
def codes1 : List Jvm.Cond := [Jvm.Cond.code x code maxLocals ret, Jvm.Cond.code ({ cls := "com/example/biaoji/biaoji/Lexer", name := "stops", desc := "([C)J" } : Jvm.MethodName) prog_54_method_40_code (7 : Nat) (Option.some Jvm.ClassFile.FieldType.long)]
set_option maxRecDepth 65536 in
theorem codes_eq : words1.filter isCode = codes1 := rfl
theorem w_codes : ∀ c ∈ words1.filter isCode, c.before args0 about1 = true := by
  rw [codes_eq]
  intro c hc
  simp only [codes1, List.mem_cons, List.not_mem_nil, or_false] at hc
  rcases hc with rfl | rfl
  · exact w_c0
  · exact w_c1
set_option maxRecDepth 65536 in
theorem w_t1 : words1.all (fun c => isCode c || c.before args0 about1) = true := by decide +kernel
theorem w_tables : (allAtoms (Jvm.Cond.code x code maxLocals ret :: tables_1)).before args0 about1 = true := by
  rw [allAtoms_all]
  show words1.all (fun c => c.before args0 about1) = true
  refine all_split ?_ w_codes
  rw [w_t1]
set_option maxRecDepth 65536 in
theorem w_case : (Jvm.Cond.and given_1 narrow_1).before args0 about1 = true := by decide +kernel
theorem w_applies : (headSpec (Jvm.Cond.code x code maxLocals ret :: tables_1) room_1).applies x e0.platform about1 = true :=
  (Spec.applies_iff w_frames).mpr ⟨w_running, w_runnable, w_alone, w_named, w_hears, w_ripe, w_room, w_tables⟩
theorem atStart : AtStart classFile x code maxLocals ret World_1 tables_1 room_1 Calls_1 rest_1 Pre_1 launch0 p0 e0 about1 theMethod args0 below0 :=
  ⟨lists_1, trivial, launch0.admits_env _ _ _, launch0.least_env, fairChoices_fair.cas, fairChoices_fair.clock, w_frames, w_args, w_heap, w_applies, trivial, trivial, w_case⟩
end start1
theorem witness_1 : WitnessClaimed_1 := ⟨start1.p0, start1.e0, start1.about1, start1.theMethod, start1.args0, start1.below0, start1.atStart⟩
end Jvm.Pilot.@@N@@
