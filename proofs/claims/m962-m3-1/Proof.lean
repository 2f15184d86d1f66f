import JvmDerived
import JvmDerived.Pilot.@@N@@Statement
import JvmDerived.Pilot.@@N@@Code
set_option linter.unusedVariables false
set_option linter.unusedSimpArgs false
namespace Jvm.RoadKit
open Sem ClassFile Op Lib Jvm.Stand Jvm.Free Jvm.LawKit
section New
variable {p : Program} {l : Launch} {e : Env} {R : Room} {s : State} {m : MethodId} {args : Array Value} {below : List Frame} {meth : Method} {c : Code} {T : State} {locs : List Loc} {cells slots : Nat}
theorem retI (X : Stand p l e R s m args below meth c T locs cells slots) (hx : p.tables.exec = Jvm.exec) {pc : Nat} {Ls : Array Slot} {z : Int32} {rest : List Value} (hret : meth.sig.returnType = some .int) (hd : decode c.code pc = .ok (.ireturn, 1)) {fs : List Frame}
    (hl : ∀ (f : JFrame) (acts : List Action), f.method = m → f.locked = none → f.entered = [] → (doReturn e (T.setTop f) acts (some (.int z))).1 = T.setFrames fs) : Steps p.tables e below (T.setTop (mkF m pc Ls (.int z :: rest))) (T.setFrames fs) :=
  retOut X hx hret rfl (Or.inl ⟨rfl, Or.inl rfl, _, rfl⟩) hd hl
theorem own_sta_keep {Z : State} {h h' : Heap} {C n d : String} {w : Value} {ws : List Addr} (F : Sta Z h C n d w) (K : Keep h h' ws) (ns : ∀ x ∈ ws, ∀ cell : Cell, h[x]? = some cell → cell.vm.isStatics = false) : Sta Z h' C n d w := by
  obtain ⟨cf, i, k, f, st, cell, h1, h2, h3, h4, h5, h6, h7⟩ := F
  refine ⟨cf, i, k, f, st, cell, h1, h2, h3, h4, K.2.1 st cell h5 (fun hm => ?_), h6, h7⟩
  rw [ns st hm cell h5] at h6
  cases h6
theorem own_selp {s : State} {args : Array Value} {w y : MethodName} (hs : (Cond.selects w.cls w w).before args s = true) (e : w.cls = y.cls) (hp : s.PrivateAt y) (hi : (Cond.instanceMethod y).before args s = true) (hy : y.cls ≠ "java/lang/invoke/MethodHandle" ∧ y.cls ≠ "java/lang/invoke/VarHandle") : (Cond.selects y.cls y y).before args s = true := by
  obtain ⟨c2, r2, m2, q1, q2, q3, q4, kP, hkP, hkPi⟩ := Cond.selects_spec hs
  exact selects_self_of_private (c := m2.cls) (by rw [← e]; exact findClass_of_methodNamed q3) hkP hkPi hp hi hy
end New
end Jvm.RoadKit
namespace Jvm.Pilot.@@N@@
open Jvm Jvm.ClassFile Sem Op Lib Jvm.Free Jvm.Stand Jvm.LawKit Jvm.RoadKit Bundle Jvm.Pilot.@@N@@.Jvm.D
theorem d1_0 : decode prog_78_method_24_code 0 = .ok (.aload_n 0, 1) := by decide +kernel
theorem d1_1 : decode prog_78_method_24_code 1 = .ok (.iload_n 1, 1) := by decide +kernel
theorem d1_2 : decode prog_78_method_24_code 2 = .ok (.baload, 1) := by decide +kernel
theorem d1_3 : decode prog_78_method_24_code 3 = .ok (.sipush 255, 3) := by decide +kernel
theorem d1_6 : decode prog_78_method_24_code 6 = .ok (.iand, 1) := by decide +kernel
theorem d1_7 : decode prog_78_method_24_code 7 = .ok (.aload_n 0, 1) := by decide +kernel
theorem d1_8 : decode prog_78_method_24_code 8 = .ok (.iload_n 1, 1) := by decide +kernel
theorem d1_9 : decode prog_78_method_24_code 9 = .ok (.iconst 1, 1) := by decide +kernel
theorem d1_10 : decode prog_78_method_24_code 10 = .ok (.iadd, 1) := by decide +kernel
theorem d1_11 : decode prog_78_method_24_code 11 = .ok (.baload, 1) := by decide +kernel
theorem d1_12 : decode prog_78_method_24_code 12 = .ok (.sipush 255, 3) := by decide +kernel
theorem d1_15 : decode prog_78_method_24_code 15 = .ok (.iand, 1) := by decide +kernel
theorem d1_16 : decode prog_78_method_24_code 16 = .ok (.bipush 8, 2) := by decide +kernel
theorem d1_18 : decode prog_78_method_24_code 18 = .ok (.ishl, 1) := by decide +kernel
theorem d1_19 : decode prog_78_method_24_code 19 = .ok (.ior, 1) := by decide +kernel
theorem d1_20 : decode prog_78_method_24_code 20 = .ok (.aload_n 0, 1) := by decide +kernel
theorem d1_21 : decode prog_78_method_24_code 21 = .ok (.iload_n 1, 1) := by decide +kernel
theorem d1_22 : decode prog_78_method_24_code 22 = .ok (.iconst 2, 1) := by decide +kernel
theorem d1_23 : decode prog_78_method_24_code 23 = .ok (.iadd, 1) := by decide +kernel
theorem d1_24 : decode prog_78_method_24_code 24 = .ok (.baload, 1) := by decide +kernel
theorem d1_25 : decode prog_78_method_24_code 25 = .ok (.sipush 255, 3) := by decide +kernel
theorem d1_28 : decode prog_78_method_24_code 28 = .ok (.iand, 1) := by decide +kernel
theorem d1_29 : decode prog_78_method_24_code 29 = .ok (.bipush 16, 2) := by decide +kernel
theorem d1_31 : decode prog_78_method_24_code 31 = .ok (.ishl, 1) := by decide +kernel
theorem d1_32 : decode prog_78_method_24_code 32 = .ok (.ior, 1) := by decide +kernel
theorem d1_33 : decode prog_78_method_24_code 33 = .ok (.aload_n 0, 1) := by decide +kernel
theorem d1_34 : decode prog_78_method_24_code 34 = .ok (.iload_n 1, 1) := by decide +kernel
theorem d1_35 : decode prog_78_method_24_code 35 = .ok (.iconst 3, 1) := by decide +kernel
theorem d1_36 : decode prog_78_method_24_code 36 = .ok (.iadd, 1) := by decide +kernel
theorem d1_37 : decode prog_78_method_24_code 37 = .ok (.baload, 1) := by decide +kernel
theorem d1_38 : decode prog_78_method_24_code 38 = .ok (.sipush 255, 3) := by decide +kernel
theorem d1_41 : decode prog_78_method_24_code 41 = .ok (.iand, 1) := by decide +kernel
theorem d1_42 : decode prog_78_method_24_code 42 = .ok (.bipush 24, 2) := by decide +kernel
theorem d1_44 : decode prog_78_method_24_code 44 = .ok (.ishl, 1) := by decide +kernel
theorem d1_45 : decode prog_78_method_24_code 45 = .ok (.ior, 1) := by decide +kernel
theorem d1_46 : decode prog_78_method_24_code 46 = .ok (.ireturn, 1) := by decide +kernel
theorem pn_0 : plainName "com/example/theuth/theuth/io/DexInput" = true := by first | (simp [plainName, overriddenIn]; done) | decide +kernel
theorem pn_1 : plainName "com/example/theuth/theuth/io/DexInputUintAtPinLaw" = true := by first | (simp [plainName, overriddenIn]; done) | decide +kernel
theorem pd_2 : parseMethodDescriptor "([BI)I" = some ⟨[(.array .byte), .int], some .int⟩ := by decide +kernel
theorem own_at (p1 a : Int32) (e : a = ((p1 &&& (2147483647 : Int32)) % (5 : Int32))) : a = 0 ∨ a = 1 ∨ a = 2 ∨ a = 3 ∨ a = 4 := by
  have h1 := c_mask p1 2147483647 31 (by decide) (by decide)
  have h2 := c_irem (p1 &&& (2147483647 : Int32)) 5 5 rfl
  have h3 := h2.1 (by omega)
  rw [← e] at h3
  simp only [← Int32.toInt_inj]
  have z0 : (0 : Int32).toInt = 0 := rfl
  have z1 : (1 : Int32).toInt = 1 := rfl
  have z2 : (2 : Int32).toInt = 2 := rfl
  have z3 : (3 : Int32).toInt = 3 := rfl
  have z4 : (4 : Int32).toInt = 4 := rfl
  omega
theorem own_byte (x : Int32) : ((nar .byte (x.toInt8.toInt32)) &&& (255 : Int32)).toInt = x.toInt % 256 := by
  have a := c_mask (x.toInt8.toInt32.toInt8.toInt32) 255 8 (by decide) (by decide)
  have b := c_i2b x
  have c := c_i2b x.toInt8.toInt32
  show ((x.toInt8.toInt32.toInt8.toInt32) &&& (255 : Int32)).toInt = x.toInt % 256
  omega
theorem own_u32 (v : Int32) : (((((nar .byte (v.toInt8.toInt32)) &&& (255 : Int32)) ||| (((nar .byte (((v.toUInt32 >>> ((8 : Int32) &&& 31).toUInt32).toInt32).toInt8.toInt32)) &&& (255 : Int32)) <<< ((8 : Int32) &&& 31))) ||| (((nar .byte (((v.toUInt32 >>> ((16 : Int32) &&& 31).toUInt32).toInt32).toInt8.toInt32)) &&& (255 : Int32)) <<< ((16 : Int32) &&& 31))) ||| (((nar .byte (((v.toUInt32 >>> ((24 : Int32) &&& 31).toUInt32).toInt32).toInt8.toInt32)) &&& (255 : Int32)) <<< ((24 : Int32) &&& 31))) = v := by
  have r0 := own_byte v
  have r1 := own_byte ((v.toUInt32 >>> ((8 : Int32) &&& 31).toUInt32).toInt32)
  have r2 := own_byte ((v.toUInt32 >>> ((16 : Int32) &&& 31).toUInt32).toInt32)
  have r3 := own_byte ((v.toUInt32 >>> ((24 : Int32) &&& 31).toUInt32).toInt32)
  have s1 := c_iushr v 8 8 (by decide) (by decide)
  have s2 := c_iushr v 16 16 (by decide) (by decide)
  have s3 := c_iushr v 24 24 (by decide) (by decide)
  have rv := rng32 v
  generalize (nar .byte (v.toInt8.toInt32) &&& (255 : Int32)) = x0 at *
  generalize (nar .byte (((v.toUInt32 >>> ((8 : Int32) &&& 31).toUInt32).toInt32).toInt8.toInt32) &&& (255 : Int32)) = x1 at *
  generalize (nar .byte (((v.toUInt32 >>> ((16 : Int32) &&& 31).toUInt32).toInt32).toInt8.toInt32) &&& (255 : Int32)) = x2 at *
  generalize (nar .byte (((v.toUInt32 >>> ((24 : Int32) &&& 31).toUInt32).toInt32).toInt8.toInt32) &&& (255 : Int32)) = x3 at *
  generalize ((v.toUInt32 >>> ((8 : Int32) &&& 31).toUInt32).toInt32) = y1 at *
  generalize ((v.toUInt32 >>> ((16 : Int32) &&& 31).toUInt32).toInt32) = y2 at *
  generalize ((v.toUInt32 >>> ((24 : Int32) &&& 31).toUInt32).toInt32) = y3 at *
  have t1 := c_ishl x1 8 8 (by decide)
  have t2 := c_ishl x2 16 16 (by decide)
  have t3 := c_ishl x3 24 24 (by decide)
  have g1 := rng32 (x1 <<< ((8 : Int32) &&& 31))
  have g2 := rng32 (x2 <<< ((16 : Int32) &&& 31))
  have g3 := rng32 (x3 <<< ((24 : Int32) &&& 31))
  generalize x1 <<< ((8 : Int32) &&& 31) = s1x at *
  generalize x2 <<< ((16 : Int32) &&& 31) = s2x at *
  generalize x3 <<< ((24 : Int32) &&& 31) = s3x at *
  have o1 := c_or' x0 s1x 8 (by decide) 256 rfl (by omega) (by omega) (by omega)
  have u1 := rng32 (x0 ||| s1x)
  generalize x0 ||| s1x = o1x at *
  have o2 := c_or' o1x s2x 16 (by decide) 65536 rfl (by omega) (by omega) (by omega)
  have u2 := rng32 (o1x ||| s2x)
  generalize o1x ||| s2x = o2x at *
  have o3 := c_or' o2x s3x 24 (by decide) 16777216 rfl (by omega) (by omega) (by omega)
  have u3 := rng32 (o2x ||| s3x)
  generalize o2x ||| s3x = o3x at *
  rw [← Int32.toInt_inj]
  omega
theorem ef_rmUint (m : MethodId) (x0 : Addr) (x1 : Int32) : entryFrame m #[(.ref x0), (.int x1)] 2 = mkF m 0 #[rv x0, iv x1] [] := by first | (simp [entryFrame, mkF, argsToLocals, Value.category]; done) | rfl
def Q_rmUint (Z : State) (a1 : Addr) (p2 : Int32) (k : ClassId) (z : Int32) (vs : List Value) (dv : Value) (w0 : Int32) (w1 : Int32) (w2 : Int32) (w3 : Int32) (h0 : Heap) (n0 : Nat) (v : Option Value) (h : Heap) (L : List Loc) : Prop := v = some (.int ((((w0 &&& (255 : Int32)) ||| ((w1 &&& (255 : Int32)) <<< ((8 : Int32) &&& 31))) ||| ((w2 &&& (255 : Int32)) <<< ((16 : Int32) &&& 31))) ||| ((w3 &&& (255 : Int32)) <<< ((24 : Int32) &&& 31)))) ∧ Fr n0 L ∧ h = h0
set_option maxRecDepth 65536 in
set_option maxHeartbeats 40000000 in
theorem rmUint (l : Launch) (Z : State) (a0 : Array Value) (hw : ∀ d ∈ tables_1, d.before a0 Z = true) (ws : List Jvm.Cond) (a1 : Addr) (p2 : Int32) (k : ClassId) (z : Int32) (vs : List Value) (dv : Value) (w0 : Int32) (w1 : Int32) (w2 : Int32) (w3 : Int32) (h0 : Heap) (n0 : Nat) (Z0 : n0 ≤ h0.size) (A_a1 : Arv Z h0 a1 k .byte z vs dv) (hb0 : ¬ p2 < 0 ∧ p2 < z) (hb1 : ¬ (p2 + (1 : Int32)) < 0 ∧ (p2 + (1 : Int32)) < z) (hb2 : ¬ (p2 + (2 : Int32)) < 0 ∧ (p2 + (2 : Int32)) < z) (hb3 : ¬ (p2 + (3 : Int32)) < 0 ∧ (p2 + (3 : Int32)) < z) (ha0 : vs.getD (p2).toNatClampNeg dv = .int w0) (ha1 : vs.getD ((p2 + (1 : Int32))).toNatClampNeg dv = .int w1) (ha2 : vs.getD ((p2 + (2 : Int32))).toNatClampNeg dv = .int w2) (ha3 : vs.getD ((p2 + (3 : Int32))).toNatClampNeg dv = .int w3) :
    MetFree l (⟨"com/example/theuth/theuth/io/DexInput", "uintAt", "([BI)I"⟩ : MethodName) (head1 (Jvm.Cond.code (⟨"com/example/theuth/theuth/io/DexInput", "uintAt", "([BI)I"⟩ : MethodName) prog_78_method_24_code 2 (some .int) :: ws) ({ frames := 0, cells := 0, slots := 0, locals := 0 } : Room)) (fun a U => a = #[(.ref a1), (.int p2)] ∧ Z.Warmed39 U.vm ∧ U.heap = h0) (fun _ _ _ _ _ => True) (fun _ U o U' => ∃ v L, o = .returned v ∧ Q_rmUint Z a1 p2 k z vs dv w0 w1 w2 w3 h0 n0 v U'.heap L ∧ FrameEnd U o U' L ({ frames := 0, cells := 0, slots := 0, locals := 0 } : Room).cells ({ frames := 0, cells := 0, slots := 0, locals := 0 } : Room).slots) := by
  refine MetFree.of_bodySF (plainFor_of_name pn_0) hisR ?_
  intro p e s m args below meth c s₁ Bd hml0 hP hK
  obtain ⟨rfl, hZ, hh⟩ := hP
  have hx := Bd.exec
  have hby := Bd.bytes
  have hml : c.maxLocals = 2 := hml0
  have hown : s.vm.findClass "com/example/theuth/theuth/io/DexInput" = some m.cls := findClass_of_methodNamed Bd.named
  have hnm := (name_of_methodNamed Bd.named Bd.method).1
  have X0 : Stand p l e ({ frames := 0, cells := 0, slots := 0, locals := 0 } : Room) s m #[(.ref a1), (.int p2)] below meth c s₁ [] 0 0 := Stand.of_body Bd
  have e0 : s₁.heap = h0 := by rw [← hh, Bd.state]; rfl
  have N0 := Fr.nil n0
  obtain ⟨f0, hf0⟩ : ∃ f : JFrame, f = mkF m 0 #[rv a1, iv p2] [] := ⟨_, rfl⟩
  have pre0 : ∀ t, Steps p.tables e below (s₁.setTop f0) t → Steps p.tables e below (s₁.setTop (entryFrame m #[(.ref a1), (.int p2)] 2)) t := fun t k => castTop ((ef_rmUint m a1 p2).trans hf0.symm) k
  have R0 : ∀ t, Steps p.tables e below (s₁.setTop (mkF m 0 #[rv a1, iv p2] [])) t → Steps p.tables e below (s₁.setTop f0) t := by rw [hf0]; exact fun t k => k
  have R1 : ∀ t, Steps p.tables e below (s₁.setTop (mkF m 2 #[rv a1, iv p2] [(.int p2), (.ref a1)])) t → Steps p.tables e below (s₁.setTop f0) t := fun t k => R0 t (by
    show Steps p.tables e below (s₁.setTop (mkF m 0 #[rv a1, iv p2] [])) _
    refine XS.aloadN X0.here hx rfl (hb hby d1_0) rfl rfl ?_
    show Steps p.tables e below (s₁.setTop (mkF m 1 #[rv a1, iv p2] [(.ref a1)])) _
    refine XS.iloadN X0.here hx rfl (hb hby d1_1) rfl  ?_
    exact k)
  obtain ⟨cl2, Ar2, q2, S2, n2_, H2, G2⟩ := id A_a1
  have hin2 : ¬ (p2 < 0 ∨ cl2.slots.size ≤ (p2).toNatClampNeg) := inb_of S2 hb0
  have hat2 : cl2.slots[(p2).toNatClampNeg]? = some (.int w0) := Has.at H2 hin2 ha0
  have R3 : ∀ t, Steps p.tables e below (s₁.setTop (mkF m 3 #[rv a1, iv p2] [(.int w0)])) t → Steps p.tables e below (s₁.setTop f0) t := fun t k => R1 t (X0.baloadBytes hx (j := p2) (v := (.int w0)) (by rw [e0]; exact Ar2.1) (State.isArrayOf_alike hZ.alike Ar2.2.1) Ar2.2.2 hin2 hat2 (g := (mkF m 2 #[rv a1, iv p2] [(.int p2), (.ref a1)])) rfl rfl (hb hby d1_2) _ k)
  have R4 : ∀ t, Steps p.tables e below (s₁.setTop (mkF m 11 #[rv a1, iv p2] [(.int (p2 + (1 : Int32))), (.ref a1), (.int (w0 &&& (255 : Int32)))])) t → Steps p.tables e below (s₁.setTop f0) t := fun t k => R3 t (by
    show Steps p.tables e below (s₁.setTop (mkF m 3 #[rv a1, iv p2] [(.int w0)])) _
    refine XS.sipush X0.here hx rfl (hb hby d1_3) ?_
    show Steps p.tables e below (s₁.setTop (mkF m 6 #[rv a1, iv p2] [(.int (255 : Int32)), (.int w0)])) _
    refine XS.iand X0.here hx rfl (hb hby d1_6) rfl ?_
    show Steps p.tables e below (s₁.setTop (mkF m 7 #[rv a1, iv p2] [(.int (w0 &&& (255 : Int32)))])) _
    refine XS.aloadN X0.here hx rfl (hb hby d1_7) rfl rfl ?_
    show Steps p.tables e below (s₁.setTop (mkF m 8 #[rv a1, iv p2] [(.ref a1), (.int (w0 &&& (255 : Int32)))])) _
    refine XS.iloadN X0.here hx rfl (hb hby d1_8) rfl  ?_
    show Steps p.tables e below (s₁.setTop (mkF m 9 #[rv a1, iv p2] [(.int p2), (.ref a1), (.int (w0 &&& (255 : Int32)))])) _
    refine XS.iconst X0.here hx rfl (hb hby d1_9) ?_
    show Steps p.tables e below (s₁.setTop (mkF m 10 #[rv a1, iv p2] [(.int (1 : Int32)), (.int p2), (.ref a1), (.int (w0 &&& (255 : Int32)))])) _
    refine XS.iadd X0.here hx rfl (hb hby d1_10) rfl ?_
    exact k)
  obtain ⟨cl5, Ar5, q5, S5, n5_, H5, G5⟩ := id A_a1
  have hin5 : ¬ ((p2 + (1 : Int32)) < 0 ∨ cl5.slots.size ≤ ((p2 + (1 : Int32))).toNatClampNeg) := inb_of S5 hb1
  have hat5 : cl5.slots[((p2 + (1 : Int32))).toNatClampNeg]? = some (.int w1) := Has.at H5 hin5 ha1
  have R6 : ∀ t, Steps p.tables e below (s₁.setTop (mkF m 12 #[rv a1, iv p2] [(.int w1), (.int (w0 &&& (255 : Int32)))])) t → Steps p.tables e below (s₁.setTop f0) t := fun t k => R4 t (X0.baloadBytes hx (j := (p2 + (1 : Int32))) (v := (.int w1)) (by rw [e0]; exact Ar5.1) (State.isArrayOf_alike hZ.alike Ar5.2.1) Ar5.2.2 hin5 hat5 (g := (mkF m 11 #[rv a1, iv p2] [(.int (p2 + (1 : Int32))), (.ref a1), (.int (w0 &&& (255 : Int32)))])) rfl rfl (hb hby d1_11) _ k)
  have R7 : ∀ t, Steps p.tables e below (s₁.setTop (mkF m 24 #[rv a1, iv p2] [(.int (p2 + (2 : Int32))), (.ref a1), (.int ((w0 &&& (255 : Int32)) ||| ((w1 &&& (255 : Int32)) <<< ((8 : Int32) &&& 31))))])) t → Steps p.tables e below (s₁.setTop f0) t := fun t k => R6 t (by
    show Steps p.tables e below (s₁.setTop (mkF m 12 #[rv a1, iv p2] [(.int w1), (.int (w0 &&& (255 : Int32)))])) _
    refine XS.sipush X0.here hx rfl (hb hby d1_12) ?_
    show Steps p.tables e below (s₁.setTop (mkF m 15 #[rv a1, iv p2] [(.int (255 : Int32)), (.int w1), (.int (w0 &&& (255 : Int32)))])) _
    refine XS.iand X0.here hx rfl (hb hby d1_15) rfl ?_
    show Steps p.tables e below (s₁.setTop (mkF m 16 #[rv a1, iv p2] [(.int (w1 &&& (255 : Int32))), (.int (w0 &&& (255 : Int32)))])) _
    refine XS.bipush X0.here hx rfl (hb hby d1_16) ?_
    show Steps p.tables e below (s₁.setTop (mkF m 18 #[rv a1, iv p2] [(.int (8 : Int32)), (.int (w1 &&& (255 : Int32))), (.int (w0 &&& (255 : Int32)))])) _
    refine XS.ishl X0.here hx rfl (hb hby d1_18) rfl ?_
    show Steps p.tables e below (s₁.setTop (mkF m 19 #[rv a1, iv p2] [(.int ((w1 &&& (255 : Int32)) <<< ((8 : Int32) &&& 31))), (.int (w0 &&& (255 : Int32)))])) _
    refine XS.ior X0.here hx rfl (hb hby d1_19) rfl ?_
    show Steps p.tables e below (s₁.setTop (mkF m 20 #[rv a1, iv p2] [(.int ((w0 &&& (255 : Int32)) ||| ((w1 &&& (255 : Int32)) <<< ((8 : Int32) &&& 31))))])) _
    refine XS.aloadN X0.here hx rfl (hb hby d1_20) rfl rfl ?_
    show Steps p.tables e below (s₁.setTop (mkF m 21 #[rv a1, iv p2] [(.ref a1), (.int ((w0 &&& (255 : Int32)) ||| ((w1 &&& (255 : Int32)) <<< ((8 : Int32) &&& 31))))])) _
    refine XS.iloadN X0.here hx rfl (hb hby d1_21) rfl  ?_
    show Steps p.tables e below (s₁.setTop (mkF m 22 #[rv a1, iv p2] [(.int p2), (.ref a1), (.int ((w0 &&& (255 : Int32)) ||| ((w1 &&& (255 : Int32)) <<< ((8 : Int32) &&& 31))))])) _
    refine XS.iconst X0.here hx rfl (hb hby d1_22) ?_
    show Steps p.tables e below (s₁.setTop (mkF m 23 #[rv a1, iv p2] [(.int (2 : Int32)), (.int p2), (.ref a1), (.int ((w0 &&& (255 : Int32)) ||| ((w1 &&& (255 : Int32)) <<< ((8 : Int32) &&& 31))))])) _
    refine XS.iadd X0.here hx rfl (hb hby d1_23) rfl ?_
    exact k)
  obtain ⟨cl8, Ar8, q8, S8, n8_, H8, G8⟩ := id A_a1
  have hin8 : ¬ ((p2 + (2 : Int32)) < 0 ∨ cl8.slots.size ≤ ((p2 + (2 : Int32))).toNatClampNeg) := inb_of S8 hb2
  have hat8 : cl8.slots[((p2 + (2 : Int32))).toNatClampNeg]? = some (.int w2) := Has.at H8 hin8 ha2
  have R9 : ∀ t, Steps p.tables e below (s₁.setTop (mkF m 25 #[rv a1, iv p2] [(.int w2), (.int ((w0 &&& (255 : Int32)) ||| ((w1 &&& (255 : Int32)) <<< ((8 : Int32) &&& 31))))])) t → Steps p.tables e below (s₁.setTop f0) t := fun t k => R7 t (X0.baloadBytes hx (j := (p2 + (2 : Int32))) (v := (.int w2)) (by rw [e0]; exact Ar8.1) (State.isArrayOf_alike hZ.alike Ar8.2.1) Ar8.2.2 hin8 hat8 (g := (mkF m 24 #[rv a1, iv p2] [(.int (p2 + (2 : Int32))), (.ref a1), (.int ((w0 &&& (255 : Int32)) ||| ((w1 &&& (255 : Int32)) <<< ((8 : Int32) &&& 31))))])) rfl rfl (hb hby d1_24) _ k)
  have R10 : ∀ t, Steps p.tables e below (s₁.setTop (mkF m 37 #[rv a1, iv p2] [(.int (p2 + (3 : Int32))), (.ref a1), (.int (((w0 &&& (255 : Int32)) ||| ((w1 &&& (255 : Int32)) <<< ((8 : Int32) &&& 31))) ||| ((w2 &&& (255 : Int32)) <<< ((16 : Int32) &&& 31))))])) t → Steps p.tables e below (s₁.setTop f0) t := fun t k => R9 t (by
    show Steps p.tables e below (s₁.setTop (mkF m 25 #[rv a1, iv p2] [(.int w2), (.int ((w0 &&& (255 : Int32)) ||| ((w1 &&& (255 : Int32)) <<< ((8 : Int32) &&& 31))))])) _
    refine XS.sipush X0.here hx rfl (hb hby d1_25) ?_
    show Steps p.tables e below (s₁.setTop (mkF m 28 #[rv a1, iv p2] [(.int (255 : Int32)), (.int w2), (.int ((w0 &&& (255 : Int32)) ||| ((w1 &&& (255 : Int32)) <<< ((8 : Int32) &&& 31))))])) _
    refine XS.iand X0.here hx rfl (hb hby d1_28) rfl ?_
    show Steps p.tables e below (s₁.setTop (mkF m 29 #[rv a1, iv p2] [(.int (w2 &&& (255 : Int32))), (.int ((w0 &&& (255 : Int32)) ||| ((w1 &&& (255 : Int32)) <<< ((8 : Int32) &&& 31))))])) _
    refine XS.bipush X0.here hx rfl (hb hby d1_29) ?_
    show Steps p.tables e below (s₁.setTop (mkF m 31 #[rv a1, iv p2] [(.int (16 : Int32)), (.int (w2 &&& (255 : Int32))), (.int ((w0 &&& (255 : Int32)) ||| ((w1 &&& (255 : Int32)) <<< ((8 : Int32) &&& 31))))])) _
    refine XS.ishl X0.here hx rfl (hb hby d1_31) rfl ?_
    show Steps p.tables e below (s₁.setTop (mkF m 32 #[rv a1, iv p2] [(.int ((w2 &&& (255 : Int32)) <<< ((16 : Int32) &&& 31))), (.int ((w0 &&& (255 : Int32)) ||| ((w1 &&& (255 : Int32)) <<< ((8 : Int32) &&& 31))))])) _
    refine XS.ior X0.here hx rfl (hb hby d1_32) rfl ?_
    show Steps p.tables e below (s₁.setTop (mkF m 33 #[rv a1, iv p2] [(.int (((w0 &&& (255 : Int32)) ||| ((w1 &&& (255 : Int32)) <<< ((8 : Int32) &&& 31))) ||| ((w2 &&& (255 : Int32)) <<< ((16 : Int32) &&& 31))))])) _
    refine XS.aloadN X0.here hx rfl (hb hby d1_33) rfl rfl ?_
    show Steps p.tables e below (s₁.setTop (mkF m 34 #[rv a1, iv p2] [(.ref a1), (.int (((w0 &&& (255 : Int32)) ||| ((w1 &&& (255 : Int32)) <<< ((8 : Int32) &&& 31))) ||| ((w2 &&& (255 : Int32)) <<< ((16 : Int32) &&& 31))))])) _
    refine XS.iloadN X0.here hx rfl (hb hby d1_34) rfl  ?_
    show Steps p.tables e below (s₁.setTop (mkF m 35 #[rv a1, iv p2] [(.int p2), (.ref a1), (.int (((w0 &&& (255 : Int32)) ||| ((w1 &&& (255 : Int32)) <<< ((8 : Int32) &&& 31))) ||| ((w2 &&& (255 : Int32)) <<< ((16 : Int32) &&& 31))))])) _
    refine XS.iconst X0.here hx rfl (hb hby d1_35) ?_
    show Steps p.tables e below (s₁.setTop (mkF m 36 #[rv a1, iv p2] [(.int (3 : Int32)), (.int p2), (.ref a1), (.int (((w0 &&& (255 : Int32)) ||| ((w1 &&& (255 : Int32)) <<< ((8 : Int32) &&& 31))) ||| ((w2 &&& (255 : Int32)) <<< ((16 : Int32) &&& 31))))])) _
    refine XS.iadd X0.here hx rfl (hb hby d1_36) rfl ?_
    exact k)
  obtain ⟨cl11, Ar11, q11, S11, n11_, H11, G11⟩ := id A_a1
  have hin11 : ¬ ((p2 + (3 : Int32)) < 0 ∨ cl11.slots.size ≤ ((p2 + (3 : Int32))).toNatClampNeg) := inb_of S11 hb3
  have hat11 : cl11.slots[((p2 + (3 : Int32))).toNatClampNeg]? = some (.int w3) := Has.at H11 hin11 ha3
  have R12 : ∀ t, Steps p.tables e below (s₁.setTop (mkF m 38 #[rv a1, iv p2] [(.int w3), (.int (((w0 &&& (255 : Int32)) ||| ((w1 &&& (255 : Int32)) <<< ((8 : Int32) &&& 31))) ||| ((w2 &&& (255 : Int32)) <<< ((16 : Int32) &&& 31))))])) t → Steps p.tables e below (s₁.setTop f0) t := fun t k => R10 t (X0.baloadBytes hx (j := (p2 + (3 : Int32))) (v := (.int w3)) (by rw [e0]; exact Ar11.1) (State.isArrayOf_alike hZ.alike Ar11.2.1) Ar11.2.2 hin11 hat11 (g := (mkF m 37 #[rv a1, iv p2] [(.int (p2 + (3 : Int32))), (.ref a1), (.int (((w0 &&& (255 : Int32)) ||| ((w1 &&& (255 : Int32)) <<< ((8 : Int32) &&& 31))) ||| ((w2 &&& (255 : Int32)) <<< ((16 : Int32) &&& 31))))])) rfl rfl (hb hby d1_37) _ k)
  have R13 : ∀ t, Steps p.tables e below (s₁.setTop (mkF m 46 #[rv a1, iv p2] [(.int ((((w0 &&& (255 : Int32)) ||| ((w1 &&& (255 : Int32)) <<< ((8 : Int32) &&& 31))) ||| ((w2 &&& (255 : Int32)) <<< ((16 : Int32) &&& 31))) ||| ((w3 &&& (255 : Int32)) <<< ((24 : Int32) &&& 31))))])) t → Steps p.tables e below (s₁.setTop f0) t := fun t k => R12 t (by
    show Steps p.tables e below (s₁.setTop (mkF m 38 #[rv a1, iv p2] [(.int w3), (.int (((w0 &&& (255 : Int32)) ||| ((w1 &&& (255 : Int32)) <<< ((8 : Int32) &&& 31))) ||| ((w2 &&& (255 : Int32)) <<< ((16 : Int32) &&& 31))))])) _
    refine XS.sipush X0.here hx rfl (hb hby d1_38) ?_
    show Steps p.tables e below (s₁.setTop (mkF m 41 #[rv a1, iv p2] [(.int (255 : Int32)), (.int w3), (.int (((w0 &&& (255 : Int32)) ||| ((w1 &&& (255 : Int32)) <<< ((8 : Int32) &&& 31))) ||| ((w2 &&& (255 : Int32)) <<< ((16 : Int32) &&& 31))))])) _
    refine XS.iand X0.here hx rfl (hb hby d1_41) rfl ?_
    show Steps p.tables e below (s₁.setTop (mkF m 42 #[rv a1, iv p2] [(.int (w3 &&& (255 : Int32))), (.int (((w0 &&& (255 : Int32)) ||| ((w1 &&& (255 : Int32)) <<< ((8 : Int32) &&& 31))) ||| ((w2 &&& (255 : Int32)) <<< ((16 : Int32) &&& 31))))])) _
    refine XS.bipush X0.here hx rfl (hb hby d1_42) ?_
    show Steps p.tables e below (s₁.setTop (mkF m 44 #[rv a1, iv p2] [(.int (24 : Int32)), (.int (w3 &&& (255 : Int32))), (.int (((w0 &&& (255 : Int32)) ||| ((w1 &&& (255 : Int32)) <<< ((8 : Int32) &&& 31))) ||| ((w2 &&& (255 : Int32)) <<< ((16 : Int32) &&& 31))))])) _
    refine XS.ishl X0.here hx rfl (hb hby d1_44) rfl ?_
    show Steps p.tables e below (s₁.setTop (mkF m 45 #[rv a1, iv p2] [(.int ((w3 &&& (255 : Int32)) <<< ((24 : Int32) &&& 31))), (.int (((w0 &&& (255 : Int32)) ||| ((w1 &&& (255 : Int32)) <<< ((8 : Int32) &&& 31))) ||| ((w2 &&& (255 : Int32)) <<< ((16 : Int32) &&& 31))))])) _
    refine XS.ior X0.here hx rfl (hb hby d1_45) rfl ?_
    exact k)
  obtain ⟨fs, hr, hrun, hended, hW, hsame⟩ := X0.leave (v := some (.int ((((w0 &&& (255 : Int32)) ||| ((w1 &&& (255 : Int32)) <<< ((8 : Int32) &&& 31))) ||| ((w2 &&& (255 : Int32)) <<< ((16 : Int32) &&& 31))) ||| ((w3 &&& (255 : Int32)) <<< ((24 : Int32) &&& 31))))) (fun h => by rw [Bd.returns] at h; cases h)
  refine ⟨_, _, pre0 _ (R13 _ ?_), hrun, hended, _, _, rfl, ?_, ⟨_, rfl⟩, hW, hsame.mono (by decide) (by decide)⟩
  · show Steps p.tables e below (s₁.setTop (mkF m 46 #[rv a1, iv p2] [(.int ((((w0 &&& (255 : Int32)) ||| ((w1 &&& (255 : Int32)) <<< ((8 : Int32) &&& 31))) ||| ((w2 &&& (255 : Int32)) <<< ((16 : Int32) &&& 31))) ||| ((w3 &&& (255 : Int32)) <<< ((24 : Int32) &&& 31))))])) _
    exact retI X0 hx Bd.returns (hb hby d1_46) hr
  · show Q_rmUint Z a1 p2 k z vs dv w0 w1 w2 w3 h0 n0 _ s₁.heap _
    rw [e0]
    exact ⟨rfl, N0, rfl⟩
theorem ef_rmLaw (m : MethodId) (x0 : Int32) (x1 : Int32) (x2 : Int64) : entryFrame m #[(.int x0), (.int x1), (.long x2)] maxLocals = mkF m 0 #[iv x0, iv x1, .val (.long x2), .second, .unset, .unset] [] := by first | (simp [entryFrame, mkF, argsToLocals, Value.category, maxLocals]; done) | rfl
def Q_rmLaw (Z : State) (p0 : Int32) (p1 : Int32) (q2 : Int64) (h0 : Heap) (n0 : Nat) (v : Option Value) (h : Heap) (L : List Loc) : Prop := v = some (.int (1 : Int32)) ∧ Fr n0 L
set_option maxRecDepth 65536 in
set_option maxHeartbeats 40000000 in
theorem rmLaw (l : Launch) (Z : State) (a0 : Array Value) (hw : ∀ d ∈ tables_1, d.before a0 Z = true) (ws : List Jvm.Cond) (p0 : Int32) (p1 : Int32) (q2 : Int64) (h0 : Heap) (n0 : Nat) (Z0 : n0 ≤ h0.size) :
    MetFree l x (head1 (Jvm.Cond.code x code maxLocals ret :: ws) room_1) (fun a U => a = #[(.int p0), (.int p1), (.long q2)] ∧ Z.Warmed39 U.vm ∧ U.heap = h0) (fun _ _ _ _ _ => True) (fun _ U o U' => ∃ v L, o = .returned v ∧ Q_rmLaw Z p0 p1 q2 h0 n0 v U'.heap L ∧ FrameEnd U o U' L room_1.cells room_1.slots) := by
  refine MetFree.of_bodySF (plainFor_of_name pn_1) hisR ?_
  intro p e s m args below meth c s₁ Bd hml0 hP hK
  obtain ⟨rfl, hZ, hh⟩ := hP
  have hx := Bd.exec
  have hby := Bd.bytes
  have hml : c.maxLocals = 6 := hml0
  have hown : s.vm.findClass "com/example/theuth/theuth/io/DexInputUintAtPinLaw" = some m.cls := findClass_of_methodNamed Bd.named
  have hnm := (name_of_methodNamed Bd.named Bd.method).1
  have X0 : Stand p l e room_1 s m #[(.int p0), (.int p1), (.long q2)] below meth c s₁ [] 0 0 := Stand.of_body Bd
  have e0 : s₁.heap = h0 := by rw [← hh, Bd.state]; rfl
  have N0 := Fr.nil n0
  obtain ⟨f0, hf0⟩ : ∃ f : JFrame, f = mkF m 0 #[iv p0, iv p1, .val (.long q2), .second, .unset, .unset] [] := ⟨_, rfl⟩
  have pre0 : ∀ t, Steps p.tables e below (s₁.setTop f0) t → Steps p.tables e below (s₁.setTop (entryFrame m #[(.int p0), (.int p1), (.long q2)] maxLocals)) t := fun t k => castTop ((ef_rmLaw m p0 p1 q2).trans hf0.symm) k
  have R0 : ∀ t, Steps p.tables e below (s₁.setTop (mkF m 0 #[iv p0, iv p1, .val (.long q2), .second, .unset, .unset] [])) t → Steps p.tables e below (s₁.setTop f0) t := by rw [hf0]; exact fun t k => k
  have R1 : ∀ t, Steps p.tables e below (s₁.setTop (mkF m 6 #[iv p0, iv p1, .val (.long q2), .second, .unset, .unset] [(.int ((p1 &&& (2147483647 : Int32)) % (5 : Int32)))])) t → Steps p.tables e below (s₁.setTop f0) t := fun t k => R0 t (by
    show Steps p.tables e below (s₁.setTop (mkF m 0 #[iv p0, iv p1, .val (.long q2), .second, .unset, .unset] [])) _
    refine XS.iloadN X0.here hx rfl (hb hby at_0) rfl  ?_
    show Steps p.tables e below (s₁.setTop (mkF m 1 #[iv p0, iv p1, .val (.long q2), .second, .unset, .unset] [(.int p1)])) _
    refine X0.ldcInt hx hown (mvT hZ (hw _ (List.mem_of_getElem? (i := 0) rfl))) (g := (mkF m 1 #[iv p0, iv p1, .val (.long q2), .second, .unset, .unset] [(.int p1)])) rfl (hb hby at_1) _ ?_
    show Steps p.tables e below (s₁.setTop (mkF m 3 #[iv p0, iv p1, .val (.long q2), .second, .unset, .unset] [(.int (2147483647 : Int32)), (.int p1)])) _
    refine XS.iand X0.here hx rfl (hb hby at_3) rfl ?_
    show Steps p.tables e below (s₁.setTop (mkF m 4 #[iv p0, iv p1, .val (.long q2), .second, .unset, .unset] [(.int (p1 &&& (2147483647 : Int32)))])) _
    refine XS.iconst X0.here hx rfl (hb hby at_4) ?_
    show Steps p.tables e below (s₁.setTop (mkF m 5 #[iv p0, iv p1, .val (.long q2), .second, .unset, .unset] [(.int (5 : Int32)), (.int (p1 &&& (2147483647 : Int32)))])) _
    refine iremM X0 hx rfl (hb hby at_5) rfl (by decide) ?_
    exact k)
  obtain ⟨at_, e_at_⟩ : ∃ z : Int32, z = ((p1 &&& (2147483647 : Int32)) % (5 : Int32)) := ⟨_, rfl⟩
  have R2 : ∀ t, Steps p.tables e below (s₁.setTop (mkF m 6 #[iv p0, iv p1, .val (.long q2), .second, .unset, .unset] [(.int at_)])) t → Steps p.tables e below (s₁.setTop f0) t := by have q := R1; rw [← e_at_] at q; exact q
  have R3 : ∀ t, Steps p.tables e below (s₁.setTop (mkF m 10 #[iv p0, iv p1, .val (.long q2), .second, iv at_, .unset] [(.int (8 : Int32))])) t → Steps p.tables e below (s₁.setTop f0) t := fun t k => R2 t (by
    show Steps p.tables e below (s₁.setTop (mkF m 6 #[iv p0, iv p1, .val (.long q2), .second, .unset, .unset] [(.int at_)])) _
    refine XS.istore X0.here hx rfl (hb hby at_6) rfl (l' := #[iv p0, iv p1, .val (.long q2), .second, iv at_, .unset]) rfl ?_
    show Steps p.tables e below (s₁.setTop (mkF m 8 #[iv p0, iv p1, .val (.long q2), .second, iv at_, .unset] [])) _
    refine XS.bipush X0.here hx rfl (hb hby at_8) ?_
    exact k)
  obtain ⟨T4, h4, k4, X4, e4, E4, A4, st4⟩ := newP X0 hx hZ (hw _ (List.mem_of_getElem? (i := 1) rfl)) e0 (g := (mkF m 10 #[iv p0, iv p1, .val (.long q2), .second, iv at_, .unset] [(.int (8 : Int32))])) rfl (hb hby at_10) rfl (by decide) (cap := 8) (by decide) (by decide) (by decide) (by decide)
  obtain ⟨b4, g4⟩ : ∃ z, z = h0.size := ⟨_, rfl⟩
  rw [← g4] at A4 st4
  have g_b4 : n0 ≤ b4 := Nat.le_trans Z0 (Nat.le_of_eq g4.symm)
  have sz_b4 : h0.size ≤ b4 := Nat.le_trans (Keep.refl h0 []).1 (Nat.le_of_eq g4.symm)
  have z4 : n0 ≤ h4.size := Nat.le_trans Z0 E4.1
  have K4 : Keep h0 h4 [] := (Keep.refl h0 []).ext E4
  have v4 : Arv Z h4 b4 k4 .byte (8 : Int32) [(.int (0 : Int32)), (.int (0 : Int32)), (.int (0 : Int32)), (.int (0 : Int32)), (.int (0 : Int32)), (.int (0 : Int32)), (.int (0 : Int32)), (.int (0 : Int32))] (.int (0 : Int32)) := (Arv.new A4 (by decide)).pad (pad_rep [] (.int (0 : Int32)) 8)
  have R5 : ∀ t, Steps p.tables e below (T4.setTop (mkF m 12 #[iv p0, iv p1, .val (.long q2), .second, iv at_, .unset] [(.ref b4)])) t → Steps p.tables e below (s₁.setTop f0) t := fun t k => R3 t (st4 t k)
  have R6 : ∀ t, Steps p.tables e below (T4.setTop (mkF m 20 #[iv p0, iv p1, .val (.long q2), .second, iv at_, rv b4] [(.int ((q2.toInt32).toInt8.toInt32)), (.int (0 : Int32)), (.ref b4)])) t → Steps p.tables e below (s₁.setTop f0) t := fun t k => R5 t (by
    show Steps p.tables e below (T4.setTop (mkF m 12 #[iv p0, iv p1, .val (.long q2), .second, iv at_, .unset] [(.ref b4)])) _
    refine XS.astore X4.here hx rfl (hb hby at_12) rfl rfl (l' := #[iv p0, iv p1, .val (.long q2), .second, iv at_, rv b4]) rfl ?_
    show Steps p.tables e below (T4.setTop (mkF m 14 #[iv p0, iv p1, .val (.long q2), .second, iv at_, rv b4] [])) _
    refine XS.aload X4.here hx rfl (hb hby at_14) rfl rfl ?_
    show Steps p.tables e below (T4.setTop (mkF m 16 #[iv p0, iv p1, .val (.long q2), .second, iv at_, rv b4] [(.ref b4)])) _
    refine XS.iconst X4.here hx rfl (hb hby at_16) ?_
    show Steps p.tables e below (T4.setTop (mkF m 17 #[iv p0, iv p1, .val (.long q2), .second, iv at_, rv b4] [(.int (0 : Int32)), (.ref b4)])) _
    refine XS.lloadN X4.here hx rfl (hb hby at_17) rfl  ?_
    show Steps p.tables e below (T4.setTop (mkF m 18 #[iv p0, iv p1, .val (.long q2), .second, iv at_, rv b4] [(.long q2), (.int (0 : Int32)), (.ref b4)])) _
    refine XS.l2i X4.here hx rfl (hb hby at_18) rfl ?_
    show Steps p.tables e below (T4.setTop (mkF m 19 #[iv p0, iv p1, .val (.long q2), .second, iv at_, rv b4] [(.int (q2.toInt32)), (.int (0 : Int32)), (.ref b4)])) _
    refine XS.i2b X4.here hx rfl (hb hby at_19) rfl ?_
    exact k)
  obtain ⟨z0, e_z0⟩ : ∃ z : Int32, z = ((q2.toInt32).toInt8.toInt32) := ⟨_, rfl⟩
  have R7 : ∀ t, Steps p.tables e below (T4.setTop (mkF m 20 #[iv p0, iv p1, .val (.long q2), .second, iv at_, rv b4] [(.int z0), (.int (0 : Int32)), (.ref b4)])) t → Steps p.tables e below (s₁.setTop f0) t := by have q := R6; rw [← e_z0] at q; exact q
  obtain ⟨cl8, Ar8, q8, S8, n8_, H8, G8⟩ := id v4
  have hin8 : ¬ ((0 : Int32) < 0 ∨ cl8.slots.size ≤ ((0 : Int32)).toNatClampNeg) := inb_of S8 ⟨by decide, by decide⟩
  obtain ⟨T8, h8, X8, e8, W8, st8⟩ := stB X4 hx hZ e4 Ar8 (j := (0 : Int32)) hin8 (g := (mkF m 20 #[iv p0, iv p1, .val (.long q2), .second, iv at_, rv b4] [(.int z0), (.int (0 : Int32)), (.ref b4)])) rfl rfl (hb hby at_20)
  have z8 : n0 ≤ h8.size := by rw [W8.size]; exact z4
  have K8 : Keep h0 h8 [] := K4.wr W8 (Or.inr sz_b4)
  have v8 : Arv Z h8 b4 k4 .byte (8 : Int32) [(.int (nar .byte z0)), (.int (0 : Int32)), (.int (0 : Int32)), (.int (0 : Int32)), (.int (0 : Int32)), (.int (0 : Int32)), (.int (0 : Int32)), (.int (0 : Int32))] (.int (0 : Int32)) := Arv.set Ar8 q8 S8 n8_ H8 G8 (fits_nar_byte _) W8 0 rfl (Nat.le_of_ble_eq_true rfl)
  have N8 := Fr.snoc X8 N0 g_b4
  have R9 : ∀ t, Steps p.tables e below (T8.setTop (mkF m 21 #[iv p0, iv p1, .val (.long q2), .second, iv at_, rv b4] [])) t → Steps p.tables e below (s₁.setTop f0) t := fun t k => R7 t (st8 t k)
  have R10 : ∀ t, Steps p.tables e below (T8.setTop (mkF m 30 #[iv p0, iv p1, .val (.long q2), .second, iv at_, rv b4] [(.int ((((q2.toUInt64 >>> ((8 : Int32) &&& 0x3f).toInt64.toUInt64).toInt64).toInt32).toInt8.toInt32)), (.int (1 : Int32)), (.ref b4)])) t → Steps p.tables e below (s₁.setTop f0) t := fun t k => R9 t (by
    show Steps p.tables e below (T8.setTop (mkF m 21 #[iv p0, iv p1, .val (.long q2), .second, iv at_, rv b4] [])) _
    refine XS.aload X8.here hx rfl (hb hby at_21) rfl rfl ?_
    show Steps p.tables e below (T8.setTop (mkF m 23 #[iv p0, iv p1, .val (.long q2), .second, iv at_, rv b4] [(.ref b4)])) _
    refine XS.iconst X8.here hx rfl (hb hby at_23) ?_
    show Steps p.tables e below (T8.setTop (mkF m 24 #[iv p0, iv p1, .val (.long q2), .second, iv at_, rv b4] [(.int (1 : Int32)), (.ref b4)])) _
    refine XS.lloadN X8.here hx rfl (hb hby at_24) rfl  ?_
    show Steps p.tables e below (T8.setTop (mkF m 25 #[iv p0, iv p1, .val (.long q2), .second, iv at_, rv b4] [(.long q2), (.int (1 : Int32)), (.ref b4)])) _
    refine XS.bipush X8.here hx rfl (hb hby at_25) ?_
    show Steps p.tables e below (T8.setTop (mkF m 27 #[iv p0, iv p1, .val (.long q2), .second, iv at_, rv b4] [(.int (8 : Int32)), (.long q2), (.int (1 : Int32)), (.ref b4)])) _
    refine XS.lushr X8.here hx rfl (hb hby at_27) rfl ?_
    show Steps p.tables e below (T8.setTop (mkF m 28 #[iv p0, iv p1, .val (.long q2), .second, iv at_, rv b4] [(.long ((q2.toUInt64 >>> ((8 : Int32) &&& 0x3f).toInt64.toUInt64).toInt64)), (.int (1 : Int32)), (.ref b4)])) _
    refine XS.l2i X8.here hx rfl (hb hby at_28) rfl ?_
    show Steps p.tables e below (T8.setTop (mkF m 29 #[iv p0, iv p1, .val (.long q2), .second, iv at_, rv b4] [(.int (((q2.toUInt64 >>> ((8 : Int32) &&& 0x3f).toInt64.toUInt64).toInt64).toInt32)), (.int (1 : Int32)), (.ref b4)])) _
    refine XS.i2b X8.here hx rfl (hb hby at_29) rfl ?_
    exact k)
  obtain ⟨z1, e_z1⟩ : ∃ z : Int32, z = ((((q2.toUInt64 >>> ((8 : Int32) &&& 0x3f).toInt64.toUInt64).toInt64).toInt32).toInt8.toInt32) := ⟨_, rfl⟩
  have R11 : ∀ t, Steps p.tables e below (T8.setTop (mkF m 30 #[iv p0, iv p1, .val (.long q2), .second, iv at_, rv b4] [(.int z1), (.int (1 : Int32)), (.ref b4)])) t → Steps p.tables e below (s₁.setTop f0) t := by have q := R10; rw [← e_z1] at q; exact q
  obtain ⟨cl12, Ar12, q12, S12, n12_, H12, G12⟩ := id v8
  have hin12 : ¬ ((1 : Int32) < 0 ∨ cl12.slots.size ≤ ((1 : Int32)).toNatClampNeg) := inb_of S12 ⟨by decide, by decide⟩
  obtain ⟨T12, h12, X12, e12, W12, st12⟩ := stB X8 hx hZ e8 Ar12 (j := (1 : Int32)) hin12 (g := (mkF m 30 #[iv p0, iv p1, .val (.long q2), .second, iv at_, rv b4] [(.int z1), (.int (1 : Int32)), (.ref b4)])) rfl rfl (hb hby at_30)
  have z12 : n0 ≤ h12.size := by rw [W12.size]; exact z8
  have K12 : Keep h0 h12 [] := K8.wr W12 (Or.inr sz_b4)
  have v12 : Arv Z h12 b4 k4 .byte (8 : Int32) [(.int (nar .byte z0)), (.int (nar .byte z1)), (.int (0 : Int32)), (.int (0 : Int32)), (.int (0 : Int32)), (.int (0 : Int32)), (.int (0 : Int32)), (.int (0 : Int32))] (.int (0 : Int32)) := Arv.set Ar12 q12 S12 n12_ H12 G12 (fits_nar_byte _) W12 1 rfl (Nat.le_of_ble_eq_true rfl)
  have N12 := Fr.snoc X12 N8 g_b4
  have R13 : ∀ t, Steps p.tables e below (T12.setTop (mkF m 31 #[iv p0, iv p1, .val (.long q2), .second, iv at_, rv b4] [])) t → Steps p.tables e below (s₁.setTop f0) t := fun t k => R11 t (st12 t k)
  have R14 : ∀ t, Steps p.tables e below (T12.setTop (mkF m 40 #[iv p0, iv p1, .val (.long q2), .second, iv at_, rv b4] [(.int ((((q2.toUInt64 >>> ((16 : Int32) &&& 0x3f).toInt64.toUInt64).toInt64).toInt32).toInt8.toInt32)), (.int (2 : Int32)), (.ref b4)])) t → Steps p.tables e below (s₁.setTop f0) t := fun t k => R13 t (by
    show Steps p.tables e below (T12.setTop (mkF m 31 #[iv p0, iv p1, .val (.long q2), .second, iv at_, rv b4] [])) _
    refine XS.aload X12.here hx rfl (hb hby at_31) rfl rfl ?_
    show Steps p.tables e below (T12.setTop (mkF m 33 #[iv p0, iv p1, .val (.long q2), .second, iv at_, rv b4] [(.ref b4)])) _
    refine XS.iconst X12.here hx rfl (hb hby at_33) ?_
    show Steps p.tables e below (T12.setTop (mkF m 34 #[iv p0, iv p1, .val (.long q2), .second, iv at_, rv b4] [(.int (2 : Int32)), (.ref b4)])) _
    refine XS.lloadN X12.here hx rfl (hb hby at_34) rfl  ?_
    show Steps p.tables e below (T12.setTop (mkF m 35 #[iv p0, iv p1, .val (.long q2), .second, iv at_, rv b4] [(.long q2), (.int (2 : Int32)), (.ref b4)])) _
    refine XS.bipush X12.here hx rfl (hb hby at_35) ?_
    show Steps p.tables e below (T12.setTop (mkF m 37 #[iv p0, iv p1, .val (.long q2), .second, iv at_, rv b4] [(.int (16 : Int32)), (.long q2), (.int (2 : Int32)), (.ref b4)])) _
    refine XS.lushr X12.here hx rfl (hb hby at_37) rfl ?_
    show Steps p.tables e below (T12.setTop (mkF m 38 #[iv p0, iv p1, .val (.long q2), .second, iv at_, rv b4] [(.long ((q2.toUInt64 >>> ((16 : Int32) &&& 0x3f).toInt64.toUInt64).toInt64)), (.int (2 : Int32)), (.ref b4)])) _
    refine XS.l2i X12.here hx rfl (hb hby at_38) rfl ?_
    show Steps p.tables e below (T12.setTop (mkF m 39 #[iv p0, iv p1, .val (.long q2), .second, iv at_, rv b4] [(.int (((q2.toUInt64 >>> ((16 : Int32) &&& 0x3f).toInt64.toUInt64).toInt64).toInt32)), (.int (2 : Int32)), (.ref b4)])) _
    refine XS.i2b X12.here hx rfl (hb hby at_39) rfl ?_
    exact k)
  obtain ⟨z2, e_z2⟩ : ∃ z : Int32, z = ((((q2.toUInt64 >>> ((16 : Int32) &&& 0x3f).toInt64.toUInt64).toInt64).toInt32).toInt8.toInt32) := ⟨_, rfl⟩
  have R15 : ∀ t, Steps p.tables e below (T12.setTop (mkF m 40 #[iv p0, iv p1, .val (.long q2), .second, iv at_, rv b4] [(.int z2), (.int (2 : Int32)), (.ref b4)])) t → Steps p.tables e below (s₁.setTop f0) t := by have q := R14; rw [← e_z2] at q; exact q
  obtain ⟨cl16, Ar16, q16, S16, n16_, H16, G16⟩ := id v12
  have hin16 : ¬ ((2 : Int32) < 0 ∨ cl16.slots.size ≤ ((2 : Int32)).toNatClampNeg) := inb_of S16 ⟨by decide, by decide⟩
  obtain ⟨T16, h16, X16, e16, W16, st16⟩ := stB X12 hx hZ e12 Ar16 (j := (2 : Int32)) hin16 (g := (mkF m 40 #[iv p0, iv p1, .val (.long q2), .second, iv at_, rv b4] [(.int z2), (.int (2 : Int32)), (.ref b4)])) rfl rfl (hb hby at_40)
  have z16 : n0 ≤ h16.size := by rw [W16.size]; exact z12
  have K16 : Keep h0 h16 [] := K12.wr W16 (Or.inr sz_b4)
  have v16 : Arv Z h16 b4 k4 .byte (8 : Int32) [(.int (nar .byte z0)), (.int (nar .byte z1)), (.int (nar .byte z2)), (.int (0 : Int32)), (.int (0 : Int32)), (.int (0 : Int32)), (.int (0 : Int32)), (.int (0 : Int32))] (.int (0 : Int32)) := Arv.set Ar16 q16 S16 n16_ H16 G16 (fits_nar_byte _) W16 2 rfl (Nat.le_of_ble_eq_true rfl)
  have N16 := Fr.snoc X16 N12 g_b4
  have R17 : ∀ t, Steps p.tables e below (T16.setTop (mkF m 41 #[iv p0, iv p1, .val (.long q2), .second, iv at_, rv b4] [])) t → Steps p.tables e below (s₁.setTop f0) t := fun t k => R15 t (st16 t k)
  have R18 : ∀ t, Steps p.tables e below (T16.setTop (mkF m 50 #[iv p0, iv p1, .val (.long q2), .second, iv at_, rv b4] [(.int ((((q2.toUInt64 >>> ((24 : Int32) &&& 0x3f).toInt64.toUInt64).toInt64).toInt32).toInt8.toInt32)), (.int (3 : Int32)), (.ref b4)])) t → Steps p.tables e below (s₁.setTop f0) t := fun t k => R17 t (by
    show Steps p.tables e below (T16.setTop (mkF m 41 #[iv p0, iv p1, .val (.long q2), .second, iv at_, rv b4] [])) _
    refine XS.aload X16.here hx rfl (hb hby at_41) rfl rfl ?_
    show Steps p.tables e below (T16.setTop (mkF m 43 #[iv p0, iv p1, .val (.long q2), .second, iv at_, rv b4] [(.ref b4)])) _
    refine XS.iconst X16.here hx rfl (hb hby at_43) ?_
    show Steps p.tables e below (T16.setTop (mkF m 44 #[iv p0, iv p1, .val (.long q2), .second, iv at_, rv b4] [(.int (3 : Int32)), (.ref b4)])) _
    refine XS.lloadN X16.here hx rfl (hb hby at_44) rfl  ?_
    show Steps p.tables e below (T16.setTop (mkF m 45 #[iv p0, iv p1, .val (.long q2), .second, iv at_, rv b4] [(.long q2), (.int (3 : Int32)), (.ref b4)])) _
    refine XS.bipush X16.here hx rfl (hb hby at_45) ?_
    show Steps p.tables e below (T16.setTop (mkF m 47 #[iv p0, iv p1, .val (.long q2), .second, iv at_, rv b4] [(.int (24 : Int32)), (.long q2), (.int (3 : Int32)), (.ref b4)])) _
    refine XS.lushr X16.here hx rfl (hb hby at_47) rfl ?_
    show Steps p.tables e below (T16.setTop (mkF m 48 #[iv p0, iv p1, .val (.long q2), .second, iv at_, rv b4] [(.long ((q2.toUInt64 >>> ((24 : Int32) &&& 0x3f).toInt64.toUInt64).toInt64)), (.int (3 : Int32)), (.ref b4)])) _
    refine XS.l2i X16.here hx rfl (hb hby at_48) rfl ?_
    show Steps p.tables e below (T16.setTop (mkF m 49 #[iv p0, iv p1, .val (.long q2), .second, iv at_, rv b4] [(.int (((q2.toUInt64 >>> ((24 : Int32) &&& 0x3f).toInt64.toUInt64).toInt64).toInt32)), (.int (3 : Int32)), (.ref b4)])) _
    refine XS.i2b X16.here hx rfl (hb hby at_49) rfl ?_
    exact k)
  obtain ⟨z3, e_z3⟩ : ∃ z : Int32, z = ((((q2.toUInt64 >>> ((24 : Int32) &&& 0x3f).toInt64.toUInt64).toInt64).toInt32).toInt8.toInt32) := ⟨_, rfl⟩
  have R19 : ∀ t, Steps p.tables e below (T16.setTop (mkF m 50 #[iv p0, iv p1, .val (.long q2), .second, iv at_, rv b4] [(.int z3), (.int (3 : Int32)), (.ref b4)])) t → Steps p.tables e below (s₁.setTop f0) t := by have q := R18; rw [← e_z3] at q; exact q
  obtain ⟨cl20, Ar20, q20, S20, n20_, H20, G20⟩ := id v16
  have hin20 : ¬ ((3 : Int32) < 0 ∨ cl20.slots.size ≤ ((3 : Int32)).toNatClampNeg) := inb_of S20 ⟨by decide, by decide⟩
  obtain ⟨T20, h20, X20, e20, W20, st20⟩ := stB X16 hx hZ e16 Ar20 (j := (3 : Int32)) hin20 (g := (mkF m 50 #[iv p0, iv p1, .val (.long q2), .second, iv at_, rv b4] [(.int z3), (.int (3 : Int32)), (.ref b4)])) rfl rfl (hb hby at_50)
  have z20 : n0 ≤ h20.size := by rw [W20.size]; exact z16
  have K20 : Keep h0 h20 [] := K16.wr W20 (Or.inr sz_b4)
  have v20 : Arv Z h20 b4 k4 .byte (8 : Int32) [(.int (nar .byte z0)), (.int (nar .byte z1)), (.int (nar .byte z2)), (.int (nar .byte z3)), (.int (0 : Int32)), (.int (0 : Int32)), (.int (0 : Int32)), (.int (0 : Int32))] (.int (0 : Int32)) := Arv.set Ar20 q20 S20 n20_ H20 G20 (fits_nar_byte _) W20 3 rfl (Nat.le_of_ble_eq_true rfl)
  have N20 := Fr.snoc X20 N16 g_b4
  have R21 : ∀ t, Steps p.tables e below (T20.setTop (mkF m 51 #[iv p0, iv p1, .val (.long q2), .second, iv at_, rv b4] [])) t → Steps p.tables e below (s₁.setTop f0) t := fun t k => R19 t (st20 t k)
  have R22 : ∀ t, Steps p.tables e below (T20.setTop (mkF m 60 #[iv p0, iv p1, .val (.long q2), .second, iv at_, rv b4] [(.int ((((q2.toUInt64 >>> ((32 : Int32) &&& 0x3f).toInt64.toUInt64).toInt64).toInt32).toInt8.toInt32)), (.int (4 : Int32)), (.ref b4)])) t → Steps p.tables e below (s₁.setTop f0) t := fun t k => R21 t (by
    show Steps p.tables e below (T20.setTop (mkF m 51 #[iv p0, iv p1, .val (.long q2), .second, iv at_, rv b4] [])) _
    refine XS.aload X20.here hx rfl (hb hby at_51) rfl rfl ?_
    show Steps p.tables e below (T20.setTop (mkF m 53 #[iv p0, iv p1, .val (.long q2), .second, iv at_, rv b4] [(.ref b4)])) _
    refine XS.iconst X20.here hx rfl (hb hby at_53) ?_
    show Steps p.tables e below (T20.setTop (mkF m 54 #[iv p0, iv p1, .val (.long q2), .second, iv at_, rv b4] [(.int (4 : Int32)), (.ref b4)])) _
    refine XS.lloadN X20.here hx rfl (hb hby at_54) rfl  ?_
    show Steps p.tables e below (T20.setTop (mkF m 55 #[iv p0, iv p1, .val (.long q2), .second, iv at_, rv b4] [(.long q2), (.int (4 : Int32)), (.ref b4)])) _
    refine XS.bipush X20.here hx rfl (hb hby at_55) ?_
    show Steps p.tables e below (T20.setTop (mkF m 57 #[iv p0, iv p1, .val (.long q2), .second, iv at_, rv b4] [(.int (32 : Int32)), (.long q2), (.int (4 : Int32)), (.ref b4)])) _
    refine XS.lushr X20.here hx rfl (hb hby at_57) rfl ?_
    show Steps p.tables e below (T20.setTop (mkF m 58 #[iv p0, iv p1, .val (.long q2), .second, iv at_, rv b4] [(.long ((q2.toUInt64 >>> ((32 : Int32) &&& 0x3f).toInt64.toUInt64).toInt64)), (.int (4 : Int32)), (.ref b4)])) _
    refine XS.l2i X20.here hx rfl (hb hby at_58) rfl ?_
    show Steps p.tables e below (T20.setTop (mkF m 59 #[iv p0, iv p1, .val (.long q2), .second, iv at_, rv b4] [(.int (((q2.toUInt64 >>> ((32 : Int32) &&& 0x3f).toInt64.toUInt64).toInt64).toInt32)), (.int (4 : Int32)), (.ref b4)])) _
    refine XS.i2b X20.here hx rfl (hb hby at_59) rfl ?_
    exact k)
  obtain ⟨z4, e_z4⟩ : ∃ z : Int32, z = ((((q2.toUInt64 >>> ((32 : Int32) &&& 0x3f).toInt64.toUInt64).toInt64).toInt32).toInt8.toInt32) := ⟨_, rfl⟩
  have R23 : ∀ t, Steps p.tables e below (T20.setTop (mkF m 60 #[iv p0, iv p1, .val (.long q2), .second, iv at_, rv b4] [(.int z4), (.int (4 : Int32)), (.ref b4)])) t → Steps p.tables e below (s₁.setTop f0) t := by have q := R22; rw [← e_z4] at q; exact q
  obtain ⟨cl24, Ar24, q24, S24, n24_, H24, G24⟩ := id v20
  have hin24 : ¬ ((4 : Int32) < 0 ∨ cl24.slots.size ≤ ((4 : Int32)).toNatClampNeg) := inb_of S24 ⟨by decide, by decide⟩
  obtain ⟨T24, h24, X24, e24, W24, st24⟩ := stB X20 hx hZ e20 Ar24 (j := (4 : Int32)) hin24 (g := (mkF m 60 #[iv p0, iv p1, .val (.long q2), .second, iv at_, rv b4] [(.int z4), (.int (4 : Int32)), (.ref b4)])) rfl rfl (hb hby at_60)
  have z24 : n0 ≤ h24.size := by rw [W24.size]; exact z20
  have K24 : Keep h0 h24 [] := K20.wr W24 (Or.inr sz_b4)
  have v24 : Arv Z h24 b4 k4 .byte (8 : Int32) [(.int (nar .byte z0)), (.int (nar .byte z1)), (.int (nar .byte z2)), (.int (nar .byte z3)), (.int (nar .byte z4)), (.int (0 : Int32)), (.int (0 : Int32)), (.int (0 : Int32))] (.int (0 : Int32)) := Arv.set Ar24 q24 S24 n24_ H24 G24 (fits_nar_byte _) W24 4 rfl (Nat.le_of_ble_eq_true rfl)
  have N24 := Fr.snoc X24 N20 g_b4
  have R25 : ∀ t, Steps p.tables e below (T24.setTop (mkF m 61 #[iv p0, iv p1, .val (.long q2), .second, iv at_, rv b4] [])) t → Steps p.tables e below (s₁.setTop f0) t := fun t k => R23 t (st24 t k)
  have R26 : ∀ t, Steps p.tables e below (T24.setTop (mkF m 70 #[iv p0, iv p1, .val (.long q2), .second, iv at_, rv b4] [(.int ((((q2.toUInt64 >>> ((40 : Int32) &&& 0x3f).toInt64.toUInt64).toInt64).toInt32).toInt8.toInt32)), (.int (5 : Int32)), (.ref b4)])) t → Steps p.tables e below (s₁.setTop f0) t := fun t k => R25 t (by
    show Steps p.tables e below (T24.setTop (mkF m 61 #[iv p0, iv p1, .val (.long q2), .second, iv at_, rv b4] [])) _
    refine XS.aload X24.here hx rfl (hb hby at_61) rfl rfl ?_
    show Steps p.tables e below (T24.setTop (mkF m 63 #[iv p0, iv p1, .val (.long q2), .second, iv at_, rv b4] [(.ref b4)])) _
    refine XS.iconst X24.here hx rfl (hb hby at_63) ?_
    show Steps p.tables e below (T24.setTop (mkF m 64 #[iv p0, iv p1, .val (.long q2), .second, iv at_, rv b4] [(.int (5 : Int32)), (.ref b4)])) _
    refine XS.lloadN X24.here hx rfl (hb hby at_64) rfl  ?_
    show Steps p.tables e below (T24.setTop (mkF m 65 #[iv p0, iv p1, .val (.long q2), .second, iv at_, rv b4] [(.long q2), (.int (5 : Int32)), (.ref b4)])) _
    refine XS.bipush X24.here hx rfl (hb hby at_65) ?_
    show Steps p.tables e below (T24.setTop (mkF m 67 #[iv p0, iv p1, .val (.long q2), .second, iv at_, rv b4] [(.int (40 : Int32)), (.long q2), (.int (5 : Int32)), (.ref b4)])) _
    refine XS.lushr X24.here hx rfl (hb hby at_67) rfl ?_
    show Steps p.tables e below (T24.setTop (mkF m 68 #[iv p0, iv p1, .val (.long q2), .second, iv at_, rv b4] [(.long ((q2.toUInt64 >>> ((40 : Int32) &&& 0x3f).toInt64.toUInt64).toInt64)), (.int (5 : Int32)), (.ref b4)])) _
    refine XS.l2i X24.here hx rfl (hb hby at_68) rfl ?_
    show Steps p.tables e below (T24.setTop (mkF m 69 #[iv p0, iv p1, .val (.long q2), .second, iv at_, rv b4] [(.int (((q2.toUInt64 >>> ((40 : Int32) &&& 0x3f).toInt64.toUInt64).toInt64).toInt32)), (.int (5 : Int32)), (.ref b4)])) _
    refine XS.i2b X24.here hx rfl (hb hby at_69) rfl ?_
    exact k)
  obtain ⟨z5, e_z5⟩ : ∃ z : Int32, z = ((((q2.toUInt64 >>> ((40 : Int32) &&& 0x3f).toInt64.toUInt64).toInt64).toInt32).toInt8.toInt32) := ⟨_, rfl⟩
  have R27 : ∀ t, Steps p.tables e below (T24.setTop (mkF m 70 #[iv p0, iv p1, .val (.long q2), .second, iv at_, rv b4] [(.int z5), (.int (5 : Int32)), (.ref b4)])) t → Steps p.tables e below (s₁.setTop f0) t := by have q := R26; rw [← e_z5] at q; exact q
  obtain ⟨cl28, Ar28, q28, S28, n28_, H28, G28⟩ := id v24
  have hin28 : ¬ ((5 : Int32) < 0 ∨ cl28.slots.size ≤ ((5 : Int32)).toNatClampNeg) := inb_of S28 ⟨by decide, by decide⟩
  obtain ⟨T28, h28, X28, e28, W28, st28⟩ := stB X24 hx hZ e24 Ar28 (j := (5 : Int32)) hin28 (g := (mkF m 70 #[iv p0, iv p1, .val (.long q2), .second, iv at_, rv b4] [(.int z5), (.int (5 : Int32)), (.ref b4)])) rfl rfl (hb hby at_70)
  have z28 : n0 ≤ h28.size := by rw [W28.size]; exact z24
  have K28 : Keep h0 h28 [] := K24.wr W28 (Or.inr sz_b4)
  have v28 : Arv Z h28 b4 k4 .byte (8 : Int32) [(.int (nar .byte z0)), (.int (nar .byte z1)), (.int (nar .byte z2)), (.int (nar .byte z3)), (.int (nar .byte z4)), (.int (nar .byte z5)), (.int (0 : Int32)), (.int (0 : Int32))] (.int (0 : Int32)) := Arv.set Ar28 q28 S28 n28_ H28 G28 (fits_nar_byte _) W28 5 rfl (Nat.le_of_ble_eq_true rfl)
  have N28 := Fr.snoc X28 N24 g_b4
  have R29 : ∀ t, Steps p.tables e below (T28.setTop (mkF m 71 #[iv p0, iv p1, .val (.long q2), .second, iv at_, rv b4] [])) t → Steps p.tables e below (s₁.setTop f0) t := fun t k => R27 t (st28 t k)
  have R30 : ∀ t, Steps p.tables e below (T28.setTop (mkF m 81 #[iv p0, iv p1, .val (.long q2), .second, iv at_, rv b4] [(.int ((((q2.toUInt64 >>> ((48 : Int32) &&& 0x3f).toInt64.toUInt64).toInt64).toInt32).toInt8.toInt32)), (.int (6 : Int32)), (.ref b4)])) t → Steps p.tables e below (s₁.setTop f0) t := fun t k => R29 t (by
    show Steps p.tables e below (T28.setTop (mkF m 71 #[iv p0, iv p1, .val (.long q2), .second, iv at_, rv b4] [])) _
    refine XS.aload X28.here hx rfl (hb hby at_71) rfl rfl ?_
    show Steps p.tables e below (T28.setTop (mkF m 73 #[iv p0, iv p1, .val (.long q2), .second, iv at_, rv b4] [(.ref b4)])) _
    refine XS.bipush X28.here hx rfl (hb hby at_73) ?_
    show Steps p.tables e below (T28.setTop (mkF m 75 #[iv p0, iv p1, .val (.long q2), .second, iv at_, rv b4] [(.int (6 : Int32)), (.ref b4)])) _
    refine XS.lloadN X28.here hx rfl (hb hby at_75) rfl  ?_
    show Steps p.tables e below (T28.setTop (mkF m 76 #[iv p0, iv p1, .val (.long q2), .second, iv at_, rv b4] [(.long q2), (.int (6 : Int32)), (.ref b4)])) _
    refine XS.bipush X28.here hx rfl (hb hby at_76) ?_
    show Steps p.tables e below (T28.setTop (mkF m 78 #[iv p0, iv p1, .val (.long q2), .second, iv at_, rv b4] [(.int (48 : Int32)), (.long q2), (.int (6 : Int32)), (.ref b4)])) _
    refine XS.lushr X28.here hx rfl (hb hby at_78) rfl ?_
    show Steps p.tables e below (T28.setTop (mkF m 79 #[iv p0, iv p1, .val (.long q2), .second, iv at_, rv b4] [(.long ((q2.toUInt64 >>> ((48 : Int32) &&& 0x3f).toInt64.toUInt64).toInt64)), (.int (6 : Int32)), (.ref b4)])) _
    refine XS.l2i X28.here hx rfl (hb hby at_79) rfl ?_
    show Steps p.tables e below (T28.setTop (mkF m 80 #[iv p0, iv p1, .val (.long q2), .second, iv at_, rv b4] [(.int (((q2.toUInt64 >>> ((48 : Int32) &&& 0x3f).toInt64.toUInt64).toInt64).toInt32)), (.int (6 : Int32)), (.ref b4)])) _
    refine XS.i2b X28.here hx rfl (hb hby at_80) rfl ?_
    exact k)
  obtain ⟨z6, e_z6⟩ : ∃ z : Int32, z = ((((q2.toUInt64 >>> ((48 : Int32) &&& 0x3f).toInt64.toUInt64).toInt64).toInt32).toInt8.toInt32) := ⟨_, rfl⟩
  have R31 : ∀ t, Steps p.tables e below (T28.setTop (mkF m 81 #[iv p0, iv p1, .val (.long q2), .second, iv at_, rv b4] [(.int z6), (.int (6 : Int32)), (.ref b4)])) t → Steps p.tables e below (s₁.setTop f0) t := by have q := R30; rw [← e_z6] at q; exact q
  obtain ⟨cl32, Ar32, q32, S32, n32_, H32, G32⟩ := id v28
  have hin32 : ¬ ((6 : Int32) < 0 ∨ cl32.slots.size ≤ ((6 : Int32)).toNatClampNeg) := inb_of S32 ⟨by decide, by decide⟩
  obtain ⟨T32, h32, X32, e32, W32, st32⟩ := stB X28 hx hZ e28 Ar32 (j := (6 : Int32)) hin32 (g := (mkF m 81 #[iv p0, iv p1, .val (.long q2), .second, iv at_, rv b4] [(.int z6), (.int (6 : Int32)), (.ref b4)])) rfl rfl (hb hby at_81)
  have z32 : n0 ≤ h32.size := by rw [W32.size]; exact z28
  have K32 : Keep h0 h32 [] := K28.wr W32 (Or.inr sz_b4)
  have v32 : Arv Z h32 b4 k4 .byte (8 : Int32) [(.int (nar .byte z0)), (.int (nar .byte z1)), (.int (nar .byte z2)), (.int (nar .byte z3)), (.int (nar .byte z4)), (.int (nar .byte z5)), (.int (nar .byte z6)), (.int (0 : Int32))] (.int (0 : Int32)) := Arv.set Ar32 q32 S32 n32_ H32 G32 (fits_nar_byte _) W32 6 rfl (Nat.le_of_ble_eq_true rfl)
  have N32 := Fr.snoc X32 N28 g_b4
  have R33 : ∀ t, Steps p.tables e below (T32.setTop (mkF m 82 #[iv p0, iv p1, .val (.long q2), .second, iv at_, rv b4] [])) t → Steps p.tables e below (s₁.setTop f0) t := fun t k => R31 t (st32 t k)
  have R34 : ∀ t, Steps p.tables e below (T32.setTop (mkF m 92 #[iv p0, iv p1, .val (.long q2), .second, iv at_, rv b4] [(.int ((((q2.toUInt64 >>> ((56 : Int32) &&& 0x3f).toInt64.toUInt64).toInt64).toInt32).toInt8.toInt32)), (.int (7 : Int32)), (.ref b4)])) t → Steps p.tables e below (s₁.setTop f0) t := fun t k => R33 t (by
    show Steps p.tables e below (T32.setTop (mkF m 82 #[iv p0, iv p1, .val (.long q2), .second, iv at_, rv b4] [])) _
    refine XS.aload X32.here hx rfl (hb hby at_82) rfl rfl ?_
    show Steps p.tables e below (T32.setTop (mkF m 84 #[iv p0, iv p1, .val (.long q2), .second, iv at_, rv b4] [(.ref b4)])) _
    refine XS.bipush X32.here hx rfl (hb hby at_84) ?_
    show Steps p.tables e below (T32.setTop (mkF m 86 #[iv p0, iv p1, .val (.long q2), .second, iv at_, rv b4] [(.int (7 : Int32)), (.ref b4)])) _
    refine XS.lloadN X32.here hx rfl (hb hby at_86) rfl  ?_
    show Steps p.tables e below (T32.setTop (mkF m 87 #[iv p0, iv p1, .val (.long q2), .second, iv at_, rv b4] [(.long q2), (.int (7 : Int32)), (.ref b4)])) _
    refine XS.bipush X32.here hx rfl (hb hby at_87) ?_
    show Steps p.tables e below (T32.setTop (mkF m 89 #[iv p0, iv p1, .val (.long q2), .second, iv at_, rv b4] [(.int (56 : Int32)), (.long q2), (.int (7 : Int32)), (.ref b4)])) _
    refine XS.lushr X32.here hx rfl (hb hby at_89) rfl ?_
    show Steps p.tables e below (T32.setTop (mkF m 90 #[iv p0, iv p1, .val (.long q2), .second, iv at_, rv b4] [(.long ((q2.toUInt64 >>> ((56 : Int32) &&& 0x3f).toInt64.toUInt64).toInt64)), (.int (7 : Int32)), (.ref b4)])) _
    refine XS.l2i X32.here hx rfl (hb hby at_90) rfl ?_
    show Steps p.tables e below (T32.setTop (mkF m 91 #[iv p0, iv p1, .val (.long q2), .second, iv at_, rv b4] [(.int (((q2.toUInt64 >>> ((56 : Int32) &&& 0x3f).toInt64.toUInt64).toInt64).toInt32)), (.int (7 : Int32)), (.ref b4)])) _
    refine XS.i2b X32.here hx rfl (hb hby at_91) rfl ?_
    exact k)
  obtain ⟨z7, e_z7⟩ : ∃ z : Int32, z = ((((q2.toUInt64 >>> ((56 : Int32) &&& 0x3f).toInt64.toUInt64).toInt64).toInt32).toInt8.toInt32) := ⟨_, rfl⟩
  have R35 : ∀ t, Steps p.tables e below (T32.setTop (mkF m 92 #[iv p0, iv p1, .val (.long q2), .second, iv at_, rv b4] [(.int z7), (.int (7 : Int32)), (.ref b4)])) t → Steps p.tables e below (s₁.setTop f0) t := by have q := R34; rw [← e_z7] at q; exact q
  obtain ⟨cl36, Ar36, q36, S36, n36_, H36, G36⟩ := id v32
  have hin36 : ¬ ((7 : Int32) < 0 ∨ cl36.slots.size ≤ ((7 : Int32)).toNatClampNeg) := inb_of S36 ⟨by decide, by decide⟩
  obtain ⟨T36, h36, X36, e36, W36, st36⟩ := stB X32 hx hZ e32 Ar36 (j := (7 : Int32)) hin36 (g := (mkF m 92 #[iv p0, iv p1, .val (.long q2), .second, iv at_, rv b4] [(.int z7), (.int (7 : Int32)), (.ref b4)])) rfl rfl (hb hby at_92)
  have z36 : n0 ≤ h36.size := by rw [W36.size]; exact z32
  have K36 : Keep h0 h36 [] := K32.wr W36 (Or.inr sz_b4)
  have v36 : Arv Z h36 b4 k4 .byte (8 : Int32) [(.int (nar .byte z0)), (.int (nar .byte z1)), (.int (nar .byte z2)), (.int (nar .byte z3)), (.int (nar .byte z4)), (.int (nar .byte z5)), (.int (nar .byte z6)), (.int (nar .byte z7))] (.int (0 : Int32)) := Arv.set Ar36 q36 S36 n36_ H36 G36 (fits_nar_byte _) W36 7 rfl (Nat.le_of_ble_eq_true rfl)
  have N36 := Fr.snoc X36 N32 g_b4
  have R37 : ∀ t, Steps p.tables e below (T36.setTop (mkF m 93 #[iv p0, iv p1, .val (.long q2), .second, iv at_, rv b4] [])) t → Steps p.tables e below (s₁.setTop f0) t := fun t k => R35 t (st36 t k)
  rcases own_at p1 at_ e_at_ with ha | ha | ha | ha | ha
  · skip
    have R38 : ∀ t, Steps p.tables e below (T36.setTop (mkF m 93 #[iv p0, iv p1, .val (.long q2), .second, iv (0 : Int32), rv b4] [])) t → Steps p.tables e below (s₁.setTop f0) t := by have q := R37; rw [(ha : at_ = (0 : Int32))] at q; exact q
    have R39 : ∀ t, Steps p.tables e below (T36.setTop (mkF m 99 #[iv p0, iv p1, .val (.long q2), .second, iv (0 : Int32), rv b4] [(.int (p0.toInt8.toInt32)), (.int (0 : Int32)), (.ref b4)])) t → Steps p.tables e below (s₁.setTop f0) t := fun t k => R38 t (by
      show Steps p.tables e below (T36.setTop (mkF m 93 #[iv p0, iv p1, .val (.long q2), .second, iv (0 : Int32), rv b4] [])) _
      refine XS.aload X36.here hx rfl (hb hby at_93) rfl rfl ?_
      show Steps p.tables e below (T36.setTop (mkF m 95 #[iv p0, iv p1, .val (.long q2), .second, iv (0 : Int32), rv b4] [(.ref b4)])) _
      refine XS.iload X36.here hx rfl (hb hby at_95) rfl  ?_
      show Steps p.tables e below (T36.setTop (mkF m 97 #[iv p0, iv p1, .val (.long q2), .second, iv (0 : Int32), rv b4] [(.int (0 : Int32)), (.ref b4)])) _
      refine XS.iloadN X36.here hx rfl (hb hby at_97) rfl  ?_
      show Steps p.tables e below (T36.setTop (mkF m 98 #[iv p0, iv p1, .val (.long q2), .second, iv (0 : Int32), rv b4] [(.int p0), (.int (0 : Int32)), (.ref b4)])) _
      refine XS.i2b X36.here hx rfl (hb hby at_98) rfl ?_
      exact k)
    obtain ⟨v0, e_v0⟩ : ∃ z : Int32, z = (p0.toInt8.toInt32) := ⟨_, rfl⟩
    have R40 : ∀ t, Steps p.tables e below (T36.setTop (mkF m 99 #[iv p0, iv p1, .val (.long q2), .second, iv (0 : Int32), rv b4] [(.int v0), (.int (0 : Int32)), (.ref b4)])) t → Steps p.tables e below (s₁.setTop f0) t := by have q := R39; rw [← e_v0] at q; exact q
    obtain ⟨cl41, Ar41, q41, S41, n41_, H41, G41⟩ := id v36
    have hin41 : ¬ ((0 : Int32) < 0 ∨ cl41.slots.size ≤ ((0 : Int32)).toNatClampNeg) := inb_of S41 ⟨by decide, by decide⟩
    obtain ⟨T41, h41, X41, e41, W41, st41⟩ := stB X36 hx hZ e36 Ar41 (j := (0 : Int32)) hin41 (g := (mkF m 99 #[iv p0, iv p1, .val (.long q2), .second, iv (0 : Int32), rv b4] [(.int v0), (.int (0 : Int32)), (.ref b4)])) rfl rfl (hb hby at_99)
    have z41 : n0 ≤ h41.size := by rw [W41.size]; exact z36
    have K41 : Keep h0 h41 [] := K36.wr W41 (Or.inr sz_b4)
    have v41 : Arv Z h41 b4 k4 .byte (8 : Int32) [(.int (nar .byte v0)), (.int (nar .byte z1)), (.int (nar .byte z2)), (.int (nar .byte z3)), (.int (nar .byte z4)), (.int (nar .byte z5)), (.int (nar .byte z6)), (.int (nar .byte z7))] (.int (0 : Int32)) := Arv.set Ar41 q41 S41 n41_ H41 G41 (fits_nar_byte _) W41 0 rfl (Nat.le_of_ble_eq_true rfl)
    have N41 := Fr.snoc X41 N36 g_b4
    have R42 : ∀ t, Steps p.tables e below (T41.setTop (mkF m 100 #[iv p0, iv p1, .val (.long q2), .second, iv (0 : Int32), rv b4] [])) t → Steps p.tables e below (s₁.setTop f0) t := fun t k => R40 t (st41 t k)
    have R43 : ∀ t, Steps p.tables e below (T41.setTop (mkF m 111 #[iv p0, iv p1, .val (.long q2), .second, iv (0 : Int32), rv b4] [(.int (((p0.toUInt32 >>> ((8 : Int32) &&& 31).toUInt32).toInt32).toInt8.toInt32)), (.int (1 : Int32)), (.ref b4)])) t → Steps p.tables e below (s₁.setTop f0) t := fun t k => R42 t (by
      show Steps p.tables e below (T41.setTop (mkF m 100 #[iv p0, iv p1, .val (.long q2), .second, iv (0 : Int32), rv b4] [])) _
      refine XS.aload X41.here hx rfl (hb hby at_100) rfl rfl ?_
      show Steps p.tables e below (T41.setTop (mkF m 102 #[iv p0, iv p1, .val (.long q2), .second, iv (0 : Int32), rv b4] [(.ref b4)])) _
      refine XS.iload X41.here hx rfl (hb hby at_102) rfl  ?_
      show Steps p.tables e below (T41.setTop (mkF m 104 #[iv p0, iv p1, .val (.long q2), .second, iv (0 : Int32), rv b4] [(.int (0 : Int32)), (.ref b4)])) _
      refine XS.iconst X41.here hx rfl (hb hby at_104) ?_
      show Steps p.tables e below (T41.setTop (mkF m 105 #[iv p0, iv p1, .val (.long q2), .second, iv (0 : Int32), rv b4] [(.int (1 : Int32)), (.int (0 : Int32)), (.ref b4)])) _
      refine XS.iadd X41.here hx rfl (hb hby at_105) rfl ?_
      show Steps p.tables e below (T41.setTop (mkF m 106 #[iv p0, iv p1, .val (.long q2), .second, iv (0 : Int32), rv b4] [(.int (1 : Int32)), (.ref b4)])) _
      refine XS.iloadN X41.here hx rfl (hb hby at_106) rfl  ?_
      show Steps p.tables e below (T41.setTop (mkF m 107 #[iv p0, iv p1, .val (.long q2), .second, iv (0 : Int32), rv b4] [(.int p0), (.int (1 : Int32)), (.ref b4)])) _
      refine XS.bipush X41.here hx rfl (hb hby at_107) ?_
      show Steps p.tables e below (T41.setTop (mkF m 109 #[iv p0, iv p1, .val (.long q2), .second, iv (0 : Int32), rv b4] [(.int (8 : Int32)), (.int p0), (.int (1 : Int32)), (.ref b4)])) _
      refine XS.iushr X41.here hx rfl (hb hby at_109) rfl ?_
      show Steps p.tables e below (T41.setTop (mkF m 110 #[iv p0, iv p1, .val (.long q2), .second, iv (0 : Int32), rv b4] [(.int ((p0.toUInt32 >>> ((8 : Int32) &&& 31).toUInt32).toInt32)), (.int (1 : Int32)), (.ref b4)])) _
      refine XS.i2b X41.here hx rfl (hb hby at_110) rfl ?_
      exact k)
    obtain ⟨v1, e_v1⟩ : ∃ z : Int32, z = (((p0.toUInt32 >>> ((8 : Int32) &&& 31).toUInt32).toInt32).toInt8.toInt32) := ⟨_, rfl⟩
    have R44 : ∀ t, Steps p.tables e below (T41.setTop (mkF m 111 #[iv p0, iv p1, .val (.long q2), .second, iv (0 : Int32), rv b4] [(.int v1), (.int (1 : Int32)), (.ref b4)])) t → Steps p.tables e below (s₁.setTop f0) t := by have q := R43; rw [← e_v1] at q; exact q
    obtain ⟨cl45, Ar45, q45, S45, n45_, H45, G45⟩ := id v41
    have hin45 : ¬ ((1 : Int32) < 0 ∨ cl45.slots.size ≤ ((1 : Int32)).toNatClampNeg) := inb_of S45 ⟨by decide, by decide⟩
    obtain ⟨T45, h45, X45, e45, W45, st45⟩ := stB X41 hx hZ e41 Ar45 (j := (1 : Int32)) hin45 (g := (mkF m 111 #[iv p0, iv p1, .val (.long q2), .second, iv (0 : Int32), rv b4] [(.int v1), (.int (1 : Int32)), (.ref b4)])) rfl rfl (hb hby at_111)
    have z45 : n0 ≤ h45.size := by rw [W45.size]; exact z41
    have K45 : Keep h0 h45 [] := K41.wr W45 (Or.inr sz_b4)
    have v45 : Arv Z h45 b4 k4 .byte (8 : Int32) [(.int (nar .byte v0)), (.int (nar .byte v1)), (.int (nar .byte z2)), (.int (nar .byte z3)), (.int (nar .byte z4)), (.int (nar .byte z5)), (.int (nar .byte z6)), (.int (nar .byte z7))] (.int (0 : Int32)) := Arv.set Ar45 q45 S45 n45_ H45 G45 (fits_nar_byte _) W45 1 rfl (Nat.le_of_ble_eq_true rfl)
    have N45 := Fr.snoc X45 N41 g_b4
    have R46 : ∀ t, Steps p.tables e below (T45.setTop (mkF m 112 #[iv p0, iv p1, .val (.long q2), .second, iv (0 : Int32), rv b4] [])) t → Steps p.tables e below (s₁.setTop f0) t := fun t k => R44 t (st45 t k)
    have R47 : ∀ t, Steps p.tables e below (T45.setTop (mkF m 123 #[iv p0, iv p1, .val (.long q2), .second, iv (0 : Int32), rv b4] [(.int (((p0.toUInt32 >>> ((16 : Int32) &&& 31).toUInt32).toInt32).toInt8.toInt32)), (.int (2 : Int32)), (.ref b4)])) t → Steps p.tables e below (s₁.setTop f0) t := fun t k => R46 t (by
      show Steps p.tables e below (T45.setTop (mkF m 112 #[iv p0, iv p1, .val (.long q2), .second, iv (0 : Int32), rv b4] [])) _
      refine XS.aload X45.here hx rfl (hb hby at_112) rfl rfl ?_
      show Steps p.tables e below (T45.setTop (mkF m 114 #[iv p0, iv p1, .val (.long q2), .second, iv (0 : Int32), rv b4] [(.ref b4)])) _
      refine XS.iload X45.here hx rfl (hb hby at_114) rfl  ?_
      show Steps p.tables e below (T45.setTop (mkF m 116 #[iv p0, iv p1, .val (.long q2), .second, iv (0 : Int32), rv b4] [(.int (0 : Int32)), (.ref b4)])) _
      refine XS.iconst X45.here hx rfl (hb hby at_116) ?_
      show Steps p.tables e below (T45.setTop (mkF m 117 #[iv p0, iv p1, .val (.long q2), .second, iv (0 : Int32), rv b4] [(.int (2 : Int32)), (.int (0 : Int32)), (.ref b4)])) _
      refine XS.iadd X45.here hx rfl (hb hby at_117) rfl ?_
      show Steps p.tables e below (T45.setTop (mkF m 118 #[iv p0, iv p1, .val (.long q2), .second, iv (0 : Int32), rv b4] [(.int (2 : Int32)), (.ref b4)])) _
      refine XS.iloadN X45.here hx rfl (hb hby at_118) rfl  ?_
      show Steps p.tables e below (T45.setTop (mkF m 119 #[iv p0, iv p1, .val (.long q2), .second, iv (0 : Int32), rv b4] [(.int p0), (.int (2 : Int32)), (.ref b4)])) _
      refine XS.bipush X45.here hx rfl (hb hby at_119) ?_
      show Steps p.tables e below (T45.setTop (mkF m 121 #[iv p0, iv p1, .val (.long q2), .second, iv (0 : Int32), rv b4] [(.int (16 : Int32)), (.int p0), (.int (2 : Int32)), (.ref b4)])) _
      refine XS.iushr X45.here hx rfl (hb hby at_121) rfl ?_
      show Steps p.tables e below (T45.setTop (mkF m 122 #[iv p0, iv p1, .val (.long q2), .second, iv (0 : Int32), rv b4] [(.int ((p0.toUInt32 >>> ((16 : Int32) &&& 31).toUInt32).toInt32)), (.int (2 : Int32)), (.ref b4)])) _
      refine XS.i2b X45.here hx rfl (hb hby at_122) rfl ?_
      exact k)
    obtain ⟨v2, e_v2⟩ : ∃ z : Int32, z = (((p0.toUInt32 >>> ((16 : Int32) &&& 31).toUInt32).toInt32).toInt8.toInt32) := ⟨_, rfl⟩
    have R48 : ∀ t, Steps p.tables e below (T45.setTop (mkF m 123 #[iv p0, iv p1, .val (.long q2), .second, iv (0 : Int32), rv b4] [(.int v2), (.int (2 : Int32)), (.ref b4)])) t → Steps p.tables e below (s₁.setTop f0) t := by have q := R47; rw [← e_v2] at q; exact q
    obtain ⟨cl49, Ar49, q49, S49, n49_, H49, G49⟩ := id v45
    have hin49 : ¬ ((2 : Int32) < 0 ∨ cl49.slots.size ≤ ((2 : Int32)).toNatClampNeg) := inb_of S49 ⟨by decide, by decide⟩
    obtain ⟨T49, h49, X49, e49, W49, st49⟩ := stB X45 hx hZ e45 Ar49 (j := (2 : Int32)) hin49 (g := (mkF m 123 #[iv p0, iv p1, .val (.long q2), .second, iv (0 : Int32), rv b4] [(.int v2), (.int (2 : Int32)), (.ref b4)])) rfl rfl (hb hby at_123)
    have z49 : n0 ≤ h49.size := by rw [W49.size]; exact z45
    have K49 : Keep h0 h49 [] := K45.wr W49 (Or.inr sz_b4)
    have v49 : Arv Z h49 b4 k4 .byte (8 : Int32) [(.int (nar .byte v0)), (.int (nar .byte v1)), (.int (nar .byte v2)), (.int (nar .byte z3)), (.int (nar .byte z4)), (.int (nar .byte z5)), (.int (nar .byte z6)), (.int (nar .byte z7))] (.int (0 : Int32)) := Arv.set Ar49 q49 S49 n49_ H49 G49 (fits_nar_byte _) W49 2 rfl (Nat.le_of_ble_eq_true rfl)
    have N49 := Fr.snoc X49 N45 g_b4
    have R50 : ∀ t, Steps p.tables e below (T49.setTop (mkF m 124 #[iv p0, iv p1, .val (.long q2), .second, iv (0 : Int32), rv b4] [])) t → Steps p.tables e below (s₁.setTop f0) t := fun t k => R48 t (st49 t k)
    have R51 : ∀ t, Steps p.tables e below (T49.setTop (mkF m 135 #[iv p0, iv p1, .val (.long q2), .second, iv (0 : Int32), rv b4] [(.int (((p0.toUInt32 >>> ((24 : Int32) &&& 31).toUInt32).toInt32).toInt8.toInt32)), (.int (3 : Int32)), (.ref b4)])) t → Steps p.tables e below (s₁.setTop f0) t := fun t k => R50 t (by
      show Steps p.tables e below (T49.setTop (mkF m 124 #[iv p0, iv p1, .val (.long q2), .second, iv (0 : Int32), rv b4] [])) _
      refine XS.aload X49.here hx rfl (hb hby at_124) rfl rfl ?_
      show Steps p.tables e below (T49.setTop (mkF m 126 #[iv p0, iv p1, .val (.long q2), .second, iv (0 : Int32), rv b4] [(.ref b4)])) _
      refine XS.iload X49.here hx rfl (hb hby at_126) rfl  ?_
      show Steps p.tables e below (T49.setTop (mkF m 128 #[iv p0, iv p1, .val (.long q2), .second, iv (0 : Int32), rv b4] [(.int (0 : Int32)), (.ref b4)])) _
      refine XS.iconst X49.here hx rfl (hb hby at_128) ?_
      show Steps p.tables e below (T49.setTop (mkF m 129 #[iv p0, iv p1, .val (.long q2), .second, iv (0 : Int32), rv b4] [(.int (3 : Int32)), (.int (0 : Int32)), (.ref b4)])) _
      refine XS.iadd X49.here hx rfl (hb hby at_129) rfl ?_
      show Steps p.tables e below (T49.setTop (mkF m 130 #[iv p0, iv p1, .val (.long q2), .second, iv (0 : Int32), rv b4] [(.int (3 : Int32)), (.ref b4)])) _
      refine XS.iloadN X49.here hx rfl (hb hby at_130) rfl  ?_
      show Steps p.tables e below (T49.setTop (mkF m 131 #[iv p0, iv p1, .val (.long q2), .second, iv (0 : Int32), rv b4] [(.int p0), (.int (3 : Int32)), (.ref b4)])) _
      refine XS.bipush X49.here hx rfl (hb hby at_131) ?_
      show Steps p.tables e below (T49.setTop (mkF m 133 #[iv p0, iv p1, .val (.long q2), .second, iv (0 : Int32), rv b4] [(.int (24 : Int32)), (.int p0), (.int (3 : Int32)), (.ref b4)])) _
      refine XS.iushr X49.here hx rfl (hb hby at_133) rfl ?_
      show Steps p.tables e below (T49.setTop (mkF m 134 #[iv p0, iv p1, .val (.long q2), .second, iv (0 : Int32), rv b4] [(.int ((p0.toUInt32 >>> ((24 : Int32) &&& 31).toUInt32).toInt32)), (.int (3 : Int32)), (.ref b4)])) _
      refine XS.i2b X49.here hx rfl (hb hby at_134) rfl ?_
      exact k)
    obtain ⟨v3, e_v3⟩ : ∃ z : Int32, z = (((p0.toUInt32 >>> ((24 : Int32) &&& 31).toUInt32).toInt32).toInt8.toInt32) := ⟨_, rfl⟩
    have R52 : ∀ t, Steps p.tables e below (T49.setTop (mkF m 135 #[iv p0, iv p1, .val (.long q2), .second, iv (0 : Int32), rv b4] [(.int v3), (.int (3 : Int32)), (.ref b4)])) t → Steps p.tables e below (s₁.setTop f0) t := by have q := R51; rw [← e_v3] at q; exact q
    obtain ⟨cl53, Ar53, q53, S53, n53_, H53, G53⟩ := id v49
    have hin53 : ¬ ((3 : Int32) < 0 ∨ cl53.slots.size ≤ ((3 : Int32)).toNatClampNeg) := inb_of S53 ⟨by decide, by decide⟩
    obtain ⟨T53, h53, X53, e53, W53, st53⟩ := stB X49 hx hZ e49 Ar53 (j := (3 : Int32)) hin53 (g := (mkF m 135 #[iv p0, iv p1, .val (.long q2), .second, iv (0 : Int32), rv b4] [(.int v3), (.int (3 : Int32)), (.ref b4)])) rfl rfl (hb hby at_135)
    have z53 : n0 ≤ h53.size := by rw [W53.size]; exact z49
    have K53 : Keep h0 h53 [] := K49.wr W53 (Or.inr sz_b4)
    have v53 : Arv Z h53 b4 k4 .byte (8 : Int32) [(.int (nar .byte v0)), (.int (nar .byte v1)), (.int (nar .byte v2)), (.int (nar .byte v3)), (.int (nar .byte z4)), (.int (nar .byte z5)), (.int (nar .byte z6)), (.int (nar .byte z7))] (.int (0 : Int32)) := Arv.set Ar53 q53 S53 n53_ H53 G53 (fits_nar_byte _) W53 3 rfl (Nat.le_of_ble_eq_true rfl)
    have N53 := Fr.snoc X53 N49 g_b4
    have R54 : ∀ t, Steps p.tables e below (T53.setTop (mkF m 136 #[iv p0, iv p1, .val (.long q2), .second, iv (0 : Int32), rv b4] [])) t → Steps p.tables e below (s₁.setTop f0) t := fun t k => R52 t (st53 t k)
    have R55 : ∀ t, Steps p.tables e below (T53.setTop (mkF m 140 #[iv p0, iv p1, .val (.long q2), .second, iv (0 : Int32), rv b4] [(.int (0 : Int32)), (.ref b4)])) t → Steps p.tables e below (s₁.setTop f0) t := fun t k => R54 t (by
      show Steps p.tables e below (T53.setTop (mkF m 136 #[iv p0, iv p1, .val (.long q2), .second, iv (0 : Int32), rv b4] [])) _
      refine XS.aload X53.here hx rfl (hb hby at_136) rfl rfl ?_
      show Steps p.tables e below (T53.setTop (mkF m 138 #[iv p0, iv p1, .val (.long q2), .second, iv (0 : Int32), rv b4] [(.ref b4)])) _
      refine XS.iload X53.here hx rfl (hb hby at_138) rfl  ?_
      exact k)
    obtain ⟨_, _, ⟨T56, L56, k56, n56⟩, -, X56, ⟨Lc56, hQ56, l56, y56, z56⟩, st56⟩ := Jvm.LawKit.callS X53 hx (y := (⟨"com/example/theuth/theuth/io/DexInput", "uintAt", "([BI)I"⟩ : MethodName)) hown (mvT hZ (hw _ (List.mem_of_getElem? (i := 2) rfl))) (mvT hZ (hw _ (List.mem_of_getElem? (i := 3) rfl))) (mvT hZ (hw _ (List.mem_of_getElem? (i := 4) rfl))) (mvT hZ (hw _ (List.mem_of_getElem? (i := 5) rfl))) (by decide) (backOf (W := 0) (rmUint l Z a0 hw [] b4 (0 : Int32) k4 (8 : Int32) [(.int (nar .byte v0)), (.int (nar .byte v1)), (.int (nar .byte v2)), (.int (nar .byte v3)), (.int (nar .byte z4)), (.int (nar .byte z5)), (.int (nar .byte z6)), (.int (nar .byte z7))] (.int (0 : Int32)) (nar .byte v0) (nar .byte v1) (nar .byte v2) (nar .byte v3) h53 n0 z53 v53 ⟨by decide, by decide⟩ ⟨by decide, by decide⟩ ⟨by decide, by decide⟩ ⟨by decide, by decide⟩ rfl rfl rfl rfl) hZ (hw _ (List.mem_of_getElem? (i := 5) rfl)) (hw _ (List.mem_of_getElem? (i := 4) rfl)) (by decide) (by decide)) (g := (mkF m 140 #[iv p0, iv p1, .val (.long q2), .second, iv (0 : Int32), rv b4] [(.int (0 : Int32)), (.ref b4)])) rfl (by rw [hml]; rfl) (argsL := [(.ref b4), (.int (0 : Int32))]) (rest := []) (lenOf pd_2 rfl) rfl (by show 2 * 0 + _ ≤ _; exact Nat.le_of_eq rfl) (hb hby at_140) (fun _ _ => ⟨rfl, e53, (by decide : 1 + 0 ≤ _), (by decide : 8 + 0 ≤ _)⟩)
    dsimp only [Pt.U, Pt.locs, Pt.cells, Pt.slots] at X56 l56 y56 z56 st56 hQ56
    subst l56 y56 z56
    obtain ⟨rfl, N56q, p56_0⟩ := hQ56
    have N56 := Fr.app N53 N56q
    have R57 : ∀ t, Steps p.tables e below (T56.setTop (mkF m 143 #[iv p0, iv p1, .val (.long q2), .second, iv (0 : Int32), rv b4] [(.int (((((nar .byte v0) &&& (255 : Int32)) ||| (((nar .byte v1) &&& (255 : Int32)) <<< ((8 : Int32) &&& 31))) ||| (((nar .byte v2) &&& (255 : Int32)) <<< ((16 : Int32) &&& 31))) ||| (((nar .byte v3) &&& (255 : Int32)) <<< ((24 : Int32) &&& 31))))])) t → Steps p.tables e below (s₁.setTop f0) t := fun t k => R55 t (st56 t k)
    have R58 : ∀ t, Steps p.tables e below (T56.setTop (mkF m 152 #[iv p0, iv p1, .val (.long q2), .second, iv (0 : Int32), rv b4] [(.int (1 : Int32))])) t → Steps p.tables e below (s₁.setTop f0) t := fun t k => R57 t (by
      show Steps p.tables e below (T56.setTop (mkF m 143 #[iv p0, iv p1, .val (.long q2), .second, iv (0 : Int32), rv b4] [(.int (((((nar .byte v0) &&& (255 : Int32)) ||| (((nar .byte v1) &&& (255 : Int32)) <<< ((8 : Int32) &&& 31))) ||| (((nar .byte v2) &&& (255 : Int32)) <<< ((16 : Int32) &&& 31))) ||| (((nar .byte v3) &&& (255 : Int32)) <<< ((24 : Int32) &&& 31))))])) _
      refine XS.iloadN X56.here hx rfl (hb hby at_143) rfl  ?_
      show Steps p.tables e below (T56.setTop (mkF m 144 #[iv p0, iv p1, .val (.long q2), .second, iv (0 : Int32), rv b4] [(.int p0), (.int (((((nar .byte v0) &&& (255 : Int32)) ||| (((nar .byte v1) &&& (255 : Int32)) <<< ((8 : Int32) &&& 31))) ||| (((nar .byte v2) &&& (255 : Int32)) <<< ((16 : Int32) &&& 31))) ||| (((nar .byte v3) &&& (255 : Int32)) <<< ((24 : Int32) &&& 31))))])) _
      refine XS.icmpNo X56.here hx rfl (hb hby at_144) rfl (teq (by subst e_v0 e_v1 e_v2 e_v3; exact own_u32 p0 : (((((nar .byte v0) &&& (255 : Int32)) ||| (((nar .byte v1) &&& (255 : Int32)) <<< ((8 : Int32) &&& 31))) ||| (((nar .byte v2) &&& (255 : Int32)) <<< ((16 : Int32) &&& 31))) ||| (((nar .byte v3) &&& (255 : Int32)) <<< ((24 : Int32) &&& 31))) = p0)).2 ?_
      show Steps p.tables e below (T56.setTop (mkF m 147 #[iv p0, iv p1, .val (.long q2), .second, iv (0 : Int32), rv b4] [])) _
      refine XS.iconst X56.here hx rfl (hb hby at_147) ?_
      show Steps p.tables e below (T56.setTop (mkF m 148 #[iv p0, iv p1, .val (.long q2), .second, iv (0 : Int32), rv b4] [(.int (1 : Int32))])) _
      refine XS.goto X56.here hx rfl (pc0 := 148) (pc' := 152) rfl (hb hby at_148) (by decide) (by decide) ?_
      exact k)
    obtain ⟨fs, hr, hrun, hended, hW, hsame⟩ := X56.leave (v := some (.int (1 : Int32))) (fun h => by rw [Bd.returns] at h; cases h)
    refine ⟨_, _, pre0 _ (R58 _ ?_), hrun, hended, _, _, rfl, ?_, ⟨_, rfl⟩, hW, hsame.mono (by decide) (by decide)⟩
    · show Steps p.tables e below (T56.setTop (mkF m 152 #[iv p0, iv p1, .val (.long q2), .second, iv (0 : Int32), rv b4] [(.int (1 : Int32))])) _
      exact retN X56 hx (t := .boolean) Bd.returns (by simp) (hb hby at_152) hr
    · show Q_rmLaw Z p0 p1 q2 h0 n0 _ T56.heap _
      rw [p56_0]
      exact ⟨rfl, N56⟩
  · skip
    have R59 : ∀ t, Steps p.tables e below (T36.setTop (mkF m 93 #[iv p0, iv p1, .val (.long q2), .second, iv (1 : Int32), rv b4] [])) t → Steps p.tables e below (s₁.setTop f0) t := by have q := R37; rw [(ha : at_ = (1 : Int32))] at q; exact q
    have R60 : ∀ t, Steps p.tables e below (T36.setTop (mkF m 99 #[iv p0, iv p1, .val (.long q2), .second, iv (1 : Int32), rv b4] [(.int (p0.toInt8.toInt32)), (.int (1 : Int32)), (.ref b4)])) t → Steps p.tables e below (s₁.setTop f0) t := fun t k => R59 t (by
      show Steps p.tables e below (T36.setTop (mkF m 93 #[iv p0, iv p1, .val (.long q2), .second, iv (1 : Int32), rv b4] [])) _
      refine XS.aload X36.here hx rfl (hb hby at_93) rfl rfl ?_
      show Steps p.tables e below (T36.setTop (mkF m 95 #[iv p0, iv p1, .val (.long q2), .second, iv (1 : Int32), rv b4] [(.ref b4)])) _
      refine XS.iload X36.here hx rfl (hb hby at_95) rfl  ?_
      show Steps p.tables e below (T36.setTop (mkF m 97 #[iv p0, iv p1, .val (.long q2), .second, iv (1 : Int32), rv b4] [(.int (1 : Int32)), (.ref b4)])) _
      refine XS.iloadN X36.here hx rfl (hb hby at_97) rfl  ?_
      show Steps p.tables e below (T36.setTop (mkF m 98 #[iv p0, iv p1, .val (.long q2), .second, iv (1 : Int32), rv b4] [(.int p0), (.int (1 : Int32)), (.ref b4)])) _
      refine XS.i2b X36.here hx rfl (hb hby at_98) rfl ?_
      exact k)
    obtain ⟨v0, e_v0⟩ : ∃ z : Int32, z = (p0.toInt8.toInt32) := ⟨_, rfl⟩
    have R61 : ∀ t, Steps p.tables e below (T36.setTop (mkF m 99 #[iv p0, iv p1, .val (.long q2), .second, iv (1 : Int32), rv b4] [(.int v0), (.int (1 : Int32)), (.ref b4)])) t → Steps p.tables e below (s₁.setTop f0) t := by have q := R60; rw [← e_v0] at q; exact q
    obtain ⟨cl62, Ar62, q62, S62, n62_, H62, G62⟩ := id v36
    have hin62 : ¬ ((1 : Int32) < 0 ∨ cl62.slots.size ≤ ((1 : Int32)).toNatClampNeg) := inb_of S62 ⟨by decide, by decide⟩
    obtain ⟨T62, h62, X62, e62, W62, st62⟩ := stB X36 hx hZ e36 Ar62 (j := (1 : Int32)) hin62 (g := (mkF m 99 #[iv p0, iv p1, .val (.long q2), .second, iv (1 : Int32), rv b4] [(.int v0), (.int (1 : Int32)), (.ref b4)])) rfl rfl (hb hby at_99)
    have z62 : n0 ≤ h62.size := by rw [W62.size]; exact z36
    have K62 : Keep h0 h62 [] := K36.wr W62 (Or.inr sz_b4)
    have v62 : Arv Z h62 b4 k4 .byte (8 : Int32) [(.int (nar .byte z0)), (.int (nar .byte v0)), (.int (nar .byte z2)), (.int (nar .byte z3)), (.int (nar .byte z4)), (.int (nar .byte z5)), (.int (nar .byte z6)), (.int (nar .byte z7))] (.int (0 : Int32)) := Arv.set Ar62 q62 S62 n62_ H62 G62 (fits_nar_byte _) W62 1 rfl (Nat.le_of_ble_eq_true rfl)
    have N62 := Fr.snoc X62 N36 g_b4
    have R63 : ∀ t, Steps p.tables e below (T62.setTop (mkF m 100 #[iv p0, iv p1, .val (.long q2), .second, iv (1 : Int32), rv b4] [])) t → Steps p.tables e below (s₁.setTop f0) t := fun t k => R61 t (st62 t k)
    have R64 : ∀ t, Steps p.tables e below (T62.setTop (mkF m 111 #[iv p0, iv p1, .val (.long q2), .second, iv (1 : Int32), rv b4] [(.int (((p0.toUInt32 >>> ((8 : Int32) &&& 31).toUInt32).toInt32).toInt8.toInt32)), (.int (2 : Int32)), (.ref b4)])) t → Steps p.tables e below (s₁.setTop f0) t := fun t k => R63 t (by
      show Steps p.tables e below (T62.setTop (mkF m 100 #[iv p0, iv p1, .val (.long q2), .second, iv (1 : Int32), rv b4] [])) _
      refine XS.aload X62.here hx rfl (hb hby at_100) rfl rfl ?_
      show Steps p.tables e below (T62.setTop (mkF m 102 #[iv p0, iv p1, .val (.long q2), .second, iv (1 : Int32), rv b4] [(.ref b4)])) _
      refine XS.iload X62.here hx rfl (hb hby at_102) rfl  ?_
      show Steps p.tables e below (T62.setTop (mkF m 104 #[iv p0, iv p1, .val (.long q2), .second, iv (1 : Int32), rv b4] [(.int (1 : Int32)), (.ref b4)])) _
      refine XS.iconst X62.here hx rfl (hb hby at_104) ?_
      show Steps p.tables e below (T62.setTop (mkF m 105 #[iv p0, iv p1, .val (.long q2), .second, iv (1 : Int32), rv b4] [(.int (1 : Int32)), (.int (1 : Int32)), (.ref b4)])) _
      refine XS.iadd X62.here hx rfl (hb hby at_105) rfl ?_
      show Steps p.tables e below (T62.setTop (mkF m 106 #[iv p0, iv p1, .val (.long q2), .second, iv (1 : Int32), rv b4] [(.int (2 : Int32)), (.ref b4)])) _
      refine XS.iloadN X62.here hx rfl (hb hby at_106) rfl  ?_
      show Steps p.tables e below (T62.setTop (mkF m 107 #[iv p0, iv p1, .val (.long q2), .second, iv (1 : Int32), rv b4] [(.int p0), (.int (2 : Int32)), (.ref b4)])) _
      refine XS.bipush X62.here hx rfl (hb hby at_107) ?_
      show Steps p.tables e below (T62.setTop (mkF m 109 #[iv p0, iv p1, .val (.long q2), .second, iv (1 : Int32), rv b4] [(.int (8 : Int32)), (.int p0), (.int (2 : Int32)), (.ref b4)])) _
      refine XS.iushr X62.here hx rfl (hb hby at_109) rfl ?_
      show Steps p.tables e below (T62.setTop (mkF m 110 #[iv p0, iv p1, .val (.long q2), .second, iv (1 : Int32), rv b4] [(.int ((p0.toUInt32 >>> ((8 : Int32) &&& 31).toUInt32).toInt32)), (.int (2 : Int32)), (.ref b4)])) _
      refine XS.i2b X62.here hx rfl (hb hby at_110) rfl ?_
      exact k)
    obtain ⟨v1, e_v1⟩ : ∃ z : Int32, z = (((p0.toUInt32 >>> ((8 : Int32) &&& 31).toUInt32).toInt32).toInt8.toInt32) := ⟨_, rfl⟩
    have R65 : ∀ t, Steps p.tables e below (T62.setTop (mkF m 111 #[iv p0, iv p1, .val (.long q2), .second, iv (1 : Int32), rv b4] [(.int v1), (.int (2 : Int32)), (.ref b4)])) t → Steps p.tables e below (s₁.setTop f0) t := by have q := R64; rw [← e_v1] at q; exact q
    obtain ⟨cl66, Ar66, q66, S66, n66_, H66, G66⟩ := id v62
    have hin66 : ¬ ((2 : Int32) < 0 ∨ cl66.slots.size ≤ ((2 : Int32)).toNatClampNeg) := inb_of S66 ⟨by decide, by decide⟩
    obtain ⟨T66, h66, X66, e66, W66, st66⟩ := stB X62 hx hZ e62 Ar66 (j := (2 : Int32)) hin66 (g := (mkF m 111 #[iv p0, iv p1, .val (.long q2), .second, iv (1 : Int32), rv b4] [(.int v1), (.int (2 : Int32)), (.ref b4)])) rfl rfl (hb hby at_111)
    have z66 : n0 ≤ h66.size := by rw [W66.size]; exact z62
    have K66 : Keep h0 h66 [] := K62.wr W66 (Or.inr sz_b4)
    have v66 : Arv Z h66 b4 k4 .byte (8 : Int32) [(.int (nar .byte z0)), (.int (nar .byte v0)), (.int (nar .byte v1)), (.int (nar .byte z3)), (.int (nar .byte z4)), (.int (nar .byte z5)), (.int (nar .byte z6)), (.int (nar .byte z7))] (.int (0 : Int32)) := Arv.set Ar66 q66 S66 n66_ H66 G66 (fits_nar_byte _) W66 2 rfl (Nat.le_of_ble_eq_true rfl)
    have N66 := Fr.snoc X66 N62 g_b4
    have R67 : ∀ t, Steps p.tables e below (T66.setTop (mkF m 112 #[iv p0, iv p1, .val (.long q2), .second, iv (1 : Int32), rv b4] [])) t → Steps p.tables e below (s₁.setTop f0) t := fun t k => R65 t (st66 t k)
    have R68 : ∀ t, Steps p.tables e below (T66.setTop (mkF m 123 #[iv p0, iv p1, .val (.long q2), .second, iv (1 : Int32), rv b4] [(.int (((p0.toUInt32 >>> ((16 : Int32) &&& 31).toUInt32).toInt32).toInt8.toInt32)), (.int (3 : Int32)), (.ref b4)])) t → Steps p.tables e below (s₁.setTop f0) t := fun t k => R67 t (by
      show Steps p.tables e below (T66.setTop (mkF m 112 #[iv p0, iv p1, .val (.long q2), .second, iv (1 : Int32), rv b4] [])) _
      refine XS.aload X66.here hx rfl (hb hby at_112) rfl rfl ?_
      show Steps p.tables e below (T66.setTop (mkF m 114 #[iv p0, iv p1, .val (.long q2), .second, iv (1 : Int32), rv b4] [(.ref b4)])) _
      refine XS.iload X66.here hx rfl (hb hby at_114) rfl  ?_
      show Steps p.tables e below (T66.setTop (mkF m 116 #[iv p0, iv p1, .val (.long q2), .second, iv (1 : Int32), rv b4] [(.int (1 : Int32)), (.ref b4)])) _
      refine XS.iconst X66.here hx rfl (hb hby at_116) ?_
      show Steps p.tables e below (T66.setTop (mkF m 117 #[iv p0, iv p1, .val (.long q2), .second, iv (1 : Int32), rv b4] [(.int (2 : Int32)), (.int (1 : Int32)), (.ref b4)])) _
      refine XS.iadd X66.here hx rfl (hb hby at_117) rfl ?_
      show Steps p.tables e below (T66.setTop (mkF m 118 #[iv p0, iv p1, .val (.long q2), .second, iv (1 : Int32), rv b4] [(.int (3 : Int32)), (.ref b4)])) _
      refine XS.iloadN X66.here hx rfl (hb hby at_118) rfl  ?_
      show Steps p.tables e below (T66.setTop (mkF m 119 #[iv p0, iv p1, .val (.long q2), .second, iv (1 : Int32), rv b4] [(.int p0), (.int (3 : Int32)), (.ref b4)])) _
      refine XS.bipush X66.here hx rfl (hb hby at_119) ?_
      show Steps p.tables e below (T66.setTop (mkF m 121 #[iv p0, iv p1, .val (.long q2), .second, iv (1 : Int32), rv b4] [(.int (16 : Int32)), (.int p0), (.int (3 : Int32)), (.ref b4)])) _
      refine XS.iushr X66.here hx rfl (hb hby at_121) rfl ?_
      show Steps p.tables e below (T66.setTop (mkF m 122 #[iv p0, iv p1, .val (.long q2), .second, iv (1 : Int32), rv b4] [(.int ((p0.toUInt32 >>> ((16 : Int32) &&& 31).toUInt32).toInt32)), (.int (3 : Int32)), (.ref b4)])) _
      refine XS.i2b X66.here hx rfl (hb hby at_122) rfl ?_
      exact k)
    obtain ⟨v2, e_v2⟩ : ∃ z : Int32, z = (((p0.toUInt32 >>> ((16 : Int32) &&& 31).toUInt32).toInt32).toInt8.toInt32) := ⟨_, rfl⟩
    have R69 : ∀ t, Steps p.tables e below (T66.setTop (mkF m 123 #[iv p0, iv p1, .val (.long q2), .second, iv (1 : Int32), rv b4] [(.int v2), (.int (3 : Int32)), (.ref b4)])) t → Steps p.tables e below (s₁.setTop f0) t := by have q := R68; rw [← e_v2] at q; exact q
    obtain ⟨cl70, Ar70, q70, S70, n70_, H70, G70⟩ := id v66
    have hin70 : ¬ ((3 : Int32) < 0 ∨ cl70.slots.size ≤ ((3 : Int32)).toNatClampNeg) := inb_of S70 ⟨by decide, by decide⟩
    obtain ⟨T70, h70, X70, e70, W70, st70⟩ := stB X66 hx hZ e66 Ar70 (j := (3 : Int32)) hin70 (g := (mkF m 123 #[iv p0, iv p1, .val (.long q2), .second, iv (1 : Int32), rv b4] [(.int v2), (.int (3 : Int32)), (.ref b4)])) rfl rfl (hb hby at_123)
    have z70 : n0 ≤ h70.size := by rw [W70.size]; exact z66
    have K70 : Keep h0 h70 [] := K66.wr W70 (Or.inr sz_b4)
    have v70 : Arv Z h70 b4 k4 .byte (8 : Int32) [(.int (nar .byte z0)), (.int (nar .byte v0)), (.int (nar .byte v1)), (.int (nar .byte v2)), (.int (nar .byte z4)), (.int (nar .byte z5)), (.int (nar .byte z6)), (.int (nar .byte z7))] (.int (0 : Int32)) := Arv.set Ar70 q70 S70 n70_ H70 G70 (fits_nar_byte _) W70 3 rfl (Nat.le_of_ble_eq_true rfl)
    have N70 := Fr.snoc X70 N66 g_b4
    have R71 : ∀ t, Steps p.tables e below (T70.setTop (mkF m 124 #[iv p0, iv p1, .val (.long q2), .second, iv (1 : Int32), rv b4] [])) t → Steps p.tables e below (s₁.setTop f0) t := fun t k => R69 t (st70 t k)
    have R72 : ∀ t, Steps p.tables e below (T70.setTop (mkF m 135 #[iv p0, iv p1, .val (.long q2), .second, iv (1 : Int32), rv b4] [(.int (((p0.toUInt32 >>> ((24 : Int32) &&& 31).toUInt32).toInt32).toInt8.toInt32)), (.int (4 : Int32)), (.ref b4)])) t → Steps p.tables e below (s₁.setTop f0) t := fun t k => R71 t (by
      show Steps p.tables e below (T70.setTop (mkF m 124 #[iv p0, iv p1, .val (.long q2), .second, iv (1 : Int32), rv b4] [])) _
      refine XS.aload X70.here hx rfl (hb hby at_124) rfl rfl ?_
      show Steps p.tables e below (T70.setTop (mkF m 126 #[iv p0, iv p1, .val (.long q2), .second, iv (1 : Int32), rv b4] [(.ref b4)])) _
      refine XS.iload X70.here hx rfl (hb hby at_126) rfl  ?_
      show Steps p.tables e below (T70.setTop (mkF m 128 #[iv p0, iv p1, .val (.long q2), .second, iv (1 : Int32), rv b4] [(.int (1 : Int32)), (.ref b4)])) _
      refine XS.iconst X70.here hx rfl (hb hby at_128) ?_
      show Steps p.tables e below (T70.setTop (mkF m 129 #[iv p0, iv p1, .val (.long q2), .second, iv (1 : Int32), rv b4] [(.int (3 : Int32)), (.int (1 : Int32)), (.ref b4)])) _
      refine XS.iadd X70.here hx rfl (hb hby at_129) rfl ?_
      show Steps p.tables e below (T70.setTop (mkF m 130 #[iv p0, iv p1, .val (.long q2), .second, iv (1 : Int32), rv b4] [(.int (4 : Int32)), (.ref b4)])) _
      refine XS.iloadN X70.here hx rfl (hb hby at_130) rfl  ?_
      show Steps p.tables e below (T70.setTop (mkF m 131 #[iv p0, iv p1, .val (.long q2), .second, iv (1 : Int32), rv b4] [(.int p0), (.int (4 : Int32)), (.ref b4)])) _
      refine XS.bipush X70.here hx rfl (hb hby at_131) ?_
      show Steps p.tables e below (T70.setTop (mkF m 133 #[iv p0, iv p1, .val (.long q2), .second, iv (1 : Int32), rv b4] [(.int (24 : Int32)), (.int p0), (.int (4 : Int32)), (.ref b4)])) _
      refine XS.iushr X70.here hx rfl (hb hby at_133) rfl ?_
      show Steps p.tables e below (T70.setTop (mkF m 134 #[iv p0, iv p1, .val (.long q2), .second, iv (1 : Int32), rv b4] [(.int ((p0.toUInt32 >>> ((24 : Int32) &&& 31).toUInt32).toInt32)), (.int (4 : Int32)), (.ref b4)])) _
      refine XS.i2b X70.here hx rfl (hb hby at_134) rfl ?_
      exact k)
    obtain ⟨v3, e_v3⟩ : ∃ z : Int32, z = (((p0.toUInt32 >>> ((24 : Int32) &&& 31).toUInt32).toInt32).toInt8.toInt32) := ⟨_, rfl⟩
    have R73 : ∀ t, Steps p.tables e below (T70.setTop (mkF m 135 #[iv p0, iv p1, .val (.long q2), .second, iv (1 : Int32), rv b4] [(.int v3), (.int (4 : Int32)), (.ref b4)])) t → Steps p.tables e below (s₁.setTop f0) t := by have q := R72; rw [← e_v3] at q; exact q
    obtain ⟨cl74, Ar74, q74, S74, n74_, H74, G74⟩ := id v70
    have hin74 : ¬ ((4 : Int32) < 0 ∨ cl74.slots.size ≤ ((4 : Int32)).toNatClampNeg) := inb_of S74 ⟨by decide, by decide⟩
    obtain ⟨T74, h74, X74, e74, W74, st74⟩ := stB X70 hx hZ e70 Ar74 (j := (4 : Int32)) hin74 (g := (mkF m 135 #[iv p0, iv p1, .val (.long q2), .second, iv (1 : Int32), rv b4] [(.int v3), (.int (4 : Int32)), (.ref b4)])) rfl rfl (hb hby at_135)
    have z74 : n0 ≤ h74.size := by rw [W74.size]; exact z70
    have K74 : Keep h0 h74 [] := K70.wr W74 (Or.inr sz_b4)
    have v74 : Arv Z h74 b4 k4 .byte (8 : Int32) [(.int (nar .byte z0)), (.int (nar .byte v0)), (.int (nar .byte v1)), (.int (nar .byte v2)), (.int (nar .byte v3)), (.int (nar .byte z5)), (.int (nar .byte z6)), (.int (nar .byte z7))] (.int (0 : Int32)) := Arv.set Ar74 q74 S74 n74_ H74 G74 (fits_nar_byte _) W74 4 rfl (Nat.le_of_ble_eq_true rfl)
    have N74 := Fr.snoc X74 N70 g_b4
    have R75 : ∀ t, Steps p.tables e below (T74.setTop (mkF m 136 #[iv p0, iv p1, .val (.long q2), .second, iv (1 : Int32), rv b4] [])) t → Steps p.tables e below (s₁.setTop f0) t := fun t k => R73 t (st74 t k)
    have R76 : ∀ t, Steps p.tables e below (T74.setTop (mkF m 140 #[iv p0, iv p1, .val (.long q2), .second, iv (1 : Int32), rv b4] [(.int (1 : Int32)), (.ref b4)])) t → Steps p.tables e below (s₁.setTop f0) t := fun t k => R75 t (by
      show Steps p.tables e below (T74.setTop (mkF m 136 #[iv p0, iv p1, .val (.long q2), .second, iv (1 : Int32), rv b4] [])) _
      refine XS.aload X74.here hx rfl (hb hby at_136) rfl rfl ?_
      show Steps p.tables e below (T74.setTop (mkF m 138 #[iv p0, iv p1, .val (.long q2), .second, iv (1 : Int32), rv b4] [(.ref b4)])) _
      refine XS.iload X74.here hx rfl (hb hby at_138) rfl  ?_
      exact k)
    obtain ⟨_, _, ⟨T77, L77, k77, n77⟩, -, X77, ⟨Lc77, hQ77, l77, y77, z77⟩, st77⟩ := Jvm.LawKit.callS X74 hx (y := (⟨"com/example/theuth/theuth/io/DexInput", "uintAt", "([BI)I"⟩ : MethodName)) hown (mvT hZ (hw _ (List.mem_of_getElem? (i := 2) rfl))) (mvT hZ (hw _ (List.mem_of_getElem? (i := 3) rfl))) (mvT hZ (hw _ (List.mem_of_getElem? (i := 4) rfl))) (mvT hZ (hw _ (List.mem_of_getElem? (i := 5) rfl))) (by decide) (backOf (W := 0) (rmUint l Z a0 hw [] b4 (1 : Int32) k4 (8 : Int32) [(.int (nar .byte z0)), (.int (nar .byte v0)), (.int (nar .byte v1)), (.int (nar .byte v2)), (.int (nar .byte v3)), (.int (nar .byte z5)), (.int (nar .byte z6)), (.int (nar .byte z7))] (.int (0 : Int32)) (nar .byte v0) (nar .byte v1) (nar .byte v2) (nar .byte v3) h74 n0 z74 v74 ⟨by decide, by decide⟩ ⟨by decide, by decide⟩ ⟨by decide, by decide⟩ ⟨by decide, by decide⟩ rfl rfl rfl rfl) hZ (hw _ (List.mem_of_getElem? (i := 5) rfl)) (hw _ (List.mem_of_getElem? (i := 4) rfl)) (by decide) (by decide)) (g := (mkF m 140 #[iv p0, iv p1, .val (.long q2), .second, iv (1 : Int32), rv b4] [(.int (1 : Int32)), (.ref b4)])) rfl (by rw [hml]; rfl) (argsL := [(.ref b4), (.int (1 : Int32))]) (rest := []) (lenOf pd_2 rfl) rfl (by show 2 * 0 + _ ≤ _; exact Nat.le_of_eq rfl) (hb hby at_140) (fun _ _ => ⟨rfl, e74, (by decide : 1 + 0 ≤ _), (by decide : 8 + 0 ≤ _)⟩)
    dsimp only [Pt.U, Pt.locs, Pt.cells, Pt.slots] at X77 l77 y77 z77 st77 hQ77
    subst l77 y77 z77
    obtain ⟨rfl, N77q, p77_0⟩ := hQ77
    have N77 := Fr.app N74 N77q
    have R78 : ∀ t, Steps p.tables e below (T77.setTop (mkF m 143 #[iv p0, iv p1, .val (.long q2), .second, iv (1 : Int32), rv b4] [(.int (((((nar .byte v0) &&& (255 : Int32)) ||| (((nar .byte v1) &&& (255 : Int32)) <<< ((8 : Int32) &&& 31))) ||| (((nar .byte v2) &&& (255 : Int32)) <<< ((16 : Int32) &&& 31))) ||| (((nar .byte v3) &&& (255 : Int32)) <<< ((24 : Int32) &&& 31))))])) t → Steps p.tables e below (s₁.setTop f0) t := fun t k => R76 t (st77 t k)
    have R79 : ∀ t, Steps p.tables e below (T77.setTop (mkF m 152 #[iv p0, iv p1, .val (.long q2), .second, iv (1 : Int32), rv b4] [(.int (1 : Int32))])) t → Steps p.tables e below (s₁.setTop f0) t := fun t k => R78 t (by
      show Steps p.tables e below (T77.setTop (mkF m 143 #[iv p0, iv p1, .val (.long q2), .second, iv (1 : Int32), rv b4] [(.int (((((nar .byte v0) &&& (255 : Int32)) ||| (((nar .byte v1) &&& (255 : Int32)) <<< ((8 : Int32) &&& 31))) ||| (((nar .byte v2) &&& (255 : Int32)) <<< ((16 : Int32) &&& 31))) ||| (((nar .byte v3) &&& (255 : Int32)) <<< ((24 : Int32) &&& 31))))])) _
      refine XS.iloadN X77.here hx rfl (hb hby at_143) rfl  ?_
      show Steps p.tables e below (T77.setTop (mkF m 144 #[iv p0, iv p1, .val (.long q2), .second, iv (1 : Int32), rv b4] [(.int p0), (.int (((((nar .byte v0) &&& (255 : Int32)) ||| (((nar .byte v1) &&& (255 : Int32)) <<< ((8 : Int32) &&& 31))) ||| (((nar .byte v2) &&& (255 : Int32)) <<< ((16 : Int32) &&& 31))) ||| (((nar .byte v3) &&& (255 : Int32)) <<< ((24 : Int32) &&& 31))))])) _
      refine XS.icmpNo X77.here hx rfl (hb hby at_144) rfl (teq (by subst e_v0 e_v1 e_v2 e_v3; exact own_u32 p0 : (((((nar .byte v0) &&& (255 : Int32)) ||| (((nar .byte v1) &&& (255 : Int32)) <<< ((8 : Int32) &&& 31))) ||| (((nar .byte v2) &&& (255 : Int32)) <<< ((16 : Int32) &&& 31))) ||| (((nar .byte v3) &&& (255 : Int32)) <<< ((24 : Int32) &&& 31))) = p0)).2 ?_
      show Steps p.tables e below (T77.setTop (mkF m 147 #[iv p0, iv p1, .val (.long q2), .second, iv (1 : Int32), rv b4] [])) _
      refine XS.iconst X77.here hx rfl (hb hby at_147) ?_
      show Steps p.tables e below (T77.setTop (mkF m 148 #[iv p0, iv p1, .val (.long q2), .second, iv (1 : Int32), rv b4] [(.int (1 : Int32))])) _
      refine XS.goto X77.here hx rfl (pc0 := 148) (pc' := 152) rfl (hb hby at_148) (by decide) (by decide) ?_
      exact k)
    obtain ⟨fs, hr, hrun, hended, hW, hsame⟩ := X77.leave (v := some (.int (1 : Int32))) (fun h => by rw [Bd.returns] at h; cases h)
    refine ⟨_, _, pre0 _ (R79 _ ?_), hrun, hended, _, _, rfl, ?_, ⟨_, rfl⟩, hW, hsame.mono (by decide) (by decide)⟩
    · show Steps p.tables e below (T77.setTop (mkF m 152 #[iv p0, iv p1, .val (.long q2), .second, iv (1 : Int32), rv b4] [(.int (1 : Int32))])) _
      exact retN X77 hx (t := .boolean) Bd.returns (by simp) (hb hby at_152) hr
    · show Q_rmLaw Z p0 p1 q2 h0 n0 _ T77.heap _
      rw [p77_0]
      exact ⟨rfl, N77⟩
  · skip
    have R80 : ∀ t, Steps p.tables e below (T36.setTop (mkF m 93 #[iv p0, iv p1, .val (.long q2), .second, iv (2 : Int32), rv b4] [])) t → Steps p.tables e below (s₁.setTop f0) t := by have q := R37; rw [(ha : at_ = (2 : Int32))] at q; exact q
    have R81 : ∀ t, Steps p.tables e below (T36.setTop (mkF m 99 #[iv p0, iv p1, .val (.long q2), .second, iv (2 : Int32), rv b4] [(.int (p0.toInt8.toInt32)), (.int (2 : Int32)), (.ref b4)])) t → Steps p.tables e below (s₁.setTop f0) t := fun t k => R80 t (by
      show Steps p.tables e below (T36.setTop (mkF m 93 #[iv p0, iv p1, .val (.long q2), .second, iv (2 : Int32), rv b4] [])) _
      refine XS.aload X36.here hx rfl (hb hby at_93) rfl rfl ?_
      show Steps p.tables e below (T36.setTop (mkF m 95 #[iv p0, iv p1, .val (.long q2), .second, iv (2 : Int32), rv b4] [(.ref b4)])) _
      refine XS.iload X36.here hx rfl (hb hby at_95) rfl  ?_
      show Steps p.tables e below (T36.setTop (mkF m 97 #[iv p0, iv p1, .val (.long q2), .second, iv (2 : Int32), rv b4] [(.int (2 : Int32)), (.ref b4)])) _
      refine XS.iloadN X36.here hx rfl (hb hby at_97) rfl  ?_
      show Steps p.tables e below (T36.setTop (mkF m 98 #[iv p0, iv p1, .val (.long q2), .second, iv (2 : Int32), rv b4] [(.int p0), (.int (2 : Int32)), (.ref b4)])) _
      refine XS.i2b X36.here hx rfl (hb hby at_98) rfl ?_
      exact k)
    obtain ⟨v0, e_v0⟩ : ∃ z : Int32, z = (p0.toInt8.toInt32) := ⟨_, rfl⟩
    have R82 : ∀ t, Steps p.tables e below (T36.setTop (mkF m 99 #[iv p0, iv p1, .val (.long q2), .second, iv (2 : Int32), rv b4] [(.int v0), (.int (2 : Int32)), (.ref b4)])) t → Steps p.tables e below (s₁.setTop f0) t := by have q := R81; rw [← e_v0] at q; exact q
    obtain ⟨cl83, Ar83, q83, S83, n83_, H83, G83⟩ := id v36
    have hin83 : ¬ ((2 : Int32) < 0 ∨ cl83.slots.size ≤ ((2 : Int32)).toNatClampNeg) := inb_of S83 ⟨by decide, by decide⟩
    obtain ⟨T83, h83, X83, e83, W83, st83⟩ := stB X36 hx hZ e36 Ar83 (j := (2 : Int32)) hin83 (g := (mkF m 99 #[iv p0, iv p1, .val (.long q2), .second, iv (2 : Int32), rv b4] [(.int v0), (.int (2 : Int32)), (.ref b4)])) rfl rfl (hb hby at_99)
    have z83 : n0 ≤ h83.size := by rw [W83.size]; exact z36
    have K83 : Keep h0 h83 [] := K36.wr W83 (Or.inr sz_b4)
    have v83 : Arv Z h83 b4 k4 .byte (8 : Int32) [(.int (nar .byte z0)), (.int (nar .byte z1)), (.int (nar .byte v0)), (.int (nar .byte z3)), (.int (nar .byte z4)), (.int (nar .byte z5)), (.int (nar .byte z6)), (.int (nar .byte z7))] (.int (0 : Int32)) := Arv.set Ar83 q83 S83 n83_ H83 G83 (fits_nar_byte _) W83 2 rfl (Nat.le_of_ble_eq_true rfl)
    have N83 := Fr.snoc X83 N36 g_b4
    have R84 : ∀ t, Steps p.tables e below (T83.setTop (mkF m 100 #[iv p0, iv p1, .val (.long q2), .second, iv (2 : Int32), rv b4] [])) t → Steps p.tables e below (s₁.setTop f0) t := fun t k => R82 t (st83 t k)
    have R85 : ∀ t, Steps p.tables e below (T83.setTop (mkF m 111 #[iv p0, iv p1, .val (.long q2), .second, iv (2 : Int32), rv b4] [(.int (((p0.toUInt32 >>> ((8 : Int32) &&& 31).toUInt32).toInt32).toInt8.toInt32)), (.int (3 : Int32)), (.ref b4)])) t → Steps p.tables e below (s₁.setTop f0) t := fun t k => R84 t (by
      show Steps p.tables e below (T83.setTop (mkF m 100 #[iv p0, iv p1, .val (.long q2), .second, iv (2 : Int32), rv b4] [])) _
      refine XS.aload X83.here hx rfl (hb hby at_100) rfl rfl ?_
      show Steps p.tables e below (T83.setTop (mkF m 102 #[iv p0, iv p1, .val (.long q2), .second, iv (2 : Int32), rv b4] [(.ref b4)])) _
      refine XS.iload X83.here hx rfl (hb hby at_102) rfl  ?_
      show Steps p.tables e below (T83.setTop (mkF m 104 #[iv p0, iv p1, .val (.long q2), .second, iv (2 : Int32), rv b4] [(.int (2 : Int32)), (.ref b4)])) _
      refine XS.iconst X83.here hx rfl (hb hby at_104) ?_
      show Steps p.tables e below (T83.setTop (mkF m 105 #[iv p0, iv p1, .val (.long q2), .second, iv (2 : Int32), rv b4] [(.int (1 : Int32)), (.int (2 : Int32)), (.ref b4)])) _
      refine XS.iadd X83.here hx rfl (hb hby at_105) rfl ?_
      show Steps p.tables e below (T83.setTop (mkF m 106 #[iv p0, iv p1, .val (.long q2), .second, iv (2 : Int32), rv b4] [(.int (3 : Int32)), (.ref b4)])) _
      refine XS.iloadN X83.here hx rfl (hb hby at_106) rfl  ?_
      show Steps p.tables e below (T83.setTop (mkF m 107 #[iv p0, iv p1, .val (.long q2), .second, iv (2 : Int32), rv b4] [(.int p0), (.int (3 : Int32)), (.ref b4)])) _
      refine XS.bipush X83.here hx rfl (hb hby at_107) ?_
      show Steps p.tables e below (T83.setTop (mkF m 109 #[iv p0, iv p1, .val (.long q2), .second, iv (2 : Int32), rv b4] [(.int (8 : Int32)), (.int p0), (.int (3 : Int32)), (.ref b4)])) _
      refine XS.iushr X83.here hx rfl (hb hby at_109) rfl ?_
      show Steps p.tables e below (T83.setTop (mkF m 110 #[iv p0, iv p1, .val (.long q2), .second, iv (2 : Int32), rv b4] [(.int ((p0.toUInt32 >>> ((8 : Int32) &&& 31).toUInt32).toInt32)), (.int (3 : Int32)), (.ref b4)])) _
      refine XS.i2b X83.here hx rfl (hb hby at_110) rfl ?_
      exact k)
    obtain ⟨v1, e_v1⟩ : ∃ z : Int32, z = (((p0.toUInt32 >>> ((8 : Int32) &&& 31).toUInt32).toInt32).toInt8.toInt32) := ⟨_, rfl⟩
    have R86 : ∀ t, Steps p.tables e below (T83.setTop (mkF m 111 #[iv p0, iv p1, .val (.long q2), .second, iv (2 : Int32), rv b4] [(.int v1), (.int (3 : Int32)), (.ref b4)])) t → Steps p.tables e below (s₁.setTop f0) t := by have q := R85; rw [← e_v1] at q; exact q
    obtain ⟨cl87, Ar87, q87, S87, n87_, H87, G87⟩ := id v83
    have hin87 : ¬ ((3 : Int32) < 0 ∨ cl87.slots.size ≤ ((3 : Int32)).toNatClampNeg) := inb_of S87 ⟨by decide, by decide⟩
    obtain ⟨T87, h87, X87, e87, W87, st87⟩ := stB X83 hx hZ e83 Ar87 (j := (3 : Int32)) hin87 (g := (mkF m 111 #[iv p0, iv p1, .val (.long q2), .second, iv (2 : Int32), rv b4] [(.int v1), (.int (3 : Int32)), (.ref b4)])) rfl rfl (hb hby at_111)
    have z87 : n0 ≤ h87.size := by rw [W87.size]; exact z83
    have K87 : Keep h0 h87 [] := K83.wr W87 (Or.inr sz_b4)
    have v87 : Arv Z h87 b4 k4 .byte (8 : Int32) [(.int (nar .byte z0)), (.int (nar .byte z1)), (.int (nar .byte v0)), (.int (nar .byte v1)), (.int (nar .byte z4)), (.int (nar .byte z5)), (.int (nar .byte z6)), (.int (nar .byte z7))] (.int (0 : Int32)) := Arv.set Ar87 q87 S87 n87_ H87 G87 (fits_nar_byte _) W87 3 rfl (Nat.le_of_ble_eq_true rfl)
    have N87 := Fr.snoc X87 N83 g_b4
    have R88 : ∀ t, Steps p.tables e below (T87.setTop (mkF m 112 #[iv p0, iv p1, .val (.long q2), .second, iv (2 : Int32), rv b4] [])) t → Steps p.tables e below (s₁.setTop f0) t := fun t k => R86 t (st87 t k)
    have R89 : ∀ t, Steps p.tables e below (T87.setTop (mkF m 123 #[iv p0, iv p1, .val (.long q2), .second, iv (2 : Int32), rv b4] [(.int (((p0.toUInt32 >>> ((16 : Int32) &&& 31).toUInt32).toInt32).toInt8.toInt32)), (.int (4 : Int32)), (.ref b4)])) t → Steps p.tables e below (s₁.setTop f0) t := fun t k => R88 t (by
      show Steps p.tables e below (T87.setTop (mkF m 112 #[iv p0, iv p1, .val (.long q2), .second, iv (2 : Int32), rv b4] [])) _
      refine XS.aload X87.here hx rfl (hb hby at_112) rfl rfl ?_
      show Steps p.tables e below (T87.setTop (mkF m 114 #[iv p0, iv p1, .val (.long q2), .second, iv (2 : Int32), rv b4] [(.ref b4)])) _
      refine XS.iload X87.here hx rfl (hb hby at_114) rfl  ?_
      show Steps p.tables e below (T87.setTop (mkF m 116 #[iv p0, iv p1, .val (.long q2), .second, iv (2 : Int32), rv b4] [(.int (2 : Int32)), (.ref b4)])) _
      refine XS.iconst X87.here hx rfl (hb hby at_116) ?_
      show Steps p.tables e below (T87.setTop (mkF m 117 #[iv p0, iv p1, .val (.long q2), .second, iv (2 : Int32), rv b4] [(.int (2 : Int32)), (.int (2 : Int32)), (.ref b4)])) _
      refine XS.iadd X87.here hx rfl (hb hby at_117) rfl ?_
      show Steps p.tables e below (T87.setTop (mkF m 118 #[iv p0, iv p1, .val (.long q2), .second, iv (2 : Int32), rv b4] [(.int (4 : Int32)), (.ref b4)])) _
      refine XS.iloadN X87.here hx rfl (hb hby at_118) rfl  ?_
      show Steps p.tables e below (T87.setTop (mkF m 119 #[iv p0, iv p1, .val (.long q2), .second, iv (2 : Int32), rv b4] [(.int p0), (.int (4 : Int32)), (.ref b4)])) _
      refine XS.bipush X87.here hx rfl (hb hby at_119) ?_
      show Steps p.tables e below (T87.setTop (mkF m 121 #[iv p0, iv p1, .val (.long q2), .second, iv (2 : Int32), rv b4] [(.int (16 : Int32)), (.int p0), (.int (4 : Int32)), (.ref b4)])) _
      refine XS.iushr X87.here hx rfl (hb hby at_121) rfl ?_
      show Steps p.tables e below (T87.setTop (mkF m 122 #[iv p0, iv p1, .val (.long q2), .second, iv (2 : Int32), rv b4] [(.int ((p0.toUInt32 >>> ((16 : Int32) &&& 31).toUInt32).toInt32)), (.int (4 : Int32)), (.ref b4)])) _
      refine XS.i2b X87.here hx rfl (hb hby at_122) rfl ?_
      exact k)
    obtain ⟨v2, e_v2⟩ : ∃ z : Int32, z = (((p0.toUInt32 >>> ((16 : Int32) &&& 31).toUInt32).toInt32).toInt8.toInt32) := ⟨_, rfl⟩
    have R90 : ∀ t, Steps p.tables e below (T87.setTop (mkF m 123 #[iv p0, iv p1, .val (.long q2), .second, iv (2 : Int32), rv b4] [(.int v2), (.int (4 : Int32)), (.ref b4)])) t → Steps p.tables e below (s₁.setTop f0) t := by have q := R89; rw [← e_v2] at q; exact q
    obtain ⟨cl91, Ar91, q91, S91, n91_, H91, G91⟩ := id v87
    have hin91 : ¬ ((4 : Int32) < 0 ∨ cl91.slots.size ≤ ((4 : Int32)).toNatClampNeg) := inb_of S91 ⟨by decide, by decide⟩
    obtain ⟨T91, h91, X91, e91, W91, st91⟩ := stB X87 hx hZ e87 Ar91 (j := (4 : Int32)) hin91 (g := (mkF m 123 #[iv p0, iv p1, .val (.long q2), .second, iv (2 : Int32), rv b4] [(.int v2), (.int (4 : Int32)), (.ref b4)])) rfl rfl (hb hby at_123)
    have z91 : n0 ≤ h91.size := by rw [W91.size]; exact z87
    have K91 : Keep h0 h91 [] := K87.wr W91 (Or.inr sz_b4)
    have v91 : Arv Z h91 b4 k4 .byte (8 : Int32) [(.int (nar .byte z0)), (.int (nar .byte z1)), (.int (nar .byte v0)), (.int (nar .byte v1)), (.int (nar .byte v2)), (.int (nar .byte z5)), (.int (nar .byte z6)), (.int (nar .byte z7))] (.int (0 : Int32)) := Arv.set Ar91 q91 S91 n91_ H91 G91 (fits_nar_byte _) W91 4 rfl (Nat.le_of_ble_eq_true rfl)
    have N91 := Fr.snoc X91 N87 g_b4
    have R92 : ∀ t, Steps p.tables e below (T91.setTop (mkF m 124 #[iv p0, iv p1, .val (.long q2), .second, iv (2 : Int32), rv b4] [])) t → Steps p.tables e below (s₁.setTop f0) t := fun t k => R90 t (st91 t k)
    have R93 : ∀ t, Steps p.tables e below (T91.setTop (mkF m 135 #[iv p0, iv p1, .val (.long q2), .second, iv (2 : Int32), rv b4] [(.int (((p0.toUInt32 >>> ((24 : Int32) &&& 31).toUInt32).toInt32).toInt8.toInt32)), (.int (5 : Int32)), (.ref b4)])) t → Steps p.tables e below (s₁.setTop f0) t := fun t k => R92 t (by
      show Steps p.tables e below (T91.setTop (mkF m 124 #[iv p0, iv p1, .val (.long q2), .second, iv (2 : Int32), rv b4] [])) _
      refine XS.aload X91.here hx rfl (hb hby at_124) rfl rfl ?_
      show Steps p.tables e below (T91.setTop (mkF m 126 #[iv p0, iv p1, .val (.long q2), .second, iv (2 : Int32), rv b4] [(.ref b4)])) _
      refine XS.iload X91.here hx rfl (hb hby at_126) rfl  ?_
      show Steps p.tables e below (T91.setTop (mkF m 128 #[iv p0, iv p1, .val (.long q2), .second, iv (2 : Int32), rv b4] [(.int (2 : Int32)), (.ref b4)])) _
      refine XS.iconst X91.here hx rfl (hb hby at_128) ?_
      show Steps p.tables e below (T91.setTop (mkF m 129 #[iv p0, iv p1, .val (.long q2), .second, iv (2 : Int32), rv b4] [(.int (3 : Int32)), (.int (2 : Int32)), (.ref b4)])) _
      refine XS.iadd X91.here hx rfl (hb hby at_129) rfl ?_
      show Steps p.tables e below (T91.setTop (mkF m 130 #[iv p0, iv p1, .val (.long q2), .second, iv (2 : Int32), rv b4] [(.int (5 : Int32)), (.ref b4)])) _
      refine XS.iloadN X91.here hx rfl (hb hby at_130) rfl  ?_
      show Steps p.tables e below (T91.setTop (mkF m 131 #[iv p0, iv p1, .val (.long q2), .second, iv (2 : Int32), rv b4] [(.int p0), (.int (5 : Int32)), (.ref b4)])) _
      refine XS.bipush X91.here hx rfl (hb hby at_131) ?_
      show Steps p.tables e below (T91.setTop (mkF m 133 #[iv p0, iv p1, .val (.long q2), .second, iv (2 : Int32), rv b4] [(.int (24 : Int32)), (.int p0), (.int (5 : Int32)), (.ref b4)])) _
      refine XS.iushr X91.here hx rfl (hb hby at_133) rfl ?_
      show Steps p.tables e below (T91.setTop (mkF m 134 #[iv p0, iv p1, .val (.long q2), .second, iv (2 : Int32), rv b4] [(.int ((p0.toUInt32 >>> ((24 : Int32) &&& 31).toUInt32).toInt32)), (.int (5 : Int32)), (.ref b4)])) _
      refine XS.i2b X91.here hx rfl (hb hby at_134) rfl ?_
      exact k)
    obtain ⟨v3, e_v3⟩ : ∃ z : Int32, z = (((p0.toUInt32 >>> ((24 : Int32) &&& 31).toUInt32).toInt32).toInt8.toInt32) := ⟨_, rfl⟩
    have R94 : ∀ t, Steps p.tables e below (T91.setTop (mkF m 135 #[iv p0, iv p1, .val (.long q2), .second, iv (2 : Int32), rv b4] [(.int v3), (.int (5 : Int32)), (.ref b4)])) t → Steps p.tables e below (s₁.setTop f0) t := by have q := R93; rw [← e_v3] at q; exact q
    obtain ⟨cl95, Ar95, q95, S95, n95_, H95, G95⟩ := id v91
    have hin95 : ¬ ((5 : Int32) < 0 ∨ cl95.slots.size ≤ ((5 : Int32)).toNatClampNeg) := inb_of S95 ⟨by decide, by decide⟩
    obtain ⟨T95, h95, X95, e95, W95, st95⟩ := stB X91 hx hZ e91 Ar95 (j := (5 : Int32)) hin95 (g := (mkF m 135 #[iv p0, iv p1, .val (.long q2), .second, iv (2 : Int32), rv b4] [(.int v3), (.int (5 : Int32)), (.ref b4)])) rfl rfl (hb hby at_135)
    have z95 : n0 ≤ h95.size := by rw [W95.size]; exact z91
    have K95 : Keep h0 h95 [] := K91.wr W95 (Or.inr sz_b4)
    have v95 : Arv Z h95 b4 k4 .byte (8 : Int32) [(.int (nar .byte z0)), (.int (nar .byte z1)), (.int (nar .byte v0)), (.int (nar .byte v1)), (.int (nar .byte v2)), (.int (nar .byte v3)), (.int (nar .byte z6)), (.int (nar .byte z7))] (.int (0 : Int32)) := Arv.set Ar95 q95 S95 n95_ H95 G95 (fits_nar_byte _) W95 5 rfl (Nat.le_of_ble_eq_true rfl)
    have N95 := Fr.snoc X95 N91 g_b4
    have R96 : ∀ t, Steps p.tables e below (T95.setTop (mkF m 136 #[iv p0, iv p1, .val (.long q2), .second, iv (2 : Int32), rv b4] [])) t → Steps p.tables e below (s₁.setTop f0) t := fun t k => R94 t (st95 t k)
    have R97 : ∀ t, Steps p.tables e below (T95.setTop (mkF m 140 #[iv p0, iv p1, .val (.long q2), .second, iv (2 : Int32), rv b4] [(.int (2 : Int32)), (.ref b4)])) t → Steps p.tables e below (s₁.setTop f0) t := fun t k => R96 t (by
      show Steps p.tables e below (T95.setTop (mkF m 136 #[iv p0, iv p1, .val (.long q2), .second, iv (2 : Int32), rv b4] [])) _
      refine XS.aload X95.here hx rfl (hb hby at_136) rfl rfl ?_
      show Steps p.tables e below (T95.setTop (mkF m 138 #[iv p0, iv p1, .val (.long q2), .second, iv (2 : Int32), rv b4] [(.ref b4)])) _
      refine XS.iload X95.here hx rfl (hb hby at_138) rfl  ?_
      exact k)
    obtain ⟨_, _, ⟨T98, L98, k98, n98⟩, -, X98, ⟨Lc98, hQ98, l98, y98, z98⟩, st98⟩ := Jvm.LawKit.callS X95 hx (y := (⟨"com/example/theuth/theuth/io/DexInput", "uintAt", "([BI)I"⟩ : MethodName)) hown (mvT hZ (hw _ (List.mem_of_getElem? (i := 2) rfl))) (mvT hZ (hw _ (List.mem_of_getElem? (i := 3) rfl))) (mvT hZ (hw _ (List.mem_of_getElem? (i := 4) rfl))) (mvT hZ (hw _ (List.mem_of_getElem? (i := 5) rfl))) (by decide) (backOf (W := 0) (rmUint l Z a0 hw [] b4 (2 : Int32) k4 (8 : Int32) [(.int (nar .byte z0)), (.int (nar .byte z1)), (.int (nar .byte v0)), (.int (nar .byte v1)), (.int (nar .byte v2)), (.int (nar .byte v3)), (.int (nar .byte z6)), (.int (nar .byte z7))] (.int (0 : Int32)) (nar .byte v0) (nar .byte v1) (nar .byte v2) (nar .byte v3) h95 n0 z95 v95 ⟨by decide, by decide⟩ ⟨by decide, by decide⟩ ⟨by decide, by decide⟩ ⟨by decide, by decide⟩ rfl rfl rfl rfl) hZ (hw _ (List.mem_of_getElem? (i := 5) rfl)) (hw _ (List.mem_of_getElem? (i := 4) rfl)) (by decide) (by decide)) (g := (mkF m 140 #[iv p0, iv p1, .val (.long q2), .second, iv (2 : Int32), rv b4] [(.int (2 : Int32)), (.ref b4)])) rfl (by rw [hml]; rfl) (argsL := [(.ref b4), (.int (2 : Int32))]) (rest := []) (lenOf pd_2 rfl) rfl (by show 2 * 0 + _ ≤ _; exact Nat.le_of_eq rfl) (hb hby at_140) (fun _ _ => ⟨rfl, e95, (by decide : 1 + 0 ≤ _), (by decide : 8 + 0 ≤ _)⟩)
    dsimp only [Pt.U, Pt.locs, Pt.cells, Pt.slots] at X98 l98 y98 z98 st98 hQ98
    subst l98 y98 z98
    obtain ⟨rfl, N98q, p98_0⟩ := hQ98
    have N98 := Fr.app N95 N98q
    have R99 : ∀ t, Steps p.tables e below (T98.setTop (mkF m 143 #[iv p0, iv p1, .val (.long q2), .second, iv (2 : Int32), rv b4] [(.int (((((nar .byte v0) &&& (255 : Int32)) ||| (((nar .byte v1) &&& (255 : Int32)) <<< ((8 : Int32) &&& 31))) ||| (((nar .byte v2) &&& (255 : Int32)) <<< ((16 : Int32) &&& 31))) ||| (((nar .byte v3) &&& (255 : Int32)) <<< ((24 : Int32) &&& 31))))])) t → Steps p.tables e below (s₁.setTop f0) t := fun t k => R97 t (st98 t k)
    have R100 : ∀ t, Steps p.tables e below (T98.setTop (mkF m 152 #[iv p0, iv p1, .val (.long q2), .second, iv (2 : Int32), rv b4] [(.int (1 : Int32))])) t → Steps p.tables e below (s₁.setTop f0) t := fun t k => R99 t (by
      show Steps p.tables e below (T98.setTop (mkF m 143 #[iv p0, iv p1, .val (.long q2), .second, iv (2 : Int32), rv b4] [(.int (((((nar .byte v0) &&& (255 : Int32)) ||| (((nar .byte v1) &&& (255 : Int32)) <<< ((8 : Int32) &&& 31))) ||| (((nar .byte v2) &&& (255 : Int32)) <<< ((16 : Int32) &&& 31))) ||| (((nar .byte v3) &&& (255 : Int32)) <<< ((24 : Int32) &&& 31))))])) _
      refine XS.iloadN X98.here hx rfl (hb hby at_143) rfl  ?_
      show Steps p.tables e below (T98.setTop (mkF m 144 #[iv p0, iv p1, .val (.long q2), .second, iv (2 : Int32), rv b4] [(.int p0), (.int (((((nar .byte v0) &&& (255 : Int32)) ||| (((nar .byte v1) &&& (255 : Int32)) <<< ((8 : Int32) &&& 31))) ||| (((nar .byte v2) &&& (255 : Int32)) <<< ((16 : Int32) &&& 31))) ||| (((nar .byte v3) &&& (255 : Int32)) <<< ((24 : Int32) &&& 31))))])) _
      refine XS.icmpNo X98.here hx rfl (hb hby at_144) rfl (teq (by subst e_v0 e_v1 e_v2 e_v3; exact own_u32 p0 : (((((nar .byte v0) &&& (255 : Int32)) ||| (((nar .byte v1) &&& (255 : Int32)) <<< ((8 : Int32) &&& 31))) ||| (((nar .byte v2) &&& (255 : Int32)) <<< ((16 : Int32) &&& 31))) ||| (((nar .byte v3) &&& (255 : Int32)) <<< ((24 : Int32) &&& 31))) = p0)).2 ?_
      show Steps p.tables e below (T98.setTop (mkF m 147 #[iv p0, iv p1, .val (.long q2), .second, iv (2 : Int32), rv b4] [])) _
      refine XS.iconst X98.here hx rfl (hb hby at_147) ?_
      show Steps p.tables e below (T98.setTop (mkF m 148 #[iv p0, iv p1, .val (.long q2), .second, iv (2 : Int32), rv b4] [(.int (1 : Int32))])) _
      refine XS.goto X98.here hx rfl (pc0 := 148) (pc' := 152) rfl (hb hby at_148) (by decide) (by decide) ?_
      exact k)
    obtain ⟨fs, hr, hrun, hended, hW, hsame⟩ := X98.leave (v := some (.int (1 : Int32))) (fun h => by rw [Bd.returns] at h; cases h)
    refine ⟨_, _, pre0 _ (R100 _ ?_), hrun, hended, _, _, rfl, ?_, ⟨_, rfl⟩, hW, hsame.mono (by decide) (by decide)⟩
    · show Steps p.tables e below (T98.setTop (mkF m 152 #[iv p0, iv p1, .val (.long q2), .second, iv (2 : Int32), rv b4] [(.int (1 : Int32))])) _
      exact retN X98 hx (t := .boolean) Bd.returns (by simp) (hb hby at_152) hr
    · show Q_rmLaw Z p0 p1 q2 h0 n0 _ T98.heap _
      rw [p98_0]
      exact ⟨rfl, N98⟩
  · skip
    have R101 : ∀ t, Steps p.tables e below (T36.setTop (mkF m 93 #[iv p0, iv p1, .val (.long q2), .second, iv (3 : Int32), rv b4] [])) t → Steps p.tables e below (s₁.setTop f0) t := by have q := R37; rw [(ha : at_ = (3 : Int32))] at q; exact q
    have R102 : ∀ t, Steps p.tables e below (T36.setTop (mkF m 99 #[iv p0, iv p1, .val (.long q2), .second, iv (3 : Int32), rv b4] [(.int (p0.toInt8.toInt32)), (.int (3 : Int32)), (.ref b4)])) t → Steps p.tables e below (s₁.setTop f0) t := fun t k => R101 t (by
      show Steps p.tables e below (T36.setTop (mkF m 93 #[iv p0, iv p1, .val (.long q2), .second, iv (3 : Int32), rv b4] [])) _
      refine XS.aload X36.here hx rfl (hb hby at_93) rfl rfl ?_
      show Steps p.tables e below (T36.setTop (mkF m 95 #[iv p0, iv p1, .val (.long q2), .second, iv (3 : Int32), rv b4] [(.ref b4)])) _
      refine XS.iload X36.here hx rfl (hb hby at_95) rfl  ?_
      show Steps p.tables e below (T36.setTop (mkF m 97 #[iv p0, iv p1, .val (.long q2), .second, iv (3 : Int32), rv b4] [(.int (3 : Int32)), (.ref b4)])) _
      refine XS.iloadN X36.here hx rfl (hb hby at_97) rfl  ?_
      show Steps p.tables e below (T36.setTop (mkF m 98 #[iv p0, iv p1, .val (.long q2), .second, iv (3 : Int32), rv b4] [(.int p0), (.int (3 : Int32)), (.ref b4)])) _
      refine XS.i2b X36.here hx rfl (hb hby at_98) rfl ?_
      exact k)
    obtain ⟨v0, e_v0⟩ : ∃ z : Int32, z = (p0.toInt8.toInt32) := ⟨_, rfl⟩
    have R103 : ∀ t, Steps p.tables e below (T36.setTop (mkF m 99 #[iv p0, iv p1, .val (.long q2), .second, iv (3 : Int32), rv b4] [(.int v0), (.int (3 : Int32)), (.ref b4)])) t → Steps p.tables e below (s₁.setTop f0) t := by have q := R102; rw [← e_v0] at q; exact q
    obtain ⟨cl104, Ar104, q104, S104, n104_, H104, G104⟩ := id v36
    have hin104 : ¬ ((3 : Int32) < 0 ∨ cl104.slots.size ≤ ((3 : Int32)).toNatClampNeg) := inb_of S104 ⟨by decide, by decide⟩
    obtain ⟨T104, h104, X104, e104, W104, st104⟩ := stB X36 hx hZ e36 Ar104 (j := (3 : Int32)) hin104 (g := (mkF m 99 #[iv p0, iv p1, .val (.long q2), .second, iv (3 : Int32), rv b4] [(.int v0), (.int (3 : Int32)), (.ref b4)])) rfl rfl (hb hby at_99)
    have z104 : n0 ≤ h104.size := by rw [W104.size]; exact z36
    have K104 : Keep h0 h104 [] := K36.wr W104 (Or.inr sz_b4)
    have v104 : Arv Z h104 b4 k4 .byte (8 : Int32) [(.int (nar .byte z0)), (.int (nar .byte z1)), (.int (nar .byte z2)), (.int (nar .byte v0)), (.int (nar .byte z4)), (.int (nar .byte z5)), (.int (nar .byte z6)), (.int (nar .byte z7))] (.int (0 : Int32)) := Arv.set Ar104 q104 S104 n104_ H104 G104 (fits_nar_byte _) W104 3 rfl (Nat.le_of_ble_eq_true rfl)
    have N104 := Fr.snoc X104 N36 g_b4
    have R105 : ∀ t, Steps p.tables e below (T104.setTop (mkF m 100 #[iv p0, iv p1, .val (.long q2), .second, iv (3 : Int32), rv b4] [])) t → Steps p.tables e below (s₁.setTop f0) t := fun t k => R103 t (st104 t k)
    have R106 : ∀ t, Steps p.tables e below (T104.setTop (mkF m 111 #[iv p0, iv p1, .val (.long q2), .second, iv (3 : Int32), rv b4] [(.int (((p0.toUInt32 >>> ((8 : Int32) &&& 31).toUInt32).toInt32).toInt8.toInt32)), (.int (4 : Int32)), (.ref b4)])) t → Steps p.tables e below (s₁.setTop f0) t := fun t k => R105 t (by
      show Steps p.tables e below (T104.setTop (mkF m 100 #[iv p0, iv p1, .val (.long q2), .second, iv (3 : Int32), rv b4] [])) _
      refine XS.aload X104.here hx rfl (hb hby at_100) rfl rfl ?_
      show Steps p.tables e below (T104.setTop (mkF m 102 #[iv p0, iv p1, .val (.long q2), .second, iv (3 : Int32), rv b4] [(.ref b4)])) _
      refine XS.iload X104.here hx rfl (hb hby at_102) rfl  ?_
      show Steps p.tables e below (T104.setTop (mkF m 104 #[iv p0, iv p1, .val (.long q2), .second, iv (3 : Int32), rv b4] [(.int (3 : Int32)), (.ref b4)])) _
      refine XS.iconst X104.here hx rfl (hb hby at_104) ?_
      show Steps p.tables e below (T104.setTop (mkF m 105 #[iv p0, iv p1, .val (.long q2), .second, iv (3 : Int32), rv b4] [(.int (1 : Int32)), (.int (3 : Int32)), (.ref b4)])) _
      refine XS.iadd X104.here hx rfl (hb hby at_105) rfl ?_
      show Steps p.tables e below (T104.setTop (mkF m 106 #[iv p0, iv p1, .val (.long q2), .second, iv (3 : Int32), rv b4] [(.int (4 : Int32)), (.ref b4)])) _
      refine XS.iloadN X104.here hx rfl (hb hby at_106) rfl  ?_
      show Steps p.tables e below (T104.setTop (mkF m 107 #[iv p0, iv p1, .val (.long q2), .second, iv (3 : Int32), rv b4] [(.int p0), (.int (4 : Int32)), (.ref b4)])) _
      refine XS.bipush X104.here hx rfl (hb hby at_107) ?_
      show Steps p.tables e below (T104.setTop (mkF m 109 #[iv p0, iv p1, .val (.long q2), .second, iv (3 : Int32), rv b4] [(.int (8 : Int32)), (.int p0), (.int (4 : Int32)), (.ref b4)])) _
      refine XS.iushr X104.here hx rfl (hb hby at_109) rfl ?_
      show Steps p.tables e below (T104.setTop (mkF m 110 #[iv p0, iv p1, .val (.long q2), .second, iv (3 : Int32), rv b4] [(.int ((p0.toUInt32 >>> ((8 : Int32) &&& 31).toUInt32).toInt32)), (.int (4 : Int32)), (.ref b4)])) _
      refine XS.i2b X104.here hx rfl (hb hby at_110) rfl ?_
      exact k)
    obtain ⟨v1, e_v1⟩ : ∃ z : Int32, z = (((p0.toUInt32 >>> ((8 : Int32) &&& 31).toUInt32).toInt32).toInt8.toInt32) := ⟨_, rfl⟩
    have R107 : ∀ t, Steps p.tables e below (T104.setTop (mkF m 111 #[iv p0, iv p1, .val (.long q2), .second, iv (3 : Int32), rv b4] [(.int v1), (.int (4 : Int32)), (.ref b4)])) t → Steps p.tables e below (s₁.setTop f0) t := by have q := R106; rw [← e_v1] at q; exact q
    obtain ⟨cl108, Ar108, q108, S108, n108_, H108, G108⟩ := id v104
    have hin108 : ¬ ((4 : Int32) < 0 ∨ cl108.slots.size ≤ ((4 : Int32)).toNatClampNeg) := inb_of S108 ⟨by decide, by decide⟩
    obtain ⟨T108, h108, X108, e108, W108, st108⟩ := stB X104 hx hZ e104 Ar108 (j := (4 : Int32)) hin108 (g := (mkF m 111 #[iv p0, iv p1, .val (.long q2), .second, iv (3 : Int32), rv b4] [(.int v1), (.int (4 : Int32)), (.ref b4)])) rfl rfl (hb hby at_111)
    have z108 : n0 ≤ h108.size := by rw [W108.size]; exact z104
    have K108 : Keep h0 h108 [] := K104.wr W108 (Or.inr sz_b4)
    have v108 : Arv Z h108 b4 k4 .byte (8 : Int32) [(.int (nar .byte z0)), (.int (nar .byte z1)), (.int (nar .byte z2)), (.int (nar .byte v0)), (.int (nar .byte v1)), (.int (nar .byte z5)), (.int (nar .byte z6)), (.int (nar .byte z7))] (.int (0 : Int32)) := Arv.set Ar108 q108 S108 n108_ H108 G108 (fits_nar_byte _) W108 4 rfl (Nat.le_of_ble_eq_true rfl)
    have N108 := Fr.snoc X108 N104 g_b4
    have R109 : ∀ t, Steps p.tables e below (T108.setTop (mkF m 112 #[iv p0, iv p1, .val (.long q2), .second, iv (3 : Int32), rv b4] [])) t → Steps p.tables e below (s₁.setTop f0) t := fun t k => R107 t (st108 t k)
    have R110 : ∀ t, Steps p.tables e below (T108.setTop (mkF m 123 #[iv p0, iv p1, .val (.long q2), .second, iv (3 : Int32), rv b4] [(.int (((p0.toUInt32 >>> ((16 : Int32) &&& 31).toUInt32).toInt32).toInt8.toInt32)), (.int (5 : Int32)), (.ref b4)])) t → Steps p.tables e below (s₁.setTop f0) t := fun t k => R109 t (by
      show Steps p.tables e below (T108.setTop (mkF m 112 #[iv p0, iv p1, .val (.long q2), .second, iv (3 : Int32), rv b4] [])) _
      refine XS.aload X108.here hx rfl (hb hby at_112) rfl rfl ?_
      show Steps p.tables e below (T108.setTop (mkF m 114 #[iv p0, iv p1, .val (.long q2), .second, iv (3 : Int32), rv b4] [(.ref b4)])) _
      refine XS.iload X108.here hx rfl (hb hby at_114) rfl  ?_
      show Steps p.tables e below (T108.setTop (mkF m 116 #[iv p0, iv p1, .val (.long q2), .second, iv (3 : Int32), rv b4] [(.int (3 : Int32)), (.ref b4)])) _
      refine XS.iconst X108.here hx rfl (hb hby at_116) ?_
      show Steps p.tables e below (T108.setTop (mkF m 117 #[iv p0, iv p1, .val (.long q2), .second, iv (3 : Int32), rv b4] [(.int (2 : Int32)), (.int (3 : Int32)), (.ref b4)])) _
      refine XS.iadd X108.here hx rfl (hb hby at_117) rfl ?_
      show Steps p.tables e below (T108.setTop (mkF m 118 #[iv p0, iv p1, .val (.long q2), .second, iv (3 : Int32), rv b4] [(.int (5 : Int32)), (.ref b4)])) _
      refine XS.iloadN X108.here hx rfl (hb hby at_118) rfl  ?_
      show Steps p.tables e below (T108.setTop (mkF m 119 #[iv p0, iv p1, .val (.long q2), .second, iv (3 : Int32), rv b4] [(.int p0), (.int (5 : Int32)), (.ref b4)])) _
      refine XS.bipush X108.here hx rfl (hb hby at_119) ?_
      show Steps p.tables e below (T108.setTop (mkF m 121 #[iv p0, iv p1, .val (.long q2), .second, iv (3 : Int32), rv b4] [(.int (16 : Int32)), (.int p0), (.int (5 : Int32)), (.ref b4)])) _
      refine XS.iushr X108.here hx rfl (hb hby at_121) rfl ?_
      show Steps p.tables e below (T108.setTop (mkF m 122 #[iv p0, iv p1, .val (.long q2), .second, iv (3 : Int32), rv b4] [(.int ((p0.toUInt32 >>> ((16 : Int32) &&& 31).toUInt32).toInt32)), (.int (5 : Int32)), (.ref b4)])) _
      refine XS.i2b X108.here hx rfl (hb hby at_122) rfl ?_
      exact k)
    obtain ⟨v2, e_v2⟩ : ∃ z : Int32, z = (((p0.toUInt32 >>> ((16 : Int32) &&& 31).toUInt32).toInt32).toInt8.toInt32) := ⟨_, rfl⟩
    have R111 : ∀ t, Steps p.tables e below (T108.setTop (mkF m 123 #[iv p0, iv p1, .val (.long q2), .second, iv (3 : Int32), rv b4] [(.int v2), (.int (5 : Int32)), (.ref b4)])) t → Steps p.tables e below (s₁.setTop f0) t := by have q := R110; rw [← e_v2] at q; exact q
    obtain ⟨cl112, Ar112, q112, S112, n112_, H112, G112⟩ := id v108
    have hin112 : ¬ ((5 : Int32) < 0 ∨ cl112.slots.size ≤ ((5 : Int32)).toNatClampNeg) := inb_of S112 ⟨by decide, by decide⟩
    obtain ⟨T112, h112, X112, e112, W112, st112⟩ := stB X108 hx hZ e108 Ar112 (j := (5 : Int32)) hin112 (g := (mkF m 123 #[iv p0, iv p1, .val (.long q2), .second, iv (3 : Int32), rv b4] [(.int v2), (.int (5 : Int32)), (.ref b4)])) rfl rfl (hb hby at_123)
    have z112 : n0 ≤ h112.size := by rw [W112.size]; exact z108
    have K112 : Keep h0 h112 [] := K108.wr W112 (Or.inr sz_b4)
    have v112 : Arv Z h112 b4 k4 .byte (8 : Int32) [(.int (nar .byte z0)), (.int (nar .byte z1)), (.int (nar .byte z2)), (.int (nar .byte v0)), (.int (nar .byte v1)), (.int (nar .byte v2)), (.int (nar .byte z6)), (.int (nar .byte z7))] (.int (0 : Int32)) := Arv.set Ar112 q112 S112 n112_ H112 G112 (fits_nar_byte _) W112 5 rfl (Nat.le_of_ble_eq_true rfl)
    have N112 := Fr.snoc X112 N108 g_b4
    have R113 : ∀ t, Steps p.tables e below (T112.setTop (mkF m 124 #[iv p0, iv p1, .val (.long q2), .second, iv (3 : Int32), rv b4] [])) t → Steps p.tables e below (s₁.setTop f0) t := fun t k => R111 t (st112 t k)
    have R114 : ∀ t, Steps p.tables e below (T112.setTop (mkF m 135 #[iv p0, iv p1, .val (.long q2), .second, iv (3 : Int32), rv b4] [(.int (((p0.toUInt32 >>> ((24 : Int32) &&& 31).toUInt32).toInt32).toInt8.toInt32)), (.int (6 : Int32)), (.ref b4)])) t → Steps p.tables e below (s₁.setTop f0) t := fun t k => R113 t (by
      show Steps p.tables e below (T112.setTop (mkF m 124 #[iv p0, iv p1, .val (.long q2), .second, iv (3 : Int32), rv b4] [])) _
      refine XS.aload X112.here hx rfl (hb hby at_124) rfl rfl ?_
      show Steps p.tables e below (T112.setTop (mkF m 126 #[iv p0, iv p1, .val (.long q2), .second, iv (3 : Int32), rv b4] [(.ref b4)])) _
      refine XS.iload X112.here hx rfl (hb hby at_126) rfl  ?_
      show Steps p.tables e below (T112.setTop (mkF m 128 #[iv p0, iv p1, .val (.long q2), .second, iv (3 : Int32), rv b4] [(.int (3 : Int32)), (.ref b4)])) _
      refine XS.iconst X112.here hx rfl (hb hby at_128) ?_
      show Steps p.tables e below (T112.setTop (mkF m 129 #[iv p0, iv p1, .val (.long q2), .second, iv (3 : Int32), rv b4] [(.int (3 : Int32)), (.int (3 : Int32)), (.ref b4)])) _
      refine XS.iadd X112.here hx rfl (hb hby at_129) rfl ?_
      show Steps p.tables e below (T112.setTop (mkF m 130 #[iv p0, iv p1, .val (.long q2), .second, iv (3 : Int32), rv b4] [(.int (6 : Int32)), (.ref b4)])) _
      refine XS.iloadN X112.here hx rfl (hb hby at_130) rfl  ?_
      show Steps p.tables e below (T112.setTop (mkF m 131 #[iv p0, iv p1, .val (.long q2), .second, iv (3 : Int32), rv b4] [(.int p0), (.int (6 : Int32)), (.ref b4)])) _
      refine XS.bipush X112.here hx rfl (hb hby at_131) ?_
      show Steps p.tables e below (T112.setTop (mkF m 133 #[iv p0, iv p1, .val (.long q2), .second, iv (3 : Int32), rv b4] [(.int (24 : Int32)), (.int p0), (.int (6 : Int32)), (.ref b4)])) _
      refine XS.iushr X112.here hx rfl (hb hby at_133) rfl ?_
      show Steps p.tables e below (T112.setTop (mkF m 134 #[iv p0, iv p1, .val (.long q2), .second, iv (3 : Int32), rv b4] [(.int ((p0.toUInt32 >>> ((24 : Int32) &&& 31).toUInt32).toInt32)), (.int (6 : Int32)), (.ref b4)])) _
      refine XS.i2b X112.here hx rfl (hb hby at_134) rfl ?_
      exact k)
    obtain ⟨v3, e_v3⟩ : ∃ z : Int32, z = (((p0.toUInt32 >>> ((24 : Int32) &&& 31).toUInt32).toInt32).toInt8.toInt32) := ⟨_, rfl⟩
    have R115 : ∀ t, Steps p.tables e below (T112.setTop (mkF m 135 #[iv p0, iv p1, .val (.long q2), .second, iv (3 : Int32), rv b4] [(.int v3), (.int (6 : Int32)), (.ref b4)])) t → Steps p.tables e below (s₁.setTop f0) t := by have q := R114; rw [← e_v3] at q; exact q
    obtain ⟨cl116, Ar116, q116, S116, n116_, H116, G116⟩ := id v112
    have hin116 : ¬ ((6 : Int32) < 0 ∨ cl116.slots.size ≤ ((6 : Int32)).toNatClampNeg) := inb_of S116 ⟨by decide, by decide⟩
    obtain ⟨T116, h116, X116, e116, W116, st116⟩ := stB X112 hx hZ e112 Ar116 (j := (6 : Int32)) hin116 (g := (mkF m 135 #[iv p0, iv p1, .val (.long q2), .second, iv (3 : Int32), rv b4] [(.int v3), (.int (6 : Int32)), (.ref b4)])) rfl rfl (hb hby at_135)
    have z116 : n0 ≤ h116.size := by rw [W116.size]; exact z112
    have K116 : Keep h0 h116 [] := K112.wr W116 (Or.inr sz_b4)
    have v116 : Arv Z h116 b4 k4 .byte (8 : Int32) [(.int (nar .byte z0)), (.int (nar .byte z1)), (.int (nar .byte z2)), (.int (nar .byte v0)), (.int (nar .byte v1)), (.int (nar .byte v2)), (.int (nar .byte v3)), (.int (nar .byte z7))] (.int (0 : Int32)) := Arv.set Ar116 q116 S116 n116_ H116 G116 (fits_nar_byte _) W116 6 rfl (Nat.le_of_ble_eq_true rfl)
    have N116 := Fr.snoc X116 N112 g_b4
    have R117 : ∀ t, Steps p.tables e below (T116.setTop (mkF m 136 #[iv p0, iv p1, .val (.long q2), .second, iv (3 : Int32), rv b4] [])) t → Steps p.tables e below (s₁.setTop f0) t := fun t k => R115 t (st116 t k)
    have R118 : ∀ t, Steps p.tables e below (T116.setTop (mkF m 140 #[iv p0, iv p1, .val (.long q2), .second, iv (3 : Int32), rv b4] [(.int (3 : Int32)), (.ref b4)])) t → Steps p.tables e below (s₁.setTop f0) t := fun t k => R117 t (by
      show Steps p.tables e below (T116.setTop (mkF m 136 #[iv p0, iv p1, .val (.long q2), .second, iv (3 : Int32), rv b4] [])) _
      refine XS.aload X116.here hx rfl (hb hby at_136) rfl rfl ?_
      show Steps p.tables e below (T116.setTop (mkF m 138 #[iv p0, iv p1, .val (.long q2), .second, iv (3 : Int32), rv b4] [(.ref b4)])) _
      refine XS.iload X116.here hx rfl (hb hby at_138) rfl  ?_
      exact k)
    obtain ⟨_, _, ⟨T119, L119, k119, n119⟩, -, X119, ⟨Lc119, hQ119, l119, y119, z119⟩, st119⟩ := Jvm.LawKit.callS X116 hx (y := (⟨"com/example/theuth/theuth/io/DexInput", "uintAt", "([BI)I"⟩ : MethodName)) hown (mvT hZ (hw _ (List.mem_of_getElem? (i := 2) rfl))) (mvT hZ (hw _ (List.mem_of_getElem? (i := 3) rfl))) (mvT hZ (hw _ (List.mem_of_getElem? (i := 4) rfl))) (mvT hZ (hw _ (List.mem_of_getElem? (i := 5) rfl))) (by decide) (backOf (W := 0) (rmUint l Z a0 hw [] b4 (3 : Int32) k4 (8 : Int32) [(.int (nar .byte z0)), (.int (nar .byte z1)), (.int (nar .byte z2)), (.int (nar .byte v0)), (.int (nar .byte v1)), (.int (nar .byte v2)), (.int (nar .byte v3)), (.int (nar .byte z7))] (.int (0 : Int32)) (nar .byte v0) (nar .byte v1) (nar .byte v2) (nar .byte v3) h116 n0 z116 v116 ⟨by decide, by decide⟩ ⟨by decide, by decide⟩ ⟨by decide, by decide⟩ ⟨by decide, by decide⟩ rfl rfl rfl rfl) hZ (hw _ (List.mem_of_getElem? (i := 5) rfl)) (hw _ (List.mem_of_getElem? (i := 4) rfl)) (by decide) (by decide)) (g := (mkF m 140 #[iv p0, iv p1, .val (.long q2), .second, iv (3 : Int32), rv b4] [(.int (3 : Int32)), (.ref b4)])) rfl (by rw [hml]; rfl) (argsL := [(.ref b4), (.int (3 : Int32))]) (rest := []) (lenOf pd_2 rfl) rfl (by show 2 * 0 + _ ≤ _; exact Nat.le_of_eq rfl) (hb hby at_140) (fun _ _ => ⟨rfl, e116, (by decide : 1 + 0 ≤ _), (by decide : 8 + 0 ≤ _)⟩)
    dsimp only [Pt.U, Pt.locs, Pt.cells, Pt.slots] at X119 l119 y119 z119 st119 hQ119
    subst l119 y119 z119
    obtain ⟨rfl, N119q, p119_0⟩ := hQ119
    have N119 := Fr.app N116 N119q
    have R120 : ∀ t, Steps p.tables e below (T119.setTop (mkF m 143 #[iv p0, iv p1, .val (.long q2), .second, iv (3 : Int32), rv b4] [(.int (((((nar .byte v0) &&& (255 : Int32)) ||| (((nar .byte v1) &&& (255 : Int32)) <<< ((8 : Int32) &&& 31))) ||| (((nar .byte v2) &&& (255 : Int32)) <<< ((16 : Int32) &&& 31))) ||| (((nar .byte v3) &&& (255 : Int32)) <<< ((24 : Int32) &&& 31))))])) t → Steps p.tables e below (s₁.setTop f0) t := fun t k => R118 t (st119 t k)
    have R121 : ∀ t, Steps p.tables e below (T119.setTop (mkF m 152 #[iv p0, iv p1, .val (.long q2), .second, iv (3 : Int32), rv b4] [(.int (1 : Int32))])) t → Steps p.tables e below (s₁.setTop f0) t := fun t k => R120 t (by
      show Steps p.tables e below (T119.setTop (mkF m 143 #[iv p0, iv p1, .val (.long q2), .second, iv (3 : Int32), rv b4] [(.int (((((nar .byte v0) &&& (255 : Int32)) ||| (((nar .byte v1) &&& (255 : Int32)) <<< ((8 : Int32) &&& 31))) ||| (((nar .byte v2) &&& (255 : Int32)) <<< ((16 : Int32) &&& 31))) ||| (((nar .byte v3) &&& (255 : Int32)) <<< ((24 : Int32) &&& 31))))])) _
      refine XS.iloadN X119.here hx rfl (hb hby at_143) rfl  ?_
      show Steps p.tables e below (T119.setTop (mkF m 144 #[iv p0, iv p1, .val (.long q2), .second, iv (3 : Int32), rv b4] [(.int p0), (.int (((((nar .byte v0) &&& (255 : Int32)) ||| (((nar .byte v1) &&& (255 : Int32)) <<< ((8 : Int32) &&& 31))) ||| (((nar .byte v2) &&& (255 : Int32)) <<< ((16 : Int32) &&& 31))) ||| (((nar .byte v3) &&& (255 : Int32)) <<< ((24 : Int32) &&& 31))))])) _
      refine XS.icmpNo X119.here hx rfl (hb hby at_144) rfl (teq (by subst e_v0 e_v1 e_v2 e_v3; exact own_u32 p0 : (((((nar .byte v0) &&& (255 : Int32)) ||| (((nar .byte v1) &&& (255 : Int32)) <<< ((8 : Int32) &&& 31))) ||| (((nar .byte v2) &&& (255 : Int32)) <<< ((16 : Int32) &&& 31))) ||| (((nar .byte v3) &&& (255 : Int32)) <<< ((24 : Int32) &&& 31))) = p0)).2 ?_
      show Steps p.tables e below (T119.setTop (mkF m 147 #[iv p0, iv p1, .val (.long q2), .second, iv (3 : Int32), rv b4] [])) _
      refine XS.iconst X119.here hx rfl (hb hby at_147) ?_
      show Steps p.tables e below (T119.setTop (mkF m 148 #[iv p0, iv p1, .val (.long q2), .second, iv (3 : Int32), rv b4] [(.int (1 : Int32))])) _
      refine XS.goto X119.here hx rfl (pc0 := 148) (pc' := 152) rfl (hb hby at_148) (by decide) (by decide) ?_
      exact k)
    obtain ⟨fs, hr, hrun, hended, hW, hsame⟩ := X119.leave (v := some (.int (1 : Int32))) (fun h => by rw [Bd.returns] at h; cases h)
    refine ⟨_, _, pre0 _ (R121 _ ?_), hrun, hended, _, _, rfl, ?_, ⟨_, rfl⟩, hW, hsame.mono (by decide) (by decide)⟩
    · show Steps p.tables e below (T119.setTop (mkF m 152 #[iv p0, iv p1, .val (.long q2), .second, iv (3 : Int32), rv b4] [(.int (1 : Int32))])) _
      exact retN X119 hx (t := .boolean) Bd.returns (by simp) (hb hby at_152) hr
    · show Q_rmLaw Z p0 p1 q2 h0 n0 _ T119.heap _
      rw [p119_0]
      exact ⟨rfl, N119⟩
  · skip
    have R122 : ∀ t, Steps p.tables e below (T36.setTop (mkF m 93 #[iv p0, iv p1, .val (.long q2), .second, iv (4 : Int32), rv b4] [])) t → Steps p.tables e below (s₁.setTop f0) t := by have q := R37; rw [(ha : at_ = (4 : Int32))] at q; exact q
    have R123 : ∀ t, Steps p.tables e below (T36.setTop (mkF m 99 #[iv p0, iv p1, .val (.long q2), .second, iv (4 : Int32), rv b4] [(.int (p0.toInt8.toInt32)), (.int (4 : Int32)), (.ref b4)])) t → Steps p.tables e below (s₁.setTop f0) t := fun t k => R122 t (by
      show Steps p.tables e below (T36.setTop (mkF m 93 #[iv p0, iv p1, .val (.long q2), .second, iv (4 : Int32), rv b4] [])) _
      refine XS.aload X36.here hx rfl (hb hby at_93) rfl rfl ?_
      show Steps p.tables e below (T36.setTop (mkF m 95 #[iv p0, iv p1, .val (.long q2), .second, iv (4 : Int32), rv b4] [(.ref b4)])) _
      refine XS.iload X36.here hx rfl (hb hby at_95) rfl  ?_
      show Steps p.tables e below (T36.setTop (mkF m 97 #[iv p0, iv p1, .val (.long q2), .second, iv (4 : Int32), rv b4] [(.int (4 : Int32)), (.ref b4)])) _
      refine XS.iloadN X36.here hx rfl (hb hby at_97) rfl  ?_
      show Steps p.tables e below (T36.setTop (mkF m 98 #[iv p0, iv p1, .val (.long q2), .second, iv (4 : Int32), rv b4] [(.int p0), (.int (4 : Int32)), (.ref b4)])) _
      refine XS.i2b X36.here hx rfl (hb hby at_98) rfl ?_
      exact k)
    obtain ⟨v0, e_v0⟩ : ∃ z : Int32, z = (p0.toInt8.toInt32) := ⟨_, rfl⟩
    have R124 : ∀ t, Steps p.tables e below (T36.setTop (mkF m 99 #[iv p0, iv p1, .val (.long q2), .second, iv (4 : Int32), rv b4] [(.int v0), (.int (4 : Int32)), (.ref b4)])) t → Steps p.tables e below (s₁.setTop f0) t := by have q := R123; rw [← e_v0] at q; exact q
    obtain ⟨cl125, Ar125, q125, S125, n125_, H125, G125⟩ := id v36
    have hin125 : ¬ ((4 : Int32) < 0 ∨ cl125.slots.size ≤ ((4 : Int32)).toNatClampNeg) := inb_of S125 ⟨by decide, by decide⟩
    obtain ⟨T125, h125, X125, e125, W125, st125⟩ := stB X36 hx hZ e36 Ar125 (j := (4 : Int32)) hin125 (g := (mkF m 99 #[iv p0, iv p1, .val (.long q2), .second, iv (4 : Int32), rv b4] [(.int v0), (.int (4 : Int32)), (.ref b4)])) rfl rfl (hb hby at_99)
    have z125 : n0 ≤ h125.size := by rw [W125.size]; exact z36
    have K125 : Keep h0 h125 [] := K36.wr W125 (Or.inr sz_b4)
    have v125 : Arv Z h125 b4 k4 .byte (8 : Int32) [(.int (nar .byte z0)), (.int (nar .byte z1)), (.int (nar .byte z2)), (.int (nar .byte z3)), (.int (nar .byte v0)), (.int (nar .byte z5)), (.int (nar .byte z6)), (.int (nar .byte z7))] (.int (0 : Int32)) := Arv.set Ar125 q125 S125 n125_ H125 G125 (fits_nar_byte _) W125 4 rfl (Nat.le_of_ble_eq_true rfl)
    have N125 := Fr.snoc X125 N36 g_b4
    have R126 : ∀ t, Steps p.tables e below (T125.setTop (mkF m 100 #[iv p0, iv p1, .val (.long q2), .second, iv (4 : Int32), rv b4] [])) t → Steps p.tables e below (s₁.setTop f0) t := fun t k => R124 t (st125 t k)
    have R127 : ∀ t, Steps p.tables e below (T125.setTop (mkF m 111 #[iv p0, iv p1, .val (.long q2), .second, iv (4 : Int32), rv b4] [(.int (((p0.toUInt32 >>> ((8 : Int32) &&& 31).toUInt32).toInt32).toInt8.toInt32)), (.int (5 : Int32)), (.ref b4)])) t → Steps p.tables e below (s₁.setTop f0) t := fun t k => R126 t (by
      show Steps p.tables e below (T125.setTop (mkF m 100 #[iv p0, iv p1, .val (.long q2), .second, iv (4 : Int32), rv b4] [])) _
      refine XS.aload X125.here hx rfl (hb hby at_100) rfl rfl ?_
      show Steps p.tables e below (T125.setTop (mkF m 102 #[iv p0, iv p1, .val (.long q2), .second, iv (4 : Int32), rv b4] [(.ref b4)])) _
      refine XS.iload X125.here hx rfl (hb hby at_102) rfl  ?_
      show Steps p.tables e below (T125.setTop (mkF m 104 #[iv p0, iv p1, .val (.long q2), .second, iv (4 : Int32), rv b4] [(.int (4 : Int32)), (.ref b4)])) _
      refine XS.iconst X125.here hx rfl (hb hby at_104) ?_
      show Steps p.tables e below (T125.setTop (mkF m 105 #[iv p0, iv p1, .val (.long q2), .second, iv (4 : Int32), rv b4] [(.int (1 : Int32)), (.int (4 : Int32)), (.ref b4)])) _
      refine XS.iadd X125.here hx rfl (hb hby at_105) rfl ?_
      show Steps p.tables e below (T125.setTop (mkF m 106 #[iv p0, iv p1, .val (.long q2), .second, iv (4 : Int32), rv b4] [(.int (5 : Int32)), (.ref b4)])) _
      refine XS.iloadN X125.here hx rfl (hb hby at_106) rfl  ?_
      show Steps p.tables e below (T125.setTop (mkF m 107 #[iv p0, iv p1, .val (.long q2), .second, iv (4 : Int32), rv b4] [(.int p0), (.int (5 : Int32)), (.ref b4)])) _
      refine XS.bipush X125.here hx rfl (hb hby at_107) ?_
      show Steps p.tables e below (T125.setTop (mkF m 109 #[iv p0, iv p1, .val (.long q2), .second, iv (4 : Int32), rv b4] [(.int (8 : Int32)), (.int p0), (.int (5 : Int32)), (.ref b4)])) _
      refine XS.iushr X125.here hx rfl (hb hby at_109) rfl ?_
      show Steps p.tables e below (T125.setTop (mkF m 110 #[iv p0, iv p1, .val (.long q2), .second, iv (4 : Int32), rv b4] [(.int ((p0.toUInt32 >>> ((8 : Int32) &&& 31).toUInt32).toInt32)), (.int (5 : Int32)), (.ref b4)])) _
      refine XS.i2b X125.here hx rfl (hb hby at_110) rfl ?_
      exact k)
    obtain ⟨v1, e_v1⟩ : ∃ z : Int32, z = (((p0.toUInt32 >>> ((8 : Int32) &&& 31).toUInt32).toInt32).toInt8.toInt32) := ⟨_, rfl⟩
    have R128 : ∀ t, Steps p.tables e below (T125.setTop (mkF m 111 #[iv p0, iv p1, .val (.long q2), .second, iv (4 : Int32), rv b4] [(.int v1), (.int (5 : Int32)), (.ref b4)])) t → Steps p.tables e below (s₁.setTop f0) t := by have q := R127; rw [← e_v1] at q; exact q
    obtain ⟨cl129, Ar129, q129, S129, n129_, H129, G129⟩ := id v125
    have hin129 : ¬ ((5 : Int32) < 0 ∨ cl129.slots.size ≤ ((5 : Int32)).toNatClampNeg) := inb_of S129 ⟨by decide, by decide⟩
    obtain ⟨T129, h129, X129, e129, W129, st129⟩ := stB X125 hx hZ e125 Ar129 (j := (5 : Int32)) hin129 (g := (mkF m 111 #[iv p0, iv p1, .val (.long q2), .second, iv (4 : Int32), rv b4] [(.int v1), (.int (5 : Int32)), (.ref b4)])) rfl rfl (hb hby at_111)
    have z129 : n0 ≤ h129.size := by rw [W129.size]; exact z125
    have K129 : Keep h0 h129 [] := K125.wr W129 (Or.inr sz_b4)
    have v129 : Arv Z h129 b4 k4 .byte (8 : Int32) [(.int (nar .byte z0)), (.int (nar .byte z1)), (.int (nar .byte z2)), (.int (nar .byte z3)), (.int (nar .byte v0)), (.int (nar .byte v1)), (.int (nar .byte z6)), (.int (nar .byte z7))] (.int (0 : Int32)) := Arv.set Ar129 q129 S129 n129_ H129 G129 (fits_nar_byte _) W129 5 rfl (Nat.le_of_ble_eq_true rfl)
    have N129 := Fr.snoc X129 N125 g_b4
    have R130 : ∀ t, Steps p.tables e below (T129.setTop (mkF m 112 #[iv p0, iv p1, .val (.long q2), .second, iv (4 : Int32), rv b4] [])) t → Steps p.tables e below (s₁.setTop f0) t := fun t k => R128 t (st129 t k)
    have R131 : ∀ t, Steps p.tables e below (T129.setTop (mkF m 123 #[iv p0, iv p1, .val (.long q2), .second, iv (4 : Int32), rv b4] [(.int (((p0.toUInt32 >>> ((16 : Int32) &&& 31).toUInt32).toInt32).toInt8.toInt32)), (.int (6 : Int32)), (.ref b4)])) t → Steps p.tables e below (s₁.setTop f0) t := fun t k => R130 t (by
      show Steps p.tables e below (T129.setTop (mkF m 112 #[iv p0, iv p1, .val (.long q2), .second, iv (4 : Int32), rv b4] [])) _
      refine XS.aload X129.here hx rfl (hb hby at_112) rfl rfl ?_
      show Steps p.tables e below (T129.setTop (mkF m 114 #[iv p0, iv p1, .val (.long q2), .second, iv (4 : Int32), rv b4] [(.ref b4)])) _
      refine XS.iload X129.here hx rfl (hb hby at_114) rfl  ?_
      show Steps p.tables e below (T129.setTop (mkF m 116 #[iv p0, iv p1, .val (.long q2), .second, iv (4 : Int32), rv b4] [(.int (4 : Int32)), (.ref b4)])) _
      refine XS.iconst X129.here hx rfl (hb hby at_116) ?_
      show Steps p.tables e below (T129.setTop (mkF m 117 #[iv p0, iv p1, .val (.long q2), .second, iv (4 : Int32), rv b4] [(.int (2 : Int32)), (.int (4 : Int32)), (.ref b4)])) _
      refine XS.iadd X129.here hx rfl (hb hby at_117) rfl ?_
      show Steps p.tables e below (T129.setTop (mkF m 118 #[iv p0, iv p1, .val (.long q2), .second, iv (4 : Int32), rv b4] [(.int (6 : Int32)), (.ref b4)])) _
      refine XS.iloadN X129.here hx rfl (hb hby at_118) rfl  ?_
      show Steps p.tables e below (T129.setTop (mkF m 119 #[iv p0, iv p1, .val (.long q2), .second, iv (4 : Int32), rv b4] [(.int p0), (.int (6 : Int32)), (.ref b4)])) _
      refine XS.bipush X129.here hx rfl (hb hby at_119) ?_
      show Steps p.tables e below (T129.setTop (mkF m 121 #[iv p0, iv p1, .val (.long q2), .second, iv (4 : Int32), rv b4] [(.int (16 : Int32)), (.int p0), (.int (6 : Int32)), (.ref b4)])) _
      refine XS.iushr X129.here hx rfl (hb hby at_121) rfl ?_
      show Steps p.tables e below (T129.setTop (mkF m 122 #[iv p0, iv p1, .val (.long q2), .second, iv (4 : Int32), rv b4] [(.int ((p0.toUInt32 >>> ((16 : Int32) &&& 31).toUInt32).toInt32)), (.int (6 : Int32)), (.ref b4)])) _
      refine XS.i2b X129.here hx rfl (hb hby at_122) rfl ?_
      exact k)
    obtain ⟨v2, e_v2⟩ : ∃ z : Int32, z = (((p0.toUInt32 >>> ((16 : Int32) &&& 31).toUInt32).toInt32).toInt8.toInt32) := ⟨_, rfl⟩
    have R132 : ∀ t, Steps p.tables e below (T129.setTop (mkF m 123 #[iv p0, iv p1, .val (.long q2), .second, iv (4 : Int32), rv b4] [(.int v2), (.int (6 : Int32)), (.ref b4)])) t → Steps p.tables e below (s₁.setTop f0) t := by have q := R131; rw [← e_v2] at q; exact q
    obtain ⟨cl133, Ar133, q133, S133, n133_, H133, G133⟩ := id v129
    have hin133 : ¬ ((6 : Int32) < 0 ∨ cl133.slots.size ≤ ((6 : Int32)).toNatClampNeg) := inb_of S133 ⟨by decide, by decide⟩
    obtain ⟨T133, h133, X133, e133, W133, st133⟩ := stB X129 hx hZ e129 Ar133 (j := (6 : Int32)) hin133 (g := (mkF m 123 #[iv p0, iv p1, .val (.long q2), .second, iv (4 : Int32), rv b4] [(.int v2), (.int (6 : Int32)), (.ref b4)])) rfl rfl (hb hby at_123)
    have z133 : n0 ≤ h133.size := by rw [W133.size]; exact z129
    have K133 : Keep h0 h133 [] := K129.wr W133 (Or.inr sz_b4)
    have v133 : Arv Z h133 b4 k4 .byte (8 : Int32) [(.int (nar .byte z0)), (.int (nar .byte z1)), (.int (nar .byte z2)), (.int (nar .byte z3)), (.int (nar .byte v0)), (.int (nar .byte v1)), (.int (nar .byte v2)), (.int (nar .byte z7))] (.int (0 : Int32)) := Arv.set Ar133 q133 S133 n133_ H133 G133 (fits_nar_byte _) W133 6 rfl (Nat.le_of_ble_eq_true rfl)
    have N133 := Fr.snoc X133 N129 g_b4
    have R134 : ∀ t, Steps p.tables e below (T133.setTop (mkF m 124 #[iv p0, iv p1, .val (.long q2), .second, iv (4 : Int32), rv b4] [])) t → Steps p.tables e below (s₁.setTop f0) t := fun t k => R132 t (st133 t k)
    have R135 : ∀ t, Steps p.tables e below (T133.setTop (mkF m 135 #[iv p0, iv p1, .val (.long q2), .second, iv (4 : Int32), rv b4] [(.int (((p0.toUInt32 >>> ((24 : Int32) &&& 31).toUInt32).toInt32).toInt8.toInt32)), (.int (7 : Int32)), (.ref b4)])) t → Steps p.tables e below (s₁.setTop f0) t := fun t k => R134 t (by
      show Steps p.tables e below (T133.setTop (mkF m 124 #[iv p0, iv p1, .val (.long q2), .second, iv (4 : Int32), rv b4] [])) _
      refine XS.aload X133.here hx rfl (hb hby at_124) rfl rfl ?_
      show Steps p.tables e below (T133.setTop (mkF m 126 #[iv p0, iv p1, .val (.long q2), .second, iv (4 : Int32), rv b4] [(.ref b4)])) _
      refine XS.iload X133.here hx rfl (hb hby at_126) rfl  ?_
      show Steps p.tables e below (T133.setTop (mkF m 128 #[iv p0, iv p1, .val (.long q2), .second, iv (4 : Int32), rv b4] [(.int (4 : Int32)), (.ref b4)])) _
      refine XS.iconst X133.here hx rfl (hb hby at_128) ?_
      show Steps p.tables e below (T133.setTop (mkF m 129 #[iv p0, iv p1, .val (.long q2), .second, iv (4 : Int32), rv b4] [(.int (3 : Int32)), (.int (4 : Int32)), (.ref b4)])) _
      refine XS.iadd X133.here hx rfl (hb hby at_129) rfl ?_
      show Steps p.tables e below (T133.setTop (mkF m 130 #[iv p0, iv p1, .val (.long q2), .second, iv (4 : Int32), rv b4] [(.int (7 : Int32)), (.ref b4)])) _
      refine XS.iloadN X133.here hx rfl (hb hby at_130) rfl  ?_
      show Steps p.tables e below (T133.setTop (mkF m 131 #[iv p0, iv p1, .val (.long q2), .second, iv (4 : Int32), rv b4] [(.int p0), (.int (7 : Int32)), (.ref b4)])) _
      refine XS.bipush X133.here hx rfl (hb hby at_131) ?_
      show Steps p.tables e below (T133.setTop (mkF m 133 #[iv p0, iv p1, .val (.long q2), .second, iv (4 : Int32), rv b4] [(.int (24 : Int32)), (.int p0), (.int (7 : Int32)), (.ref b4)])) _
      refine XS.iushr X133.here hx rfl (hb hby at_133) rfl ?_
      show Steps p.tables e below (T133.setTop (mkF m 134 #[iv p0, iv p1, .val (.long q2), .second, iv (4 : Int32), rv b4] [(.int ((p0.toUInt32 >>> ((24 : Int32) &&& 31).toUInt32).toInt32)), (.int (7 : Int32)), (.ref b4)])) _
      refine XS.i2b X133.here hx rfl (hb hby at_134) rfl ?_
      exact k)
    obtain ⟨v3, e_v3⟩ : ∃ z : Int32, z = (((p0.toUInt32 >>> ((24 : Int32) &&& 31).toUInt32).toInt32).toInt8.toInt32) := ⟨_, rfl⟩
    have R136 : ∀ t, Steps p.tables e below (T133.setTop (mkF m 135 #[iv p0, iv p1, .val (.long q2), .second, iv (4 : Int32), rv b4] [(.int v3), (.int (7 : Int32)), (.ref b4)])) t → Steps p.tables e below (s₁.setTop f0) t := by have q := R135; rw [← e_v3] at q; exact q
    obtain ⟨cl137, Ar137, q137, S137, n137_, H137, G137⟩ := id v133
    have hin137 : ¬ ((7 : Int32) < 0 ∨ cl137.slots.size ≤ ((7 : Int32)).toNatClampNeg) := inb_of S137 ⟨by decide, by decide⟩
    obtain ⟨T137, h137, X137, e137, W137, st137⟩ := stB X133 hx hZ e133 Ar137 (j := (7 : Int32)) hin137 (g := (mkF m 135 #[iv p0, iv p1, .val (.long q2), .second, iv (4 : Int32), rv b4] [(.int v3), (.int (7 : Int32)), (.ref b4)])) rfl rfl (hb hby at_135)
    have z137 : n0 ≤ h137.size := by rw [W137.size]; exact z133
    have K137 : Keep h0 h137 [] := K133.wr W137 (Or.inr sz_b4)
    have v137 : Arv Z h137 b4 k4 .byte (8 : Int32) [(.int (nar .byte z0)), (.int (nar .byte z1)), (.int (nar .byte z2)), (.int (nar .byte z3)), (.int (nar .byte v0)), (.int (nar .byte v1)), (.int (nar .byte v2)), (.int (nar .byte v3))] (.int (0 : Int32)) := Arv.set Ar137 q137 S137 n137_ H137 G137 (fits_nar_byte _) W137 7 rfl (Nat.le_of_ble_eq_true rfl)
    have N137 := Fr.snoc X137 N133 g_b4
    have R138 : ∀ t, Steps p.tables e below (T137.setTop (mkF m 136 #[iv p0, iv p1, .val (.long q2), .second, iv (4 : Int32), rv b4] [])) t → Steps p.tables e below (s₁.setTop f0) t := fun t k => R136 t (st137 t k)
    have R139 : ∀ t, Steps p.tables e below (T137.setTop (mkF m 140 #[iv p0, iv p1, .val (.long q2), .second, iv (4 : Int32), rv b4] [(.int (4 : Int32)), (.ref b4)])) t → Steps p.tables e below (s₁.setTop f0) t := fun t k => R138 t (by
      show Steps p.tables e below (T137.setTop (mkF m 136 #[iv p0, iv p1, .val (.long q2), .second, iv (4 : Int32), rv b4] [])) _
      refine XS.aload X137.here hx rfl (hb hby at_136) rfl rfl ?_
      show Steps p.tables e below (T137.setTop (mkF m 138 #[iv p0, iv p1, .val (.long q2), .second, iv (4 : Int32), rv b4] [(.ref b4)])) _
      refine XS.iload X137.here hx rfl (hb hby at_138) rfl  ?_
      exact k)
    obtain ⟨_, _, ⟨T140, L140, k140, n140⟩, -, X140, ⟨Lc140, hQ140, l140, y140, z140⟩, st140⟩ := Jvm.LawKit.callS X137 hx (y := (⟨"com/example/theuth/theuth/io/DexInput", "uintAt", "([BI)I"⟩ : MethodName)) hown (mvT hZ (hw _ (List.mem_of_getElem? (i := 2) rfl))) (mvT hZ (hw _ (List.mem_of_getElem? (i := 3) rfl))) (mvT hZ (hw _ (List.mem_of_getElem? (i := 4) rfl))) (mvT hZ (hw _ (List.mem_of_getElem? (i := 5) rfl))) (by decide) (backOf (W := 0) (rmUint l Z a0 hw [] b4 (4 : Int32) k4 (8 : Int32) [(.int (nar .byte z0)), (.int (nar .byte z1)), (.int (nar .byte z2)), (.int (nar .byte z3)), (.int (nar .byte v0)), (.int (nar .byte v1)), (.int (nar .byte v2)), (.int (nar .byte v3))] (.int (0 : Int32)) (nar .byte v0) (nar .byte v1) (nar .byte v2) (nar .byte v3) h137 n0 z137 v137 ⟨by decide, by decide⟩ ⟨by decide, by decide⟩ ⟨by decide, by decide⟩ ⟨by decide, by decide⟩ rfl rfl rfl rfl) hZ (hw _ (List.mem_of_getElem? (i := 5) rfl)) (hw _ (List.mem_of_getElem? (i := 4) rfl)) (by decide) (by decide)) (g := (mkF m 140 #[iv p0, iv p1, .val (.long q2), .second, iv (4 : Int32), rv b4] [(.int (4 : Int32)), (.ref b4)])) rfl (by rw [hml]; rfl) (argsL := [(.ref b4), (.int (4 : Int32))]) (rest := []) (lenOf pd_2 rfl) rfl (by show 2 * 0 + _ ≤ _; exact Nat.le_of_eq rfl) (hb hby at_140) (fun _ _ => ⟨rfl, e137, (by decide : 1 + 0 ≤ _), (by decide : 8 + 0 ≤ _)⟩)
    dsimp only [Pt.U, Pt.locs, Pt.cells, Pt.slots] at X140 l140 y140 z140 st140 hQ140
    subst l140 y140 z140
    obtain ⟨rfl, N140q, p140_0⟩ := hQ140
    have N140 := Fr.app N137 N140q
    have R141 : ∀ t, Steps p.tables e below (T140.setTop (mkF m 143 #[iv p0, iv p1, .val (.long q2), .second, iv (4 : Int32), rv b4] [(.int (((((nar .byte v0) &&& (255 : Int32)) ||| (((nar .byte v1) &&& (255 : Int32)) <<< ((8 : Int32) &&& 31))) ||| (((nar .byte v2) &&& (255 : Int32)) <<< ((16 : Int32) &&& 31))) ||| (((nar .byte v3) &&& (255 : Int32)) <<< ((24 : Int32) &&& 31))))])) t → Steps p.tables e below (s₁.setTop f0) t := fun t k => R139 t (st140 t k)
    have R142 : ∀ t, Steps p.tables e below (T140.setTop (mkF m 152 #[iv p0, iv p1, .val (.long q2), .second, iv (4 : Int32), rv b4] [(.int (1 : Int32))])) t → Steps p.tables e below (s₁.setTop f0) t := fun t k => R141 t (by
      show Steps p.tables e below (T140.setTop (mkF m 143 #[iv p0, iv p1, .val (.long q2), .second, iv (4 : Int32), rv b4] [(.int (((((nar .byte v0) &&& (255 : Int32)) ||| (((nar .byte v1) &&& (255 : Int32)) <<< ((8 : Int32) &&& 31))) ||| (((nar .byte v2) &&& (255 : Int32)) <<< ((16 : Int32) &&& 31))) ||| (((nar .byte v3) &&& (255 : Int32)) <<< ((24 : Int32) &&& 31))))])) _
      refine XS.iloadN X140.here hx rfl (hb hby at_143) rfl  ?_
      show Steps p.tables e below (T140.setTop (mkF m 144 #[iv p0, iv p1, .val (.long q2), .second, iv (4 : Int32), rv b4] [(.int p0), (.int (((((nar .byte v0) &&& (255 : Int32)) ||| (((nar .byte v1) &&& (255 : Int32)) <<< ((8 : Int32) &&& 31))) ||| (((nar .byte v2) &&& (255 : Int32)) <<< ((16 : Int32) &&& 31))) ||| (((nar .byte v3) &&& (255 : Int32)) <<< ((24 : Int32) &&& 31))))])) _
      refine XS.icmpNo X140.here hx rfl (hb hby at_144) rfl (teq (by subst e_v0 e_v1 e_v2 e_v3; exact own_u32 p0 : (((((nar .byte v0) &&& (255 : Int32)) ||| (((nar .byte v1) &&& (255 : Int32)) <<< ((8 : Int32) &&& 31))) ||| (((nar .byte v2) &&& (255 : Int32)) <<< ((16 : Int32) &&& 31))) ||| (((nar .byte v3) &&& (255 : Int32)) <<< ((24 : Int32) &&& 31))) = p0)).2 ?_
      show Steps p.tables e below (T140.setTop (mkF m 147 #[iv p0, iv p1, .val (.long q2), .second, iv (4 : Int32), rv b4] [])) _
      refine XS.iconst X140.here hx rfl (hb hby at_147) ?_
      show Steps p.tables e below (T140.setTop (mkF m 148 #[iv p0, iv p1, .val (.long q2), .second, iv (4 : Int32), rv b4] [(.int (1 : Int32))])) _
      refine XS.goto X140.here hx rfl (pc0 := 148) (pc' := 152) rfl (hb hby at_148) (by decide) (by decide) ?_
      exact k)
    obtain ⟨fs, hr, hrun, hended, hW, hsame⟩ := X140.leave (v := some (.int (1 : Int32))) (fun h => by rw [Bd.returns] at h; cases h)
    refine ⟨_, _, pre0 _ (R142 _ ?_), hrun, hended, _, _, rfl, ?_, ⟨_, rfl⟩, hW, hsame.mono (by decide) (by decide)⟩
    · show Steps p.tables e below (T140.setTop (mkF m 152 #[iv p0, iv p1, .val (.long q2), .second, iv (4 : Int32), rv b4] [(.int (1 : Int32))])) _
      exact retN X140 hx (t := .boolean) Bd.returns (by simp) (hb hby at_152) hr
    · show Q_rmLaw Z p0 p1 q2 h0 n0 _ T140.heap _
      rw [p140_0]
      exact ⟨rfl, N140⟩
set_option maxRecDepth 65536 in
set_option maxHeartbeats 40000000 in
theorem comes_1 {Post : Tables → Env → Array Value → State → Outcome → State → Prop} (hpost : ∀ tb e args s v u, (limb_1_1.after args s (.returned v) u = true ∧ limb_1_2.after args s (.returned v) u = true ∧ True) → FrameEnd s (.returned v) u (Jvm.fieldLocs frame_1_writes args s ++ Jvm.arrayLocs frame_1_arrays args s ++ Jvm.staticLocs frame_1_statics s) 16 128 → Post tb e args s (.returned v) u) :
    ArmFor flags0 classFile x code maxLocals ret World_1 tables_1 room_1 Calls_1 rest_1 Pre_1 Post := by
  intro l hfl _ _ p e ha hc hk s m args below hf hA hF happ hP
  obtain ⟨hcalls, hrest, hpre⟩ := hP
  obtain ⟨-, -, -, hnamed, -, -, -, hat⟩ := (Spec.applies_iff hf).mp happ
  obtain ⟨hg, hn⟩ := and_e (Cond.before_iff.mp (show (Jvm.Cond.and given_1 narrow_1).before args s = true from hpre))
  obtain ⟨gg1, gg2⟩ := and_e hg
  obtain ⟨gg3, gg4⟩ := and_e gg2
  obtain ⟨gg5, gg6⟩ := and_e gg4
  obtain ⟨w0, w1, w2, rfl⟩ : ∃ w0 w1 w2 : Value, args = #[w0, w1, w2] := by
    have hs : args.size = 3 := by simpa [Cond.value, given_1] using gg1
    obtain ⟨L⟩ := args
    match L, hs with
    | [w0, w1, w2], _ => exact ⟨w0, w1, w2, rfl⟩
  have hw := fun d (hd : d ∈ tables_1) => atoms_spec (ws := Jvm.Cond.code x code maxLocals ret :: tables_1) hat d (List.mem_cons_of_mem _ hd)
  have hfit : Fit s := fun {y c} hc i hi => by
    obtain ⟨ha, rfl⟩ := Array.getElem?_eq_some_iff.mp hc
    have q := List.all_eq_true.mp ((Array.all_eq_true_iff_forall_mem.mp hF) _ (Array.getElem_mem ha)) i (List.mem_range.mpr hi)
    simpa [Array.getElem?_eq_getElem hi] using q
  obtain ⟨i0, ei0⟩ := is_v gg3
  obtain rfl : w0 = (.int i0) := Option.some.inj ei0
  obtain ⟨i1, ei1⟩ := is_v gg5
  obtain rfl : w1 = (.int i1) := Option.some.inj ei1
  obtain ⟨i2, ei2⟩ := isL_v gg6
  obtain rfl : w2 = (.long i2) := Option.some.inj ei2
  obtain ⟨n, o, h1, h2, h3, _, L, rfl, ⟨rfl, N⟩, hq⟩ := rmLaw l s _ hw tables_1 i0 i1 i2 s.heap s.heap.size (Nat.le_refl _) p e ha hc hk s m _ below hf ((Spec.applies_iff_loose hf).mp happ).1 ⟨rfl, State.Warmed39.refl s, rfl⟩ trivial
  refine ⟨n, _, h1, h2, h3, hpost _ _ _ _ _ _ ⟨Cond.after_iff.mpr rfl, Cond.after_iff.mpr (eq_i res_at (Term.int_eval (1)) rfl), trivial⟩ ⟨hq.1, hq.2.1, (hq.2.2.sift fun y hy => Or.inr (N y hy)).mono (by decide) (by decide)⟩⟩
theorem main_1_1 : Claimed_1_1 := comes_1 fun _ _ _ _ _ _ h hF => ⟨h.1, hF⟩
theorem main_1_2 : Claimed_1_2 := comes_1 fun _ _ _ _ _ _ h hF => ⟨h.2.1, hF⟩
end Jvm.Pilot.@@N@@
namespace Jvm.Pilot.@@N@@
open Jvm Jvm.ClassFile Sem Op Lib Jvm.Free Jvm.Stand Jvm.Pilot.@@N@@.Jvm.D
/-! MADE BY PROGRAM (witnessworld.py) out of the Statement's table words and the real class files: 9 classes; the members and pool entries that the words name. The judged class is class 1, her method 1. -/
namespace start1
open Jvm.ClassFile
def u (s : String) : CpInfo := .utf8 (stringToUtf16 s)
/-- a pool by its gaps: so many unusable entries, then the entry; so many at the end -/
def gap : Nat → List CpInfo → List CpInfo
  | 0, r => r
  | n + 1, r => .unusable :: gap n r
def poolList (es : List (Nat × CpInfo)) (last : Nat) : List CpInfo := es.foldr (fun e r => gap e.1 (e.2 :: r)) (gap last [])
def pool (es : List (Nat × CpInfo)) (last : Nat) : Array CpInfo := ⟨poolList es last⟩
def fileOf (pool : Array CpInfo) (this : Nat) (attrs : Array Attribute := #[]) (ms : Array MethodInfo := #[]) (fl : Nat := 33) (sup : Nat := 0) (ifs : Array Nat := #[]) (fds : Array FieldInfo := #[]) : ClassFile where
  minorVersion := 0
  majorVersion := 65
  constantPool := pool
  accessFlags := fl
  thisClass := this
  superClass := sup
  interfaces := ifs
  fields := fds
  methods := ms
  attributes := attrs
def plain (name : String) (sup : Option ClassId) : Class where
  name := name
  kind := .ordinary
  loader := none
  accessFlags := 33
  super := sup
  interfaces := #[]
  cf := none
  fields := #[]
  methods := #[]
  instanceTypes := #[]
  staticTypes := #[]
  resolved := #[]
  callSites := []
  init := .initialized
  statics := none
  mirror := none

def pool0 : Array CpInfo := pool [(5, u "<init>"), (0, u "()V"), (1, .class_ 10), (1, u "java/lang/Object")] 113

def k0m0 : Method := { name := "<init>", desc := "()V", sig := { parameters := [], returnType := none }, accessFlags := 1, code := none }
/-- java/lang/Object -/
def k0 : Class := { plain "java/lang/Object" none with
  accessFlags := 33
  interfaces := #[]
  cf := some (fileOf pool0 8 #[] #[{ accessFlags := 1, nameIndex := 5, descriptorIndex := 6, attributes := #[] }] 33 0 #[] #[])
  fields := #[]
  methods := #[k0m0]
  instanceTypes := #[]
  staticTypes := #[]
  resolved := Array.replicate 124 none
  statics := none }

def pool1 : Array CpInfo := pool [(2, .class_ 4), (1, u "java/lang/Object"), (0, u "<init>"), (0, u "()V"), (0, .integer 2147483647), (0, .methodref 9 10), (0, .class_ 11), (0, .nameAndType 12 13), (0, u "com/example/theuth/theuth/io/DexInput"), (0, u "uintAt"), (0, u "([BI)I"), (0, .class_ 15), (0, u "com/example/theuth/theuth/io/DexInputUintAtPinLaw"), (2, u "law"), (0, u "(IIJ)Z")] 5

def k1m0 : Method := { name := "<init>", desc := "()V", sig := { parameters := [], returnType := none }, accessFlags := 2, code := none }
def k1c1 : Code := { maxStack := 5, maxLocals := 6, code := code, exceptionTable := #[], attributes := #[] }
def k1m1 : Method := { name := "law", desc := "(IIJ)Z", sig := { parameters := [.int, .int, .long], returnType := some .boolean }, accessFlags := 9, code := some k1c1 }
/-- com/example/theuth/theuth/io/DexInputUintAtPinLaw -/
def k1 : Class := { plain "com/example/theuth/theuth/io/DexInputUintAtPinLaw" (some 0) with
  accessFlags := 49
  interfaces := #[]
  cf := some (fileOf pool1 14 #[] #[{ accessFlags := 2, nameIndex := 5, descriptorIndex := 6, attributes := #[] }, { accessFlags := 9, nameIndex := 18, descriptorIndex := 19, attributes := #[] }] 49 2 #[] #[])
  fields := #[]
  methods := #[k1m0, k1m1]
  instanceTypes := #[]
  staticTypes := #[]
  resolved := Array.replicate 25 none
  statics := none }

def pool2 : Array CpInfo := pool [(2, u "bytes"), (7, u "[B"), (1, .class_ 14), (1, u "com/example/theuth/theuth/io/DexInput"), (6, .class_ 23), (1, u "java/lang/Object"), (5, u "runs"), (0, u "Lcom/example/theuth/theuth/io/Mutf8Runs;"), (2, u "end"), (0, u "I"), (2, u "limit"), (2, u "origin"), (2, u "position"), (2, u "stopped"), (6, u "reachedLimit"), (0, u "Z"), (2, u "passed"), (49, u "uintAt"), (0, u "([BI)I"), (206, u "LEB128_MAX_BYTES"), (2, u "FIRST_UNITS"), (1, u "STEP_UNITS")] 80

def k2c0 : Code := { maxStack := 4, maxLocals := 2, code := prog_78_method_24_code, exceptionTable := #[], attributes := #[] }
def k2m0 : Method := { name := "uintAt", desc := "([BI)I", sig := { parameters := [(.array .byte), .int], returnType := some .int }, accessFlags := 8, code := some k2c0 }
/-- com/example/theuth/theuth/io/DexInput -/
def k2 : Class := { plain "com/example/theuth/theuth/io/DexInput" (some 0) with
  accessFlags := 49
  interfaces := #[]
  cf := some (fileOf pool2 12 #[] #[{ accessFlags := 8, nameIndex := 107, descriptorIndex := 108, attributes := #[] }] 49 21 #[] #[{ accessFlags := 26, nameIndex := 315, descriptorIndex := 34, attributes := #[] }, { accessFlags := 26, nameIndex := 318, descriptorIndex := 34, attributes := #[] }, { accessFlags := 26, nameIndex := 320, descriptorIndex := 34, attributes := #[] }, { accessFlags := 18, nameIndex := 2, descriptorIndex := 10, attributes := #[] }, { accessFlags := 18, nameIndex := 29, descriptorIndex := 30, attributes := #[] }, { accessFlags := 2, nameIndex := 33, descriptorIndex := 34, attributes := #[] }, { accessFlags := 2, nameIndex := 37, descriptorIndex := 34, attributes := #[] }, { accessFlags := 2, nameIndex := 53, descriptorIndex := 54, attributes := #[] }, { accessFlags := 2, nameIndex := 40, descriptorIndex := 34, attributes := #[] }, { accessFlags := 2, nameIndex := 43, descriptorIndex := 34, attributes := #[] }, { accessFlags := 2, nameIndex := 46, descriptorIndex := 34, attributes := #[] }, { accessFlags := 2, nameIndex := 57, descriptorIndex := 34, attributes := #[] }])
  fields := #[{ name := "LEB128_MAX_BYTES", type := .int, accessFlags := 26, slot := 0, constantValue := 0 }, { name := "FIRST_UNITS", type := .int, accessFlags := 26, slot := 1, constantValue := 0 }, { name := "STEP_UNITS", type := .int, accessFlags := 26, slot := 2, constantValue := 0 }, { name := "bytes", type := (.array .byte), accessFlags := 18, slot := 0, constantValue := 0 }, { name := "runs", type := (.object "com/example/theuth/theuth/io/Mutf8Runs"), accessFlags := 18, slot := 1, constantValue := 0 }, { name := "end", type := .int, accessFlags := 2, slot := 2, constantValue := 0 }, { name := "limit", type := .int, accessFlags := 2, slot := 3, constantValue := 0 }, { name := "reachedLimit", type := .boolean, accessFlags := 2, slot := 4, constantValue := 0 }, { name := "origin", type := .int, accessFlags := 2, slot := 5, constantValue := 0 }, { name := "position", type := .int, accessFlags := 2, slot := 6, constantValue := 0 }, { name := "stopped", type := .int, accessFlags := 2, slot := 7, constantValue := 0 }, { name := "passed", type := .int, accessFlags := 2, slot := 8, constantValue := 0 }]
  methods := #[k2m0]
  instanceTypes := #[(.array .byte), (.object "com/example/theuth/theuth/io/Mutf8Runs"), .int, .int, .boolean, .int, .int, .int, .int]
  staticTypes := #[.int, .int, .int]
  resolved := Array.replicate 401 none
  statics := none }

def pool3 : Array CpInfo := pool [(1, u "java/lang/Cloneable"), (0, .class_ 1), (0, u "java/lang/Object"), (0, .class_ 3)] 3

/-- java/lang/Cloneable -/
def k3 : Class := { plain "java/lang/Cloneable" (some 0) with
  accessFlags := 1537
  interfaces := #[]
  cf := some (fileOf pool3 2 #[] #[] 1537 4 #[] #[])
  fields := #[]
  methods := #[]
  instanceTypes := #[]
  staticTypes := #[]
  resolved := Array.replicate 8 none
  statics := none }

def pool4 : Array CpInfo := pool [(1, u "java/io/Serializable"), (0, .class_ 1), (0, u "java/lang/Object"), (0, .class_ 3)] 3

/-- java/io/Serializable -/
def k4 : Class := { plain "java/io/Serializable" (some 0) with
  accessFlags := 1537
  interfaces := #[]
  cf := some (fileOf pool4 2 #[] #[] 1537 4 #[] #[])
  fields := #[]
  methods := #[]
  instanceTypes := #[]
  staticTypes := #[]
  resolved := Array.replicate 8 none
  statics := none }

/-- the primitive byte -/
def k5 : Class := { plain "byte" none with kind := .primitive 'B', accessFlags := 0x411 }
/-- [B -/
def k6 : Class := { plain "[B" (some 0) with kind := .array 5 .byte, interfaces := #[3, 4], accessFlags := 1041 }

/-- the primitive int -/
def k7 : Class := { plain "int" none with kind := .primitive 'I', accessFlags := 0x411 }
/-- [I -/
def k8 : Class := { plain "[I" (some 0) with kind := .array 7 .int, interfaces := #[3, 4], accessFlags := 1041 }

def heap : Heap := #[]
def classes : Array Class := #[k0, k1, k2, k3, k4, k5, k6, k7, k8]
def interned : List (Array UInt16 × Addr) := []
def slotsUsed : Nat := 0
def theMethod : MethodId := ⟨1, 1⟩
def args0 : Array Value := #[.int 9, .int 3, .long 7]
def aboutOver (below : List Frame) : State where
  vm := { classes := classes, interned := interned.toArray }
  heap := heap
  slotsUsed := slotsUsed
  threads := #[{ frames := .invoking theMethod args0 :: below }]
def below0 : List Frame := [.native { method := ⟨0, 0⟩, args := #[] }]
def about1 : State := aboutOver below0
def p0 : Program := .bare "" "" ""
def e0 : Env := launch0.env 0 0 0
theorem w_frames : about1.frames = Frame.invoking theMethod args0 :: below0 := rfl
set_option maxRecDepth 65536 in
theorem w_args : argsFit about1.vm theMethod args0 = true := by decide +kernel
set_option maxRecDepth 65536 in
theorem w_heap : heapFits about1 = true := by decide +kernel
set_option maxRecDepth 65536 in
theorem w_runnable : about1.curStatus? = some .runnable := by decide +kernel
set_option maxRecDepth 65536 in
theorem w_alone : about1.alone = true := by decide +kernel
set_option maxRecDepth 65536 in
theorem w_named : about1.methodNamed? x = some theMethod := by decide +kernel
set_option maxRecDepth 65536 in
theorem w_hears : about1.hears theMethod below0 = true := by decide +kernel
set_option maxRecDepth 65536 in
theorem w_ripe : about1.ripe theMethod args0 below0 = true := by decide +kernel
theorem w_running : about1.status = .running := rfl
set_option maxRecDepth 65536 in
theorem w_room : about1.hasRoom e0.platform room_1 = true :=
  launch0.hasRoom_least _ room_1 (by decide +kernel) (by decide +kernel) (by decide +kernel) (by decide +kernel) (by decide +kernel) (by decide +kernel)
theorem allAtoms_all (ts : List Jvm.Cond) (a : Array Jvm.Value) (st : Jvm.State) : (allAtoms ts).before a st = ts.all (fun c => c.before a st) := by
  induction ts with
  | nil => rfl
  | cons c t ih =>
    show (Jvm.Cond.and c (allAtoms t)).before a st = _
    rw [Jvm.Cond.before_and, ih, List.all_cons]
def words1 : List Jvm.Cond := Jvm.Cond.code x code maxLocals ret :: tables_1
/-- a 'code' word, met by the world's own term for the bytes: nothing is compared byte by byte -/
theorem code_word {y : MethodName} {bytes : ByteArray} {mx : Nat} {rt : Option FieldType} {a : Array Value} {s : State} {m : MethodId} {meth : Method} {c : Code} (h1 : s.methodNamed? y = some m) (h2 : s.vm.method? m = some meth) (h3 : meth.code = some c) (h4 : c.code = bytes)
    (h5 : (c.maxLocals == mx && c.exceptionTable.isEmpty && decide (c.maxStack ≤ mostOperands) && decide (meth.sig.returnType = rt) && !meth.locks && decide (parseMethodDescriptor y.desc = some meth.sig)) = true) : (Jvm.Cond.code y bytes mx rt).before a s = true := by
  simp only [Bool.and_eq_true, beq_iff_eq, Bool.not_eq_true', decide_eq_true_eq] at h5
  obtain ⟨⟨⟨⟨⟨g1, g2⟩, g3⟩, g4⟩, g5⟩, g6⟩ := h5
  simp [Cond.before, Cond.holds, Cond.value, h1, h2, h3, h4, g1, g2, g3, g4, g5, g6]
def isCode : Jvm.Cond → Bool
  | .code _ _ _ _ => true
  | _ => false
theorem all_split {L : List Jvm.Cond} {P : Jvm.Cond → Bool} (h1 : L.all (fun c => isCode c || P c) = true) (h2 : ∀ c ∈ L.filter isCode, P c = true) : L.all P = true := by
  refine List.all_eq_true.mpr fun c hc => ?_
  have h := List.all_eq_true.mp h1 c hc
  rcases Bool.eq_false_or_eq_true (isCode c) with hi | hi
  · exact h2 c (List.mem_filter.mpr ⟨hc, hi⟩)
  · simpa [hi] using h
set_option maxRecDepth 65536 in
theorem w_c0 : (Jvm.Cond.code x code maxLocals ret).before args0 about1 = true := code_word (m := ⟨1, 1⟩) (meth := k1m1) (c := k1c1) (by decide +kernel) rfl rfl rfl (by decide +kernel)
set_option maxRecDepth 65536 in
theorem w_c1 : (Jvm.Cond.code ({ cls := "com/example/theuth/theuth/io/DexInput", name := "uintAt", desc := "([BI)I" } : Jvm.MethodName) prog_78_method_24_code (2 : Nat) (Option.some Jvm.ClassFile.FieldType.int)).before args0 about1 = true := code_word (m := ⟨2, 0⟩) (meth := k2m0) (c := k2c0) (by decide +kernel) rfl rfl rfl (by decide +kernel)
def codes1 : List Jvm.Cond := [Jvm.Cond.code x code maxLocals ret, Jvm.Cond.code ({ cls := "com/example/theuth/theuth/io/DexInput", name := "uintAt", desc := "([BI)I" } : Jvm.MethodName) prog_78_method_24_code (2 : Nat) (Option.some Jvm.ClassFile.FieldType.int)]
set_option maxRecDepth 65536 in
theorem codes_eq : words1.filter isCode = codes1 := rfl
theorem w_codes : ∀ c ∈ words1.filter isCode, c.before args0 about1 = true := by
  rw [codes_eq]
  intro c hc
  simp only [codes1, List.mem_cons, List.not_mem_nil, or_false] at hc
  rcases hc with rfl | rfl
  · exact w_c0
  · exact w_c1
set_option maxRecDepth 65536 in
theorem w_t1 : words1.all (fun c => isCode c || c.before args0 about1) = true := by decide +kernel
theorem w_tables : (allAtoms (Jvm.Cond.code x code maxLocals ret :: tables_1)).before args0 about1 = true := by
  rw [allAtoms_all]
  show words1.all (fun c => c.before args0 about1) = true
  refine all_split ?_ w_codes
  rw [w_t1]
set_option maxRecDepth 65536 in
theorem w_case : (Jvm.Cond.and given_1 narrow_1).before args0 about1 = true := by decide +kernel
theorem w_applies : (headSpec (Jvm.Cond.code x code maxLocals ret :: tables_1) room_1).applies x e0.platform about1 = true :=
  (Spec.applies_iff w_frames).mpr ⟨w_running, w_runnable, w_alone, w_named, w_hears, w_ripe, w_room, w_tables⟩
theorem atStart : AtStart classFile x code maxLocals ret World_1 tables_1 room_1 Calls_1 rest_1 Pre_1 launch0 p0 e0 about1 theMethod args0 below0 :=
  ⟨lists_1, trivial, launch0.admits_env _ _ _, launch0.least_env, fairChoices_fair.cas, fairChoices_fair.clock, w_frames, w_args, w_heap, w_applies, trivial, trivial, w_case⟩
end start1
theorem witness_1 : WitnessClaimed_1 := ⟨start1.p0, start1.e0, start1.about1, start1.theMethod, start1.args0, start1.below0, start1.atStart⟩
end Jvm.Pilot.@@N@@
