import JvmDerived
import JvmDerived.Pilot.@@N@@Statement
import JvmDerived.Pilot.@@N@@Code
set_option linter.unusedVariables false
set_option linter.unusedSimpArgs false
@@BLOCK:NumsL.lean.txt@@
namespace Jvm.Pilot.@@N@@
open Jvm Jvm.ClassFile Sem Op Lib Jvm.Free Jvm.Stand Jvm.LawKit Jvm.RoadKit Bundle Jvm.Pilot.@@N@@.Jvm.D
theorem own_sta {Z : State} {h h' : Heap} {C n d C' : String} {w : Value} {o : Addr} (F : Sta Z h C n d w) (K : Keep h h' [o]) (E : Exa Z h o C') : Sta Z h' C n d w := by
  obtain ⟨cf, i, k, f, st, cell, h1, h2, h3, h4, h5, h6, h7⟩ := F
  obtain ⟨ce, ke, e1, e2, e3, e4, e5⟩ := E
  refine ⟨cf, i, k, f, st, cell, h1, h2, h3, h4, K.2.1 st cell h5 (fun hm => ?_), h6, h7⟩
  cases List.mem_singleton.mp hm
  rw [e1] at h5; cases h5; rw [h6] at e4; cases e4
theorem own_fint {s : State} {args : Array Value} {t : Term} {C n d : String} {k : Int32} {w : Addr} (ht : t.eval args s none [] s = some (.ref w)) (h : (Jvm.Cond.eq (.field t C n d) (.int k)).value args s none s [] = some true) : Fld s s.heap w C n d (.int k) := by
  refine Fld.start ?_
  have e := fld_at (args := args) (first := s) (o := none) (idx := []) (s := s) (C := C) (n := n) (dd := d) ht
  obtain ⟨x, y, hx, hy, -, -⟩ := cmp_v (Or.inl h)
  rw [← e, hx]
  cases (Term.int_eval k).symm.trans hy
  cases x <;> simp [Jvm.Cond.value, hx, hy] at h
  rw [h]
theorem own_rem32 (x m : Int32) (hx : 0 ≤ x.toInt) : (x % m).toInt = x.toInt % m.toInt := by rw [Int32.toInt_mod, Int.tmod_eq_emod_of_nonneg hx]
theorem own_lc0 (x y : Int64) : (lcmpW x y < 0 ↔ x < y) ∧ (0 < lcmpW x y ↔ y < x) ∧ (lcmpW x y = 0 ↔ x = y) := by rw [lcW]; exact ⟨lc_lt x y, lc_gt x y, lc_eq x y⟩
theorem lcY_lt {x y : Int64} (h : x < y) : ifCond.holds .lt (lcmpW x y) = true := (if0 _ _).trans (tlt ((own_lc0 x y).1.mpr h)).1
theorem lcN_lt {x y : Int64} (h : ¬ x < y) : ifCond.holds .lt (lcmpW x y) = false := (if0 _ _).trans (flt fun q => h ((own_lc0 x y).1.mp q)).1
theorem lcN_ge {x y : Int64} (h : x < y) : ifCond.holds .ge (lcmpW x y) = false := (if0 _ _).trans (tlt ((own_lc0 x y).1.mpr h)).2.1
theorem lcY_ge {x y : Int64} (h : ¬ x < y) : ifCond.holds .ge (lcmpW x y) = true := (if0 _ _).trans (flt fun q => h ((own_lc0 x y).1.mp q)).2.1
theorem lcY_gt {x y : Int64} (h : y < x) : ifCond.holds .gt (lcmpW x y) = true := (if0 _ _).trans (tlt ((own_lc0 x y).2.1.mpr h)).2.2.1
theorem lcN_gt {x y : Int64} (h : ¬ y < x) : ifCond.holds .gt (lcmpW x y) = false := (if0 _ _).trans (flt fun q => h ((own_lc0 x y).2.1.mp q)).2.2.1
theorem lcN_le {x y : Int64} (h : y < x) : ifCond.holds .le (lcmpW x y) = false := (if0 _ _).trans (tlt ((own_lc0 x y).2.1.mpr h)).2.2.2
theorem lcY_le {x y : Int64} (h : ¬ y < x) : ifCond.holds .le (lcmpW x y) = true := (if0 _ _).trans (flt fun q => h ((own_lc0 x y).2.1.mp q)).2.2.2
theorem lcY_eq {x y : Int64} (h : x = y) : ifCond.holds .eq (lcmpW x y) = true := (if0 _ _).trans (teq ((own_lc0 x y).2.2.mpr h)).1
theorem lcN_eq {x y : Int64} (h : ¬ x = y) : ifCond.holds .eq (lcmpW x y) = false := (if0 _ _).trans (feq fun q => h ((own_lc0 x y).2.2.mp q)).1
theorem lcN_ne {x y : Int64} (h : x = y) : ifCond.holds .ne (lcmpW x y) = false := (if0 _ _).trans (teq ((own_lc0 x y).2.2.mpr h)).2
theorem lcY_ne {x y : Int64} (h : ¬ x = y) : ifCond.holds .ne (lcmpW x y) = true := (if0 _ _).trans (feq fun q => h ((own_lc0 x y).2.2.mp q)).2
def own_L (Z : State) (h : Heap) (a : Addr) (n : Int32) : Prop := ∃ (k : ClassId) (vs : List Value) (d : Value), Arv Z h a k .byte n vs d
theorem own_ftab : ∀ k : Fin 32, ¬ ((65535 : Int32) ^^^ ((1 : Int32) <<< (Int32.ofNat k.val))) = (65535 : Int32) := by decide +kernel
theorem own_flip (s : Int32) : ¬ ((65535 : Int32) ^^^ ((1 : Int32) <<< (s &&& 31))) = (65535 : Int32) := by
  have h : (s &&& (31 : Int32)).toInt = s.toInt % 2 ^ 5 := Jvm.Kit.i32_mask s (31 : Int32) (k := 5) (by decide) (by decide)
  have q : (s &&& (31 : Int32)) = Int32.ofNat (s.toInt % 2 ^ 5).toNat := by
    apply Int32.toInt_inj.mp
    rw [Int32.toInt_ofNat_small (by omega), h]; omega
  have t := own_ftab ⟨(s.toInt % 2 ^ 5).toNat, by omega⟩
  rw [← q] at t
  exact t
theorem d1_0 : decode method_3_code 0 = .ok (.aload_n 0, 1) := by decide +kernel
theorem d1_1 : decode method_3_code 1 = .ok (.iload_n 1, 1) := by decide +kernel
theorem d1_2 : decode method_3_code 2 = .ok (.iload_n 2, 1) := by decide +kernel
theorem d1_3 : decode method_3_code 3 = .ok (.bipush 24, 2) := by decide +kernel
theorem d1_5 : decode method_3_code 5 = .ok (.iushr, 1) := by decide +kernel
theorem d1_6 : decode method_3_code 6 = .ok (.i2b, 1) := by decide +kernel
theorem d1_7 : decode method_3_code 7 = .ok (.bastore, 1) := by decide +kernel
theorem d1_8 : decode method_3_code 8 = .ok (.aload_n 0, 1) := by decide +kernel
theorem d1_9 : decode method_3_code 9 = .ok (.iload_n 1, 1) := by decide +kernel
theorem d1_10 : decode method_3_code 10 = .ok (.iconst 1, 1) := by decide +kernel
theorem d1_11 : decode method_3_code 11 = .ok (.iadd, 1) := by decide +kernel
theorem d1_12 : decode method_3_code 12 = .ok (.iload_n 2, 1) := by decide +kernel
theorem d1_13 : decode method_3_code 13 = .ok (.bipush 16, 2) := by decide +kernel
theorem d1_15 : decode method_3_code 15 = .ok (.iushr, 1) := by decide +kernel
theorem d1_16 : decode method_3_code 16 = .ok (.i2b, 1) := by decide +kernel
theorem d1_17 : decode method_3_code 17 = .ok (.bastore, 1) := by decide +kernel
theorem d1_18 : decode method_3_code 18 = .ok (.aload_n 0, 1) := by decide +kernel
theorem d1_19 : decode method_3_code 19 = .ok (.iload_n 1, 1) := by decide +kernel
theorem d1_20 : decode method_3_code 20 = .ok (.iconst 2, 1) := by decide +kernel
theorem d1_21 : decode method_3_code 21 = .ok (.iadd, 1) := by decide +kernel
theorem d1_22 : decode method_3_code 22 = .ok (.iload_n 2, 1) := by decide +kernel
theorem d1_23 : decode method_3_code 23 = .ok (.bipush 8, 2) := by decide +kernel
theorem d1_25 : decode method_3_code 25 = .ok (.iushr, 1) := by decide +kernel
theorem d1_26 : decode method_3_code 26 = .ok (.i2b, 1) := by decide +kernel
theorem d1_27 : decode method_3_code 27 = .ok (.bastore, 1) := by decide +kernel
theorem d1_28 : decode method_3_code 28 = .ok (.aload_n 0, 1) := by decide +kernel
theorem d1_29 : decode method_3_code 29 = .ok (.iload_n 1, 1) := by decide +kernel
theorem d1_30 : decode method_3_code 30 = .ok (.iconst 3, 1) := by decide +kernel
theorem d1_31 : decode method_3_code 31 = .ok (.iadd, 1) := by decide +kernel
theorem d1_32 : decode method_3_code 32 = .ok (.iload_n 2, 1) := by decide +kernel
theorem d1_33 : decode method_3_code 33 = .ok (.i2b, 1) := by decide +kernel
theorem d1_34 : decode method_3_code 34 = .ok (.bastore, 1) := by decide +kernel
theorem d1_35 : decode method_3_code 35 = .ok (.return_, 1) := by decide +kernel
theorem pn_1 : plainName "com/example/flytrap/flytrap/net/IpAddressIsIpv6PinLaw" = true := by first | (simp [plainName, overriddenIn]; done) | decide +kernel
theorem ef_1_16_0 (m : MethodId) (ob0 : Addr) (p2 : Int32) : entryFrame m #[(.ref ob0), (.int (0 : Int32)), (.int p2)] 3 = mkF m 0 #[.val (.ref ob0), .val (.int (0 : Int32)), .val (.int p2)] [] := by first | (simp [entryFrame, mkF, argsToLocals, Value.category]; done) | rfl
def Q1_16_0 (Z : State) (ob0 : Addr) (p2 : Int32) (kk0 : ClassId) (x0_0 : Value) (x0_1 : Value) (x0_2 : Value) (x0_3 : Value) (x0_4 : Value) (x0_5 : Value) (x0_6 : Value) (x0_7 : Value) (x0_8 : Value) (x0_9 : Value) (x0_10 : Value) (x0_11 : Value) (x0_12 : Value) (x0_13 : Value) (x0_14 : Value) (x0_15 : Value) (h0 : Heap) (n0 : Nat) (v : Option Value) (h : Heap) (L : List Loc) : Prop := v = none ∧ Fr n0 L ∧ Keep h0 h [ob0] ∧ (∃ kk : ClassId, Arv Z h ob0 kk .byte (16 : Int32) [(.int (nar .byte (((p2.toUInt32 >>> ((24 : Int32) &&& 31).toUInt32).toInt32).toInt8.toInt32))), (.int (nar .byte (((p2.toUInt32 >>> ((16 : Int32) &&& 31).toUInt32).toInt32).toInt8.toInt32))), (.int (nar .byte (((p2.toUInt32 >>> ((8 : Int32) &&& 31).toUInt32).toInt32).toInt8.toInt32))), (.int (nar .byte (p2.toInt8.toInt32))), x0_4, x0_5, x0_6, x0_7, x0_8, x0_9, x0_10, x0_11, x0_12, x0_13, x0_14, x0_15] (.int (0 : Int32)))
set_option maxRecDepth 65536 in
set_option maxHeartbeats 40000000 in
theorem rm1_16_0 (l : Launch) (Z : State) (a0 : Array Value) (hw : ∀ d ∈ tables_1, d.before a0 Z = true) (ws : List Jvm.Cond) (ob0 : Addr) (p2 : Int32) (kk0 : ClassId) (x0_0 : Value) (x0_1 : Value) (x0_2 : Value) (x0_3 : Value) (x0_4 : Value) (x0_5 : Value) (x0_6 : Value) (x0_7 : Value) (x0_8 : Value) (x0_9 : Value) (x0_10 : Value) (x0_11 : Value) (x0_12 : Value) (x0_13 : Value) (x0_14 : Value) (x0_15 : Value) (h0 : Heap) (n0 : Nat) (Z0 : n0 ≤ h0.size) (V_ob0 : Arv Z h0 ob0 kk0 .byte (16 : Int32) [x0_0, x0_1, x0_2, x0_3, x0_4, x0_5, x0_6, x0_7, x0_8, x0_9, x0_10, x0_11, x0_12, x0_13, x0_14, x0_15] (.int (0 : Int32))) (g_ob0 : n0 ≤ ob0) :
    MetFree l (⟨"com/example/flytrap/flytrap/net/IpAddressIsIpv6PinLaw", "put", "([BII)V"⟩ : MethodName) (head1 (Jvm.Cond.code (⟨"com/example/flytrap/flytrap/net/IpAddressIsIpv6PinLaw", "put", "([BII)V"⟩ : MethodName) method_3_code 3 none :: ws) ({ frames := 0, cells := 0, slots := 0, locals := 0 } : Room)) (fun a U => a = #[(.ref ob0), (.int (0 : Int32)), (.int p2)] ∧ Z.Warmed39 U.vm ∧ U.heap = h0) (fun _ _ _ _ _ => True) (fun _ U o U' => ∃ v L, o = .returned v ∧ Q1_16_0 Z ob0 p2 kk0 x0_0 x0_1 x0_2 x0_3 x0_4 x0_5 x0_6 x0_7 x0_8 x0_9 x0_10 x0_11 x0_12 x0_13 x0_14 x0_15 h0 n0 v U'.heap L ∧ FrameEnd U o U' L ({ frames := 0, cells := 0, slots := 0, locals := 0 } : Room).cells ({ frames := 0, cells := 0, slots := 0, locals := 0 } : Room).slots) := by
  refine MetFree.of_bodySF (plainFor_of_name pn_1) hisR ?_
  intro p e s m args below meth c s₁ Bd hml0 hP hK
  obtain ⟨rfl, hZ, hh⟩ := hP
  have hx := Bd.exec
  have hby := Bd.bytes
  have hml : c.maxLocals = 3 := hml0
  have hown : s.vm.findClass "com/example/flytrap/flytrap/net/IpAddressIsIpv6PinLaw" = some m.cls := findClass_of_methodNamed Bd.named
  have hnm := (name_of_methodNamed Bd.named Bd.method).1
  have X0 : Stand p l e ({ frames := 0, cells := 0, slots := 0, locals := 0 } : Room) s m #[(.ref ob0), (.int (0 : Int32)), (.int p2)] below meth c s₁ [] 0 0 := Stand.of_body Bd
  have e0 : s₁.heap = h0 := by rw [← hh, Bd.state]; rfl
  have N0 := Fr.nil n0
  have pre0 : ∀ t, Steps p.tables e below (s₁.setTop (mkF m 0 #[.val (.ref ob0), .val (.int (0 : Int32)), .val (.int p2)] [])) t → Steps p.tables e below (s₁.setTop (entryFrame m #[(.ref ob0), (.int (0 : Int32)), (.int p2)] 3)) t := fun t k => castTop (ef_1_16_0 m ob0 p2) k
  obtain ⟨cl1, Ar1, qq1, Sz1, Ng1, Hs1, Gs1⟩ := id V_ob0
  have hin1 : ¬ ((0 : Int32) < 0 ∨ cl1.slots.size ≤ ((0 : Int32)).toNatClampNeg) := inb_of Sz1 ⟨by decide, by decide⟩
  obtain ⟨T2, h2, X2, e2, W2, st2⟩ := stB X0 hx hZ e0 Ar1 (j := (0 : Int32)) hin1 (g := (mkF m 7 #[.val (.ref ob0), .val (.int (0 : Int32)), .val (.int p2)] [(.int (((p2.toUInt32 >>> ((24 : Int32) &&& 31).toUInt32).toInt32).toInt8.toInt32)), (.int (0 : Int32)), (.ref ob0)])) rfl rfl (hb hby d1_7)
  have vV2 : Arv Z h2 ob0 _ .byte (16 : Int32) [(.int (nar .byte (((p2.toUInt32 >>> ((24 : Int32) &&& 31).toUInt32).toInt32).toInt8.toInt32))), x0_1, x0_2, x0_3, x0_4, x0_5, x0_6, x0_7, x0_8, x0_9, x0_10, x0_11, x0_12, x0_13, x0_14, x0_15] (.int (0 : Int32)) := Arv.set Ar1 qq1 Sz1 Ng1 Hs1 Gs1 (fits_nar_byte _) W2 0 rfl (Nat.le_of_ble_eq_true rfl)
  have N2 := Fr.snoc X2 N0 g_ob0
  have Z2 := Nat.le_trans Z0 (Keep.of_wr W2).1
  have K2 := (Keep.refl h0 [ob0]).wr W2 (Or.inl (List.mem_of_getElem? (i := 0) rfl))
  obtain ⟨cl3, Ar3, qq3, Sz3, Ng3, Hs3, Gs3⟩ := id vV2
  have hin3 : ¬ ((1 : Int32) < 0 ∨ cl3.slots.size ≤ ((1 : Int32)).toNatClampNeg) := inb_of Sz3 ⟨by decide, by decide⟩
  obtain ⟨T4, h4, X4, e4, W4, st4⟩ := stB X2 hx hZ e2 Ar3 (j := (1 : Int32)) hin3 (g := (mkF m 17 #[.val (.ref ob0), .val (.int (0 : Int32)), .val (.int p2)] [(.int (((p2.toUInt32 >>> ((16 : Int32) &&& 31).toUInt32).toInt32).toInt8.toInt32)), (.int (1 : Int32)), (.ref ob0)])) rfl rfl (hb hby d1_17)
  have vV4 : Arv Z h4 ob0 _ .byte (16 : Int32) [(.int (nar .byte (((p2.toUInt32 >>> ((24 : Int32) &&& 31).toUInt32).toInt32).toInt8.toInt32))), (.int (nar .byte (((p2.toUInt32 >>> ((16 : Int32) &&& 31).toUInt32).toInt32).toInt8.toInt32))), x0_2, x0_3, x0_4, x0_5, x0_6, x0_7, x0_8, x0_9, x0_10, x0_11, x0_12, x0_13, x0_14, x0_15] (.int (0 : Int32)) := Arv.set Ar3 qq3 Sz3 Ng3 Hs3 Gs3 (fits_nar_byte _) W4 1 rfl (Nat.le_of_ble_eq_true rfl)
  have N4 := Fr.snoc X4 N2 g_ob0
  have Z4 := Nat.le_trans Z2 (Keep.of_wr W4).1
  have K4 := K2.wr W4 (Or.inl (List.mem_of_getElem? (i := 0) rfl))
  obtain ⟨cl5, Ar5, qq5, Sz5, Ng5, Hs5, Gs5⟩ := id vV4
  have hin5 : ¬ ((2 : Int32) < 0 ∨ cl5.slots.size ≤ ((2 : Int32)).toNatClampNeg) := inb_of Sz5 ⟨by decide, by decide⟩
  obtain ⟨T6, h6, X6, e6, W6, st6⟩ := stB X4 hx hZ e4 Ar5 (j := (2 : Int32)) hin5 (g := (mkF m 27 #[.val (.ref ob0), .val (.int (0 : Int32)), .val (.int p2)] [(.int (((p2.toUInt32 >>> ((8 : Int32) &&& 31).toUInt32).toInt32).toInt8.toInt32)), (.int (2 : Int32)), (.ref ob0)])) rfl rfl (hb hby d1_27)
  have vV6 : Arv Z h6 ob0 _ .byte (16 : Int32) [(.int (nar .byte (((p2.toUInt32 >>> ((24 : Int32) &&& 31).toUInt32).toInt32).toInt8.toInt32))), (.int (nar .byte (((p2.toUInt32 >>> ((16 : Int32) &&& 31).toUInt32).toInt32).toInt8.toInt32))), (.int (nar .byte (((p2.toUInt32 >>> ((8 : Int32) &&& 31).toUInt32).toInt32).toInt8.toInt32))), x0_3, x0_4, x0_5, x0_6, x0_7, x0_8, x0_9, x0_10, x0_11, x0_12, x0_13, x0_14, x0_15] (.int (0 : Int32)) := Arv.set Ar5 qq5 Sz5 Ng5 Hs5 Gs5 (fits_nar_byte _) W6 2 rfl (Nat.le_of_ble_eq_true rfl)
  have N6 := Fr.snoc X6 N4 g_ob0
  have Z6 := Nat.le_trans Z4 (Keep.of_wr W6).1
  have K6 := K4.wr W6 (Or.inl (List.mem_of_getElem? (i := 0) rfl))
  obtain ⟨cl7, Ar7, qq7, Sz7, Ng7, Hs7, Gs7⟩ := id vV6
  have hin7 : ¬ ((3 : Int32) < 0 ∨ cl7.slots.size ≤ ((3 : Int32)).toNatClampNeg) := inb_of Sz7 ⟨by decide, by decide⟩
  obtain ⟨T8, h8, X8, e8, W8, st8⟩ := stB X6 hx hZ e6 Ar7 (j := (3 : Int32)) hin7 (g := (mkF m 34 #[.val (.ref ob0), .val (.int (0 : Int32)), .val (.int p2)] [(.int (p2.toInt8.toInt32)), (.int (3 : Int32)), (.ref ob0)])) rfl rfl (hb hby d1_34)
  have vV8 : Arv Z h8 ob0 _ .byte (16 : Int32) [(.int (nar .byte (((p2.toUInt32 >>> ((24 : Int32) &&& 31).toUInt32).toInt32).toInt8.toInt32))), (.int (nar .byte (((p2.toUInt32 >>> ((16 : Int32) &&& 31).toUInt32).toInt32).toInt8.toInt32))), (.int (nar .byte (((p2.toUInt32 >>> ((8 : Int32) &&& 31).toUInt32).toInt32).toInt8.toInt32))), (.int (nar .byte (p2.toInt8.toInt32))), x0_4, x0_5, x0_6, x0_7, x0_8, x0_9, x0_10, x0_11, x0_12, x0_13, x0_14, x0_15] (.int (0 : Int32)) := Arv.set Ar7 qq7 Sz7 Ng7 Hs7 Gs7 (fits_nar_byte _) W8 3 rfl (Nat.le_of_ble_eq_true rfl)
  have N8 := Fr.snoc X8 N6 g_ob0
  have Z8 := Nat.le_trans Z6 (Keep.of_wr W8).1
  have K8 := K6.wr W8 (Or.inl (List.mem_of_getElem? (i := 0) rfl))
  obtain ⟨fs, hr, hrun, hended, hW, hsame⟩ := X8.leave (v := none) (fun _ => rfl) (BodyLoose.notSynchronized Bd)
  refine ⟨_, _, pre0 _ ?_, hrun, hended, _, _, rfl, ?_, ⟨_, rfl⟩, hW, hsame.mono (by decide) (by decide)⟩
  · show Steps p.tables e below (s₁.setTop (mkF m 0 #[.val (.ref ob0), .val (.int (0 : Int32)), .val (.int p2)] [])) _
    refine XS.aloadN X0.here hx rfl (hb hby d1_0) rfl rfl ?_
    show Steps p.tables e below (s₁.setTop (mkF m 1 #[.val (.ref ob0), .val (.int (0 : Int32)), .val (.int p2)] [(.ref ob0)])) _
    refine XS.iloadN X0.here hx rfl (hb hby d1_1) rfl ?_
    show Steps p.tables e below (s₁.setTop (mkF m 2 #[.val (.ref ob0), .val (.int (0 : Int32)), .val (.int p2)] [(.int (0 : Int32)), (.ref ob0)])) _
    refine XS.iloadN X0.here hx rfl (hb hby d1_2) rfl ?_
    show Steps p.tables e below (s₁.setTop (mkF m 3 #[.val (.ref ob0), .val (.int (0 : Int32)), .val (.int p2)] [(.int p2), (.int (0 : Int32)), (.ref ob0)])) _
    refine XS.bipush X0.here hx rfl (hb hby d1_3) ?_
    show Steps p.tables e below (s₁.setTop (mkF m 5 #[.val (.ref ob0), .val (.int (0 : Int32)), .val (.int p2)] [(.int (24 : Int32)), (.int p2), (.int (0 : Int32)), (.ref ob0)])) _
    refine XS.iushr X0.here hx rfl (hb hby d1_5) rfl ?_
    show Steps p.tables e below (s₁.setTop (mkF m 6 #[.val (.ref ob0), .val (.int (0 : Int32)), .val (.int p2)] [(.int ((p2.toUInt32 >>> ((24 : Int32) &&& 31).toUInt32).toInt32)), (.int (0 : Int32)), (.ref ob0)])) _
    refine XS.i2b X0.here hx rfl (hb hby d1_6) rfl ?_
    show Steps p.tables e below (s₁.setTop (mkF m 7 #[.val (.ref ob0), .val (.int (0 : Int32)), .val (.int p2)] [(.int (((p2.toUInt32 >>> ((24 : Int32) &&& 31).toUInt32).toInt32).toInt8.toInt32)), (.int (0 : Int32)), (.ref ob0)])) _
    refine st2 _ ?_
    show Steps p.tables e below (T2.setTop (mkF m 8 #[.val (.ref ob0), .val (.int (0 : Int32)), .val (.int p2)] [])) _
    refine XS.aloadN X2.here hx rfl (hb hby d1_8) rfl rfl ?_
    show Steps p.tables e below (T2.setTop (mkF m 9 #[.val (.ref ob0), .val (.int (0 : Int32)), .val (.int p2)] [(.ref ob0)])) _
    refine XS.iloadN X2.here hx rfl (hb hby d1_9) rfl ?_
    show Steps p.tables e below (T2.setTop (mkF m 10 #[.val (.ref ob0), .val (.int (0 : Int32)), .val (.int p2)] [(.int (0 : Int32)), (.ref ob0)])) _
    refine XS.iconst X2.here hx rfl (hb hby d1_10) ?_
    show Steps p.tables e below (T2.setTop (mkF m 11 #[.val (.ref ob0), .val (.int (0 : Int32)), .val (.int p2)] [(.int (1 : Int32)), (.int (0 : Int32)), (.ref ob0)])) _
    refine XS.iadd X2.here hx rfl (hb hby d1_11) rfl ?_
    show Steps p.tables e below (T2.setTop (mkF m 12 #[.val (.ref ob0), .val (.int (0 : Int32)), .val (.int p2)] [(.int (1 : Int32)), (.ref ob0)])) _
    refine XS.iloadN X2.here hx rfl (hb hby d1_12) rfl ?_
    show Steps p.tables e below (T2.setTop (mkF m 13 #[.val (.ref ob0), .val (.int (0 : Int32)), .val (.int p2)] [(.int p2), (.int (1 : Int32)), (.ref ob0)])) _
    refine XS.bipush X2.here hx rfl (hb hby d1_13) ?_
    show Steps p.tables e below (T2.setTop (mkF m 15 #[.val (.ref ob0), .val (.int (0 : Int32)), .val (.int p2)] [(.int (16 : Int32)), (.int p2), (.int (1 : Int32)), (.ref ob0)])) _
    refine XS.iushr X2.here hx rfl (hb hby d1_15) rfl ?_
    show Steps p.tables e below (T2.setTop (mkF m 16 #[.val (.ref ob0), .val (.int (0 : Int32)), .val (.int p2)] [(.int ((p2.toUInt32 >>> ((16 : Int32) &&& 31).toUInt32).toInt32)), (.int (1 : Int32)), (.ref ob0)])) _
    refine XS.i2b X2.here hx rfl (hb hby d1_16) rfl ?_
    show Steps p.tables e below (T2.setTop (mkF m 17 #[.val (.ref ob0), .val (.int (0 : Int32)), .val (.int p2)] [(.int (((p2.toUInt32 >>> ((16 : Int32) &&& 31).toUInt32).toInt32).toInt8.toInt32)), (.int (1 : Int32)), (.ref ob0)])) _
    refine st4 _ ?_
    show Steps p.tables e below (T4.setTop (mkF m 18 #[.val (.ref ob0), .val (.int (0 : Int32)), .val (.int p2)] [])) _
    refine XS.aloadN X4.here hx rfl (hb hby d1_18) rfl rfl ?_
    show Steps p.tables e below (T4.setTop (mkF m 19 #[.val (.ref ob0), .val (.int (0 : Int32)), .val (.int p2)] [(.ref ob0)])) _
    refine XS.iloadN X4.here hx rfl (hb hby d1_19) rfl ?_
    show Steps p.tables e below (T4.setTop (mkF m 20 #[.val (.ref ob0), .val (.int (0 : Int32)), .val (.int p2)] [(.int (0 : Int32)), (.ref ob0)])) _
    refine XS.iconst X4.here hx rfl (hb hby d1_20) ?_
    show Steps p.tables e below (T4.setTop (mkF m 21 #[.val (.ref ob0), .val (.int (0 : Int32)), .val (.int p2)] [(.int (2 : Int32)), (.int (0 : Int32)), (.ref ob0)])) _
    refine XS.iadd X4.here hx rfl (hb hby d1_21) rfl ?_
    show Steps p.tables e below (T4.setTop (mkF m 22 #[.val (.ref ob0), .val (.int (0 : Int32)), .val (.int p2)] [(.int (2 : Int32)), (.ref ob0)])) _
    refine XS.iloadN X4.here hx rfl (hb hby d1_22) rfl ?_
    show Steps p.tables e below (T4.setTop (mkF m 23 #[.val (.ref ob0), .val (.int (0 : Int32)), .val (.int p2)] [(.int p2), (.int (2 : Int32)), (.ref ob0)])) _
    refine XS.bipush X4.here hx rfl (hb hby d1_23) ?_
    show Steps p.tables e below (T4.setTop (mkF m 25 #[.val (.ref ob0), .val (.int (0 : Int32)), .val (.int p2)] [(.int (8 : Int32)), (.int p2), (.int (2 : Int32)), (.ref ob0)])) _
    refine XS.iushr X4.here hx rfl (hb hby d1_25) rfl ?_
    show Steps p.tables e below (T4.setTop (mkF m 26 #[.val (.ref ob0), .val (.int (0 : Int32)), .val (.int p2)] [(.int ((p2.toUInt32 >>> ((8 : Int32) &&& 31).toUInt32).toInt32)), (.int (2 : Int32)), (.ref ob0)])) _
    refine XS.i2b X4.here hx rfl (hb hby d1_26) rfl ?_
    show Steps p.tables e below (T4.setTop (mkF m 27 #[.val (.ref ob0), .val (.int (0 : Int32)), .val (.int p2)] [(.int (((p2.toUInt32 >>> ((8 : Int32) &&& 31).toUInt32).toInt32).toInt8.toInt32)), (.int (2 : Int32)), (.ref ob0)])) _
    refine st6 _ ?_
    show Steps p.tables e below (T6.setTop (mkF m 28 #[.val (.ref ob0), .val (.int (0 : Int32)), .val (.int p2)] [])) _
    refine XS.aloadN X6.here hx rfl (hb hby d1_28) rfl rfl ?_
    show Steps p.tables e below (T6.setTop (mkF m 29 #[.val (.ref ob0), .val (.int (0 : Int32)), .val (.int p2)] [(.ref ob0)])) _
    refine XS.iloadN X6.here hx rfl (hb hby d1_29) rfl ?_
    show Steps p.tables e below (T6.setTop (mkF m 30 #[.val (.ref ob0), .val (.int (0 : Int32)), .val (.int p2)] [(.int (0 : Int32)), (.ref ob0)])) _
    refine XS.iconst X6.here hx rfl (hb hby d1_30) ?_
    show Steps p.tables e below (T6.setTop (mkF m 31 #[.val (.ref ob0), .val (.int (0 : Int32)), .val (.int p2)] [(.int (3 : Int32)), (.int (0 : Int32)), (.ref ob0)])) _
    refine XS.iadd X6.here hx rfl (hb hby d1_31) rfl ?_
    show Steps p.tables e below (T6.setTop (mkF m 32 #[.val (.ref ob0), .val (.int (0 : Int32)), .val (.int p2)] [(.int (3 : Int32)), (.ref ob0)])) _
    refine XS.iloadN X6.here hx rfl (hb hby d1_32) rfl ?_
    show Steps p.tables e below (T6.setTop (mkF m 33 #[.val (.ref ob0), .val (.int (0 : Int32)), .val (.int p2)] [(.int p2), (.int (3 : Int32)), (.ref ob0)])) _
    refine XS.i2b X6.here hx rfl (hb hby d1_33) rfl ?_
    show Steps p.tables e below (T6.setTop (mkF m 34 #[.val (.ref ob0), .val (.int (0 : Int32)), .val (.int p2)] [(.int (p2.toInt8.toInt32)), (.int (3 : Int32)), (.ref ob0)])) _
    refine st8 _ ?_
    show Steps p.tables e below (T8.setTop (mkF m 35 #[.val (.ref ob0), .val (.int (0 : Int32)), .val (.int p2)] [])) _
    exact X8.returnOut hx Bd.returns (hb hby d1_35) hr
  · show Q1_16_0 Z ob0 p2 kk0 x0_0 x0_1 x0_2 x0_3 x0_4 x0_5 x0_6 x0_7 x0_8 x0_9 x0_10 x0_11 x0_12 x0_13 x0_14 x0_15 h0 n0 _ T8.heap _
    rw [e8]
    exact ⟨rfl, N8, K8, ⟨_, vV8⟩⟩
theorem pd_0 : parseMethodDescriptor "([BII)V" = some ⟨[(.array .byte), .int, .int], none⟩ := by decide +kernel
theorem ef_1_16_4 (m : MethodId) (ob0 : Addr) (p2 : Int32) : entryFrame m #[(.ref ob0), (.int (4 : Int32)), (.int p2)] 3 = mkF m 0 #[.val (.ref ob0), .val (.int (4 : Int32)), .val (.int p2)] [] := by first | (simp [entryFrame, mkF, argsToLocals, Value.category]; done) | rfl
def Q1_16_4 (Z : State) (ob0 : Addr) (p2 : Int32) (kk0 : ClassId) (x0_0 : Value) (x0_1 : Value) (x0_2 : Value) (x0_3 : Value) (x0_4 : Value) (x0_5 : Value) (x0_6 : Value) (x0_7 : Value) (x0_8 : Value) (x0_9 : Value) (x0_10 : Value) (x0_11 : Value) (x0_12 : Value) (x0_13 : Value) (x0_14 : Value) (x0_15 : Value) (h0 : Heap) (n0 : Nat) (v : Option Value) (h : Heap) (L : List Loc) : Prop := v = none ∧ Fr n0 L ∧ Keep h0 h [ob0] ∧ (∃ kk : ClassId, Arv Z h ob0 kk .byte (16 : Int32) [x0_0, x0_1, x0_2, x0_3, (.int (nar .byte (((p2.toUInt32 >>> ((24 : Int32) &&& 31).toUInt32).toInt32).toInt8.toInt32))), (.int (nar .byte (((p2.toUInt32 >>> ((16 : Int32) &&& 31).toUInt32).toInt32).toInt8.toInt32))), (.int (nar .byte (((p2.toUInt32 >>> ((8 : Int32) &&& 31).toUInt32).toInt32).toInt8.toInt32))), (.int (nar .byte (p2.toInt8.toInt32))), x0_8, x0_9, x0_10, x0_11, x0_12, x0_13, x0_14, x0_15] (.int (0 : Int32)))
set_option maxRecDepth 65536 in
set_option maxHeartbeats 40000000 in
theorem rm1_16_4 (l : Launch) (Z : State) (a0 : Array Value) (hw : ∀ d ∈ tables_1, d.before a0 Z = true) (ws : List Jvm.Cond) (ob0 : Addr) (p2 : Int32) (kk0 : ClassId) (x0_0 : Value) (x0_1 : Value) (x0_2 : Value) (x0_3 : Value) (x0_4 : Value) (x0_5 : Value) (x0_6 : Value) (x0_7 : Value) (x0_8 : Value) (x0_9 : Value) (x0_10 : Value) (x0_11 : Value) (x0_12 : Value) (x0_13 : Value) (x0_14 : Value) (x0_15 : Value) (h0 : Heap) (n0 : Nat) (Z0 : n0 ≤ h0.size) (V_ob0 : Arv Z h0 ob0 kk0 .byte (16 : Int32) [x0_0, x0_1, x0_2, x0_3, x0_4, x0_5, x0_6, x0_7, x0_8, x0_9, x0_10, x0_11, x0_12, x0_13, x0_14, x0_15] (.int (0 : Int32))) (g_ob0 : n0 ≤ ob0) :
    MetFree l (⟨"com/example/flytrap/flytrap/net/IpAddressIsIpv6PinLaw", "put", "([BII)V"⟩ : MethodName) (head1 (Jvm.Cond.code (⟨"com/example/flytrap/flytrap/net/IpAddressIsIpv6PinLaw", "put", "([BII)V"⟩ : MethodName) method_3_code 3 none :: ws) ({ frames := 0, cells := 0, slots := 0, locals := 0 } : Room)) (fun a U => a = #[(.ref ob0), (.int (4 : Int32)), (.int p2)] ∧ Z.Warmed39 U.vm ∧ U.heap = h0) (fun _ _ _ _ _ => True) (fun _ U o U' => ∃ v L, o = .returned v ∧ Q1_16_4 Z ob0 p2 kk0 x0_0 x0_1 x0_2 x0_3 x0_4 x0_5 x0_6 x0_7 x0_8 x0_9 x0_10 x0_11 x0_12 x0_13 x0_14 x0_15 h0 n0 v U'.heap L ∧ FrameEnd U o U' L ({ frames := 0, cells := 0, slots := 0, locals := 0 } : Room).cells ({ frames := 0, cells := 0, slots := 0, locals := 0 } : Room).slots) := by
  refine MetFree.of_bodySF (plainFor_of_name pn_1) hisR ?_
  intro p e s m args below meth c s₁ Bd hml0 hP hK
  obtain ⟨rfl, hZ, hh⟩ := hP
  have hx := Bd.exec
  have hby := Bd.bytes
  have hml : c.maxLocals = 3 := hml0
  have hown : s.vm.findClass "com/example/flytrap/flytrap/net/IpAddressIsIpv6PinLaw" = some m.cls := findClass_of_methodNamed Bd.named
  have hnm := (name_of_methodNamed Bd.named Bd.method).1
  have X0 : Stand p l e ({ frames := 0, cells := 0, slots := 0, locals := 0 } : Room) s m #[(.ref ob0), (.int (4 : Int32)), (.int p2)] below meth c s₁ [] 0 0 := Stand.of_body Bd
  have e0 : s₁.heap = h0 := by rw [← hh, Bd.state]; rfl
  have N0 := Fr.nil n0
  have pre0 : ∀ t, Steps p.tables e below (s₁.setTop (mkF m 0 #[.val (.ref ob0), .val (.int (4 : Int32)), .val (.int p2)] [])) t → Steps p.tables e below (s₁.setTop (entryFrame m #[(.ref ob0), (.int (4 : Int32)), (.int p2)] 3)) t := fun t k => castTop (ef_1_16_4 m ob0 p2) k
  obtain ⟨cl1, Ar1, qq1, Sz1, Ng1, Hs1, Gs1⟩ := id V_ob0
  have hin1 : ¬ ((4 : Int32) < 0 ∨ cl1.slots.size ≤ ((4 : Int32)).toNatClampNeg) := inb_of Sz1 ⟨by decide, by decide⟩
  obtain ⟨T2, h2, X2, e2, W2, st2⟩ := stB X0 hx hZ e0 Ar1 (j := (4 : Int32)) hin1 (g := (mkF m 7 #[.val (.ref ob0), .val (.int (4 : Int32)), .val (.int p2)] [(.int (((p2.toUInt32 >>> ((24 : Int32) &&& 31).toUInt32).toInt32).toInt8.toInt32)), (.int (4 : Int32)), (.ref ob0)])) rfl rfl (hb hby d1_7)
  have vV2 : Arv Z h2 ob0 _ .byte (16 : Int32) [x0_0, x0_1, x0_2, x0_3, (.int (nar .byte (((p2.toUInt32 >>> ((24 : Int32) &&& 31).toUInt32).toInt32).toInt8.toInt32))), x0_5, x0_6, x0_7, x0_8, x0_9, x0_10, x0_11, x0_12, x0_13, x0_14, x0_15] (.int (0 : Int32)) := Arv.set Ar1 qq1 Sz1 Ng1 Hs1 Gs1 (fits_nar_byte _) W2 4 rfl (Nat.le_of_ble_eq_true rfl)
  have N2 := Fr.snoc X2 N0 g_ob0
  have Z2 := Nat.le_trans Z0 (Keep.of_wr W2).1
  have K2 := (Keep.refl h0 [ob0]).wr W2 (Or.inl (List.mem_of_getElem? (i := 0) rfl))
  obtain ⟨cl3, Ar3, qq3, Sz3, Ng3, Hs3, Gs3⟩ := id vV2
  have hin3 : ¬ ((5 : Int32) < 0 ∨ cl3.slots.size ≤ ((5 : Int32)).toNatClampNeg) := inb_of Sz3 ⟨by decide, by decide⟩
  obtain ⟨T4, h4, X4, e4, W4, st4⟩ := stB X2 hx hZ e2 Ar3 (j := (5 : Int32)) hin3 (g := (mkF m 17 #[.val (.ref ob0), .val (.int (4 : Int32)), .val (.int p2)] [(.int (((p2.toUInt32 >>> ((16 : Int32) &&& 31).toUInt32).toInt32).toInt8.toInt32)), (.int (5 : Int32)), (.ref ob0)])) rfl rfl (hb hby d1_17)
  have vV4 : Arv Z h4 ob0 _ .byte (16 : Int32) [x0_0, x0_1, x0_2, x0_3, (.int (nar .byte (((p2.toUInt32 >>> ((24 : Int32) &&& 31).toUInt32).toInt32).toInt8.toInt32))), (.int (nar .byte (((p2.toUInt32 >>> ((16 : Int32) &&& 31).toUInt32).toInt32).toInt8.toInt32))), x0_6, x0_7, x0_8, x0_9, x0_10, x0_11, x0_12, x0_13, x0_14, x0_15] (.int (0 : Int32)) := Arv.set Ar3 qq3 Sz3 Ng3 Hs3 Gs3 (fits_nar_byte _) W4 5 rfl (Nat.le_of_ble_eq_true rfl)
  have N4 := Fr.snoc X4 N2 g_ob0
  have Z4 := Nat.le_trans Z2 (Keep.of_wr W4).1
  have K4 := K2.wr W4 (Or.inl (List.mem_of_getElem? (i := 0) rfl))
  obtain ⟨cl5, Ar5, qq5, Sz5, Ng5, Hs5, Gs5⟩ := id vV4
  have hin5 : ¬ ((6 : Int32) < 0 ∨ cl5.slots.size ≤ ((6 : Int32)).toNatClampNeg) := inb_of Sz5 ⟨by decide, by decide⟩
  obtain ⟨T6, h6, X6, e6, W6, st6⟩ := stB X4 hx hZ e4 Ar5 (j := (6 : Int32)) hin5 (g := (mkF m 27 #[.val (.ref ob0), .val (.int (4 : Int32)), .val (.int p2)] [(.int (((p2.toUInt32 >>> ((8 : Int32) &&& 31).toUInt32).toInt32).toInt8.toInt32)), (.int (6 : Int32)), (.ref ob0)])) rfl rfl (hb hby d1_27)
  have vV6 : Arv Z h6 ob0 _ .byte (16 : Int32) [x0_0, x0_1, x0_2, x0_3, (.int (nar .byte (((p2.toUInt32 >>> ((24 : Int32) &&& 31).toUInt32).toInt32).toInt8.toInt32))), (.int (nar .byte (((p2.toUInt32 >>> ((16 : Int32) &&& 31).toUInt32).toInt32).toInt8.toInt32))), (.int (nar .byte (((p2.toUInt32 >>> ((8 : Int32) &&& 31).toUInt32).toInt32).toInt8.toInt32))), x0_7, x0_8, x0_9, x0_10, x0_11, x0_12, x0_13, x0_14, x0_15] (.int (0 : Int32)) := Arv.set Ar5 qq5 Sz5 Ng5 Hs5 Gs5 (fits_nar_byte _) W6 6 rfl (Nat.le_of_ble_eq_true rfl)
  have N6 := Fr.snoc X6 N4 g_ob0
  have Z6 := Nat.le_trans Z4 (Keep.of_wr W6).1
  have K6 := K4.wr W6 (Or.inl (List.mem_of_getElem? (i := 0) rfl))
  obtain ⟨cl7, Ar7, qq7, Sz7, Ng7, Hs7, Gs7⟩ := id vV6
  have hin7 : ¬ ((7 : Int32) < 0 ∨ cl7.slots.size ≤ ((7 : Int32)).toNatClampNeg) := inb_of Sz7 ⟨by decide, by decide⟩
  obtain ⟨T8, h8, X8, e8, W8, st8⟩ := stB X6 hx hZ e6 Ar7 (j := (7 : Int32)) hin7 (g := (mkF m 34 #[.val (.ref ob0), .val (.int (4 : Int32)), .val (.int p2)] [(.int (p2.toInt8.toInt32)), (.int (7 : Int32)), (.ref ob0)])) rfl rfl (hb hby d1_34)
  have vV8 : Arv Z h8 ob0 _ .byte (16 : Int32) [x0_0, x0_1, x0_2, x0_3, (.int (nar .byte (((p2.toUInt32 >>> ((24 : Int32) &&& 31).toUInt32).toInt32).toInt8.toInt32))), (.int (nar .byte (((p2.toUInt32 >>> ((16 : Int32) &&& 31).toUInt32).toInt32).toInt8.toInt32))), (.int (nar .byte (((p2.toUInt32 >>> ((8 : Int32) &&& 31).toUInt32).toInt32).toInt8.toInt32))), (.int (nar .byte (p2.toInt8.toInt32))), x0_8, x0_9, x0_10, x0_11, x0_12, x0_13, x0_14, x0_15] (.int (0 : Int32)) := Arv.set Ar7 qq7 Sz7 Ng7 Hs7 Gs7 (fits_nar_byte _) W8 7 rfl (Nat.le_of_ble_eq_true rfl)
  have N8 := Fr.snoc X8 N6 g_ob0
  have Z8 := Nat.le_trans Z6 (Keep.of_wr W8).1
  have K8 := K6.wr W8 (Or.inl (List.mem_of_getElem? (i := 0) rfl))
  obtain ⟨fs, hr, hrun, hended, hW, hsame⟩ := X8.leave (v := none) (fun _ => rfl) (BodyLoose.notSynchronized Bd)
  refine ⟨_, _, pre0 _ ?_, hrun, hended, _, _, rfl, ?_, ⟨_, rfl⟩, hW, hsame.mono (by decide) (by decide)⟩
  · show Steps p.tables e below (s₁.setTop (mkF m 0 #[.val (.ref ob0), .val (.int (4 : Int32)), .val (.int p2)] [])) _
    refine XS.aloadN X0.here hx rfl (hb hby d1_0) rfl rfl ?_
    show Steps p.tables e below (s₁.setTop (mkF m 1 #[.val (.ref ob0), .val (.int (4 : Int32)), .val (.int p2)] [(.ref ob0)])) _
    refine XS.iloadN X0.here hx rfl (hb hby d1_1) rfl ?_
    show Steps p.tables e below (s₁.setTop (mkF m 2 #[.val (.ref ob0), .val (.int (4 : Int32)), .val (.int p2)] [(.int (4 : Int32)), (.ref ob0)])) _
    refine XS.iloadN X0.here hx rfl (hb hby d1_2) rfl ?_
    show Steps p.tables e below (s₁.setTop (mkF m 3 #[.val (.ref ob0), .val (.int (4 : Int32)), .val (.int p2)] [(.int p2), (.int (4 : Int32)), (.ref ob0)])) _
    refine XS.bipush X0.here hx rfl (hb hby d1_3) ?_
    show Steps p.tables e below (s₁.setTop (mkF m 5 #[.val (.ref ob0), .val (.int (4 : Int32)), .val (.int p2)] [(.int (24 : Int32)), (.int p2), (.int (4 : Int32)), (.ref ob0)])) _
    refine XS.iushr X0.here hx rfl (hb hby d1_5) rfl ?_
    show Steps p.tables e below (s₁.setTop (mkF m 6 #[.val (.ref ob0), .val (.int (4 : Int32)), .val (.int p2)] [(.int ((p2.toUInt32 >>> ((24 : Int32) &&& 31).toUInt32).toInt32)), (.int (4 : Int32)), (.ref ob0)])) _
    refine XS.i2b X0.here hx rfl (hb hby d1_6) rfl ?_
    show Steps p.tables e below (s₁.setTop (mkF m 7 #[.val (.ref ob0), .val (.int (4 : Int32)), .val (.int p2)] [(.int (((p2.toUInt32 >>> ((24 : Int32) &&& 31).toUInt32).toInt32).toInt8.toInt32)), (.int (4 : Int32)), (.ref ob0)])) _
    refine st2 _ ?_
    show Steps p.tables e below (T2.setTop (mkF m 8 #[.val (.ref ob0), .val (.int (4 : Int32)), .val (.int p2)] [])) _
    refine XS.aloadN X2.here hx rfl (hb hby d1_8) rfl rfl ?_
    show Steps p.tables e below (T2.setTop (mkF m 9 #[.val (.ref ob0), .val (.int (4 : Int32)), .val (.int p2)] [(.ref ob0)])) _
    refine XS.iloadN X2.here hx rfl (hb hby d1_9) rfl ?_
    show Steps p.tables e below (T2.setTop (mkF m 10 #[.val (.ref ob0), .val (.int (4 : Int32)), .val (.int p2)] [(.int (4 : Int32)), (.ref ob0)])) _
    refine XS.iconst X2.here hx rfl (hb hby d1_10) ?_
    show Steps p.tables e below (T2.setTop (mkF m 11 #[.val (.ref ob0), .val (.int (4 : Int32)), .val (.int p2)] [(.int (1 : Int32)), (.int (4 : Int32)), (.ref ob0)])) _
    refine XS.iadd X2.here hx rfl (hb hby d1_11) rfl ?_
    show Steps p.tables e below (T2.setTop (mkF m 12 #[.val (.ref ob0), .val (.int (4 : Int32)), .val (.int p2)] [(.int (5 : Int32)), (.ref ob0)])) _
    refine XS.iloadN X2.here hx rfl (hb hby d1_12) rfl ?_
    show Steps p.tables e below (T2.setTop (mkF m 13 #[.val (.ref ob0), .val (.int (4 : Int32)), .val (.int p2)] [(.int p2), (.int (5 : Int32)), (.ref ob0)])) _
    refine XS.bipush X2.here hx rfl (hb hby d1_13) ?_
    show Steps p.tables e below (T2.setTop (mkF m 15 #[.val (.ref ob0), .val (.int (4 : Int32)), .val (.int p2)] [(.int (16 : Int32)), (.int p2), (.int (5 : Int32)), (.ref ob0)])) _
    refine XS.iushr X2.here hx rfl (hb hby d1_15) rfl ?_
    show Steps p.tables e below (T2.setTop (mkF m 16 #[.val (.ref ob0), .val (.int (4 : Int32)), .val (.int p2)] [(.int ((p2.toUInt32 >>> ((16 : Int32) &&& 31).toUInt32).toInt32)), (.int (5 : Int32)), (.ref ob0)])) _
    refine XS.i2b X2.here hx rfl (hb hby d1_16) rfl ?_
    show Steps p.tables e below (T2.setTop (mkF m 17 #[.val (.ref ob0), .val (.int (4 : Int32)), .val (.int p2)] [(.int (((p2.toUInt32 >>> ((16 : Int32) &&& 31).toUInt32).toInt32).toInt8.toInt32)), (.int (5 : Int32)), (.ref ob0)])) _
    refine st4 _ ?_
    show Steps p.tables e below (T4.setTop (mkF m 18 #[.val (.ref ob0), .val (.int (4 : Int32)), .val (.int p2)] [])) _
    refine XS.aloadN X4.here hx rfl (hb hby d1_18) rfl rfl ?_
    show Steps p.tables e below (T4.setTop (mkF m 19 #[.val (.ref ob0), .val (.int (4 : Int32)), .val (.int p2)] [(.ref ob0)])) _
    refine XS.iloadN X4.here hx rfl (hb hby d1_19) rfl ?_
    show Steps p.tables e below (T4.setTop (mkF m 20 #[.val (.ref ob0), .val (.int (4 : Int32)), .val (.int p2)] [(.int (4 : Int32)), (.ref ob0)])) _
    refine XS.iconst X4.here hx rfl (hb hby d1_20) ?_
    show Steps p.tables e below (T4.setTop (mkF m 21 #[.val (.ref ob0), .val (.int (4 : Int32)), .val (.int p2)] [(.int (2 : Int32)), (.int (4 : Int32)), (.ref ob0)])) _
    refine XS.iadd X4.here hx rfl (hb hby d1_21) rfl ?_
    show Steps p.tables e below (T4.setTop (mkF m 22 #[.val (.ref ob0), .val (.int (4 : Int32)), .val (.int p2)] [(.int (6 : Int32)), (.ref ob0)])) _
    refine XS.iloadN X4.here hx rfl (hb hby d1_22) rfl ?_
    show Steps p.tables e below (T4.setTop (mkF m 23 #[.val (.ref ob0), .val (.int (4 : Int32)), .val (.int p2)] [(.int p2), (.int (6 : Int32)), (.ref ob0)])) _
    refine XS.bipush X4.here hx rfl (hb hby d1_23) ?_
    show Steps p.tables e below (T4.setTop (mkF m 25 #[.val (.ref ob0), .val (.int (4 : Int32)), .val (.int p2)] [(.int (8 : Int32)), (.int p2), (.int (6 : Int32)), (.ref ob0)])) _
    refine XS.iushr X4.here hx rfl (hb hby d1_25) rfl ?_
    show Steps p.tables e below (T4.setTop (mkF m 26 #[.val (.ref ob0), .val (.int (4 : Int32)), .val (.int p2)] [(.int ((p2.toUInt32 >>> ((8 : Int32) &&& 31).toUInt32).toInt32)), (.int (6 : Int32)), (.ref ob0)])) _
    refine XS.i2b X4.here hx rfl (hb hby d1_26) rfl ?_
    show Steps p.tables e below (T4.setTop (mkF m 27 #[.val (.ref ob0), .val (.int (4 : Int32)), .val (.int p2)] [(.int (((p2.toUInt32 >>> ((8 : Int32) &&& 31).toUInt32).toInt32).toInt8.toInt32)), (.int (6 : Int32)), (.ref ob0)])) _
    refine st6 _ ?_
    show Steps p.tables e below (T6.setTop (mkF m 28 #[.val (.ref ob0), .val (.int (4 : Int32)), .val (.int p2)] [])) _
    refine XS.aloadN X6.here hx rfl (hb hby d1_28) rfl rfl ?_
    show Steps p.tables e below (T6.setTop (mkF m 29 #[.val (.ref ob0), .val (.int (4 : Int32)), .val (.int p2)] [(.ref ob0)])) _
    refine XS.iloadN X6.here hx rfl (hb hby d1_29) rfl ?_
    show Steps p.tables e below (T6.setTop (mkF m 30 #[.val (.ref ob0), .val (.int (4 : Int32)), .val (.int p2)] [(.int (4 : Int32)), (.ref ob0)])) _
    refine XS.iconst X6.here hx rfl (hb hby d1_30) ?_
    show Steps p.tables e below (T6.setTop (mkF m 31 #[.val (.ref ob0), .val (.int (4 : Int32)), .val (.int p2)] [(.int (3 : Int32)), (.int (4 : Int32)), (.ref ob0)])) _
    refine XS.iadd X6.here hx rfl (hb hby d1_31) rfl ?_
    show Steps p.tables e below (T6.setTop (mkF m 32 #[.val (.ref ob0), .val (.int (4 : Int32)), .val (.int p2)] [(.int (7 : Int32)), (.ref ob0)])) _
    refine XS.iloadN X6.here hx rfl (hb hby d1_32) rfl ?_
    show Steps p.tables e below (T6.setTop (mkF m 33 #[.val (.ref ob0), .val (.int (4 : Int32)), .val (.int p2)] [(.int p2), (.int (7 : Int32)), (.ref ob0)])) _
    refine XS.i2b X6.here hx rfl (hb hby d1_33) rfl ?_
    show Steps p.tables e below (T6.setTop (mkF m 34 #[.val (.ref ob0), .val (.int (4 : Int32)), .val (.int p2)] [(.int (p2.toInt8.toInt32)), (.int (7 : Int32)), (.ref ob0)])) _
    refine st8 _ ?_
    show Steps p.tables e below (T8.setTop (mkF m 35 #[.val (.ref ob0), .val (.int (4 : Int32)), .val (.int p2)] [])) _
    exact X8.returnOut hx Bd.returns (hb hby d1_35) hr
  · show Q1_16_4 Z ob0 p2 kk0 x0_0 x0_1 x0_2 x0_3 x0_4 x0_5 x0_6 x0_7 x0_8 x0_9 x0_10 x0_11 x0_12 x0_13 x0_14 x0_15 h0 n0 _ T8.heap _
    rw [e8]
    exact ⟨rfl, N8, K8, ⟨_, vV8⟩⟩
theorem ef_1_16_8 (m : MethodId) (ob0 : Addr) (p2 : Int32) : entryFrame m #[(.ref ob0), (.int (8 : Int32)), (.int p2)] 3 = mkF m 0 #[.val (.ref ob0), .val (.int (8 : Int32)), .val (.int p2)] [] := by first | (simp [entryFrame, mkF, argsToLocals, Value.category]; done) | rfl
def Q1_16_8 (Z : State) (ob0 : Addr) (p2 : Int32) (kk0 : ClassId) (x0_0 : Value) (x0_1 : Value) (x0_2 : Value) (x0_3 : Value) (x0_4 : Value) (x0_5 : Value) (x0_6 : Value) (x0_7 : Value) (x0_8 : Value) (x0_9 : Value) (x0_10 : Value) (x0_11 : Value) (x0_12 : Value) (x0_13 : Value) (x0_14 : Value) (x0_15 : Value) (h0 : Heap) (n0 : Nat) (v : Option Value) (h : Heap) (L : List Loc) : Prop := v = none ∧ Fr n0 L ∧ Keep h0 h [ob0] ∧ (∃ kk : ClassId, Arv Z h ob0 kk .byte (16 : Int32) [x0_0, x0_1, x0_2, x0_3, x0_4, x0_5, x0_6, x0_7, (.int (nar .byte (((p2.toUInt32 >>> ((24 : Int32) &&& 31).toUInt32).toInt32).toInt8.toInt32))), (.int (nar .byte (((p2.toUInt32 >>> ((16 : Int32) &&& 31).toUInt32).toInt32).toInt8.toInt32))), (.int (nar .byte (((p2.toUInt32 >>> ((8 : Int32) &&& 31).toUInt32).toInt32).toInt8.toInt32))), (.int (nar .byte (p2.toInt8.toInt32))), x0_12, x0_13, x0_14, x0_15] (.int (0 : Int32)))
set_option maxRecDepth 65536 in
set_option maxHeartbeats 40000000 in
theorem rm1_16_8 (l : Launch) (Z : State) (a0 : Array Value) (hw : ∀ d ∈ tables_1, d.before a0 Z = true) (ws : List Jvm.Cond) (ob0 : Addr) (p2 : Int32) (kk0 : ClassId) (x0_0 : Value) (x0_1 : Value) (x0_2 : Value) (x0_3 : Value) (x0_4 : Value) (x0_5 : Value) (x0_6 : Value) (x0_7 : Value) (x0_8 : Value) (x0_9 : Value) (x0_10 : Value) (x0_11 : Value) (x0_12 : Value) (x0_13 : Value) (x0_14 : Value) (x0_15 : Value) (h0 : Heap) (n0 : Nat) (Z0 : n0 ≤ h0.size) (V_ob0 : Arv Z h0 ob0 kk0 .byte (16 : Int32) [x0_0, x0_1, x0_2, x0_3, x0_4, x0_5, x0_6, x0_7, x0_8, x0_9, x0_10, x0_11, x0_12, x0_13, x0_14, x0_15] (.int (0 : Int32))) (g_ob0 : n0 ≤ ob0) :
    MetFree l (⟨"com/example/flytrap/flytrap/net/IpAddressIsIpv6PinLaw", "put", "([BII)V"⟩ : MethodName) (head1 (Jvm.Cond.code (⟨"com/example/flytrap/flytrap/net/IpAddressIsIpv6PinLaw", "put", "([BII)V"⟩ : MethodName) method_3_code 3 none :: ws) ({ frames := 0, cells := 0, slots := 0, locals := 0 } : Room)) (fun a U => a = #[(.ref ob0), (.int (8 : Int32)), (.int p2)] ∧ Z.Warmed39 U.vm ∧ U.heap = h0) (fun _ _ _ _ _ => True) (fun _ U o U' => ∃ v L, o = .returned v ∧ Q1_16_8 Z ob0 p2 kk0 x0_0 x0_1 x0_2 x0_3 x0_4 x0_5 x0_6 x0_7 x0_8 x0_9 x0_10 x0_11 x0_12 x0_13 x0_14 x0_15 h0 n0 v U'.heap L ∧ FrameEnd U o U' L ({ frames := 0, cells := 0, slots := 0, locals := 0 } : Room).cells ({ frames := 0, cells := 0, slots := 0, locals := 0 } : Room).slots) := by
  refine MetFree.of_bodySF (plainFor_of_name pn_1) hisR ?_
  intro p e s m args below meth c s₁ Bd hml0 hP hK
  obtain ⟨rfl, hZ, hh⟩ := hP
  have hx := Bd.exec
  have hby := Bd.bytes
  have hml : c.maxLocals = 3 := hml0
  have hown : s.vm.findClass "com/example/flytrap/flytrap/net/IpAddressIsIpv6PinLaw" = some m.cls := findClass_of_methodNamed Bd.named
  have hnm := (name_of_methodNamed Bd.named Bd.method).1
  have X0 : Stand p l e ({ frames := 0, cells := 0, slots := 0, locals := 0 } : Room) s m #[(.ref ob0), (.int (8 : Int32)), (.int p2)] below meth c s₁ [] 0 0 := Stand.of_body Bd
  have e0 : s₁.heap = h0 := by rw [← hh, Bd.state]; rfl
  have N0 := Fr.nil n0
  have pre0 : ∀ t, Steps p.tables e below (s₁.setTop (mkF m 0 #[.val (.ref ob0), .val (.int (8 : Int32)), .val (.int p2)] [])) t → Steps p.tables e below (s₁.setTop (entryFrame m #[(.ref ob0), (.int (8 : Int32)), (.int p2)] 3)) t := fun t k => castTop (ef_1_16_8 m ob0 p2) k
  obtain ⟨cl1, Ar1, qq1, Sz1, Ng1, Hs1, Gs1⟩ := id V_ob0
  have hin1 : ¬ ((8 : Int32) < 0 ∨ cl1.slots.size ≤ ((8 : Int32)).toNatClampNeg) := inb_of Sz1 ⟨by decide, by decide⟩
  obtain ⟨T2, h2, X2, e2, W2, st2⟩ := stB X0 hx hZ e0 Ar1 (j := (8 : Int32)) hin1 (g := (mkF m 7 #[.val (.ref ob0), .val (.int (8 : Int32)), .val (.int p2)] [(.int (((p2.toUInt32 >>> ((24 : Int32) &&& 31).toUInt32).toInt32).toInt8.toInt32)), (.int (8 : Int32)), (.ref ob0)])) rfl rfl (hb hby d1_7)
  have vV2 : Arv Z h2 ob0 _ .byte (16 : Int32) [x0_0, x0_1, x0_2, x0_3, x0_4, x0_5, x0_6, x0_7, (.int (nar .byte (((p2.toUInt32 >>> ((24 : Int32) &&& 31).toUInt32).toInt32).toInt8.toInt32))), x0_9, x0_10, x0_11, x0_12, x0_13, x0_14, x0_15] (.int (0 : Int32)) := Arv.set Ar1 qq1 Sz1 Ng1 Hs1 Gs1 (fits_nar_byte _) W2 8 rfl (Nat.le_of_ble_eq_true rfl)
  have N2 := Fr.snoc X2 N0 g_ob0
  have Z2 := Nat.le_trans Z0 (Keep.of_wr W2).1
  have K2 := (Keep.refl h0 [ob0]).wr W2 (Or.inl (List.mem_of_getElem? (i := 0) rfl))
  obtain ⟨cl3, Ar3, qq3, Sz3, Ng3, Hs3, Gs3⟩ := id vV2
  have hin3 : ¬ ((9 : Int32) < 0 ∨ cl3.slots.size ≤ ((9 : Int32)).toNatClampNeg) := inb_of Sz3 ⟨by decide, by decide⟩
  obtain ⟨T4, h4, X4, e4, W4, st4⟩ := stB X2 hx hZ e2 Ar3 (j := (9 : Int32)) hin3 (g := (mkF m 17 #[.val (.ref ob0), .val (.int (8 : Int32)), .val (.int p2)] [(.int (((p2.toUInt32 >>> ((16 : Int32) &&& 31).toUInt32).toInt32).toInt8.toInt32)), (.int (9 : Int32)), (.ref ob0)])) rfl rfl (hb hby d1_17)
  have vV4 : Arv Z h4 ob0 _ .byte (16 : Int32) [x0_0, x0_1, x0_2, x0_3, x0_4, x0_5, x0_6, x0_7, (.int (nar .byte (((p2.toUInt32 >>> ((24 : Int32) &&& 31).toUInt32).toInt32).toInt8.toInt32))), (.int (nar .byte (((p2.toUInt32 >>> ((16 : Int32) &&& 31).toUInt32).toInt32).toInt8.toInt32))), x0_10, x0_11, x0_12, x0_13, x0_14, x0_15] (.int (0 : Int32)) := Arv.set Ar3 qq3 Sz3 Ng3 Hs3 Gs3 (fits_nar_byte _) W4 9 rfl (Nat.le_of_ble_eq_true rfl)
  have N4 := Fr.snoc X4 N2 g_ob0
  have Z4 := Nat.le_trans Z2 (Keep.of_wr W4).1
  have K4 := K2.wr W4 (Or.inl (List.mem_of_getElem? (i := 0) rfl))
  obtain ⟨cl5, Ar5, qq5, Sz5, Ng5, Hs5, Gs5⟩ := id vV4
  have hin5 : ¬ ((10 : Int32) < 0 ∨ cl5.slots.size ≤ ((10 : Int32)).toNatClampNeg) := inb_of Sz5 ⟨by decide, by decide⟩
  obtain ⟨T6, h6, X6, e6, W6, st6⟩ := stB X4 hx hZ e4 Ar5 (j := (10 : Int32)) hin5 (g := (mkF m 27 #[.val (.ref ob0), .val (.int (8 : Int32)), .val (.int p2)] [(.int (((p2.toUInt32 >>> ((8 : Int32) &&& 31).toUInt32).toInt32).toInt8.toInt32)), (.int (10 : Int32)), (.ref ob0)])) rfl rfl (hb hby d1_27)
  have vV6 : Arv Z h6 ob0 _ .byte (16 : Int32) [x0_0, x0_1, x0_2, x0_3, x0_4, x0_5, x0_6, x0_7, (.int (nar .byte (((p2.toUInt32 >>> ((24 : Int32) &&& 31).toUInt32).toInt32).toInt8.toInt32))), (.int (nar .byte (((p2.toUInt32 >>> ((16 : Int32) &&& 31).toUInt32).toInt32).toInt8.toInt32))), (.int (nar .byte (((p2.toUInt32 >>> ((8 : Int32) &&& 31).toUInt32).toInt32).toInt8.toInt32))), x0_11, x0_12, x0_13, x0_14, x0_15] (.int (0 : Int32)) := Arv.set Ar5 qq5 Sz5 Ng5 Hs5 Gs5 (fits_nar_byte _) W6 10 rfl (Nat.le_of_ble_eq_true rfl)
  have N6 := Fr.snoc X6 N4 g_ob0
  have Z6 := Nat.le_trans Z4 (Keep.of_wr W6).1
  have K6 := K4.wr W6 (Or.inl (List.mem_of_getElem? (i := 0) rfl))
  obtain ⟨cl7, Ar7, qq7, Sz7, Ng7, Hs7, Gs7⟩ := id vV6
  have hin7 : ¬ ((11 : Int32) < 0 ∨ cl7.slots.size ≤ ((11 : Int32)).toNatClampNeg) := inb_of Sz7 ⟨by decide, by decide⟩
  obtain ⟨T8, h8, X8, e8, W8, st8⟩ := stB X6 hx hZ e6 Ar7 (j := (11 : Int32)) hin7 (g := (mkF m 34 #[.val (.ref ob0), .val (.int (8 : Int32)), .val (.int p2)] [(.int (p2.toInt8.toInt32)), (.int (11 : Int32)), (.ref ob0)])) rfl rfl (hb hby d1_34)
  have vV8 : Arv Z h8 ob0 _ .byte (16 : Int32) [x0_0, x0_1, x0_2, x0_3, x0_4, x0_5, x0_6, x0_7, (.int (nar .byte (((p2.toUInt32 >>> ((24 : Int32) &&& 31).toUInt32).toInt32).toInt8.toInt32))), (.int (nar .byte (((p2.toUInt32 >>> ((16 : Int32) &&& 31).toUInt32).toInt32).toInt8.toInt32))), (.int (nar .byte (((p2.toUInt32 >>> ((8 : Int32) &&& 31).toUInt32).toInt32).toInt8.toInt32))), (.int (nar .byte (p2.toInt8.toInt32))), x0_12, x0_13, x0_14, x0_15] (.int (0 : Int32)) := Arv.set Ar7 qq7 Sz7 Ng7 Hs7 Gs7 (fits_nar_byte _) W8 11 rfl (Nat.le_of_ble_eq_true rfl)
  have N8 := Fr.snoc X8 N6 g_ob0
  have Z8 := Nat.le_trans Z6 (Keep.of_wr W8).1
  have K8 := K6.wr W8 (Or.inl (List.mem_of_getElem? (i := 0) rfl))
  obtain ⟨fs, hr, hrun, hended, hW, hsame⟩ := X8.leave (v := none) (fun _ => rfl) (BodyLoose.notSynchronized Bd)
  refine ⟨_, _, pre0 _ ?_, hrun, hended, _, _, rfl, ?_, ⟨_, rfl⟩, hW, hsame.mono (by decide) (by decide)⟩
  · show Steps p.tables e below (s₁.setTop (mkF m 0 #[.val (.ref ob0), .val (.int (8 : Int32)), .val (.int p2)] [])) _
    refine XS.aloadN X0.here hx rfl (hb hby d1_0) rfl rfl ?_
    show Steps p.tables e below (s₁.setTop (mkF m 1 #[.val (.ref ob0), .val (.int (8 : Int32)), .val (.int p2)] [(.ref ob0)])) _
    refine XS.iloadN X0.here hx rfl (hb hby d1_1) rfl ?_
    show Steps p.tables e below (s₁.setTop (mkF m 2 #[.val (.ref ob0), .val (.int (8 : Int32)), .val (.int p2)] [(.int (8 : Int32)), (.ref ob0)])) _
    refine XS.iloadN X0.here hx rfl (hb hby d1_2) rfl ?_
    show Steps p.tables e below (s₁.setTop (mkF m 3 #[.val (.ref ob0), .val (.int (8 : Int32)), .val (.int p2)] [(.int p2), (.int (8 : Int32)), (.ref ob0)])) _
    refine XS.bipush X0.here hx rfl (hb hby d1_3) ?_
    show Steps p.tables e below (s₁.setTop (mkF m 5 #[.val (.ref ob0), .val (.int (8 : Int32)), .val (.int p2)] [(.int (24 : Int32)), (.int p2), (.int (8 : Int32)), (.ref ob0)])) _
    refine XS.iushr X0.here hx rfl (hb hby d1_5) rfl ?_
    show Steps p.tables e below (s₁.setTop (mkF m 6 #[.val (.ref ob0), .val (.int (8 : Int32)), .val (.int p2)] [(.int ((p2.toUInt32 >>> ((24 : Int32) &&& 31).toUInt32).toInt32)), (.int (8 : Int32)), (.ref ob0)])) _
    refine XS.i2b X0.here hx rfl (hb hby d1_6) rfl ?_
    show Steps p.tables e below (s₁.setTop (mkF m 7 #[.val (.ref ob0), .val (.int (8 : Int32)), .val (.int p2)] [(.int (((p2.toUInt32 >>> ((24 : Int32) &&& 31).toUInt32).toInt32).toInt8.toInt32)), (.int (8 : Int32)), (.ref ob0)])) _
    refine st2 _ ?_
    show Steps p.tables e below (T2.setTop (mkF m 8 #[.val (.ref ob0), .val (.int (8 : Int32)), .val (.int p2)] [])) _
    refine XS.aloadN X2.here hx rfl (hb hby d1_8) rfl rfl ?_
    show Steps p.tables e below (T2.setTop (mkF m 9 #[.val (.ref ob0), .val (.int (8 : Int32)), .val (.int p2)] [(.ref ob0)])) _
    refine XS.iloadN X2.here hx rfl (hb hby d1_9) rfl ?_
    show Steps p.tables e below (T2.setTop (mkF m 10 #[.val (.ref ob0), .val (.int (8 : Int32)), .val (.int p2)] [(.int (8 : Int32)), (.ref ob0)])) _
    refine XS.iconst X2.here hx rfl (hb hby d1_10) ?_
    show Steps p.tables e below (T2.setTop (mkF m 11 #[.val (.ref ob0), .val (.int (8 : Int32)), .val (.int p2)] [(.int (1 : Int32)), (.int (8 : Int32)), (.ref ob0)])) _
    refine XS.iadd X2.here hx rfl (hb hby d1_11) rfl ?_
    show Steps p.tables e below (T2.setTop (mkF m 12 #[.val (.ref ob0), .val (.int (8 : Int32)), .val (.int p2)] [(.int (9 : Int32)), (.ref ob0)])) _
    refine XS.iloadN X2.here hx rfl (hb hby d1_12) rfl ?_
    show Steps p.tables e below (T2.setTop (mkF m 13 #[.val (.ref ob0), .val (.int (8 : Int32)), .val (.int p2)] [(.int p2), (.int (9 : Int32)), (.ref ob0)])) _
    refine XS.bipush X2.here hx rfl (hb hby d1_13) ?_
    show Steps p.tables e below (T2.setTop (mkF m 15 #[.val (.ref ob0), .val (.int (8 : Int32)), .val (.int p2)] [(.int (16 : Int32)), (.int p2), (.int (9 : Int32)), (.ref ob0)])) _
    refine XS.iushr X2.here hx rfl (hb hby d1_15) rfl ?_
    show Steps p.tables e below (T2.setTop (mkF m 16 #[.val (.ref ob0), .val (.int (8 : Int32)), .val (.int p2)] [(.int ((p2.toUInt32 >>> ((16 : Int32) &&& 31).toUInt32).toInt32)), (.int (9 : Int32)), (.ref ob0)])) _
    refine XS.i2b X2.here hx rfl (hb hby d1_16) rfl ?_
    show Steps p.tables e below (T2.setTop (mkF m 17 #[.val (.ref ob0), .val (.int (8 : Int32)), .val (.int p2)] [(.int (((p2.toUInt32 >>> ((16 : Int32) &&& 31).toUInt32).toInt32).toInt8.toInt32)), (.int (9 : Int32)), (.ref ob0)])) _
    refine st4 _ ?_
    show Steps p.tables e below (T4.setTop (mkF m 18 #[.val (.ref ob0), .val (.int (8 : Int32)), .val (.int p2)] [])) _
    refine XS.aloadN X4.here hx rfl (hb hby d1_18) rfl rfl ?_
    show Steps p.tables e below (T4.setTop (mkF m 19 #[.val (.ref ob0), .val (.int (8 : Int32)), .val (.int p2)] [(.ref ob0)])) _
    refine XS.iloadN X4.here hx rfl (hb hby d1_19) rfl ?_
    show Steps p.tables e below (T4.setTop (mkF m 20 #[.val (.ref ob0), .val (.int (8 : Int32)), .val (.int p2)] [(.int (8 : Int32)), (.ref ob0)])) _
    refine XS.iconst X4.here hx rfl (hb hby d1_20) ?_
    show Steps p.tables e below (T4.setTop (mkF m 21 #[.val (.ref ob0), .val (.int (8 : Int32)), .val (.int p2)] [(.int (2 : Int32)), (.int (8 : Int32)), (.ref ob0)])) _
    refine XS.iadd X4.here hx rfl (hb hby d1_21) rfl ?_
    show Steps p.tables e below (T4.setTop (mkF m 22 #[.val (.ref ob0), .val (.int (8 : Int32)), .val (.int p2)] [(.int (10 : Int32)), (.ref ob0)])) _
    refine XS.iloadN X4.here hx rfl (hb hby d1_22) rfl ?_
    show Steps p.tables e below (T4.setTop (mkF m 23 #[.val (.ref ob0), .val (.int (8 : Int32)), .val (.int p2)] [(.int p2), (.int (10 : Int32)), (.ref ob0)])) _
    refine XS.bipush X4.here hx rfl (hb hby d1_23) ?_
    show Steps p.tables e below (T4.setTop (mkF m 25 #[.val (.ref ob0), .val (.int (8 : Int32)), .val (.int p2)] [(.int (8 : Int32)), (.int p2), (.int (10 : Int32)), (.ref ob0)])) _
    refine XS.iushr X4.here hx rfl (hb hby d1_25) rfl ?_
    show Steps p.tables e below (T4.setTop (mkF m 26 #[.val (.ref ob0), .val (.int (8 : Int32)), .val (.int p2)] [(.int ((p2.toUInt32 >>> ((8 : Int32) &&& 31).toUInt32).toInt32)), (.int (10 : Int32)), (.ref ob0)])) _
    refine XS.i2b X4.here hx rfl (hb hby d1_26) rfl ?_
    show Steps p.tables e below (T4.setTop (mkF m 27 #[.val (.ref ob0), .val (.int (8 : Int32)), .val (.int p2)] [(.int (((p2.toUInt32 >>> ((8 : Int32) &&& 31).toUInt32).toInt32).toInt8.toInt32)), (.int (10 : Int32)), (.ref ob0)])) _
    refine st6 _ ?_
    show Steps p.tables e below (T6.setTop (mkF m 28 #[.val (.ref ob0), .val (.int (8 : Int32)), .val (.int p2)] [])) _
    refine XS.aloadN X6.here hx rfl (hb hby d1_28) rfl rfl ?_
    show Steps p.tables e below (T6.setTop (mkF m 29 #[.val (.ref ob0), .val (.int (8 : Int32)), .val (.int p2)] [(.ref ob0)])) _
    refine XS.iloadN X6.here hx rfl (hb hby d1_29) rfl ?_
    show Steps p.tables e below (T6.setTop (mkF m 30 #[.val (.ref ob0), .val (.int (8 : Int32)), .val (.int p2)] [(.int (8 : Int32)), (.ref ob0)])) _
    refine XS.iconst X6.here hx rfl (hb hby d1_30) ?_
    show Steps p.tables e below (T6.setTop (mkF m 31 #[.val (.ref ob0), .val (.int (8 : Int32)), .val (.int p2)] [(.int (3 : Int32)), (.int (8 : Int32)), (.ref ob0)])) _
    refine XS.iadd X6.here hx rfl (hb hby d1_31) rfl ?_
    show Steps p.tables e below (T6.setTop (mkF m 32 #[.val (.ref ob0), .val (.int (8 : Int32)), .val (.int p2)] [(.int (11 : Int32)), (.ref ob0)])) _
    refine XS.iloadN X6.here hx rfl (hb hby d1_32) rfl ?_
    show Steps p.tables e below (T6.setTop (mkF m 33 #[.val (.ref ob0), .val (.int (8 : Int32)), .val (.int p2)] [(.int p2), (.int (11 : Int32)), (.ref ob0)])) _
    refine XS.i2b X6.here hx rfl (hb hby d1_33) rfl ?_
    show Steps p.tables e below (T6.setTop (mkF m 34 #[.val (.ref ob0), .val (.int (8 : Int32)), .val (.int p2)] [(.int (p2.toInt8.toInt32)), (.int (11 : Int32)), (.ref ob0)])) _
    refine st8 _ ?_
    show Steps p.tables e below (T8.setTop (mkF m 35 #[.val (.ref ob0), .val (.int (8 : Int32)), .val (.int p2)] [])) _
    exact X8.returnOut hx Bd.returns (hb hby d1_35) hr
  · show Q1_16_8 Z ob0 p2 kk0 x0_0 x0_1 x0_2 x0_3 x0_4 x0_5 x0_6 x0_7 x0_8 x0_9 x0_10 x0_11 x0_12 x0_13 x0_14 x0_15 h0 n0 _ T8.heap _
    rw [e8]
    exact ⟨rfl, N8, K8, ⟨_, vV8⟩⟩
theorem ef_1_16_12 (m : MethodId) (ob0 : Addr) (p2 : Int32) : entryFrame m #[(.ref ob0), (.int (12 : Int32)), (.int p2)] 3 = mkF m 0 #[.val (.ref ob0), .val (.int (12 : Int32)), .val (.int p2)] [] := by first | (simp [entryFrame, mkF, argsToLocals, Value.category]; done) | rfl
def Q1_16_12 (Z : State) (ob0 : Addr) (p2 : Int32) (kk0 : ClassId) (x0_0 : Value) (x0_1 : Value) (x0_2 : Value) (x0_3 : Value) (x0_4 : Value) (x0_5 : Value) (x0_6 : Value) (x0_7 : Value) (x0_8 : Value) (x0_9 : Value) (x0_10 : Value) (x0_11 : Value) (x0_12 : Value) (x0_13 : Value) (x0_14 : Value) (x0_15 : Value) (h0 : Heap) (n0 : Nat) (v : Option Value) (h : Heap) (L : List Loc) : Prop := v = none ∧ Fr n0 L ∧ Keep h0 h [ob0] ∧ (∃ kk : ClassId, Arv Z h ob0 kk .byte (16 : Int32) [x0_0, x0_1, x0_2, x0_3, x0_4, x0_5, x0_6, x0_7, x0_8, x0_9, x0_10, x0_11, (.int (nar .byte (((p2.toUInt32 >>> ((24 : Int32) &&& 31).toUInt32).toInt32).toInt8.toInt32))), (.int (nar .byte (((p2.toUInt32 >>> ((16 : Int32) &&& 31).toUInt32).toInt32).toInt8.toInt32))), (.int (nar .byte (((p2.toUInt32 >>> ((8 : Int32) &&& 31).toUInt32).toInt32).toInt8.toInt32))), (.int (nar .byte (p2.toInt8.toInt32)))] (.int (0 : Int32)))
set_option maxRecDepth 65536 in
set_option maxHeartbeats 40000000 in
theorem rm1_16_12 (l : Launch) (Z : State) (a0 : Array Value) (hw : ∀ d ∈ tables_1, d.before a0 Z = true) (ws : List Jvm.Cond) (ob0 : Addr) (p2 : Int32) (kk0 : ClassId) (x0_0 : Value) (x0_1 : Value) (x0_2 : Value) (x0_3 : Value) (x0_4 : Value) (x0_5 : Value) (x0_6 : Value) (x0_7 : Value) (x0_8 : Value) (x0_9 : Value) (x0_10 : Value) (x0_11 : Value) (x0_12 : Value) (x0_13 : Value) (x0_14 : Value) (x0_15 : Value) (h0 : Heap) (n0 : Nat) (Z0 : n0 ≤ h0.size) (V_ob0 : Arv Z h0 ob0 kk0 .byte (16 : Int32) [x0_0, x0_1, x0_2, x0_3, x0_4, x0_5, x0_6, x0_7, x0_8, x0_9, x0_10, x0_11, x0_12, x0_13, x0_14, x0_15] (.int (0 : Int32))) (g_ob0 : n0 ≤ ob0) :
    MetFree l (⟨"com/example/flytrap/flytrap/net/IpAddressIsIpv6PinLaw", "put", "([BII)V"⟩ : MethodName) (head1 (Jvm.Cond.code (⟨"com/example/flytrap/flytrap/net/IpAddressIsIpv6PinLaw", "put", "([BII)V"⟩ : MethodName) method_3_code 3 none :: ws) ({ frames := 0, cells := 0, slots := 0, locals := 0 } : Room)) (fun a U => a = #[(.ref ob0), (.int (12 : Int32)), (.int p2)] ∧ Z.Warmed39 U.vm ∧ U.heap = h0) (fun _ _ _ _ _ => True) (fun _ U o U' => ∃ v L, o = .returned v ∧ Q1_16_12 Z ob0 p2 kk0 x0_0 x0_1 x0_2 x0_3 x0_4 x0_5 x0_6 x0_7 x0_8 x0_9 x0_10 x0_11 x0_12 x0_13 x0_14 x0_15 h0 n0 v U'.heap L ∧ FrameEnd U o U' L ({ frames := 0, cells := 0, slots := 0, locals := 0 } : Room).cells ({ frames := 0, cells := 0, slots := 0, locals := 0 } : Room).slots) := by
  refine MetFree.of_bodySF (plainFor_of_name pn_1) hisR ?_
  intro p e s m args below meth c s₁ Bd hml0 hP hK
  obtain ⟨rfl, hZ, hh⟩ := hP
  have hx := Bd.exec
  have hby := Bd.bytes
  have hml : c.maxLocals = 3 := hml0
  have hown : s.vm.findClass "com/example/flytrap/flytrap/net/IpAddressIsIpv6PinLaw" = some m.cls := findClass_of_methodNamed Bd.named
  have hnm := (name_of_methodNamed Bd.named Bd.method).1
  have X0 : Stand p l e ({ frames := 0, cells := 0, slots := 0, locals := 0 } : Room) s m #[(.ref ob0), (.int (12 : Int32)), (.int p2)] below meth c s₁ [] 0 0 := Stand.of_body Bd
  have e0 : s₁.heap = h0 := by rw [← hh, Bd.state]; rfl
  have N0 := Fr.nil n0
  have pre0 : ∀ t, Steps p.tables e below (s₁.setTop (mkF m 0 #[.val (.ref ob0), .val (.int (12 : Int32)), .val (.int p2)] [])) t → Steps p.tables e below (s₁.setTop (entryFrame m #[(.ref ob0), (.int (12 : Int32)), (.int p2)] 3)) t := fun t k => castTop (ef_1_16_12 m ob0 p2) k
  obtain ⟨cl1, Ar1, qq1, Sz1, Ng1, Hs1, Gs1⟩ := id V_ob0
  have hin1 : ¬ ((12 : Int32) < 0 ∨ cl1.slots.size ≤ ((12 : Int32)).toNatClampNeg) := inb_of Sz1 ⟨by decide, by decide⟩
  obtain ⟨T2, h2, X2, e2, W2, st2⟩ := stB X0 hx hZ e0 Ar1 (j := (12 : Int32)) hin1 (g := (mkF m 7 #[.val (.ref ob0), .val (.int (12 : Int32)), .val (.int p2)] [(.int (((p2.toUInt32 >>> ((24 : Int32) &&& 31).toUInt32).toInt32).toInt8.toInt32)), (.int (12 : Int32)), (.ref ob0)])) rfl rfl (hb hby d1_7)
  have vV2 : Arv Z h2 ob0 _ .byte (16 : Int32) [x0_0, x0_1, x0_2, x0_3, x0_4, x0_5, x0_6, x0_7, x0_8, x0_9, x0_10, x0_11, (.int (nar .byte (((p2.toUInt32 >>> ((24 : Int32) &&& 31).toUInt32).toInt32).toInt8.toInt32))), x0_13, x0_14, x0_15] (.int (0 : Int32)) := Arv.set Ar1 qq1 Sz1 Ng1 Hs1 Gs1 (fits_nar_byte _) W2 12 rfl (Nat.le_of_ble_eq_true rfl)
  have N2 := Fr.snoc X2 N0 g_ob0
  have Z2 := Nat.le_trans Z0 (Keep.of_wr W2).1
  have K2 := (Keep.refl h0 [ob0]).wr W2 (Or.inl (List.mem_of_getElem? (i := 0) rfl))
  obtain ⟨cl3, Ar3, qq3, Sz3, Ng3, Hs3, Gs3⟩ := id vV2
  have hin3 : ¬ ((13 : Int32) < 0 ∨ cl3.slots.size ≤ ((13 : Int32)).toNatClampNeg) := inb_of Sz3 ⟨by decide, by decide⟩
  obtain ⟨T4, h4, X4, e4, W4, st4⟩ := stB X2 hx hZ e2 Ar3 (j := (13 : Int32)) hin3 (g := (mkF m 17 #[.val (.ref ob0), .val (.int (12 : Int32)), .val (.int p2)] [(.int (((p2.toUInt32 >>> ((16 : Int32) &&& 31).toUInt32).toInt32).toInt8.toInt32)), (.int (13 : Int32)), (.ref ob0)])) rfl rfl (hb hby d1_17)
  have vV4 : Arv Z h4 ob0 _ .byte (16 : Int32) [x0_0, x0_1, x0_2, x0_3, x0_4, x0_5, x0_6, x0_7, x0_8, x0_9, x0_10, x0_11, (.int (nar .byte (((p2.toUInt32 >>> ((24 : Int32) &&& 31).toUInt32).toInt32).toInt8.toInt32))), (.int (nar .byte (((p2.toUInt32 >>> ((16 : Int32) &&& 31).toUInt32).toInt32).toInt8.toInt32))), x0_14, x0_15] (.int (0 : Int32)) := Arv.set Ar3 qq3 Sz3 Ng3 Hs3 Gs3 (fits_nar_byte _) W4 13 rfl (Nat.le_of_ble_eq_true rfl)
  have N4 := Fr.snoc X4 N2 g_ob0
  have Z4 := Nat.le_trans Z2 (Keep.of_wr W4).1
  have K4 := K2.wr W4 (Or.inl (List.mem_of_getElem? (i := 0) rfl))
  obtain ⟨cl5, Ar5, qq5, Sz5, Ng5, Hs5, Gs5⟩ := id vV4
  have hin5 : ¬ ((14 : Int32) < 0 ∨ cl5.slots.size ≤ ((14 : Int32)).toNatClampNeg) := inb_of Sz5 ⟨by decide, by decide⟩
  obtain ⟨T6, h6, X6, e6, W6, st6⟩ := stB X4 hx hZ e4 Ar5 (j := (14 : Int32)) hin5 (g := (mkF m 27 #[.val (.ref ob0), .val (.int (12 : Int32)), .val (.int p2)] [(.int (((p2.toUInt32 >>> ((8 : Int32) &&& 31).toUInt32).toInt32).toInt8.toInt32)), (.int (14 : Int32)), (.ref ob0)])) rfl rfl (hb hby d1_27)
  have vV6 : Arv Z h6 ob0 _ .byte (16 : Int32) [x0_0, x0_1, x0_2, x0_3, x0_4, x0_5, x0_6, x0_7, x0_8, x0_9, x0_10, x0_11, (.int (nar .byte (((p2.toUInt32 >>> ((24 : Int32) &&& 31).toUInt32).toInt32).toInt8.toInt32))), (.int (nar .byte (((p2.toUInt32 >>> ((16 : Int32) &&& 31).toUInt32).toInt32).toInt8.toInt32))), (.int (nar .byte (((p2.toUInt32 >>> ((8 : Int32) &&& 31).toUInt32).toInt32).toInt8.toInt32))), x0_15] (.int (0 : Int32)) := Arv.set Ar5 qq5 Sz5 Ng5 Hs5 Gs5 (fits_nar_byte _) W6 14 rfl (Nat.le_of_ble_eq_true rfl)
  have N6 := Fr.snoc X6 N4 g_ob0
  have Z6 := Nat.le_trans Z4 (Keep.of_wr W6).1
  have K6 := K4.wr W6 (Or.inl (List.mem_of_getElem? (i := 0) rfl))
  obtain ⟨cl7, Ar7, qq7, Sz7, Ng7, Hs7, Gs7⟩ := id vV6
  have hin7 : ¬ ((15 : Int32) < 0 ∨ cl7.slots.size ≤ ((15 : Int32)).toNatClampNeg) := inb_of Sz7 ⟨by decide, by decide⟩
  obtain ⟨T8, h8, X8, e8, W8, st8⟩ := stB X6 hx hZ e6 Ar7 (j := (15 : Int32)) hin7 (g := (mkF m 34 #[.val (.ref ob0), .val (.int (12 : Int32)), .val (.int p2)] [(.int (p2.toInt8.toInt32)), (.int (15 : Int32)), (.ref ob0)])) rfl rfl (hb hby d1_34)
  have vV8 : Arv Z h8 ob0 _ .byte (16 : Int32) [x0_0, x0_1, x0_2, x0_3, x0_4, x0_5, x0_6, x0_7, x0_8, x0_9, x0_10, x0_11, (.int (nar .byte (((p2.toUInt32 >>> ((24 : Int32) &&& 31).toUInt32).toInt32).toInt8.toInt32))), (.int (nar .byte (((p2.toUInt32 >>> ((16 : Int32) &&& 31).toUInt32).toInt32).toInt8.toInt32))), (.int (nar .byte (((p2.toUInt32 >>> ((8 : Int32) &&& 31).toUInt32).toInt32).toInt8.toInt32))), (.int (nar .byte (p2.toInt8.toInt32)))] (.int (0 : Int32)) := Arv.set Ar7 qq7 Sz7 Ng7 Hs7 Gs7 (fits_nar_byte _) W8 15 rfl (Nat.le_of_ble_eq_true rfl)
  have N8 := Fr.snoc X8 N6 g_ob0
  have Z8 := Nat.le_trans Z6 (Keep.of_wr W8).1
  have K8 := K6.wr W8 (Or.inl (List.mem_of_getElem? (i := 0) rfl))
  obtain ⟨fs, hr, hrun, hended, hW, hsame⟩ := X8.leave (v := none) (fun _ => rfl) (BodyLoose.notSynchronized Bd)
  refine ⟨_, _, pre0 _ ?_, hrun, hended, _, _, rfl, ?_, ⟨_, rfl⟩, hW, hsame.mono (by decide) (by decide)⟩
  · show Steps p.tables e below (s₁.setTop (mkF m 0 #[.val (.ref ob0), .val (.int (12 : Int32)), .val (.int p2)] [])) _
    refine XS.aloadN X0.here hx rfl (hb hby d1_0) rfl rfl ?_
    show Steps p.tables e below (s₁.setTop (mkF m 1 #[.val (.ref ob0), .val (.int (12 : Int32)), .val (.int p2)] [(.ref ob0)])) _
    refine XS.iloadN X0.here hx rfl (hb hby d1_1) rfl ?_
    show Steps p.tables e below (s₁.setTop (mkF m 2 #[.val (.ref ob0), .val (.int (12 : Int32)), .val (.int p2)] [(.int (12 : Int32)), (.ref ob0)])) _
    refine XS.iloadN X0.here hx rfl (hb hby d1_2) rfl ?_
    show Steps p.tables e below (s₁.setTop (mkF m 3 #[.val (.ref ob0), .val (.int (12 : Int32)), .val (.int p2)] [(.int p2), (.int (12 : Int32)), (.ref ob0)])) _
    refine XS.bipush X0.here hx rfl (hb hby d1_3) ?_
    show Steps p.tables e below (s₁.setTop (mkF m 5 #[.val (.ref ob0), .val (.int (12 : Int32)), .val (.int p2)] [(.int (24 : Int32)), (.int p2), (.int (12 : Int32)), (.ref ob0)])) _
    refine XS.iushr X0.here hx rfl (hb hby d1_5) rfl ?_
    show Steps p.tables e below (s₁.setTop (mkF m 6 #[.val (.ref ob0), .val (.int (12 : Int32)), .val (.int p2)] [(.int ((p2.toUInt32 >>> ((24 : Int32) &&& 31).toUInt32).toInt32)), (.int (12 : Int32)), (.ref ob0)])) _
    refine XS.i2b X0.here hx rfl (hb hby d1_6) rfl ?_
    show Steps p.tables e below (s₁.setTop (mkF m 7 #[.val (.ref ob0), .val (.int (12 : Int32)), .val (.int p2)] [(.int (((p2.toUInt32 >>> ((24 : Int32) &&& 31).toUInt32).toInt32).toInt8.toInt32)), (.int (12 : Int32)), (.ref ob0)])) _
    refine st2 _ ?_
    show Steps p.tables e below (T2.setTop (mkF m 8 #[.val (.ref ob0), .val (.int (12 : Int32)), .val (.int p2)] [])) _
    refine XS.aloadN X2.here hx rfl (hb hby d1_8) rfl rfl ?_
    show Steps p.tables e below (T2.setTop (mkF m 9 #[.val (.ref ob0), .val (.int (12 : Int32)), .val (.int p2)] [(.ref ob0)])) _
    refine XS.iloadN X2.here hx rfl (hb hby d1_9) rfl ?_
    show Steps p.tables e below (T2.setTop (mkF m 10 #[.val (.ref ob0), .val (.int (12 : Int32)), .val (.int p2)] [(.int (12 : Int32)), (.ref ob0)])) _
    refine XS.iconst X2.here hx rfl (hb hby d1_10) ?_
    show Steps p.tables e below (T2.setTop (mkF m 11 #[.val (.ref ob0), .val (.int (12 : Int32)), .val (.int p2)] [(.int (1 : Int32)), (.int (12 : Int32)), (.ref ob0)])) _
    refine XS.iadd X2.here hx rfl (hb hby d1_11) rfl ?_
    show Steps p.tables e below (T2.setTop (mkF m 12 #[.val (.ref ob0), .val (.int (12 : Int32)), .val (.int p2)] [(.int (13 : Int32)), (.ref ob0)])) _
    refine XS.iloadN X2.here hx rfl (hb hby d1_12) rfl ?_
    show Steps p.tables e below (T2.setTop (mkF m 13 #[.val (.ref ob0), .val (.int (12 : Int32)), .val (.int p2)] [(.int p2), (.int (13 : Int32)), (.ref ob0)])) _
    refine XS.bipush X2.here hx rfl (hb hby d1_13) ?_
    show Steps p.tables e below (T2.setTop (mkF m 15 #[.val (.ref ob0), .val (.int (12 : Int32)), .val (.int p2)] [(.int (16 : Int32)), (.int p2), (.int (13 : Int32)), (.ref ob0)])) _
    refine XS.iushr X2.here hx rfl (hb hby d1_15) rfl ?_
    show Steps p.tables e below (T2.setTop (mkF m 16 #[.val (.ref ob0), .val (.int (12 : Int32)), .val (.int p2)] [(.int ((p2.toUInt32 >>> ((16 : Int32) &&& 31).toUInt32).toInt32)), (.int (13 : Int32)), (.ref ob0)])) _
    refine XS.i2b X2.here hx rfl (hb hby d1_16) rfl ?_
    show Steps p.tables e below (T2.setTop (mkF m 17 #[.val (.ref ob0), .val (.int (12 : Int32)), .val (.int p2)] [(.int (((p2.toUInt32 >>> ((16 : Int32) &&& 31).toUInt32).toInt32).toInt8.toInt32)), (.int (13 : Int32)), (.ref ob0)])) _
    refine st4 _ ?_
    show Steps p.tables e below (T4.setTop (mkF m 18 #[.val (.ref ob0), .val (.int (12 : Int32)), .val (.int p2)] [])) _
    refine XS.aloadN X4.here hx rfl (hb hby d1_18) rfl rfl ?_
    show Steps p.tables e below (T4.setTop (mkF m 19 #[.val (.ref ob0), .val (.int (12 : Int32)), .val (.int p2)] [(.ref ob0)])) _
    refine XS.iloadN X4.here hx rfl (hb hby d1_19) rfl ?_
    show Steps p.tables e below (T4.setTop (mkF m 20 #[.val (.ref ob0), .val (.int (12 : Int32)), .val (.int p2)] [(.int (12 : Int32)), (.ref ob0)])) _
    refine XS.iconst X4.here hx rfl (hb hby d1_20) ?_
    show Steps p.tables e below (T4.setTop (mkF m 21 #[.val (.ref ob0), .val (.int (12 : Int32)), .val (.int p2)] [(.int (2 : Int32)), (.int (12 : Int32)), (.ref ob0)])) _
    refine XS.iadd X4.here hx rfl (hb hby d1_21) rfl ?_
    show Steps p.tables e below (T4.setTop (mkF m 22 #[.val (.ref ob0), .val (.int (12 : Int32)), .val (.int p2)] [(.int (14 : Int32)), (.ref ob0)])) _
    refine XS.iloadN X4.here hx rfl (hb hby d1_22) rfl ?_
    show Steps p.tables e below (T4.setTop (mkF m 23 #[.val (.ref ob0), .val (.int (12 : Int32)), .val (.int p2)] [(.int p2), (.int (14 : Int32)), (.ref ob0)])) _
    refine XS.bipush X4.here hx rfl (hb hby d1_23) ?_
    show Steps p.tables e below (T4.setTop (mkF m 25 #[.val (.ref ob0), .val (.int (12 : Int32)), .val (.int p2)] [(.int (8 : Int32)), (.int p2), (.int (14 : Int32)), (.ref ob0)])) _
    refine XS.iushr X4.here hx rfl (hb hby d1_25) rfl ?_
    show Steps p.tables e below (T4.setTop (mkF m 26 #[.val (.ref ob0), .val (.int (12 : Int32)), .val (.int p2)] [(.int ((p2.toUInt32 >>> ((8 : Int32) &&& 31).toUInt32).toInt32)), (.int (14 : Int32)), (.ref ob0)])) _
    refine XS.i2b X4.here hx rfl (hb hby d1_26) rfl ?_
    show Steps p.tables e below (T4.setTop (mkF m 27 #[.val (.ref ob0), .val (.int (12 : Int32)), .val (.int p2)] [(.int (((p2.toUInt32 >>> ((8 : Int32) &&& 31).toUInt32).toInt32).toInt8.toInt32)), (.int (14 : Int32)), (.ref ob0)])) _
    refine st6 _ ?_
    show Steps p.tables e below (T6.setTop (mkF m 28 #[.val (.ref ob0), .val (.int (12 : Int32)), .val (.int p2)] [])) _
    refine XS.aloadN X6.here hx rfl (hb hby d1_28) rfl rfl ?_
    show Steps p.tables e below (T6.setTop (mkF m 29 #[.val (.ref ob0), .val (.int (12 : Int32)), .val (.int p2)] [(.ref ob0)])) _
    refine XS.iloadN X6.here hx rfl (hb hby d1_29) rfl ?_
    show Steps p.tables e below (T6.setTop (mkF m 30 #[.val (.ref ob0), .val (.int (12 : Int32)), .val (.int p2)] [(.int (12 : Int32)), (.ref ob0)])) _
    refine XS.iconst X6.here hx rfl (hb hby d1_30) ?_
    show Steps p.tables e below (T6.setTop (mkF m 31 #[.val (.ref ob0), .val (.int (12 : Int32)), .val (.int p2)] [(.int (3 : Int32)), (.int (12 : Int32)), (.ref ob0)])) _
    refine XS.iadd X6.here hx rfl (hb hby d1_31) rfl ?_
    show Steps p.tables e below (T6.setTop (mkF m 32 #[.val (.ref ob0), .val (.int (12 : Int32)), .val (.int p2)] [(.int (15 : Int32)), (.ref ob0)])) _
    refine XS.iloadN X6.here hx rfl (hb hby d1_32) rfl ?_
    show Steps p.tables e below (T6.setTop (mkF m 33 #[.val (.ref ob0), .val (.int (12 : Int32)), .val (.int p2)] [(.int p2), (.int (15 : Int32)), (.ref ob0)])) _
    refine XS.i2b X6.here hx rfl (hb hby d1_33) rfl ?_
    show Steps p.tables e below (T6.setTop (mkF m 34 #[.val (.ref ob0), .val (.int (12 : Int32)), .val (.int p2)] [(.int (p2.toInt8.toInt32)), (.int (15 : Int32)), (.ref ob0)])) _
    refine st8 _ ?_
    show Steps p.tables e below (T8.setTop (mkF m 35 #[.val (.ref ob0), .val (.int (12 : Int32)), .val (.int p2)] [])) _
    exact X8.returnOut hx Bd.returns (hb hby d1_35) hr
  · show Q1_16_12 Z ob0 p2 kk0 x0_0 x0_1 x0_2 x0_3 x0_4 x0_5 x0_6 x0_7 x0_8 x0_9 x0_10 x0_11 x0_12 x0_13 x0_14 x0_15 h0 n0 _ T8.heap _
    rw [e8]
    exact ⟨rfl, N8, K8, ⟨_, vV8⟩⟩
def F4_16 (x0_0 : Int32) (x0_1 : Int32) (x0_2 : Int32) (x0_3 : Int32) (x0_4 : Int32) (x0_5 : Int32) (x0_6 : Int32) (x0_7 : Int32) (x0_8 : Int32) (x0_9 : Int32) (x0_10 : Int32) (x0_11 : Int32) : Int32 :=
  if x0_0 = (0 : Int32) then (if x0_1 = (0 : Int32) then (if x0_2 = (0 : Int32) then (if x0_3 = (0 : Int32) then (if x0_4 = (0 : Int32) then (if x0_5 = (0 : Int32) then (if x0_6 = (0 : Int32) then (if x0_7 = (0 : Int32) then (if x0_8 = (0 : Int32) then (if x0_9 = (0 : Int32) then (if x0_10 = (-1 : Int32) then (if x0_11 = (-1 : Int32) then (1 : Int32) else (0 : Int32)) else (0 : Int32)) else (0 : Int32)) else (0 : Int32)) else (0 : Int32)) else (0 : Int32)) else (0 : Int32)) else (0 : Int32)) else (0 : Int32)) else (0 : Int32)) else (0 : Int32)) else (0 : Int32)
theorem own_all {a0 a1 a2 a3 a4 a5 a6 a7 a8 a9 a10 a11 : Int32} (h : ¬ F4_16 a0 a1 a2 a3 a4 a5 a6 a7 a8 a9 a10 a11 = 0) : (a0 = 0 ∧ a1 = 0 ∧ a2 = 0 ∧ a3 = 0) ∧ (a4 = 0 ∧ a5 = 0 ∧ a6 = 0 ∧ a7 = 0) ∧ (a8 = 0 ∧ a9 = 0 ∧ a10 = -1 ∧ a11 = -1) := by
  refine Classical.byContradiction fun n => h ?_
  rw [F4_16]
  by_cases c0 : a0 = (0 : Int32)
  · rw [if_pos c0]
    by_cases c1 : a1 = (0 : Int32)
    · rw [if_pos c1]
      by_cases c2 : a2 = (0 : Int32)
      · rw [if_pos c2]
        by_cases c3 : a3 = (0 : Int32)
        · rw [if_pos c3]
          by_cases c4 : a4 = (0 : Int32)
          · rw [if_pos c4]
            by_cases c5 : a5 = (0 : Int32)
            · rw [if_pos c5]
              by_cases c6 : a6 = (0 : Int32)
              · rw [if_pos c6]
                by_cases c7 : a7 = (0 : Int32)
                · rw [if_pos c7]
                  by_cases c8 : a8 = (0 : Int32)
                  · rw [if_pos c8]
                    by_cases c9 : a9 = (0 : Int32)
                    · rw [if_pos c9]
                      by_cases c10 : a10 = (-1 : Int32)
                      · rw [if_pos c10]
                        by_cases c11 : a11 = (-1 : Int32)
                        · rw [if_pos c11]
                          exact absurd ⟨⟨c0, c1, c2, c3⟩, ⟨c4, c5, c6, c7⟩, c8, c9, c10, c11⟩ n
                        · rw [if_neg c11]
                      · rw [if_neg c10]
                    · rw [if_neg c9]
                  · rw [if_neg c8]
                · rw [if_neg c7]
              · rw [if_neg c6]
            · rw [if_neg c5]
          · rw [if_neg c4]
        · rw [if_neg c3]
      · rw [if_neg c2]
    · rw [if_neg c1]
  · rw [if_neg c0]
theorem own_byte (y : Int32) : (nar .byte (y.toInt8.toInt32)).toInt = y.toInt.bmod 256 := by
  show ((y.toInt8.toInt32).toInt8.toInt32).toInt = _
  rw [Int8.toInt_toInt32, Int32.toInt_toInt8, Int8.toInt_toInt32, Int32.toInt_toInt8]
  exact Int.bmod_bmod
theorem own_w (w : Int32) : w.toInt = ((w.toUInt32.toNat : Nat) : Int).bmod (2 ^ 32) := BitVec.toInt_eq_toNat_bmod _
theorem own_sh (w k : Int32) (n : Nat) (hk : (k &&& 31).toUInt32.toNat = n) (hn : n < 32) : ((w.toUInt32 >>> (k &&& 31).toUInt32).toInt32).toInt = ((w.toUInt32.toNat / 2 ^ n : Nat) : Int).bmod (2 ^ 32) := by
  have q : ((w.toUInt32 >>> (k &&& 31).toUInt32).toInt32).toInt = (((w.toUInt32 >>> (k &&& 31).toUInt32).toNat : Nat) : Int).bmod (2 ^ 32) := BitVec.toInt_eq_toNat_bmod _
  rw [q, UInt32.toNat_shiftRight, hk, Nat.mod_eq_of_lt hn, Nat.shiftRight_eq_div_pow]
theorem own_word {w x : Int32} (h : w.toUInt32.toNat = x.toUInt32.toNat) : w = x := by
  apply Int32.toInt_inj.mp
  rw [own_w, own_w x, h]
theorem own_bytes (w : Int32) : (nar .byte ((((w).toUInt32 >>> ((24 : Int32) &&& 31).toUInt32).toInt32).toInt8.toInt32)).toInt = (((w.toUInt32.toNat / 2 ^ 24 : Nat) : Int).bmod (2 ^ 32)).bmod 256 ∧ (nar .byte ((((w).toUInt32 >>> ((16 : Int32) &&& 31).toUInt32).toInt32).toInt8.toInt32)).toInt = (((w.toUInt32.toNat / 2 ^ 16 : Nat) : Int).bmod (2 ^ 32)).bmod 256 ∧ (nar .byte ((((w).toUInt32 >>> ((8 : Int32) &&& 31).toUInt32).toInt32).toInt8.toInt32)).toInt = (((w.toUInt32.toNat / 2 ^ 8 : Nat) : Int).bmod (2 ^ 32)).bmod 256 ∧ (nar .byte ((w).toInt8.toInt32)).toInt = (((w.toUInt32.toNat : Nat) : Int).bmod (2 ^ 32)).bmod 256 := by
  refine ⟨?_, ?_, ?_, ?_⟩
  · rw [own_byte, own_sh w 24 24 (by decide) (by decide)]
  · rw [own_byte, own_sh w 16 16 (by decide) (by decide)]
  · rw [own_byte, own_sh w 8 8 (by decide) (by decide)]
  · rw [own_byte, own_w]
theorem own_bm0 (n : Nat) (hn : n < 2 ^ 32) (h : ((n : Int).bmod (2 ^ 32)).bmod 256 = 0) : n % 256 = 0 := by
  simp only [Int.bmod_def] at h; omega
theorem own_bm1 (n : Nat) (hn : n < 2 ^ 32) (h : ((n : Int).bmod (2 ^ 32)).bmod 256 = -1) : n % 256 = 255 := by
  simp only [Int.bmod_def] at h; omega
theorem own_lt (w : Int32) : w.toUInt32.toNat < 2 ^ 32 := w.toUInt32.toNat_lt
theorem own_zero {w : Int32} (h : (nar .byte ((((w).toUInt32 >>> ((24 : Int32) &&& 31).toUInt32).toInt32).toInt8.toInt32)) = 0 ∧ (nar .byte ((((w).toUInt32 >>> ((16 : Int32) &&& 31).toUInt32).toInt32).toInt8.toInt32)) = 0 ∧ (nar .byte ((((w).toUInt32 >>> ((8 : Int32) &&& 31).toUInt32).toInt32).toInt8.toInt32)) = 0 ∧ (nar .byte ((w).toInt8.toInt32)) = 0) : w = 0 := by
  obtain ⟨h1, h2, h3, h4⟩ := h
  obtain ⟨e1, e2, e3, e4⟩ := own_bytes w
  rw [h1, Int32.toInt_zero] at e1; rw [h2, Int32.toInt_zero] at e2; rw [h3, Int32.toInt_zero] at e3; rw [h4, Int32.toInt_zero] at e4
  have l := own_lt w
  have m1 := own_bm0 _ (by omega) e1.symm; have m2 := own_bm0 _ (by omega) e2.symm; have m3 := own_bm0 _ (by omega) e3.symm; have m4 := own_bm0 _ (by omega) e4.symm
  apply own_word
  rw [show (0 : Int32).toUInt32.toNat = 0 from by decide]
  omega
theorem own_ffff {w : Int32} (h : (nar .byte ((((w).toUInt32 >>> ((24 : Int32) &&& 31).toUInt32).toInt32).toInt8.toInt32)) = 0 ∧ (nar .byte ((((w).toUInt32 >>> ((16 : Int32) &&& 31).toUInt32).toInt32).toInt8.toInt32)) = 0 ∧ (nar .byte ((((w).toUInt32 >>> ((8 : Int32) &&& 31).toUInt32).toInt32).toInt8.toInt32)) = -1 ∧ (nar .byte ((w).toInt8.toInt32)) = -1) : w = 65535 := by
  obtain ⟨h1, h2, h3, h4⟩ := h
  obtain ⟨e1, e2, e3, e4⟩ := own_bytes w
  have en : (-1 : Int32).toInt = -1 := by decide
  rw [h1, Int32.toInt_zero] at e1; rw [h2, Int32.toInt_zero] at e2; rw [h3, en] at e3; rw [h4, en] at e4
  have l := own_lt w
  have m1 := own_bm0 _ (by omega) e1.symm; have m2 := own_bm0 _ (by omega) e2.symm; have m3 := own_bm1 _ (by omega) e3.symm; have m4 := own_bm1 _ (by omega) e4.symm
  apply own_word
  rw [show (65535 : Int32).toUInt32.toNat = 65535 from by decide]
  omega
theorem own_map0 {w0 w1 w2 : Int32} (h : ¬ (w0 = 0 ∧ w1 = 0 ∧ w2 = 65535)) : F4_16 (nar .byte ((((w0).toUInt32 >>> ((24 : Int32) &&& 31).toUInt32).toInt32).toInt8.toInt32)) (nar .byte ((((w0).toUInt32 >>> ((16 : Int32) &&& 31).toUInt32).toInt32).toInt8.toInt32)) (nar .byte ((((w0).toUInt32 >>> ((8 : Int32) &&& 31).toUInt32).toInt32).toInt8.toInt32)) (nar .byte ((w0).toInt8.toInt32)) (nar .byte ((((w1).toUInt32 >>> ((24 : Int32) &&& 31).toUInt32).toInt32).toInt8.toInt32)) (nar .byte ((((w1).toUInt32 >>> ((16 : Int32) &&& 31).toUInt32).toInt32).toInt8.toInt32)) (nar .byte ((((w1).toUInt32 >>> ((8 : Int32) &&& 31).toUInt32).toInt32).toInt8.toInt32)) (nar .byte ((w1).toInt8.toInt32)) (nar .byte ((((w2).toUInt32 >>> ((24 : Int32) &&& 31).toUInt32).toInt32).toInt8.toInt32)) (nar .byte ((((w2).toUInt32 >>> ((16 : Int32) &&& 31).toUInt32).toInt32).toInt8.toInt32)) (nar .byte ((((w2).toUInt32 >>> ((8 : Int32) &&& 31).toUInt32).toInt32).toInt8.toInt32)) (nar .byte ((w2).toInt8.toInt32)) = 0 := by
  refine Classical.byContradiction fun q => h ?_
  obtain ⟨h1, h2, h3⟩ := own_all q
  exact ⟨own_zero h1, own_zero h2, own_ffff h3⟩
theorem own_map1 {w0 w1 w2 : Int32} (h0 : w0 = 0) (h1 : w1 = 0) (h2 : w2 = 65535) : ¬ (F4_16 (nar .byte ((((w0).toUInt32 >>> ((24 : Int32) &&& 31).toUInt32).toInt32).toInt8.toInt32)) (nar .byte ((((w0).toUInt32 >>> ((16 : Int32) &&& 31).toUInt32).toInt32).toInt8.toInt32)) (nar .byte ((((w0).toUInt32 >>> ((8 : Int32) &&& 31).toUInt32).toInt32).toInt8.toInt32)) (nar .byte ((w0).toInt8.toInt32)) (nar .byte ((((w1).toUInt32 >>> ((24 : Int32) &&& 31).toUInt32).toInt32).toInt8.toInt32)) (nar .byte ((((w1).toUInt32 >>> ((16 : Int32) &&& 31).toUInt32).toInt32).toInt8.toInt32)) (nar .byte ((((w1).toUInt32 >>> ((8 : Int32) &&& 31).toUInt32).toInt32).toInt8.toInt32)) (nar .byte ((w1).toInt8.toInt32)) (nar .byte ((((w2).toUInt32 >>> ((24 : Int32) &&& 31).toUInt32).toInt32).toInt8.toInt32)) (nar .byte ((((w2).toUInt32 >>> ((16 : Int32) &&& 31).toUInt32).toInt32).toInt8.toInt32)) (nar .byte ((((w2).toUInt32 >>> ((8 : Int32) &&& 31).toUInt32).toInt32).toInt8.toInt32)) (nar .byte ((w2).toInt8.toInt32)) = 0) := by
  subst h0 h1 h2; decide
theorem d4_0 : decode prog_43_method_12_code 0 = .ok (.aload_n 0, 1) := by decide +kernel
theorem d4_1 : decode prog_43_method_12_code 1 = .ok (.arraylength, 1) := by decide +kernel
theorem d4_2 : decode prog_43_method_12_code 2 = .ok (.bipush 16, 2) := by decide +kernel
theorem d4_4 : decode prog_43_method_12_code 4 = .ok (.if_icmp .eq 5, 3) := by decide +kernel
theorem d4_9 : decode prog_43_method_12_code 9 = .ok (.iconst 0, 1) := by decide +kernel
theorem d4_10 : decode prog_43_method_12_code 10 = .ok (.istore_n 1, 1) := by decide +kernel
theorem d4_11 : decode prog_43_method_12_code 11 = .ok (.iload_n 1, 1) := by decide +kernel
theorem d4_12 : decode prog_43_method_12_code 12 = .ok (.bipush 10, 2) := by decide +kernel
theorem d4_14 : decode prog_43_method_12_code 14 = .ok (.if_icmp .ge 17, 3) := by decide +kernel
theorem d4_17 : decode prog_43_method_12_code 17 = .ok (.aload_n 0, 1) := by decide +kernel
theorem d4_18 : decode prog_43_method_12_code 18 = .ok (.iload_n 1, 1) := by decide +kernel
theorem d4_19 : decode prog_43_method_12_code 19 = .ok (.baload, 1) := by decide +kernel
theorem d4_20 : decode prog_43_method_12_code 20 = .ok (.ifCond .eq 5, 3) := by decide +kernel
theorem d4_23 : decode prog_43_method_12_code 23 = .ok (.iconst 0, 1) := by decide +kernel
theorem d4_24 : decode prog_43_method_12_code 24 = .ok (.ireturn, 1) := by decide +kernel
theorem d4_25 : decode prog_43_method_12_code 25 = .ok (.iinc 1 1, 3) := by decide +kernel
theorem d4_28 : decode prog_43_method_12_code 28 = .ok (.goto (-17), 3) := by decide +kernel
theorem d4_31 : decode prog_43_method_12_code 31 = .ok (.aload_n 0, 1) := by decide +kernel
theorem d4_32 : decode prog_43_method_12_code 32 = .ok (.bipush 10, 2) := by decide +kernel
theorem d4_34 : decode prog_43_method_12_code 34 = .ok (.baload, 1) := by decide +kernel
theorem d4_35 : decode prog_43_method_12_code 35 = .ok (.iconst (-1), 1) := by decide +kernel
theorem d4_36 : decode prog_43_method_12_code 36 = .ok (.if_icmp .ne 15, 3) := by decide +kernel
theorem d4_39 : decode prog_43_method_12_code 39 = .ok (.aload_n 0, 1) := by decide +kernel
theorem d4_40 : decode prog_43_method_12_code 40 = .ok (.bipush 11, 2) := by decide +kernel
theorem d4_42 : decode prog_43_method_12_code 42 = .ok (.baload, 1) := by decide +kernel
theorem d4_43 : decode prog_43_method_12_code 43 = .ok (.iconst (-1), 1) := by decide +kernel
theorem d4_44 : decode prog_43_method_12_code 44 = .ok (.if_icmp .ne 7, 3) := by decide +kernel
theorem d4_47 : decode prog_43_method_12_code 47 = .ok (.iconst 1, 1) := by decide +kernel
theorem d4_48 : decode prog_43_method_12_code 48 = .ok (.goto 4, 3) := by decide +kernel
theorem d4_51 : decode prog_43_method_12_code 51 = .ok (.iconst 0, 1) := by decide +kernel
theorem d4_52 : decode prog_43_method_12_code 52 = .ok (.ireturn, 1) := by decide +kernel
theorem pn_4 : plainName "com/example/flytrap/flytrap/net/IpAddress" = true := by first | (simp [plainName, overriddenIn]; done) | decide +kernel
theorem ef_4_16 (m : MethodId) (ob0 : Addr) : entryFrame m #[(.ref ob0)] 2 = mkF m 0 #[.val (.ref ob0), .unset] [] := by first | (simp [entryFrame, mkF, argsToLocals, Value.category]; done) | rfl
def Q4_16 (Z : State) (ob0 : Addr) (kk0 : ClassId) (x0_0 : Int32) (x0_1 : Int32) (x0_2 : Int32) (x0_3 : Int32) (x0_4 : Int32) (x0_5 : Int32) (x0_6 : Int32) (x0_7 : Int32) (x0_8 : Int32) (x0_9 : Int32) (x0_10 : Int32) (x0_11 : Int32) (x0_12 : Int32) (x0_13 : Int32) (x0_14 : Int32) (x0_15 : Int32) (h0 : Heap) (n0 : Nat) (v : Option Value) (h : Heap) (L : List Loc) : Prop := v = some (.int (F4_16 x0_0 x0_1 x0_2 x0_3 x0_4 x0_5 x0_6 x0_7 x0_8 x0_9 x0_10 x0_11)) ∧ Fr n0 L ∧ h = h0
set_option maxRecDepth 65536 in
set_option maxHeartbeats 40000000 in
theorem rm4_16 (l : Launch) (Z : State) (a0 : Array Value) (hw : ∀ d ∈ tables_1, d.before a0 Z = true) (ws : List Jvm.Cond) (ob0 : Addr) (kk0 : ClassId) (x0_0 : Int32) (x0_1 : Int32) (x0_2 : Int32) (x0_3 : Int32) (x0_4 : Int32) (x0_5 : Int32) (x0_6 : Int32) (x0_7 : Int32) (x0_8 : Int32) (x0_9 : Int32) (x0_10 : Int32) (x0_11 : Int32) (x0_12 : Int32) (x0_13 : Int32) (x0_14 : Int32) (x0_15 : Int32) (h0 : Heap) (n0 : Nat) (Z0 : n0 ≤ h0.size) (V_ob0 : Arv Z h0 ob0 kk0 .byte (16 : Int32) [(.int x0_0), (.int x0_1), (.int x0_2), (.int x0_3), (.int x0_4), (.int x0_5), (.int x0_6), (.int x0_7), (.int x0_8), (.int x0_9), (.int x0_10), (.int x0_11), (.int x0_12), (.int x0_13), (.int x0_14), (.int x0_15)] (.int (0 : Int32))) :
    MetFree l (⟨"com/example/flytrap/flytrap/net/IpAddress", "isIpv4Mapped", "([B)Z"⟩ : MethodName) (head1 (Jvm.Cond.code (⟨"com/example/flytrap/flytrap/net/IpAddress", "isIpv4Mapped", "([B)Z"⟩ : MethodName) prog_43_method_12_code 2 (some .boolean) :: ws) ({ frames := 0, cells := 0, slots := 0, locals := 0 } : Room)) (fun a U => a = #[(.ref ob0)] ∧ Z.Warmed39 U.vm ∧ U.heap = h0) (fun _ _ _ _ _ => True) (fun _ U o U' => ∃ v L, o = .returned v ∧ Q4_16 Z ob0 kk0 x0_0 x0_1 x0_2 x0_3 x0_4 x0_5 x0_6 x0_7 x0_8 x0_9 x0_10 x0_11 x0_12 x0_13 x0_14 x0_15 h0 n0 v U'.heap L ∧ FrameEnd U o U' L ({ frames := 0, cells := 0, slots := 0, locals := 0 } : Room).cells ({ frames := 0, cells := 0, slots := 0, locals := 0 } : Room).slots) := by
  refine MetFree.of_bodySF (plainFor_of_name pn_4) hisR ?_
  intro p e s m args below meth c s₁ Bd hml0 hP hK
  obtain ⟨rfl, hZ, hh⟩ := hP
  have hx := Bd.exec
  have hby := Bd.bytes
  have hml : c.maxLocals = 2 := hml0
  have hown : s.vm.findClass "com/example/flytrap/flytrap/net/IpAddress" = some m.cls := findClass_of_methodNamed Bd.named
  have hnm := (name_of_methodNamed Bd.named Bd.method).1
  have X0 : Stand p l e ({ frames := 0, cells := 0, slots := 0, locals := 0 } : Room) s m #[(.ref ob0)] below meth c s₁ [] 0 0 := Stand.of_body Bd
  have e0 : s₁.heap = h0 := by rw [← hh, Bd.state]; rfl
  have N0 := Fr.nil n0
  have pre0 : ∀ t, Steps p.tables e below (s₁.setTop (mkF m 0 #[.val (.ref ob0), .unset] [])) t → Steps p.tables e below (s₁.setTop (entryFrame m #[(.ref ob0)] 2)) t := fun t k => castTop (ef_4_16 m ob0) k
  obtain ⟨cl1, Ar1, -, Sz1, Ng1, -, -⟩ := id V_ob0
  obtain ⟨cl2, Ar2, qq2, Sz2, Ng2, Hs2, Gs2⟩ := id V_ob0
  have hin2 : ¬ ((0 : Int32) < 0 ∨ cl2.slots.size ≤ ((0 : Int32)).toNatClampNeg) := inb_of Sz2 ⟨by decide, by decide⟩
  have pre3 : ∀ t, Steps p.tables e below (s₁.setTop (mkF m 20 #[.val (.ref ob0), .val (.int (0 : Int32))] [(.int x0_0)])) t → Steps p.tables e below (s₁.setTop (entryFrame m #[(.ref ob0)] 2)) t := fun t k => by
    refine pre0 t ?_
    show Steps p.tables e below (s₁.setTop (mkF m 0 #[.val (.ref ob0), .unset] [])) _
    refine XS.aloadN X0.here hx rfl (hb hby d4_0) rfl rfl ?_
    show Steps p.tables e below (s₁.setTop (mkF m 1 #[.val (.ref ob0), .unset] [(.ref ob0)])) _
    refine X0.arraylength hx (by rw [e0]; exact Ar1.1) (State.isArrayOf_alike hZ.alike Ar1.2.1) (g := (mkF m 1 #[.val (.ref ob0), .unset] [(.ref ob0)])) rfl rfl (hb hby d4_1) _ ?_
    rw [len_of Sz1 Ng1]
    show Steps p.tables e below (s₁.setTop (mkF m 2 #[.val (.ref ob0), .unset] [(.int (16 : Int32))])) _
    refine XS.bipush X0.here hx rfl (hb hby d4_2) ?_
    show Steps p.tables e below (s₁.setTop (mkF m 4 #[.val (.ref ob0), .unset] [(.int (16 : Int32)), (.int (16 : Int32))])) _
    refine XS.icmpYes X0.here hx rfl (pc0 := 4) (pc' := 9) rfl (hb hby d4_4) rfl (teq (by decide : (16 : Int32) = (16 : Int32))).1 (by decide) (by decide) ?_
    show Steps p.tables e below (s₁.setTop (mkF m 9 #[.val (.ref ob0), .unset] [])) _
    refine XS.iconst X0.here hx rfl (hb hby d4_9) ?_
    show Steps p.tables e below (s₁.setTop (mkF m 10 #[.val (.ref ob0), .unset] [(.int (0 : Int32))])) _
    refine XS.istoreN X0.here hx rfl (hb hby d4_10) rfl (l' := #[.val (.ref ob0), .val (.int (0 : Int32))]) rfl ?_
    show Steps p.tables e below (s₁.setTop (mkF m 11 #[.val (.ref ob0), .val (.int (0 : Int32))] [])) _
    refine XS.iloadN X0.here hx rfl (hb hby d4_11) rfl ?_
    show Steps p.tables e below (s₁.setTop (mkF m 12 #[.val (.ref ob0), .val (.int (0 : Int32))] [(.int (0 : Int32))])) _
    refine XS.bipush X0.here hx rfl (hb hby d4_12) ?_
    show Steps p.tables e below (s₁.setTop (mkF m 14 #[.val (.ref ob0), .val (.int (0 : Int32))] [(.int (10 : Int32)), (.int (0 : Int32))])) _
    refine XS.icmpNo X0.here hx rfl (hb hby d4_14) rfl (tlt (by decide : (0 : Int32) < (10 : Int32))).2.1 ?_
    show Steps p.tables e below (s₁.setTop (mkF m 17 #[.val (.ref ob0), .val (.int (0 : Int32))] [])) _
    refine XS.aloadN X0.here hx rfl (hb hby d4_17) rfl rfl ?_
    show Steps p.tables e below (s₁.setTop (mkF m 18 #[.val (.ref ob0), .val (.int (0 : Int32))] [(.ref ob0)])) _
    refine XS.iloadN X0.here hx rfl (hb hby d4_18) rfl ?_
    show Steps p.tables e below (s₁.setTop (mkF m 19 #[.val (.ref ob0), .val (.int (0 : Int32))] [(.int (0 : Int32)), (.ref ob0)])) _
    refine X0.baloadBytes hx (j := (0 : Int32)) (v := (.int x0_0)) (by rw [e0]; exact Ar2.1) (State.isArrayOf_alike hZ.alike Ar2.2.1) Ar2.2.2 hin2 (Has.at Hs2 hin2 rfl) (g := (mkF m 19 #[.val (.ref ob0), .val (.int (0 : Int32))] [(.int (0 : Int32)), (.ref ob0)])) rfl rfl (hb hby d4_19) _ ?_
    exact k
  by_cases hc20 : x0_0 = (0 : Int32)
  · obtain ⟨cl4, Ar4, qq4, Sz4, Ng4, Hs4, Gs4⟩ := id V_ob0
    have hin4 : ¬ ((1 : Int32) < 0 ∨ cl4.slots.size ≤ ((1 : Int32)).toNatClampNeg) := inb_of Sz4 ⟨by decide, by decide⟩
    have pre5 : ∀ t, Steps p.tables e below (s₁.setTop (mkF m 20 #[.val (.ref ob0), .val (.int (1 : Int32))] [(.int x0_1)])) t → Steps p.tables e below (s₁.setTop (entryFrame m #[(.ref ob0)] 2)) t := fun t k => by
      refine pre3 t ?_
      show Steps p.tables e below (s₁.setTop (mkF m 20 #[.val (.ref ob0), .val (.int (0 : Int32))] [(.int x0_0)])) _
      refine XS.ifYes X0.here hx rfl (pc0 := 20) (pc' := 25) rfl (hb hby d4_20) rfl ((if0 _ _).trans (teq hc20).1) (by decide) (by decide) ?_
      show Steps p.tables e below (s₁.setTop (mkF m 25 #[.val (.ref ob0), .val (.int (0 : Int32))] [])) _
      refine XS.iinc X0.here hx rfl (hb hby d4_25) rfl (l' := #[.val (.ref ob0), .val (.int (1 : Int32))]) rfl ?_
      show Steps p.tables e below (s₁.setTop (mkF m 28 #[.val (.ref ob0), .val (.int (1 : Int32))] [])) _
      refine XS.goto X0.here hx rfl (pc0 := 28) (pc' := 11) rfl (hb hby d4_28) (by decide) (by decide) ?_
      show Steps p.tables e below (s₁.setTop (mkF m 11 #[.val (.ref ob0), .val (.int (1 : Int32))] [])) _
      refine XS.iloadN X0.here hx rfl (hb hby d4_11) rfl ?_
      show Steps p.tables e below (s₁.setTop (mkF m 12 #[.val (.ref ob0), .val (.int (1 : Int32))] [(.int (1 : Int32))])) _
      refine XS.bipush X0.here hx rfl (hb hby d4_12) ?_
      show Steps p.tables e below (s₁.setTop (mkF m 14 #[.val (.ref ob0), .val (.int (1 : Int32))] [(.int (10 : Int32)), (.int (1 : Int32))])) _
      refine XS.icmpNo X0.here hx rfl (hb hby d4_14) rfl (tlt (by decide : (1 : Int32) < (10 : Int32))).2.1 ?_
      show Steps p.tables e below (s₁.setTop (mkF m 17 #[.val (.ref ob0), .val (.int (1 : Int32))] [])) _
      refine XS.aloadN X0.here hx rfl (hb hby d4_17) rfl rfl ?_
      show Steps p.tables e below (s₁.setTop (mkF m 18 #[.val (.ref ob0), .val (.int (1 : Int32))] [(.ref ob0)])) _
      refine XS.iloadN X0.here hx rfl (hb hby d4_18) rfl ?_
      show Steps p.tables e below (s₁.setTop (mkF m 19 #[.val (.ref ob0), .val (.int (1 : Int32))] [(.int (1 : Int32)), (.ref ob0)])) _
      refine X0.baloadBytes hx (j := (1 : Int32)) (v := (.int x0_1)) (by rw [e0]; exact Ar4.1) (State.isArrayOf_alike hZ.alike Ar4.2.1) Ar4.2.2 hin4 (Has.at Hs4 hin4 rfl) (g := (mkF m 19 #[.val (.ref ob0), .val (.int (1 : Int32))] [(.int (1 : Int32)), (.ref ob0)])) rfl rfl (hb hby d4_19) _ ?_
      exact k
    by_cases hc20_2 : x0_1 = (0 : Int32)
    · obtain ⟨cl6, Ar6, qq6, Sz6, Ng6, Hs6, Gs6⟩ := id V_ob0
      have hin6 : ¬ ((2 : Int32) < 0 ∨ cl6.slots.size ≤ ((2 : Int32)).toNatClampNeg) := inb_of Sz6 ⟨by decide, by decide⟩
      have pre7 : ∀ t, Steps p.tables e below (s₁.setTop (mkF m 20 #[.val (.ref ob0), .val (.int (2 : Int32))] [(.int x0_2)])) t → Steps p.tables e below (s₁.setTop (entryFrame m #[(.ref ob0)] 2)) t := fun t k => by
        refine pre5 t ?_
        show Steps p.tables e below (s₁.setTop (mkF m 20 #[.val (.ref ob0), .val (.int (1 : Int32))] [(.int x0_1)])) _
        refine XS.ifYes X0.here hx rfl (pc0 := 20) (pc' := 25) rfl (hb hby d4_20) rfl ((if0 _ _).trans (teq hc20_2).1) (by decide) (by decide) ?_
        show Steps p.tables e below (s₁.setTop (mkF m 25 #[.val (.ref ob0), .val (.int (1 : Int32))] [])) _
        refine XS.iinc X0.here hx rfl (hb hby d4_25) rfl (l' := #[.val (.ref ob0), .val (.int (2 : Int32))]) rfl ?_
        show Steps p.tables e below (s₁.setTop (mkF m 28 #[.val (.ref ob0), .val (.int (2 : Int32))] [])) _
        refine XS.goto X0.here hx rfl (pc0 := 28) (pc' := 11) rfl (hb hby d4_28) (by decide) (by decide) ?_
        show Steps p.tables e below (s₁.setTop (mkF m 11 #[.val (.ref ob0), .val (.int (2 : Int32))] [])) _
        refine XS.iloadN X0.here hx rfl (hb hby d4_11) rfl ?_
        show Steps p.tables e below (s₁.setTop (mkF m 12 #[.val (.ref ob0), .val (.int (2 : Int32))] [(.int (2 : Int32))])) _
        refine XS.bipush X0.here hx rfl (hb hby d4_12) ?_
        show Steps p.tables e below (s₁.setTop (mkF m 14 #[.val (.ref ob0), .val (.int (2 : Int32))] [(.int (10 : Int32)), (.int (2 : Int32))])) _
        refine XS.icmpNo X0.here hx rfl (hb hby d4_14) rfl (tlt (by decide : (2 : Int32) < (10 : Int32))).2.1 ?_
        show Steps p.tables e below (s₁.setTop (mkF m 17 #[.val (.ref ob0), .val (.int (2 : Int32))] [])) _
        refine XS.aloadN X0.here hx rfl (hb hby d4_17) rfl rfl ?_
        show Steps p.tables e below (s₁.setTop (mkF m 18 #[.val (.ref ob0), .val (.int (2 : Int32))] [(.ref ob0)])) _
        refine XS.iloadN X0.here hx rfl (hb hby d4_18) rfl ?_
        show Steps p.tables e below (s₁.setTop (mkF m 19 #[.val (.ref ob0), .val (.int (2 : Int32))] [(.int (2 : Int32)), (.ref ob0)])) _
        refine X0.baloadBytes hx (j := (2 : Int32)) (v := (.int x0_2)) (by rw [e0]; exact Ar6.1) (State.isArrayOf_alike hZ.alike Ar6.2.1) Ar6.2.2 hin6 (Has.at Hs6 hin6 rfl) (g := (mkF m 19 #[.val (.ref ob0), .val (.int (2 : Int32))] [(.int (2 : Int32)), (.ref ob0)])) rfl rfl (hb hby d4_19) _ ?_
        exact k
      by_cases hc20_3 : x0_2 = (0 : Int32)
      · obtain ⟨cl8, Ar8, qq8, Sz8, Ng8, Hs8, Gs8⟩ := id V_ob0
        have hin8 : ¬ ((3 : Int32) < 0 ∨ cl8.slots.size ≤ ((3 : Int32)).toNatClampNeg) := inb_of Sz8 ⟨by decide, by decide⟩
        have pre9 : ∀ t, Steps p.tables e below (s₁.setTop (mkF m 20 #[.val (.ref ob0), .val (.int (3 : Int32))] [(.int x0_3)])) t → Steps p.tables e below (s₁.setTop (entryFrame m #[(.ref ob0)] 2)) t := fun t k => by
          refine pre7 t ?_
          show Steps p.tables e below (s₁.setTop (mkF m 20 #[.val (.ref ob0), .val (.int (2 : Int32))] [(.int x0_2)])) _
          refine XS.ifYes X0.here hx rfl (pc0 := 20) (pc' := 25) rfl (hb hby d4_20) rfl ((if0 _ _).trans (teq hc20_3).1) (by decide) (by decide) ?_
          show Steps p.tables e below (s₁.setTop (mkF m 25 #[.val (.ref ob0), .val (.int (2 : Int32))] [])) _
          refine XS.iinc X0.here hx rfl (hb hby d4_25) rfl (l' := #[.val (.ref ob0), .val (.int (3 : Int32))]) rfl ?_
          show Steps p.tables e below (s₁.setTop (mkF m 28 #[.val (.ref ob0), .val (.int (3 : Int32))] [])) _
          refine XS.goto X0.here hx rfl (pc0 := 28) (pc' := 11) rfl (hb hby d4_28) (by decide) (by decide) ?_
          show Steps p.tables e below (s₁.setTop (mkF m 11 #[.val (.ref ob0), .val (.int (3 : Int32))] [])) _
          refine XS.iloadN X0.here hx rfl (hb hby d4_11) rfl ?_
          show Steps p.tables e below (s₁.setTop (mkF m 12 #[.val (.ref ob0), .val (.int (3 : Int32))] [(.int (3 : Int32))])) _
          refine XS.bipush X0.here hx rfl (hb hby d4_12) ?_
          show Steps p.tables e below (s₁.setTop (mkF m 14 #[.val (.ref ob0), .val (.int (3 : Int32))] [(.int (10 : Int32)), (.int (3 : Int32))])) _
          refine XS.icmpNo X0.here hx rfl (hb hby d4_14) rfl (tlt (by decide : (3 : Int32) < (10 : Int32))).2.1 ?_
          show Steps p.tables e below (s₁.setTop (mkF m 17 #[.val (.ref ob0), .val (.int (3 : Int32))] [])) _
          refine XS.aloadN X0.here hx rfl (hb hby d4_17) rfl rfl ?_
          show Steps p.tables e below (s₁.setTop (mkF m 18 #[.val (.ref ob0), .val (.int (3 : Int32))] [(.ref ob0)])) _
          refine XS.iloadN X0.here hx rfl (hb hby d4_18) rfl ?_
          show Steps p.tables e below (s₁.setTop (mkF m 19 #[.val (.ref ob0), .val (.int (3 : Int32))] [(.int (3 : Int32)), (.ref ob0)])) _
          refine X0.baloadBytes hx (j := (3 : Int32)) (v := (.int x0_3)) (by rw [e0]; exact Ar8.1) (State.isArrayOf_alike hZ.alike Ar8.2.1) Ar8.2.2 hin8 (Has.at Hs8 hin8 rfl) (g := (mkF m 19 #[.val (.ref ob0), .val (.int (3 : Int32))] [(.int (3 : Int32)), (.ref ob0)])) rfl rfl (hb hby d4_19) _ ?_
          exact k
        by_cases hc20_4 : x0_3 = (0 : Int32)
        · obtain ⟨cl10, Ar10, qq10, Sz10, Ng10, Hs10, Gs10⟩ := id V_ob0
          have hin10 : ¬ ((4 : Int32) < 0 ∨ cl10.slots.size ≤ ((4 : Int32)).toNatClampNeg) := inb_of Sz10 ⟨by decide, by decide⟩
          have pre11 : ∀ t, Steps p.tables e below (s₁.setTop (mkF m 20 #[.val (.ref ob0), .val (.int (4 : Int32))] [(.int x0_4)])) t → Steps p.tables e below (s₁.setTop (entryFrame m #[(.ref ob0)] 2)) t := fun t k => by
            refine pre9 t ?_
            show Steps p.tables e below (s₁.setTop (mkF m 20 #[.val (.ref ob0), .val (.int (3 : Int32))] [(.int x0_3)])) _
            refine XS.ifYes X0.here hx rfl (pc0 := 20) (pc' := 25) rfl (hb hby d4_20) rfl ((if0 _ _).trans (teq hc20_4).1) (by decide) (by decide) ?_
            show Steps p.tables e below (s₁.setTop (mkF m 25 #[.val (.ref ob0), .val (.int (3 : Int32))] [])) _
            refine XS.iinc X0.here hx rfl (hb hby d4_25) rfl (l' := #[.val (.ref ob0), .val (.int (4 : Int32))]) rfl ?_
            show Steps p.tables e below (s₁.setTop (mkF m 28 #[.val (.ref ob0), .val (.int (4 : Int32))] [])) _
            refine XS.goto X0.here hx rfl (pc0 := 28) (pc' := 11) rfl (hb hby d4_28) (by decide) (by decide) ?_
            show Steps p.tables e below (s₁.setTop (mkF m 11 #[.val (.ref ob0), .val (.int (4 : Int32))] [])) _
            refine XS.iloadN X0.here hx rfl (hb hby d4_11) rfl ?_
            show Steps p.tables e below (s₁.setTop (mkF m 12 #[.val (.ref ob0), .val (.int (4 : Int32))] [(.int (4 : Int32))])) _
            refine XS.bipush X0.here hx rfl (hb hby d4_12) ?_
            show Steps p.tables e below (s₁.setTop (mkF m 14 #[.val (.ref ob0), .val (.int (4 : Int32))] [(.int (10 : Int32)), (.int (4 : Int32))])) _
            refine XS.icmpNo X0.here hx rfl (hb hby d4_14) rfl (tlt (by decide : (4 : Int32) < (10 : Int32))).2.1 ?_
            show Steps p.tables e below (s₁.setTop (mkF m 17 #[.val (.ref ob0), .val (.int (4 : Int32))] [])) _
            refine XS.aloadN X0.here hx rfl (hb hby d4_17) rfl rfl ?_
            show Steps p.tables e below (s₁.setTop (mkF m 18 #[.val (.ref ob0), .val (.int (4 : Int32))] [(.ref ob0)])) _
            refine XS.iloadN X0.here hx rfl (hb hby d4_18) rfl ?_
            show Steps p.tables e below (s₁.setTop (mkF m 19 #[.val (.ref ob0), .val (.int (4 : Int32))] [(.int (4 : Int32)), (.ref ob0)])) _
            refine X0.baloadBytes hx (j := (4 : Int32)) (v := (.int x0_4)) (by rw [e0]; exact Ar10.1) (State.isArrayOf_alike hZ.alike Ar10.2.1) Ar10.2.2 hin10 (Has.at Hs10 hin10 rfl) (g := (mkF m 19 #[.val (.ref ob0), .val (.int (4 : Int32))] [(.int (4 : Int32)), (.ref ob0)])) rfl rfl (hb hby d4_19) _ ?_
            exact k
          by_cases hc20_5 : x0_4 = (0 : Int32)
          · obtain ⟨cl12, Ar12, qq12, Sz12, Ng12, Hs12, Gs12⟩ := id V_ob0
            have hin12 : ¬ ((5 : Int32) < 0 ∨ cl12.slots.size ≤ ((5 : Int32)).toNatClampNeg) := inb_of Sz12 ⟨by decide, by decide⟩
            have pre13 : ∀ t, Steps p.tables e below (s₁.setTop (mkF m 20 #[.val (.ref ob0), .val (.int (5 : Int32))] [(.int x0_5)])) t → Steps p.tables e below (s₁.setTop (entryFrame m #[(.ref ob0)] 2)) t := fun t k => by
              refine pre11 t ?_
              show Steps p.tables e below (s₁.setTop (mkF m 20 #[.val (.ref ob0), .val (.int (4 : Int32))] [(.int x0_4)])) _
              refine XS.ifYes X0.here hx rfl (pc0 := 20) (pc' := 25) rfl (hb hby d4_20) rfl ((if0 _ _).trans (teq hc20_5).1) (by decide) (by decide) ?_
              show Steps p.tables e below (s₁.setTop (mkF m 25 #[.val (.ref ob0), .val (.int (4 : Int32))] [])) _
              refine XS.iinc X0.here hx rfl (hb hby d4_25) rfl (l' := #[.val (.ref ob0), .val (.int (5 : Int32))]) rfl ?_
              show Steps p.tables e below (s₁.setTop (mkF m 28 #[.val (.ref ob0), .val (.int (5 : Int32))] [])) _
              refine XS.goto X0.here hx rfl (pc0 := 28) (pc' := 11) rfl (hb hby d4_28) (by decide) (by decide) ?_
              show Steps p.tables e below (s₁.setTop (mkF m 11 #[.val (.ref ob0), .val (.int (5 : Int32))] [])) _
              refine XS.iloadN X0.here hx rfl (hb hby d4_11) rfl ?_
              show Steps p.tables e below (s₁.setTop (mkF m 12 #[.val (.ref ob0), .val (.int (5 : Int32))] [(.int (5 : Int32))])) _
              refine XS.bipush X0.here hx rfl (hb hby d4_12) ?_
              show Steps p.tables e below (s₁.setTop (mkF m 14 #[.val (.ref ob0), .val (.int (5 : Int32))] [(.int (10 : Int32)), (.int (5 : Int32))])) _
              refine XS.icmpNo X0.here hx rfl (hb hby d4_14) rfl (tlt (by decide : (5 : Int32) < (10 : Int32))).2.1 ?_
              show Steps p.tables e below (s₁.setTop (mkF m 17 #[.val (.ref ob0), .val (.int (5 : Int32))] [])) _
              refine XS.aloadN X0.here hx rfl (hb hby d4_17) rfl rfl ?_
              show Steps p.tables e below (s₁.setTop (mkF m 18 #[.val (.ref ob0), .val (.int (5 : Int32))] [(.ref ob0)])) _
              refine XS.iloadN X0.here hx rfl (hb hby d4_18) rfl ?_
              show Steps p.tables e below (s₁.setTop (mkF m 19 #[.val (.ref ob0), .val (.int (5 : Int32))] [(.int (5 : Int32)), (.ref ob0)])) _
              refine X0.baloadBytes hx (j := (5 : Int32)) (v := (.int x0_5)) (by rw [e0]; exact Ar12.1) (State.isArrayOf_alike hZ.alike Ar12.2.1) Ar12.2.2 hin12 (Has.at Hs12 hin12 rfl) (g := (mkF m 19 #[.val (.ref ob0), .val (.int (5 : Int32))] [(.int (5 : Int32)), (.ref ob0)])) rfl rfl (hb hby d4_19) _ ?_
              exact k
            by_cases hc20_6 : x0_5 = (0 : Int32)
            · obtain ⟨cl14, Ar14, qq14, Sz14, Ng14, Hs14, Gs14⟩ := id V_ob0
              have hin14 : ¬ ((6 : Int32) < 0 ∨ cl14.slots.size ≤ ((6 : Int32)).toNatClampNeg) := inb_of Sz14 ⟨by decide, by decide⟩
              have pre15 : ∀ t, Steps p.tables e below (s₁.setTop (mkF m 20 #[.val (.ref ob0), .val (.int (6 : Int32))] [(.int x0_6)])) t → Steps p.tables e below (s₁.setTop (entryFrame m #[(.ref ob0)] 2)) t := fun t k => by
                refine pre13 t ?_
                show Steps p.tables e below (s₁.setTop (mkF m 20 #[.val (.ref ob0), .val (.int (5 : Int32))] [(.int x0_5)])) _
                refine XS.ifYes X0.here hx rfl (pc0 := 20) (pc' := 25) rfl (hb hby d4_20) rfl ((if0 _ _).trans (teq hc20_6).1) (by decide) (by decide) ?_
                show Steps p.tables e below (s₁.setTop (mkF m 25 #[.val (.ref ob0), .val (.int (5 : Int32))] [])) _
                refine XS.iinc X0.here hx rfl (hb hby d4_25) rfl (l' := #[.val (.ref ob0), .val (.int (6 : Int32))]) rfl ?_
                show Steps p.tables e below (s₁.setTop (mkF m 28 #[.val (.ref ob0), .val (.int (6 : Int32))] [])) _
                refine XS.goto X0.here hx rfl (pc0 := 28) (pc' := 11) rfl (hb hby d4_28) (by decide) (by decide) ?_
                show Steps p.tables e below (s₁.setTop (mkF m 11 #[.val (.ref ob0), .val (.int (6 : Int32))] [])) _
                refine XS.iloadN X0.here hx rfl (hb hby d4_11) rfl ?_
                show Steps p.tables e below (s₁.setTop (mkF m 12 #[.val (.ref ob0), .val (.int (6 : Int32))] [(.int (6 : Int32))])) _
                refine XS.bipush X0.here hx rfl (hb hby d4_12) ?_
                show Steps p.tables e below (s₁.setTop (mkF m 14 #[.val (.ref ob0), .val (.int (6 : Int32))] [(.int (10 : Int32)), (.int (6 : Int32))])) _
                refine XS.icmpNo X0.here hx rfl (hb hby d4_14) rfl (tlt (by decide : (6 : Int32) < (10 : Int32))).2.1 ?_
                show Steps p.tables e below (s₁.setTop (mkF m 17 #[.val (.ref ob0), .val (.int (6 : Int32))] [])) _
                refine XS.aloadN X0.here hx rfl (hb hby d4_17) rfl rfl ?_
                show Steps p.tables e below (s₁.setTop (mkF m 18 #[.val (.ref ob0), .val (.int (6 : Int32))] [(.ref ob0)])) _
                refine XS.iloadN X0.here hx rfl (hb hby d4_18) rfl ?_
                show Steps p.tables e below (s₁.setTop (mkF m 19 #[.val (.ref ob0), .val (.int (6 : Int32))] [(.int (6 : Int32)), (.ref ob0)])) _
                refine X0.baloadBytes hx (j := (6 : Int32)) (v := (.int x0_6)) (by rw [e0]; exact Ar14.1) (State.isArrayOf_alike hZ.alike Ar14.2.1) Ar14.2.2 hin14 (Has.at Hs14 hin14 rfl) (g := (mkF m 19 #[.val (.ref ob0), .val (.int (6 : Int32))] [(.int (6 : Int32)), (.ref ob0)])) rfl rfl (hb hby d4_19) _ ?_
                exact k
              by_cases hc20_7 : x0_6 = (0 : Int32)
              · obtain ⟨cl16, Ar16, qq16, Sz16, Ng16, Hs16, Gs16⟩ := id V_ob0
                have hin16 : ¬ ((7 : Int32) < 0 ∨ cl16.slots.size ≤ ((7 : Int32)).toNatClampNeg) := inb_of Sz16 ⟨by decide, by decide⟩
                have pre17 : ∀ t, Steps p.tables e below (s₁.setTop (mkF m 20 #[.val (.ref ob0), .val (.int (7 : Int32))] [(.int x0_7)])) t → Steps p.tables e below (s₁.setTop (entryFrame m #[(.ref ob0)] 2)) t := fun t k => by
                  refine pre15 t ?_
                  show Steps p.tables e below (s₁.setTop (mkF m 20 #[.val (.ref ob0), .val (.int (6 : Int32))] [(.int x0_6)])) _
                  refine XS.ifYes X0.here hx rfl (pc0 := 20) (pc' := 25) rfl (hb hby d4_20) rfl ((if0 _ _).trans (teq hc20_7).1) (by decide) (by decide) ?_
                  show Steps p.tables e below (s₁.setTop (mkF m 25 #[.val (.ref ob0), .val (.int (6 : Int32))] [])) _
                  refine XS.iinc X0.here hx rfl (hb hby d4_25) rfl (l' := #[.val (.ref ob0), .val (.int (7 : Int32))]) rfl ?_
                  show Steps p.tables e below (s₁.setTop (mkF m 28 #[.val (.ref ob0), .val (.int (7 : Int32))] [])) _
                  refine XS.goto X0.here hx rfl (pc0 := 28) (pc' := 11) rfl (hb hby d4_28) (by decide) (by decide) ?_
                  show Steps p.tables e below (s₁.setTop (mkF m 11 #[.val (.ref ob0), .val (.int (7 : Int32))] [])) _
                  refine XS.iloadN X0.here hx rfl (hb hby d4_11) rfl ?_
                  show Steps p.tables e below (s₁.setTop (mkF m 12 #[.val (.ref ob0), .val (.int (7 : Int32))] [(.int (7 : Int32))])) _
                  refine XS.bipush X0.here hx rfl (hb hby d4_12) ?_
                  show Steps p.tables e below (s₁.setTop (mkF m 14 #[.val (.ref ob0), .val (.int (7 : Int32))] [(.int (10 : Int32)), (.int (7 : Int32))])) _
                  refine XS.icmpNo X0.here hx rfl (hb hby d4_14) rfl (tlt (by decide : (7 : Int32) < (10 : Int32))).2.1 ?_
                  show Steps p.tables e below (s₁.setTop (mkF m 17 #[.val (.ref ob0), .val (.int (7 : Int32))] [])) _
                  refine XS.aloadN X0.here hx rfl (hb hby d4_17) rfl rfl ?_
                  show Steps p.tables e below (s₁.setTop (mkF m 18 #[.val (.ref ob0), .val (.int (7 : Int32))] [(.ref ob0)])) _
                  refine XS.iloadN X0.here hx rfl (hb hby d4_18) rfl ?_
                  show Steps p.tables e below (s₁.setTop (mkF m 19 #[.val (.ref ob0), .val (.int (7 : Int32))] [(.int (7 : Int32)), (.ref ob0)])) _
                  refine X0.baloadBytes hx (j := (7 : Int32)) (v := (.int x0_7)) (by rw [e0]; exact Ar16.1) (State.isArrayOf_alike hZ.alike Ar16.2.1) Ar16.2.2 hin16 (Has.at Hs16 hin16 rfl) (g := (mkF m 19 #[.val (.ref ob0), .val (.int (7 : Int32))] [(.int (7 : Int32)), (.ref ob0)])) rfl rfl (hb hby d4_19) _ ?_
                  exact k
                by_cases hc20_8 : x0_7 = (0 : Int32)
                · obtain ⟨cl18, Ar18, qq18, Sz18, Ng18, Hs18, Gs18⟩ := id V_ob0
                  have hin18 : ¬ ((8 : Int32) < 0 ∨ cl18.slots.size ≤ ((8 : Int32)).toNatClampNeg) := inb_of Sz18 ⟨by decide, by decide⟩
                  have pre19 : ∀ t, Steps p.tables e below (s₁.setTop (mkF m 20 #[.val (.ref ob0), .val (.int (8 : Int32))] [(.int x0_8)])) t → Steps p.tables e below (s₁.setTop (entryFrame m #[(.ref ob0)] 2)) t := fun t k => by
                    refine pre17 t ?_
                    show Steps p.tables e below (s₁.setTop (mkF m 20 #[.val (.ref ob0), .val (.int (7 : Int32))] [(.int x0_7)])) _
                    refine XS.ifYes X0.here hx rfl (pc0 := 20) (pc' := 25) rfl (hb hby d4_20) rfl ((if0 _ _).trans (teq hc20_8).1) (by decide) (by decide) ?_
                    show Steps p.tables e below (s₁.setTop (mkF m 25 #[.val (.ref ob0), .val (.int (7 : Int32))] [])) _
                    refine XS.iinc X0.here hx rfl (hb hby d4_25) rfl (l' := #[.val (.ref ob0), .val (.int (8 : Int32))]) rfl ?_
                    show Steps p.tables e below (s₁.setTop (mkF m 28 #[.val (.ref ob0), .val (.int (8 : Int32))] [])) _
                    refine XS.goto X0.here hx rfl (pc0 := 28) (pc' := 11) rfl (hb hby d4_28) (by decide) (by decide) ?_
                    show Steps p.tables e below (s₁.setTop (mkF m 11 #[.val (.ref ob0), .val (.int (8 : Int32))] [])) _
                    refine XS.iloadN X0.here hx rfl (hb hby d4_11) rfl ?_
                    show Steps p.tables e below (s₁.setTop (mkF m 12 #[.val (.ref ob0), .val (.int (8 : Int32))] [(.int (8 : Int32))])) _
                    refine XS.bipush X0.here hx rfl (hb hby d4_12) ?_
                    show Steps p.tables e below (s₁.setTop (mkF m 14 #[.val (.ref ob0), .val (.int (8 : Int32))] [(.int (10 : Int32)), (.int (8 : Int32))])) _
                    refine XS.icmpNo X0.here hx rfl (hb hby d4_14) rfl (tlt (by decide : (8 : Int32) < (10 : Int32))).2.1 ?_
                    show Steps p.tables e below (s₁.setTop (mkF m 17 #[.val (.ref ob0), .val (.int (8 : Int32))] [])) _
                    refine XS.aloadN X0.here hx rfl (hb hby d4_17) rfl rfl ?_
                    show Steps p.tables e below (s₁.setTop (mkF m 18 #[.val (.ref ob0), .val (.int (8 : Int32))] [(.ref ob0)])) _
                    refine XS.iloadN X0.here hx rfl (hb hby d4_18) rfl ?_
                    show Steps p.tables e below (s₁.setTop (mkF m 19 #[.val (.ref ob0), .val (.int (8 : Int32))] [(.int (8 : Int32)), (.ref ob0)])) _
                    refine X0.baloadBytes hx (j := (8 : Int32)) (v := (.int x0_8)) (by rw [e0]; exact Ar18.1) (State.isArrayOf_alike hZ.alike Ar18.2.1) Ar18.2.2 hin18 (Has.at Hs18 hin18 rfl) (g := (mkF m 19 #[.val (.ref ob0), .val (.int (8 : Int32))] [(.int (8 : Int32)), (.ref ob0)])) rfl rfl (hb hby d4_19) _ ?_
                    exact k
                  by_cases hc20_9 : x0_8 = (0 : Int32)
                  · obtain ⟨cl20, Ar20, qq20, Sz20, Ng20, Hs20, Gs20⟩ := id V_ob0
                    have hin20 : ¬ ((9 : Int32) < 0 ∨ cl20.slots.size ≤ ((9 : Int32)).toNatClampNeg) := inb_of Sz20 ⟨by decide, by decide⟩
                    have pre21 : ∀ t, Steps p.tables e below (s₁.setTop (mkF m 20 #[.val (.ref ob0), .val (.int (9 : Int32))] [(.int x0_9)])) t → Steps p.tables e below (s₁.setTop (entryFrame m #[(.ref ob0)] 2)) t := fun t k => by
                      refine pre19 t ?_
                      show Steps p.tables e below (s₁.setTop (mkF m 20 #[.val (.ref ob0), .val (.int (8 : Int32))] [(.int x0_8)])) _
                      refine XS.ifYes X0.here hx rfl (pc0 := 20) (pc' := 25) rfl (hb hby d4_20) rfl ((if0 _ _).trans (teq hc20_9).1) (by decide) (by decide) ?_
                      show Steps p.tables e below (s₁.setTop (mkF m 25 #[.val (.ref ob0), .val (.int (8 : Int32))] [])) _
                      refine XS.iinc X0.here hx rfl (hb hby d4_25) rfl (l' := #[.val (.ref ob0), .val (.int (9 : Int32))]) rfl ?_
                      show Steps p.tables e below (s₁.setTop (mkF m 28 #[.val (.ref ob0), .val (.int (9 : Int32))] [])) _
                      refine XS.goto X0.here hx rfl (pc0 := 28) (pc' := 11) rfl (hb hby d4_28) (by decide) (by decide) ?_
                      show Steps p.tables e below (s₁.setTop (mkF m 11 #[.val (.ref ob0), .val (.int (9 : Int32))] [])) _
                      refine XS.iloadN X0.here hx rfl (hb hby d4_11) rfl ?_
                      show Steps p.tables e below (s₁.setTop (mkF m 12 #[.val (.ref ob0), .val (.int (9 : Int32))] [(.int (9 : Int32))])) _
                      refine XS.bipush X0.here hx rfl (hb hby d4_12) ?_
                      show Steps p.tables e below (s₁.setTop (mkF m 14 #[.val (.ref ob0), .val (.int (9 : Int32))] [(.int (10 : Int32)), (.int (9 : Int32))])) _
                      refine XS.icmpNo X0.here hx rfl (hb hby d4_14) rfl (tlt (by decide : (9 : Int32) < (10 : Int32))).2.1 ?_
                      show Steps p.tables e below (s₁.setTop (mkF m 17 #[.val (.ref ob0), .val (.int (9 : Int32))] [])) _
                      refine XS.aloadN X0.here hx rfl (hb hby d4_17) rfl rfl ?_
                      show Steps p.tables e below (s₁.setTop (mkF m 18 #[.val (.ref ob0), .val (.int (9 : Int32))] [(.ref ob0)])) _
                      refine XS.iloadN X0.here hx rfl (hb hby d4_18) rfl ?_
                      show Steps p.tables e below (s₁.setTop (mkF m 19 #[.val (.ref ob0), .val (.int (9 : Int32))] [(.int (9 : Int32)), (.ref ob0)])) _
                      refine X0.baloadBytes hx (j := (9 : Int32)) (v := (.int x0_9)) (by rw [e0]; exact Ar20.1) (State.isArrayOf_alike hZ.alike Ar20.2.1) Ar20.2.2 hin20 (Has.at Hs20 hin20 rfl) (g := (mkF m 19 #[.val (.ref ob0), .val (.int (9 : Int32))] [(.int (9 : Int32)), (.ref ob0)])) rfl rfl (hb hby d4_19) _ ?_
                      exact k
                    by_cases hc20_10 : x0_9 = (0 : Int32)
                    · obtain ⟨cl22, Ar22, qq22, Sz22, Ng22, Hs22, Gs22⟩ := id V_ob0
                      have hin22 : ¬ ((10 : Int32) < 0 ∨ cl22.slots.size ≤ ((10 : Int32)).toNatClampNeg) := inb_of Sz22 ⟨by decide, by decide⟩
                      have pre23 : ∀ t, Steps p.tables e below (s₁.setTop (mkF m 36 #[.val (.ref ob0), .val (.int (10 : Int32))] [(.int (-1 : Int32)), (.int x0_10)])) t → Steps p.tables e below (s₁.setTop (entryFrame m #[(.ref ob0)] 2)) t := fun t k => by
                        refine pre21 t ?_
                        show Steps p.tables e below (s₁.setTop (mkF m 20 #[.val (.ref ob0), .val (.int (9 : Int32))] [(.int x0_9)])) _
                        refine XS.ifYes X0.here hx rfl (pc0 := 20) (pc' := 25) rfl (hb hby d4_20) rfl ((if0 _ _).trans (teq hc20_10).1) (by decide) (by decide) ?_
                        show Steps p.tables e below (s₁.setTop (mkF m 25 #[.val (.ref ob0), .val (.int (9 : Int32))] [])) _
                        refine XS.iinc X0.here hx rfl (hb hby d4_25) rfl (l' := #[.val (.ref ob0), .val (.int (10 : Int32))]) rfl ?_
                        show Steps p.tables e below (s₁.setTop (mkF m 28 #[.val (.ref ob0), .val (.int (10 : Int32))] [])) _
                        refine XS.goto X0.here hx rfl (pc0 := 28) (pc' := 11) rfl (hb hby d4_28) (by decide) (by decide) ?_
                        show Steps p.tables e below (s₁.setTop (mkF m 11 #[.val (.ref ob0), .val (.int (10 : Int32))] [])) _
                        refine XS.iloadN X0.here hx rfl (hb hby d4_11) rfl ?_
                        show Steps p.tables e below (s₁.setTop (mkF m 12 #[.val (.ref ob0), .val (.int (10 : Int32))] [(.int (10 : Int32))])) _
                        refine XS.bipush X0.here hx rfl (hb hby d4_12) ?_
                        show Steps p.tables e below (s₁.setTop (mkF m 14 #[.val (.ref ob0), .val (.int (10 : Int32))] [(.int (10 : Int32)), (.int (10 : Int32))])) _
                        refine XS.icmpYes X0.here hx rfl (pc0 := 14) (pc' := 31) rfl (hb hby d4_14) rfl (flt (by decide : ¬ ((10 : Int32) < (10 : Int32)))).2.1 (by decide) (by decide) ?_
                        show Steps p.tables e below (s₁.setTop (mkF m 31 #[.val (.ref ob0), .val (.int (10 : Int32))] [])) _
                        refine XS.aloadN X0.here hx rfl (hb hby d4_31) rfl rfl ?_
                        show Steps p.tables e below (s₁.setTop (mkF m 32 #[.val (.ref ob0), .val (.int (10 : Int32))] [(.ref ob0)])) _
                        refine XS.bipush X0.here hx rfl (hb hby d4_32) ?_
                        show Steps p.tables e below (s₁.setTop (mkF m 34 #[.val (.ref ob0), .val (.int (10 : Int32))] [(.int (10 : Int32)), (.ref ob0)])) _
                        refine X0.baloadBytes hx (j := (10 : Int32)) (v := (.int x0_10)) (by rw [e0]; exact Ar22.1) (State.isArrayOf_alike hZ.alike Ar22.2.1) Ar22.2.2 hin22 (Has.at Hs22 hin22 rfl) (g := (mkF m 34 #[.val (.ref ob0), .val (.int (10 : Int32))] [(.int (10 : Int32)), (.ref ob0)])) rfl rfl (hb hby d4_34) _ ?_
                        show Steps p.tables e below (s₁.setTop (mkF m 35 #[.val (.ref ob0), .val (.int (10 : Int32))] [(.int x0_10)])) _
                        refine XS.iconst X0.here hx rfl (hb hby d4_35) ?_
                        exact k
                      by_cases hc36 : x0_10 = (-1 : Int32)
                      · obtain ⟨cl24, Ar24, qq24, Sz24, Ng24, Hs24, Gs24⟩ := id V_ob0
                        have hin24 : ¬ ((11 : Int32) < 0 ∨ cl24.slots.size ≤ ((11 : Int32)).toNatClampNeg) := inb_of Sz24 ⟨by decide, by decide⟩
                        have pre25 : ∀ t, Steps p.tables e below (s₁.setTop (mkF m 44 #[.val (.ref ob0), .val (.int (10 : Int32))] [(.int (-1 : Int32)), (.int x0_11)])) t → Steps p.tables e below (s₁.setTop (entryFrame m #[(.ref ob0)] 2)) t := fun t k => by
                          refine pre23 t ?_
                          show Steps p.tables e below (s₁.setTop (mkF m 36 #[.val (.ref ob0), .val (.int (10 : Int32))] [(.int (-1 : Int32)), (.int x0_10)])) _
                          refine XS.icmpNo X0.here hx rfl (hb hby d4_36) rfl (teq hc36).2 ?_
                          show Steps p.tables e below (s₁.setTop (mkF m 39 #[.val (.ref ob0), .val (.int (10 : Int32))] [])) _
                          refine XS.aloadN X0.here hx rfl (hb hby d4_39) rfl rfl ?_
                          show Steps p.tables e below (s₁.setTop (mkF m 40 #[.val (.ref ob0), .val (.int (10 : Int32))] [(.ref ob0)])) _
                          refine XS.bipush X0.here hx rfl (hb hby d4_40) ?_
                          show Steps p.tables e below (s₁.setTop (mkF m 42 #[.val (.ref ob0), .val (.int (10 : Int32))] [(.int (11 : Int32)), (.ref ob0)])) _
                          refine X0.baloadBytes hx (j := (11 : Int32)) (v := (.int x0_11)) (by rw [e0]; exact Ar24.1) (State.isArrayOf_alike hZ.alike Ar24.2.1) Ar24.2.2 hin24 (Has.at Hs24 hin24 rfl) (g := (mkF m 42 #[.val (.ref ob0), .val (.int (10 : Int32))] [(.int (11 : Int32)), (.ref ob0)])) rfl rfl (hb hby d4_42) _ ?_
                          show Steps p.tables e below (s₁.setTop (mkF m 43 #[.val (.ref ob0), .val (.int (10 : Int32))] [(.int x0_11)])) _
                          refine XS.iconst X0.here hx rfl (hb hby d4_43) ?_
                          exact k
                        by_cases hc44 : x0_11 = (-1 : Int32)
                        · obtain ⟨fs, hr, hrun, hended, hW, hsame⟩ := X0.leave (v := some (.int (1 : Int32))) (fun h => by rw [Bd.returns] at h; cases h) (BodyLoose.notSynchronized Bd)
                          refine ⟨_, _, pre25 _ ?_, hrun, hended, _, _, rfl, ?_, ⟨_, rfl⟩, hW, hsame.mono (by decide) (by decide)⟩
                          · show Steps p.tables e below (s₁.setTop (mkF m 44 #[.val (.ref ob0), .val (.int (10 : Int32))] [(.int (-1 : Int32)), (.int x0_11)])) _
                            refine XS.icmpNo X0.here hx rfl (hb hby d4_44) rfl (teq hc44).2 ?_
                            show Steps p.tables e below (s₁.setTop (mkF m 47 #[.val (.ref ob0), .val (.int (10 : Int32))] [])) _
                            refine XS.iconst X0.here hx rfl (hb hby d4_47) ?_
                            show Steps p.tables e below (s₁.setTop (mkF m 48 #[.val (.ref ob0), .val (.int (10 : Int32))] [(.int (1 : Int32))])) _
                            refine XS.goto X0.here hx rfl (pc0 := 48) (pc' := 52) rfl (hb hby d4_48) (by decide) (by decide) ?_
                            show Steps p.tables e below (s₁.setTop (mkF m 52 #[.val (.ref ob0), .val (.int (10 : Int32))] [(.int (1 : Int32))])) _
                            exact retN X0 hx (t := .boolean) Bd.returns (by simp) (hb hby d4_52) hr
                          · show Q4_16 Z ob0 kk0 x0_0 x0_1 x0_2 x0_3 x0_4 x0_5 x0_6 x0_7 x0_8 x0_9 x0_10 x0_11 x0_12 x0_13 x0_14 x0_15 h0 n0 _ s₁.heap _
                            rw [e0]
                            exact ⟨(by rw [F4_16, if_pos hc20, if_pos hc20_2, if_pos hc20_3, if_pos hc20_4, if_pos hc20_5, if_pos hc20_6, if_pos hc20_7, if_pos hc20_8, if_pos hc20_9, if_pos hc20_10, if_pos hc36, if_pos hc44]), N0, rfl⟩
                        · obtain ⟨fs, hr, hrun, hended, hW, hsame⟩ := X0.leave (v := some (.int (0 : Int32))) (fun h => by rw [Bd.returns] at h; cases h) (BodyLoose.notSynchronized Bd)
                          refine ⟨_, _, pre25 _ ?_, hrun, hended, _, _, rfl, ?_, ⟨_, rfl⟩, hW, hsame.mono (by decide) (by decide)⟩
                          · show Steps p.tables e below (s₁.setTop (mkF m 44 #[.val (.ref ob0), .val (.int (10 : Int32))] [(.int (-1 : Int32)), (.int x0_11)])) _
                            refine XS.icmpYes X0.here hx rfl (pc0 := 44) (pc' := 51) rfl (hb hby d4_44) rfl (feq hc44).2 (by decide) (by decide) ?_
                            show Steps p.tables e below (s₁.setTop (mkF m 51 #[.val (.ref ob0), .val (.int (10 : Int32))] [])) _
                            refine XS.iconst X0.here hx rfl (hb hby d4_51) ?_
                            show Steps p.tables e below (s₁.setTop (mkF m 52 #[.val (.ref ob0), .val (.int (10 : Int32))] [(.int (0 : Int32))])) _
                            exact retN X0 hx (t := .boolean) Bd.returns (by simp) (hb hby d4_52) hr
                          · show Q4_16 Z ob0 kk0 x0_0 x0_1 x0_2 x0_3 x0_4 x0_5 x0_6 x0_7 x0_8 x0_9 x0_10 x0_11 x0_12 x0_13 x0_14 x0_15 h0 n0 _ s₁.heap _
                            rw [e0]
                            exact ⟨(by rw [F4_16, if_pos hc20, if_pos hc20_2, if_pos hc20_3, if_pos hc20_4, if_pos hc20_5, if_pos hc20_6, if_pos hc20_7, if_pos hc20_8, if_pos hc20_9, if_pos hc20_10, if_pos hc36, if_neg hc44]), N0, rfl⟩
                      · obtain ⟨fs, hr, hrun, hended, hW, hsame⟩ := X0.leave (v := some (.int (0 : Int32))) (fun h => by rw [Bd.returns] at h; cases h) (BodyLoose.notSynchronized Bd)
                        refine ⟨_, _, pre23 _ ?_, hrun, hended, _, _, rfl, ?_, ⟨_, rfl⟩, hW, hsame.mono (by decide) (by decide)⟩
                        · show Steps p.tables e below (s₁.setTop (mkF m 36 #[.val (.ref ob0), .val (.int (10 : Int32))] [(.int (-1 : Int32)), (.int x0_10)])) _
                          refine XS.icmpYes X0.here hx rfl (pc0 := 36) (pc' := 51) rfl (hb hby d4_36) rfl (feq hc36).2 (by decide) (by decide) ?_
                          show Steps p.tables e below (s₁.setTop (mkF m 51 #[.val (.ref ob0), .val (.int (10 : Int32))] [])) _
                          refine XS.iconst X0.here hx rfl (hb hby d4_51) ?_
                          show Steps p.tables e below (s₁.setTop (mkF m 52 #[.val (.ref ob0), .val (.int (10 : Int32))] [(.int (0 : Int32))])) _
                          exact retN X0 hx (t := .boolean) Bd.returns (by simp) (hb hby d4_52) hr
                        · show Q4_16 Z ob0 kk0 x0_0 x0_1 x0_2 x0_3 x0_4 x0_5 x0_6 x0_7 x0_8 x0_9 x0_10 x0_11 x0_12 x0_13 x0_14 x0_15 h0 n0 _ s₁.heap _
                          rw [e0]
                          exact ⟨(by rw [F4_16, if_pos hc20, if_pos hc20_2, if_pos hc20_3, if_pos hc20_4, if_pos hc20_5, if_pos hc20_6, if_pos hc20_7, if_pos hc20_8, if_pos hc20_9, if_pos hc20_10, if_neg hc36]), N0, rfl⟩
                    · obtain ⟨fs, hr, hrun, hended, hW, hsame⟩ := X0.leave (v := some (.int (0 : Int32))) (fun h => by rw [Bd.returns] at h; cases h) (BodyLoose.notSynchronized Bd)
                      refine ⟨_, _, pre21 _ ?_, hrun, hended, _, _, rfl, ?_, ⟨_, rfl⟩, hW, hsame.mono (by decide) (by decide)⟩
                      · show Steps p.tables e below (s₁.setTop (mkF m 20 #[.val (.ref ob0), .val (.int (9 : Int32))] [(.int x0_9)])) _
                        refine XS.ifNo X0.here hx rfl (hb hby d4_20) rfl ((if0 _ _).trans (feq hc20_10).1) ?_
                        show Steps p.tables e below (s₁.setTop (mkF m 23 #[.val (.ref ob0), .val (.int (9 : Int32))] [])) _
                        refine XS.iconst X0.here hx rfl (hb hby d4_23) ?_
                        show Steps p.tables e below (s₁.setTop (mkF m 24 #[.val (.ref ob0), .val (.int (9 : Int32))] [(.int (0 : Int32))])) _
                        exact retN X0 hx (t := .boolean) Bd.returns (by simp) (hb hby d4_24) hr
                      · show Q4_16 Z ob0 kk0 x0_0 x0_1 x0_2 x0_3 x0_4 x0_5 x0_6 x0_7 x0_8 x0_9 x0_10 x0_11 x0_12 x0_13 x0_14 x0_15 h0 n0 _ s₁.heap _
                        rw [e0]
                        exact ⟨(by rw [F4_16, if_pos hc20, if_pos hc20_2, if_pos hc20_3, if_pos hc20_4, if_pos hc20_5, if_pos hc20_6, if_pos hc20_7, if_pos hc20_8, if_pos hc20_9, if_neg hc20_10]), N0, rfl⟩
                  · obtain ⟨fs, hr, hrun, hended, hW, hsame⟩ := X0.leave (v := some (.int (0 : Int32))) (fun h => by rw [Bd.returns] at h; cases h) (BodyLoose.notSynchronized Bd)
                    refine ⟨_, _, pre19 _ ?_, hrun, hended, _, _, rfl, ?_, ⟨_, rfl⟩, hW, hsame.mono (by decide) (by decide)⟩
                    · show Steps p.tables e below (s₁.setTop (mkF m 20 #[.val (.ref ob0), .val (.int (8 : Int32))] [(.int x0_8)])) _
                      refine XS.ifNo X0.here hx rfl (hb hby d4_20) rfl ((if0 _ _).trans (feq hc20_9).1) ?_
                      show Steps p.tables e below (s₁.setTop (mkF m 23 #[.val (.ref ob0), .val (.int (8 : Int32))] [])) _
                      refine XS.iconst X0.here hx rfl (hb hby d4_23) ?_
                      show Steps p.tables e below (s₁.setTop (mkF m 24 #[.val (.ref ob0), .val (.int (8 : Int32))] [(.int (0 : Int32))])) _
                      exact retN X0 hx (t := .boolean) Bd.returns (by simp) (hb hby d4_24) hr
                    · show Q4_16 Z ob0 kk0 x0_0 x0_1 x0_2 x0_3 x0_4 x0_5 x0_6 x0_7 x0_8 x0_9 x0_10 x0_11 x0_12 x0_13 x0_14 x0_15 h0 n0 _ s₁.heap _
                      rw [e0]
                      exact ⟨(by rw [F4_16, if_pos hc20, if_pos hc20_2, if_pos hc20_3, if_pos hc20_4, if_pos hc20_5, if_pos hc20_6, if_pos hc20_7, if_pos hc20_8, if_neg hc20_9]), N0, rfl⟩
                · obtain ⟨fs, hr, hrun, hended, hW, hsame⟩ := X0.leave (v := some (.int (0 : Int32))) (fun h => by rw [Bd.returns] at h; cases h) (BodyLoose.notSynchronized Bd)
                  refine ⟨_, _, pre17 _ ?_, hrun, hended, _, _, rfl, ?_, ⟨_, rfl⟩, hW, hsame.mono (by decide) (by decide)⟩
                  · show Steps p.tables e below (s₁.setTop (mkF m 20 #[.val (.ref ob0), .val (.int (7 : Int32))] [(.int x0_7)])) _
                    refine XS.ifNo X0.here hx rfl (hb hby d4_20) rfl ((if0 _ _).trans (feq hc20_8).1) ?_
                    show Steps p.tables e below (s₁.setTop (mkF m 23 #[.val (.ref ob0), .val (.int (7 : Int32))] [])) _
                    refine XS.iconst X0.here hx rfl (hb hby d4_23) ?_
                    show Steps p.tables e below (s₁.setTop (mkF m 24 #[.val (.ref ob0), .val (.int (7 : Int32))] [(.int (0 : Int32))])) _
                    exact retN X0 hx (t := .boolean) Bd.returns (by simp) (hb hby d4_24) hr
                  · show Q4_16 Z ob0 kk0 x0_0 x0_1 x0_2 x0_3 x0_4 x0_5 x0_6 x0_7 x0_8 x0_9 x0_10 x0_11 x0_12 x0_13 x0_14 x0_15 h0 n0 _ s₁.heap _
                    rw [e0]
                    exact ⟨(by rw [F4_16, if_pos hc20, if_pos hc20_2, if_pos hc20_3, if_pos hc20_4, if_pos hc20_5, if_pos hc20_6, if_pos hc20_7, if_neg hc20_8]), N0, rfl⟩
              · obtain ⟨fs, hr, hrun, hended, hW, hsame⟩ := X0.leave (v := some (.int (0 : Int32))) (fun h => by rw [Bd.returns] at h; cases h) (BodyLoose.notSynchronized Bd)
                refine ⟨_, _, pre15 _ ?_, hrun, hended, _, _, rfl, ?_, ⟨_, rfl⟩, hW, hsame.mono (by decide) (by decide)⟩
                · show Steps p.tables e below (s₁.setTop (mkF m 20 #[.val (.ref ob0), .val (.int (6 : Int32))] [(.int x0_6)])) _
                  refine XS.ifNo X0.here hx rfl (hb hby d4_20) rfl ((if0 _ _).trans (feq hc20_7).1) ?_
                  show Steps p.tables e below (s₁.setTop (mkF m 23 #[.val (.ref ob0), .val (.int (6 : Int32))] [])) _
                  refine XS.iconst X0.here hx rfl (hb hby d4_23) ?_
                  show Steps p.tables e below (s₁.setTop (mkF m 24 #[.val (.ref ob0), .val (.int (6 : Int32))] [(.int (0 : Int32))])) _
                  exact retN X0 hx (t := .boolean) Bd.returns (by simp) (hb hby d4_24) hr
                · show Q4_16 Z ob0 kk0 x0_0 x0_1 x0_2 x0_3 x0_4 x0_5 x0_6 x0_7 x0_8 x0_9 x0_10 x0_11 x0_12 x0_13 x0_14 x0_15 h0 n0 _ s₁.heap _
                  rw [e0]
                  exact ⟨(by rw [F4_16, if_pos hc20, if_pos hc20_2, if_pos hc20_3, if_pos hc20_4, if_pos hc20_5, if_pos hc20_6, if_neg hc20_7]), N0, rfl⟩
            · obtain ⟨fs, hr, hrun, hended, hW, hsame⟩ := X0.leave (v := some (.int (0 : Int32))) (fun h => by rw [Bd.returns] at h; cases h) (BodyLoose.notSynchronized Bd)
              refine ⟨_, _, pre13 _ ?_, hrun, hended, _, _, rfl, ?_, ⟨_, rfl⟩, hW, hsame.mono (by decide) (by decide)⟩
              · show Steps p.tables e below (s₁.setTop (mkF m 20 #[.val (.ref ob0), .val (.int (5 : Int32))] [(.int x0_5)])) _
                refine XS.ifNo X0.here hx rfl (hb hby d4_20) rfl ((if0 _ _).trans (feq hc20_6).1) ?_
                show Steps p.tables e below (s₁.setTop (mkF m 23 #[.val (.ref ob0), .val (.int (5 : Int32))] [])) _
                refine XS.iconst X0.here hx rfl (hb hby d4_23) ?_
                show Steps p.tables e below (s₁.setTop (mkF m 24 #[.val (.ref ob0), .val (.int (5 : Int32))] [(.int (0 : Int32))])) _
                exact retN X0 hx (t := .boolean) Bd.returns (by simp) (hb hby d4_24) hr
              · show Q4_16 Z ob0 kk0 x0_0 x0_1 x0_2 x0_3 x0_4 x0_5 x0_6 x0_7 x0_8 x0_9 x0_10 x0_11 x0_12 x0_13 x0_14 x0_15 h0 n0 _ s₁.heap _
                rw [e0]
                exact ⟨(by rw [F4_16, if_pos hc20, if_pos hc20_2, if_pos hc20_3, if_pos hc20_4, if_pos hc20_5, if_neg hc20_6]), N0, rfl⟩
          · obtain ⟨fs, hr, hrun, hended, hW, hsame⟩ := X0.leave (v := some (.int (0 : Int32))) (fun h => by rw [Bd.returns] at h; cases h) (BodyLoose.notSynchronized Bd)
            refine ⟨_, _, pre11 _ ?_, hrun, hended, _, _, rfl, ?_, ⟨_, rfl⟩, hW, hsame.mono (by decide) (by decide)⟩
            · show Steps p.tables e below (s₁.setTop (mkF m 20 #[.val (.ref ob0), .val (.int (4 : Int32))] [(.int x0_4)])) _
              refine XS.ifNo X0.here hx rfl (hb hby d4_20) rfl ((if0 _ _).trans (feq hc20_5).1) ?_
              show Steps p.tables e below (s₁.setTop (mkF m 23 #[.val (.ref ob0), .val (.int (4 : Int32))] [])) _
              refine XS.iconst X0.here hx rfl (hb hby d4_23) ?_
              show Steps p.tables e below (s₁.setTop (mkF m 24 #[.val (.ref ob0), .val (.int (4 : Int32))] [(.int (0 : Int32))])) _
              exact retN X0 hx (t := .boolean) Bd.returns (by simp) (hb hby d4_24) hr
            · show Q4_16 Z ob0 kk0 x0_0 x0_1 x0_2 x0_3 x0_4 x0_5 x0_6 x0_7 x0_8 x0_9 x0_10 x0_11 x0_12 x0_13 x0_14 x0_15 h0 n0 _ s₁.heap _
              rw [e0]
              exact ⟨(by rw [F4_16, if_pos hc20, if_pos hc20_2, if_pos hc20_3, if_pos hc20_4, if_neg hc20_5]), N0, rfl⟩
        · obtain ⟨fs, hr, hrun, hended, hW, hsame⟩ := X0.leave (v := some (.int (0 : Int32))) (fun h => by rw [Bd.returns] at h; cases h) (BodyLoose.notSynchronized Bd)
          refine ⟨_, _, pre9 _ ?_, hrun, hended, _, _, rfl, ?_, ⟨_, rfl⟩, hW, hsame.mono (by decide) (by decide)⟩
          · show Steps p.tables e below (s₁.setTop (mkF m 20 #[.val (.ref ob0), .val (.int (3 : Int32))] [(.int x0_3)])) _
            refine XS.ifNo X0.here hx rfl (hb hby d4_20) rfl ((if0 _ _).trans (feq hc20_4).1) ?_
            show Steps p.tables e below (s₁.setTop (mkF m 23 #[.val (.ref ob0), .val (.int (3 : Int32))] [])) _
            refine XS.iconst X0.here hx rfl (hb hby d4_23) ?_
            show Steps p.tables e below (s₁.setTop (mkF m 24 #[.val (.ref ob0), .val (.int (3 : Int32))] [(.int (0 : Int32))])) _
            exact retN X0 hx (t := .boolean) Bd.returns (by simp) (hb hby d4_24) hr
          · show Q4_16 Z ob0 kk0 x0_0 x0_1 x0_2 x0_3 x0_4 x0_5 x0_6 x0_7 x0_8 x0_9 x0_10 x0_11 x0_12 x0_13 x0_14 x0_15 h0 n0 _ s₁.heap _
            rw [e0]
            exact ⟨(by rw [F4_16, if_pos hc20, if_pos hc20_2, if_pos hc20_3, if_neg hc20_4]), N0, rfl⟩
      · obtain ⟨fs, hr, hrun, hended, hW, hsame⟩ := X0.leave (v := some (.int (0 : Int32))) (fun h => by rw [Bd.returns] at h; cases h) (BodyLoose.notSynchronized Bd)
        refine ⟨_, _, pre7 _ ?_, hrun, hended, _, _, rfl, ?_, ⟨_, rfl⟩, hW, hsame.mono (by decide) (by decide)⟩
        · show Steps p.tables e below (s₁.setTop (mkF m 20 #[.val (.ref ob0), .val (.int (2 : Int32))] [(.int x0_2)])) _
          refine XS.ifNo X0.here hx rfl (hb hby d4_20) rfl ((if0 _ _).trans (feq hc20_3).1) ?_
          show Steps p.tables e below (s₁.setTop (mkF m 23 #[.val (.ref ob0), .val (.int (2 : Int32))] [])) _
          refine XS.iconst X0.here hx rfl (hb hby d4_23) ?_
          show Steps p.tables e below (s₁.setTop (mkF m 24 #[.val (.ref ob0), .val (.int (2 : Int32))] [(.int (0 : Int32))])) _
          exact retN X0 hx (t := .boolean) Bd.returns (by simp) (hb hby d4_24) hr
        · show Q4_16 Z ob0 kk0 x0_0 x0_1 x0_2 x0_3 x0_4 x0_5 x0_6 x0_7 x0_8 x0_9 x0_10 x0_11 x0_12 x0_13 x0_14 x0_15 h0 n0 _ s₁.heap _
          rw [e0]
          exact ⟨(by rw [F4_16, if_pos hc20, if_pos hc20_2, if_neg hc20_3]), N0, rfl⟩
    · obtain ⟨fs, hr, hrun, hended, hW, hsame⟩ := X0.leave (v := some (.int (0 : Int32))) (fun h => by rw [Bd.returns] at h; cases h) (BodyLoose.notSynchronized Bd)
      refine ⟨_, _, pre5 _ ?_, hrun, hended, _, _, rfl, ?_, ⟨_, rfl⟩, hW, hsame.mono (by decide) (by decide)⟩
      · show Steps p.tables e below (s₁.setTop (mkF m 20 #[.val (.ref ob0), .val (.int (1 : Int32))] [(.int x0_1)])) _
        refine XS.ifNo X0.here hx rfl (hb hby d4_20) rfl ((if0 _ _).trans (feq hc20_2).1) ?_
        show Steps p.tables e below (s₁.setTop (mkF m 23 #[.val (.ref ob0), .val (.int (1 : Int32))] [])) _
        refine XS.iconst X0.here hx rfl (hb hby d4_23) ?_
        show Steps p.tables e below (s₁.setTop (mkF m 24 #[.val (.ref ob0), .val (.int (1 : Int32))] [(.int (0 : Int32))])) _
        exact retN X0 hx (t := .boolean) Bd.returns (by simp) (hb hby d4_24) hr
      · show Q4_16 Z ob0 kk0 x0_0 x0_1 x0_2 x0_3 x0_4 x0_5 x0_6 x0_7 x0_8 x0_9 x0_10 x0_11 x0_12 x0_13 x0_14 x0_15 h0 n0 _ s₁.heap _
        rw [e0]
        exact ⟨(by rw [F4_16, if_pos hc20, if_neg hc20_2]), N0, rfl⟩
  · obtain ⟨fs, hr, hrun, hended, hW, hsame⟩ := X0.leave (v := some (.int (0 : Int32))) (fun h => by rw [Bd.returns] at h; cases h) (BodyLoose.notSynchronized Bd)
    refine ⟨_, _, pre3 _ ?_, hrun, hended, _, _, rfl, ?_, ⟨_, rfl⟩, hW, hsame.mono (by decide) (by decide)⟩
    · show Steps p.tables e below (s₁.setTop (mkF m 20 #[.val (.ref ob0), .val (.int (0 : Int32))] [(.int x0_0)])) _
      refine XS.ifNo X0.here hx rfl (hb hby d4_20) rfl ((if0 _ _).trans (feq hc20).1) ?_
      show Steps p.tables e below (s₁.setTop (mkF m 23 #[.val (.ref ob0), .val (.int (0 : Int32))] [])) _
      refine XS.iconst X0.here hx rfl (hb hby d4_23) ?_
      show Steps p.tables e below (s₁.setTop (mkF m 24 #[.val (.ref ob0), .val (.int (0 : Int32))] [(.int (0 : Int32))])) _
      exact retN X0 hx (t := .boolean) Bd.returns (by simp) (hb hby d4_24) hr
    · show Q4_16 Z ob0 kk0 x0_0 x0_1 x0_2 x0_3 x0_4 x0_5 x0_6 x0_7 x0_8 x0_9 x0_10 x0_11 x0_12 x0_13 x0_14 x0_15 h0 n0 _ s₁.heap _
      rw [e0]
      exact ⟨(by rw [F4_16, if_neg hc20]), N0, rfl⟩
theorem pd_1 : parseMethodDescriptor "([B)Z" = some ⟨[(.array .byte)], some .boolean⟩ := by decide +kernel
theorem d8_0 : decode jdk_65_method_131_code 0 = .ok (.iload_n 1, 1) := by decide +kernel
theorem d8_1 : decode jdk_65_method_131_code 1 = .ok (.iload_n 0, 1) := by decide +kernel
theorem d8_2 : decode jdk_65_method_131_code 2 = .ok (.if_icmp .ge 35, 3) := by decide +kernel
theorem d8_37 : decode jdk_65_method_131_code 37 = .ok (.return_, 1) := by decide +kernel
theorem pn_8 : plainName "java/util/Arrays" = true := by first | (simp [plainName, overriddenIn]; done) | decide +kernel
theorem ef_8 (m : MethodId)  : entryFrame m #[(.int (12 : Int32)), (.int (16 : Int32))] 2 = mkF m 0 #[.val (.int (12 : Int32)), .val (.int (16 : Int32))] [] := by first | (simp [entryFrame, mkF, argsToLocals, Value.category]; done) | rfl
def Q8 (Z : State)  (h0 : Heap) (n0 : Nat) (v : Option Value) (h : Heap) (L : List Loc) : Prop := v = none ∧ Fr n0 L ∧ h = h0
set_option maxRecDepth 65536 in
set_option maxHeartbeats 40000000 in
theorem rm8 (l : Launch) (Z : State) (a0 : Array Value) (hw : ∀ d ∈ tables_1, d.before a0 Z = true) (ws : List Jvm.Cond)  (h0 : Heap) (n0 : Nat) (Z0 : n0 ≤ h0.size) :
    MetFree l (⟨"java/util/Arrays", "checkLength", "(II)V"⟩ : MethodName) (head1 (Jvm.Cond.code (⟨"java/util/Arrays", "checkLength", "(II)V"⟩ : MethodName) jdk_65_method_131_code 2 none :: ws) ({ frames := 0, cells := 0, slots := 0, locals := 0 } : Room)) (fun a U => a = #[(.int (12 : Int32)), (.int (16 : Int32))] ∧ Z.Warmed39 U.vm ∧ U.heap = h0) (fun _ _ _ _ _ => True) (fun _ U o U' => ∃ v L, o = .returned v ∧ Q8 Z  h0 n0 v U'.heap L ∧ FrameEnd U o U' L ({ frames := 0, cells := 0, slots := 0, locals := 0 } : Room).cells ({ frames := 0, cells := 0, slots := 0, locals := 0 } : Room).slots) := by
  refine MetFree.of_bodySF (plainFor_of_name pn_8) hisR ?_
  intro p e s m args below meth c s₁ Bd hml0 hP hK
  obtain ⟨rfl, hZ, hh⟩ := hP
  have hx := Bd.exec
  have hby := Bd.bytes
  have hml : c.maxLocals = 2 := hml0
  have hown : s.vm.findClass "java/util/Arrays" = some m.cls := findClass_of_methodNamed Bd.named
  have hnm := (name_of_methodNamed Bd.named Bd.method).1
  have X0 : Stand p l e ({ frames := 0, cells := 0, slots := 0, locals := 0 } : Room) s m #[(.int (12 : Int32)), (.int (16 : Int32))] below meth c s₁ [] 0 0 := Stand.of_body Bd
  have e0 : s₁.heap = h0 := by rw [← hh, Bd.state]; rfl
  have N0 := Fr.nil n0
  have pre0 : ∀ t, Steps p.tables e below (s₁.setTop (mkF m 0 #[.val (.int (12 : Int32)), .val (.int (16 : Int32))] [])) t → Steps p.tables e below (s₁.setTop (entryFrame m #[(.int (12 : Int32)), (.int (16 : Int32))] 2)) t := fun t k => castTop (ef_8 m ) k
  obtain ⟨fs, hr, hrun, hended, hW, hsame⟩ := X0.leave (v := none) (fun _ => rfl) (BodyLoose.notSynchronized Bd)
  refine ⟨_, _, pre0 _ ?_, hrun, hended, _, _, rfl, ?_, ⟨_, rfl⟩, hW, hsame.mono (by decide) (by decide)⟩
  · show Steps p.tables e below (s₁.setTop (mkF m 0 #[.val (.int (12 : Int32)), .val (.int (16 : Int32))] [])) _
    refine XS.iloadN X0.here hx rfl (hb hby d8_0) rfl ?_
    show Steps p.tables e below (s₁.setTop (mkF m 1 #[.val (.int (12 : Int32)), .val (.int (16 : Int32))] [(.int (16 : Int32))])) _
    refine XS.iloadN X0.here hx rfl (hb hby d8_1) rfl ?_
    show Steps p.tables e below (s₁.setTop (mkF m 2 #[.val (.int (12 : Int32)), .val (.int (16 : Int32))] [(.int (12 : Int32)), (.int (16 : Int32))])) _
    refine XS.icmpYes X0.here hx rfl (pc0 := 2) (pc' := 37) rfl (hb hby d8_2) rfl (flt (by decide : ¬ ((16 : Int32) < (12 : Int32)))).2.1 (by decide) (by decide) ?_
    show Steps p.tables e below (s₁.setTop (mkF m 37 #[.val (.int (12 : Int32)), .val (.int (16 : Int32))] [])) _
    exact X0.returnOut hx Bd.returns (hb hby d8_37) hr
  · show Q8 Z  h0 n0 _ s₁.heap _
    rw [e0]
    exact ⟨rfl, N0, rfl⟩
theorem pd_2 : parseMethodDescriptor "(II)V" = some ⟨[.int, .int], none⟩ := by decide +kernel
theorem d9_0 : decode jdk_29_method_69_code 0 = .ok (.iload_n 0, 1) := by decide +kernel
theorem d9_1 : decode jdk_29_method_69_code 1 = .ok (.iload_n 1, 1) := by decide +kernel
theorem d9_2 : decode jdk_29_method_69_code 2 = .ok (.if_icmp .gt 7, 3) := by decide +kernel
theorem d9_5 : decode jdk_29_method_69_code 5 = .ok (.iload_n 0, 1) := by decide +kernel
theorem d9_6 : decode jdk_29_method_69_code 6 = .ok (.goto 4, 3) := by decide +kernel
theorem d9_10 : decode jdk_29_method_69_code 10 = .ok (.ireturn, 1) := by decide +kernel
theorem ef_9 (m : MethodId)  : entryFrame m #[(.int (4 : Int32)), (.int (4 : Int32))] 2 = mkF m 0 #[.val (.int (4 : Int32)), .val (.int (4 : Int32))] [] := by first | (simp [entryFrame, mkF, argsToLocals, Value.category]; done) | rfl
def Q9 (Z : State)  (h0 : Heap) (n0 : Nat) (v : Option Value) (h : Heap) (L : List Loc) : Prop := v = some (.int (4 : Int32)) ∧ Fr n0 L ∧ h = h0
set_option maxRecDepth 65536 in
set_option maxHeartbeats 40000000 in
theorem rm9 (l : Launch) (Z : State) (a0 : Array Value) (hw : ∀ d ∈ tables_1, d.before a0 Z = true) (ws : List Jvm.Cond)  (h0 : Heap) (n0 : Nat) (Z0 : n0 ≤ h0.size) :
    MetFree l (⟨"java/lang/Math", "min", "(II)I"⟩ : MethodName) (head1 (Jvm.Cond.code (⟨"java/lang/Math", "min", "(II)I"⟩ : MethodName) jdk_29_method_69_code 2 (some .int) :: ws) ({ frames := 0, cells := 0, slots := 0, locals := 0 } : Room)) (fun a U => a = #[(.int (4 : Int32)), (.int (4 : Int32))] ∧ Z.Warmed39 U.vm ∧ U.heap = h0) (fun _ _ _ _ _ => True) (fun _ U o U' => ∃ v L, o = .returned v ∧ Q9 Z  h0 n0 v U'.heap L ∧ FrameEnd U o U' L ({ frames := 0, cells := 0, slots := 0, locals := 0 } : Room).cells ({ frames := 0, cells := 0, slots := 0, locals := 0 } : Room).slots) := by
  refine MetFree.of_bodySF (Jvm.Free.JP.mathPlain rfl (by decide +kernel)) hisR ?_
  intro p e s m args below meth c s₁ Bd hml0 hP hK
  obtain ⟨rfl, hZ, hh⟩ := hP
  have hx := Bd.exec
  have hby := Bd.bytes
  have hml : c.maxLocals = 2 := hml0
  have hown : s.vm.findClass "java/lang/Math" = some m.cls := findClass_of_methodNamed Bd.named
  have hnm := (name_of_methodNamed Bd.named Bd.method).1
  have X0 : Stand p l e ({ frames := 0, cells := 0, slots := 0, locals := 0 } : Room) s m #[(.int (4 : Int32)), (.int (4 : Int32))] below meth c s₁ [] 0 0 := Stand.of_body Bd
  have e0 : s₁.heap = h0 := by rw [← hh, Bd.state]; rfl
  have N0 := Fr.nil n0
  have pre0 : ∀ t, Steps p.tables e below (s₁.setTop (mkF m 0 #[.val (.int (4 : Int32)), .val (.int (4 : Int32))] [])) t → Steps p.tables e below (s₁.setTop (entryFrame m #[(.int (4 : Int32)), (.int (4 : Int32))] 2)) t := fun t k => castTop (ef_9 m ) k
  obtain ⟨fs, hr, hrun, hended, hW, hsame⟩ := X0.leave (v := some (.int (4 : Int32))) (fun h => by rw [Bd.returns] at h; cases h) (BodyLoose.notSynchronized Bd)
  refine ⟨_, _, pre0 _ ?_, hrun, hended, _, _, rfl, ?_, ⟨_, rfl⟩, hW, hsame.mono (by decide) (by decide)⟩
  · show Steps p.tables e below (s₁.setTop (mkF m 0 #[.val (.int (4 : Int32)), .val (.int (4 : Int32))] [])) _
    refine XS.iloadN X0.here hx rfl (hb hby d9_0) rfl ?_
    show Steps p.tables e below (s₁.setTop (mkF m 1 #[.val (.int (4 : Int32)), .val (.int (4 : Int32))] [(.int (4 : Int32))])) _
    refine XS.iloadN X0.here hx rfl (hb hby d9_1) rfl ?_
    show Steps p.tables e below (s₁.setTop (mkF m 2 #[.val (.int (4 : Int32)), .val (.int (4 : Int32))] [(.int (4 : Int32)), (.int (4 : Int32))])) _
    refine XS.icmpNo X0.here hx rfl (hb hby d9_2) rfl (flt (by decide : ¬ ((4 : Int32) < (4 : Int32)))).2.2.1 ?_
    show Steps p.tables e below (s₁.setTop (mkF m 5 #[.val (.int (4 : Int32)), .val (.int (4 : Int32))] [])) _
    refine XS.iloadN X0.here hx rfl (hb hby d9_5) rfl ?_
    show Steps p.tables e below (s₁.setTop (mkF m 6 #[.val (.int (4 : Int32)), .val (.int (4 : Int32))] [(.int (4 : Int32))])) _
    refine XS.goto X0.here hx rfl (pc0 := 6) (pc' := 10) rfl (hb hby d9_6) (by decide) (by decide) ?_
    show Steps p.tables e below (s₁.setTop (mkF m 10 #[.val (.int (4 : Int32)), .val (.int (4 : Int32))] [(.int (4 : Int32))])) _
    exact retOut X0 hx Bd.returns rfl (Or.inl ⟨rfl, Or.inl rfl, _, rfl⟩) (hb hby d9_10) hr
  · show Q9 Z  h0 n0 _ s₁.heap _
    rw [e0]
    exact ⟨rfl, N0, rfl⟩
theorem pd_3 : parseMethodDescriptor "(II)I" = some ⟨[.int, .int], some .int⟩ := by decide +kernel
theorem d7_0 : decode jdk_65_method_133_code 0 = .ok (.iload_n 1, 1) := by decide +kernel
theorem d7_1 : decode jdk_65_method_133_code 1 = .ok (.iload_n 2, 1) := by decide +kernel
theorem d7_2 : decode jdk_65_method_133_code 2 = .ok (.invokestatic 343, 3) := by decide +kernel
theorem d7_5 : decode jdk_65_method_133_code 5 = .ok (.iload_n 2, 1) := by decide +kernel
theorem d7_6 : decode jdk_65_method_133_code 6 = .ok (.iload_n 1, 1) := by decide +kernel
theorem d7_7 : decode jdk_65_method_133_code 7 = .ok (.isub, 1) := by decide +kernel
theorem d7_8 : decode jdk_65_method_133_code 8 = .ok (.istore_n 3, 1) := by decide +kernel
theorem d7_9 : decode jdk_65_method_133_code 9 = .ok (.iload_n 3, 1) := by decide +kernel
theorem d7_10 : decode jdk_65_method_133_code 10 = .ok (.newarray .byte, 2) := by decide +kernel
theorem d7_12 : decode jdk_65_method_133_code 12 = .ok (.astore 4, 2) := by decide +kernel
theorem d7_14 : decode jdk_65_method_133_code 14 = .ok (.aload_n 0, 1) := by decide +kernel
theorem d7_15 : decode jdk_65_method_133_code 15 = .ok (.iload_n 1, 1) := by decide +kernel
theorem d7_16 : decode jdk_65_method_133_code 16 = .ok (.aload 4, 2) := by decide +kernel
theorem d7_18 : decode jdk_65_method_133_code 18 = .ok (.iconst 0, 1) := by decide +kernel
theorem d7_19 : decode jdk_65_method_133_code 19 = .ok (.aload_n 0, 1) := by decide +kernel
theorem d7_20 : decode jdk_65_method_133_code 20 = .ok (.arraylength, 1) := by decide +kernel
theorem d7_21 : decode jdk_65_method_133_code 21 = .ok (.iload_n 1, 1) := by decide +kernel
theorem d7_22 : decode jdk_65_method_133_code 22 = .ok (.isub, 1) := by decide +kernel
theorem d7_23 : decode jdk_65_method_133_code 23 = .ok (.iload_n 3, 1) := by decide +kernel
theorem d7_24 : decode jdk_65_method_133_code 24 = .ok (.invokestatic 304, 3) := by decide +kernel
theorem d7_27 : decode jdk_65_method_133_code 27 = .ok (.invokestatic 150, 3) := by decide +kernel
theorem d7_30 : decode jdk_65_method_133_code 30 = .ok (.aload 4, 2) := by decide +kernel
theorem d7_32 : decode jdk_65_method_133_code 32 = .ok (.areturn, 1) := by decide +kernel
theorem pn_7 : plainName "java/util/Arrays" = true := by first | (simp [plainName, overriddenIn]; done) | decide +kernel
theorem ef_7 (m : MethodId) (ob0 : Addr) : entryFrame m #[(.ref ob0), (.int (12 : Int32)), (.int (16 : Int32))] 5 = mkF m 0 #[.val (.ref ob0), .val (.int (12 : Int32)), .val (.int (16 : Int32)), .unset, .unset] [] := by first | (simp [entryFrame, mkF, argsToLocals, Value.category]; done) | rfl
def Q7 (Z : State) (ob0 : Addr) (kk0 : ClassId) (x0_0 : Value) (x0_1 : Value) (x0_2 : Value) (x0_3 : Value) (x0_4 : Value) (x0_5 : Value) (x0_6 : Value) (x0_7 : Value) (x0_8 : Value) (x0_9 : Value) (x0_10 : Value) (x0_11 : Value) (x0_12 : Value) (x0_13 : Value) (x0_14 : Value) (x0_15 : Value) (h0 : Heap) (n0 : Nat) (v : Option Value) (h : Heap) (L : List Loc) : Prop := ∃ b : Addr, v = some (.ref b) ∧ Fr n0 L ∧ Keep h0 h [] ∧ h0.size ≤ b ∧ b < h.size ∧ (∃ (kk : ClassId) (vs : List Value) (dd : Value), Arv Z h b kk .byte (4 : Int32) vs dd)
set_option maxRecDepth 65536 in
set_option maxHeartbeats 40000000 in
theorem rm7 (l : Launch) (Z : State) (a0 : Array Value) (hw : ∀ d ∈ tables_1, d.before a0 Z = true) (ws : List Jvm.Cond) (ob0 : Addr) (kk0 : ClassId) (x0_0 : Value) (x0_1 : Value) (x0_2 : Value) (x0_3 : Value) (x0_4 : Value) (x0_5 : Value) (x0_6 : Value) (x0_7 : Value) (x0_8 : Value) (x0_9 : Value) (x0_10 : Value) (x0_11 : Value) (x0_12 : Value) (x0_13 : Value) (x0_14 : Value) (x0_15 : Value) (h0 : Heap) (n0 : Nat) (Z0 : n0 ≤ h0.size) (V_ob0 : Arv Z h0 ob0 kk0 .byte (16 : Int32) [x0_0, x0_1, x0_2, x0_3, x0_4, x0_5, x0_6, x0_7, x0_8, x0_9, x0_10, x0_11, x0_12, x0_13, x0_14, x0_15] (.int (0 : Int32))) :
    MetFree l (⟨"java/util/Arrays", "copyOfRangeByte", "([BII)[B"⟩ : MethodName) (head1 (Jvm.Cond.code (⟨"java/util/Arrays", "copyOfRangeByte", "([BII)[B"⟩ : MethodName) jdk_65_method_133_code 5 (some (.array .byte)) :: ws) ({ frames := 1, cells := 1, slots := 4, locals := 20 } : Room)) (fun a U => a = #[(.ref ob0), (.int (12 : Int32)), (.int (16 : Int32))] ∧ Z.Warmed39 U.vm ∧ U.heap = h0) (fun _ _ _ _ _ => True) (fun _ U o U' => ∃ v L, o = .returned v ∧ Q7 Z ob0 kk0 x0_0 x0_1 x0_2 x0_3 x0_4 x0_5 x0_6 x0_7 x0_8 x0_9 x0_10 x0_11 x0_12 x0_13 x0_14 x0_15 h0 n0 v U'.heap L ∧ FrameEnd U o U' L ({ frames := 1, cells := 1, slots := 4, locals := 20 } : Room).cells ({ frames := 1, cells := 1, slots := 4, locals := 20 } : Room).slots) := by
  refine MetFree.of_bodySF (plainFor_of_name pn_7) hisR ?_
  intro p e s m args below meth c s₁ Bd hml0 hP hK
  obtain ⟨rfl, hZ, hh⟩ := hP
  have hx := Bd.exec
  have hby := Bd.bytes
  have hml : c.maxLocals = 5 := hml0
  have hown : s.vm.findClass "java/util/Arrays" = some m.cls := findClass_of_methodNamed Bd.named
  have hnm := (name_of_methodNamed Bd.named Bd.method).1
  have X0 : Stand p l e ({ frames := 1, cells := 1, slots := 4, locals := 20 } : Room) s m #[(.ref ob0), (.int (12 : Int32)), (.int (16 : Int32))] below meth c s₁ [] 0 0 := Stand.of_body Bd
  have e0 : s₁.heap = h0 := by rw [← hh, Bd.state]; rfl
  have N0 := Fr.nil n0
  have pre0 : ∀ t, Steps p.tables e below (s₁.setTop (mkF m 0 #[.val (.ref ob0), .val (.int (12 : Int32)), .val (.int (16 : Int32)), .unset, .unset] [])) t → Steps p.tables e below (s₁.setTop (entryFrame m #[(.ref ob0), (.int (12 : Int32)), (.int (16 : Int32))] 5)) t := fun t k => castTop (ef_7 m ob0) k
  obtain ⟨_, _, ⟨T1, L1, k1, n1⟩, -, X1, ⟨Lc1, hQ1, l1, y1, z1⟩, st1⟩ := Jvm.LawKit.callS X0 hx (y := (⟨"java/util/Arrays", "checkLength", "(II)V"⟩ : MethodName)) hown (mvT hZ (hw _ (List.mem_of_getElem? (i := 32) rfl))) (mvT hZ (hw _ (List.mem_of_getElem? (i := 33) rfl))) (mvT hZ (hw _ (List.mem_of_getElem? (i := 27) rfl))) (mvT hZ (hw _ (List.mem_of_getElem? (i := 34) rfl))) (by decide) (backOf (W := 0) (rm8 l Z a0 hw []  h0 n0 Z0) hZ (hw _ (List.mem_of_getElem? (i := 34) rfl)) (hw _ (List.mem_of_getElem? (i := 27) rfl)) (by decide) (by decide)) (g := (mkF m 2 #[.val (.ref ob0), .val (.int (12 : Int32)), .val (.int (16 : Int32)), .unset, .unset] [(.int (16 : Int32)), (.int (12 : Int32))])) rfl (by rw [hml]; rfl) (argsL := [(.int (12 : Int32)), (.int (16 : Int32))]) (rest := []) (lenOf pd_2 rfl) rfl (by show 2 * 0 + _ ≤ _; exact Nat.le_of_eq rfl) (hb hby d7_2) (fun _ _ => ⟨rfl, e0, (by decide : 0 + 0 ≤ _), (by decide : 0 + 0 ≤ _)⟩)
  dsimp only [Pt.U, Pt.locs, Pt.cells, Pt.slots] at X1 l1 y1 z1 st1 hQ1
  subst l1 y1 z1
  obtain ⟨rfl, N1q, e1⟩ := hQ1
  have N1 := Fr.app N0 N1q
  obtain ⟨T2, h2, k2, X2, e2, E2, A2, st2⟩ := newP X1 hx hZ (hw _ (List.mem_of_getElem? (i := 0) rfl)) e1 (g := (mkF m 10 #[.val (.ref ob0), .val (.int (12 : Int32)), .val (.int (16 : Int32)), .val (.int (4 : Int32)), .unset] [(.int (4 : Int32))])) rfl (hb hby d7_10) rfl (by decide) (cap := 4) (by decide) (by decide) (by decide) (by decide)
  obtain ⟨b2, g2⟩ : ∃ z, z = h0.size := ⟨_, rfl⟩
  rw [← g2] at A2 st2
  have ne_ob0_b2 : ob0 ≠ b2 := Nat.ne_of_lt (Nat.lt_of_lt_of_le V_ob0.lt (Nat.le_of_eq g2.symm))
  have vV3 := V_ob0.ext E2
  have g_b2 : n0 ≤ b2 := Nat.le_trans Z0 (Nat.le_of_eq g2.symm)
  have sz_b2 : h0.size ≤ b2 := Nat.le_trans (Keep.refl h0 []).1 (Nat.le_of_eq g2.symm)
  have K2 := (Keep.refl h0 []).ext E2
  have Z2 := Nat.le_trans Z0 E2.1
  have vV2 : Arv Z h2 b2 k2 .byte (4 : Int32) [(.int (0 : Int32)), (.int (0 : Int32)), (.int (0 : Int32)), (.int (0 : Int32))] (.int (0 : Int32)) := (Arv.new A2 (by decide)).pad (pad_rep [] (.int (0 : Int32)) 4)
  obtain ⟨cl4, Ar4, -, Sz4, Ng4, -, -⟩ := id vV3
  obtain ⟨_, _, ⟨T5, L5, k5, n5⟩, -, X5, ⟨Lc5, hQ5, l5, y5, z5⟩, st5⟩ := Jvm.LawKit.callS X2 hx (y := (⟨"java/lang/Math", "min", "(II)I"⟩ : MethodName)) hown (mvT hZ (hw _ (List.mem_of_getElem? (i := 35) rfl))) (mvT hZ (hw _ (List.mem_of_getElem? (i := 36) rfl))) (mvT hZ (hw _ (List.mem_of_getElem? (i := 37) rfl))) (mvT hZ (hw _ (List.mem_of_getElem? (i := 38) rfl))) (by decide) (backOf (W := 4) (rm9 l Z a0 hw []  h2 n0 Z2) hZ (hw _ (List.mem_of_getElem? (i := 38) rfl)) (hw _ (List.mem_of_getElem? (i := 37) rfl)) (by decide) (by decide)) (g := (mkF m 24 #[.val (.ref ob0), .val (.int (12 : Int32)), .val (.int (16 : Int32)), .val (.int (4 : Int32)), .val (.ref b2)] [(.int (4 : Int32)), (.int (4 : Int32)), (.int (0 : Int32)), (.ref b2), (.int (12 : Int32)), (.ref ob0)])) rfl (by rw [hml]; rfl) (argsL := [(.int (4 : Int32)), (.int (4 : Int32))]) (rest := [(.int (0 : Int32)), (.ref b2), (.int (12 : Int32)), (.ref ob0)]) (lenOf pd_3 rfl) rfl (by show 2 * 0 + _ ≤ _; exact Nat.le_of_eq rfl) (hb hby d7_24) (fun _ _ => ⟨rfl, e2, (by decide : 1 + 0 ≤ _), (by decide : 4 + 0 ≤ _)⟩)
  dsimp only [Pt.U, Pt.locs, Pt.cells, Pt.slots] at X5 l5 y5 z5 st5 hQ5
  subst l5 y5 z5
  obtain ⟨rfl, N5q, e5⟩ := hQ5
  have N5 := Fr.app N1 N5q
  obtain ⟨T6, h6, Lc6, X6, e6, N6, K6, V6, st6⟩ := cpA X5 hx hZ hown (hw _ (List.mem_of_getElem? (i := 39) rfl)) (hw _ (List.mem_of_getElem? (i := 42) rfl)) (hw _ (List.mem_of_getElem? (i := 40) rfl)) (hw _ (List.mem_of_getElem? (i := 41) rfl)) e5 (sp := (12 : Int32)) (dp := (0 : Int32)) (nn := (4 : Int32)) vV3 vV2 (Or.inl ⟨rfl, rfl⟩) (by decide) (by decide) (by decide) (by decide) (by decide) rfl (by decide) N5 g_b2 (g := (mkF m 27 #[.val (.ref ob0), .val (.int (12 : Int32)), .val (.int (16 : Int32)), .val (.int (4 : Int32)), .val (.ref b2)] [(.int (4 : Int32)), (.int (0 : Int32)), (.ref b2), (.int (12 : Int32)), (.ref ob0)])) rfl (by rw [hml]; rfl) rfl (hb hby d7_27) (by decide) (W := 0) (by show 2 * 0 + _ ≤ _; exact Nat.le_of_eq rfl) (by decide)
  have vV7 := vV3.keep K6 (ninS ne_ob0_b2 nin0)
  have Z6 := Nat.le_trans Z2 K6.1
  have KK6 := K2.trans K6 (allS (Or.inr sz_b2) all0)
  obtain ⟨fs, hr, hrun, hended, hW, hsame⟩ := X6.leave (v := some (.ref b2)) (fun h => by rw [Bd.returns] at h; cases h) (BodyLoose.notSynchronized Bd)
  refine ⟨_, _, pre0 _ ?_, hrun, hended, _, _, rfl, ?_, ⟨_, rfl⟩, hW, hsame.mono (by decide) (by decide)⟩
  · show Steps p.tables e below (s₁.setTop (mkF m 0 #[.val (.ref ob0), .val (.int (12 : Int32)), .val (.int (16 : Int32)), .unset, .unset] [])) _
    refine XS.iloadN X0.here hx rfl (hb hby d7_0) rfl ?_
    show Steps p.tables e below (s₁.setTop (mkF m 1 #[.val (.ref ob0), .val (.int (12 : Int32)), .val (.int (16 : Int32)), .unset, .unset] [(.int (12 : Int32))])) _
    refine XS.iloadN X0.here hx rfl (hb hby d7_1) rfl ?_
    show Steps p.tables e below (s₁.setTop (mkF m 2 #[.val (.ref ob0), .val (.int (12 : Int32)), .val (.int (16 : Int32)), .unset, .unset] [(.int (16 : Int32)), (.int (12 : Int32))])) _
    refine st1 _ ?_
    show Steps p.tables e below (T1.setTop (mkF m 5 #[.val (.ref ob0), .val (.int (12 : Int32)), .val (.int (16 : Int32)), .unset, .unset] [])) _
    refine XS.iloadN X1.here hx rfl (hb hby d7_5) rfl ?_
    show Steps p.tables e below (T1.setTop (mkF m 6 #[.val (.ref ob0), .val (.int (12 : Int32)), .val (.int (16 : Int32)), .unset, .unset] [(.int (16 : Int32))])) _
    refine XS.iloadN X1.here hx rfl (hb hby d7_6) rfl ?_
    show Steps p.tables e below (T1.setTop (mkF m 7 #[.val (.ref ob0), .val (.int (12 : Int32)), .val (.int (16 : Int32)), .unset, .unset] [(.int (12 : Int32)), (.int (16 : Int32))])) _
    refine XS.isub X1.here hx rfl (hb hby d7_7) rfl ?_
    show Steps p.tables e below (T1.setTop (mkF m 8 #[.val (.ref ob0), .val (.int (12 : Int32)), .val (.int (16 : Int32)), .unset, .unset] [(.int (4 : Int32))])) _
    refine XS.istoreN X1.here hx rfl (hb hby d7_8) rfl (l' := #[.val (.ref ob0), .val (.int (12 : Int32)), .val (.int (16 : Int32)), .val (.int (4 : Int32)), .unset]) rfl ?_
    show Steps p.tables e below (T1.setTop (mkF m 9 #[.val (.ref ob0), .val (.int (12 : Int32)), .val (.int (16 : Int32)), .val (.int (4 : Int32)), .unset] [])) _
    refine XS.iloadN X1.here hx rfl (hb hby d7_9) rfl ?_
    show Steps p.tables e below (T1.setTop (mkF m 10 #[.val (.ref ob0), .val (.int (12 : Int32)), .val (.int (16 : Int32)), .val (.int (4 : Int32)), .unset] [(.int (4 : Int32))])) _
    refine st2 _ ?_
    show Steps p.tables e below (T2.setTop (mkF m 12 #[.val (.ref ob0), .val (.int (12 : Int32)), .val (.int (16 : Int32)), .val (.int (4 : Int32)), .unset] [(.ref b2)])) _
    refine XS.astore X2.here hx rfl (hb hby d7_12) rfl rfl (l' := #[.val (.ref ob0), .val (.int (12 : Int32)), .val (.int (16 : Int32)), .val (.int (4 : Int32)), .val (.ref b2)]) rfl ?_
    show Steps p.tables e below (T2.setTop (mkF m 14 #[.val (.ref ob0), .val (.int (12 : Int32)), .val (.int (16 : Int32)), .val (.int (4 : Int32)), .val (.ref b2)] [])) _
    refine XS.aloadN X2.here hx rfl (hb hby d7_14) rfl rfl ?_
    show Steps p.tables e below (T2.setTop (mkF m 15 #[.val (.ref ob0), .val (.int (12 : Int32)), .val (.int (16 : Int32)), .val (.int (4 : Int32)), .val (.ref b2)] [(.ref ob0)])) _
    refine XS.iloadN X2.here hx rfl (hb hby d7_15) rfl ?_
    show Steps p.tables e below (T2.setTop (mkF m 16 #[.val (.ref ob0), .val (.int (12 : Int32)), .val (.int (16 : Int32)), .val (.int (4 : Int32)), .val (.ref b2)] [(.int (12 : Int32)), (.ref ob0)])) _
    refine XS.aload X2.here hx rfl (hb hby d7_16) rfl rfl ?_
    show Steps p.tables e below (T2.setTop (mkF m 18 #[.val (.ref ob0), .val (.int (12 : Int32)), .val (.int (16 : Int32)), .val (.int (4 : Int32)), .val (.ref b2)] [(.ref b2), (.int (12 : Int32)), (.ref ob0)])) _
    refine XS.iconst X2.here hx rfl (hb hby d7_18) ?_
    show Steps p.tables e below (T2.setTop (mkF m 19 #[.val (.ref ob0), .val (.int (12 : Int32)), .val (.int (16 : Int32)), .val (.int (4 : Int32)), .val (.ref b2)] [(.int (0 : Int32)), (.ref b2), (.int (12 : Int32)), (.ref ob0)])) _
    refine XS.aloadN X2.here hx rfl (hb hby d7_19) rfl rfl ?_
    show Steps p.tables e below (T2.setTop (mkF m 20 #[.val (.ref ob0), .val (.int (12 : Int32)), .val (.int (16 : Int32)), .val (.int (4 : Int32)), .val (.ref b2)] [(.ref ob0), (.int (0 : Int32)), (.ref b2), (.int (12 : Int32)), (.ref ob0)])) _
    refine X2.arraylength hx (by rw [e2]; exact Ar4.1) (State.isArrayOf_alike hZ.alike Ar4.2.1) (g := (mkF m 20 #[.val (.ref ob0), .val (.int (12 : Int32)), .val (.int (16 : Int32)), .val (.int (4 : Int32)), .val (.ref b2)] [(.ref ob0), (.int (0 : Int32)), (.ref b2), (.int (12 : Int32)), (.ref ob0)])) rfl rfl (hb hby d7_20) _ ?_
    rw [len_of Sz4 Ng4]
    show Steps p.tables e below (T2.setTop (mkF m 21 #[.val (.ref ob0), .val (.int (12 : Int32)), .val (.int (16 : Int32)), .val (.int (4 : Int32)), .val (.ref b2)] [(.int (16 : Int32)), (.int (0 : Int32)), (.ref b2), (.int (12 : Int32)), (.ref ob0)])) _
    refine XS.iloadN X2.here hx rfl (hb hby d7_21) rfl ?_
    show Steps p.tables e below (T2.setTop (mkF m 22 #[.val (.ref ob0), .val (.int (12 : Int32)), .val (.int (16 : Int32)), .val (.int (4 : Int32)), .val (.ref b2)] [(.int (12 : Int32)), (.int (16 : Int32)), (.int (0 : Int32)), (.ref b2), (.int (12 : Int32)), (.ref ob0)])) _
    refine XS.isub X2.here hx rfl (hb hby d7_22) rfl ?_
    show Steps p.tables e below (T2.setTop (mkF m 23 #[.val (.ref ob0), .val (.int (12 : Int32)), .val (.int (16 : Int32)), .val (.int (4 : Int32)), .val (.ref b2)] [(.int (4 : Int32)), (.int (0 : Int32)), (.ref b2), (.int (12 : Int32)), (.ref ob0)])) _
    refine XS.iloadN X2.here hx rfl (hb hby d7_23) rfl ?_
    show Steps p.tables e below (T2.setTop (mkF m 24 #[.val (.ref ob0), .val (.int (12 : Int32)), .val (.int (16 : Int32)), .val (.int (4 : Int32)), .val (.ref b2)] [(.int (4 : Int32)), (.int (4 : Int32)), (.int (0 : Int32)), (.ref b2), (.int (12 : Int32)), (.ref ob0)])) _
    refine st5 _ ?_
    show Steps p.tables e below (T5.setTop (mkF m 27 #[.val (.ref ob0), .val (.int (12 : Int32)), .val (.int (16 : Int32)), .val (.int (4 : Int32)), .val (.ref b2)] [(.int (4 : Int32)), (.int (0 : Int32)), (.ref b2), (.int (12 : Int32)), (.ref ob0)])) _
    refine st6 _ ?_
    show Steps p.tables e below (T6.setTop (mkF m 30 #[.val (.ref ob0), .val (.int (12 : Int32)), .val (.int (16 : Int32)), .val (.int (4 : Int32)), .val (.ref b2)] [])) _
    refine XS.aload X6.here hx rfl (hb hby d7_30) rfl rfl ?_
    show Steps p.tables e below (T6.setTop (mkF m 32 #[.val (.ref ob0), .val (.int (12 : Int32)), .val (.int (16 : Int32)), .val (.int (4 : Int32)), .val (.ref b2)] [(.ref b2)])) _
    exact retOut X6 hx Bd.returns rfl (Or.inr (Or.inr (Or.inr (Or.inr ⟨rfl, rfl, rfl⟩)))) (hb hby d7_32) hr
  · show Q7 Z ob0 kk0 x0_0 x0_1 x0_2 x0_3 x0_4 x0_5 x0_6 x0_7 x0_8 x0_9 x0_10 x0_11 x0_12 x0_13 x0_14 x0_15 h0 n0 _ T6.heap _
    rw [e6]
    exact ⟨b2, rfl, N6, KK6, sz_b2, V6.lt, ⟨_, _, _, V6⟩⟩
theorem pd_4 : parseMethodDescriptor "([BII)[B" = some ⟨[(.array .byte), .int, .int], some (.array .byte)⟩ := by decide +kernel
theorem d6_0 : decode jdk_65_method_132_code 0 = .ok (.iload_n 1, 1) := by decide +kernel
theorem d6_1 : decode jdk_65_method_132_code 1 = .ok (.ifCond .ne 9, 3) := by decide +kernel
theorem d6_10 : decode jdk_65_method_132_code 10 = .ok (.aload_n 0, 1) := by decide +kernel
theorem d6_11 : decode jdk_65_method_132_code 11 = .ok (.iload_n 1, 1) := by decide +kernel
theorem d6_12 : decode jdk_65_method_132_code 12 = .ok (.iload_n 2, 1) := by decide +kernel
theorem d6_13 : decode jdk_65_method_132_code 13 = .ok (.invokestatic 339, 3) := by decide +kernel
theorem d6_16 : decode jdk_65_method_132_code 16 = .ok (.areturn, 1) := by decide +kernel
theorem pn_6 : plainName "java/util/Arrays" = true := by first | (simp [plainName, overriddenIn]; done) | decide +kernel
theorem ef_6 (m : MethodId) (ob0 : Addr) : entryFrame m #[(.ref ob0), (.int (12 : Int32)), (.int (16 : Int32))] 3 = mkF m 0 #[.val (.ref ob0), .val (.int (12 : Int32)), .val (.int (16 : Int32))] [] := by first | (simp [entryFrame, mkF, argsToLocals, Value.category]; done) | rfl
def Q6 (Z : State) (ob0 : Addr) (kk0 : ClassId) (x0_0 : Value) (x0_1 : Value) (x0_2 : Value) (x0_3 : Value) (x0_4 : Value) (x0_5 : Value) (x0_6 : Value) (x0_7 : Value) (x0_8 : Value) (x0_9 : Value) (x0_10 : Value) (x0_11 : Value) (x0_12 : Value) (x0_13 : Value) (x0_14 : Value) (x0_15 : Value) (h0 : Heap) (n0 : Nat) (v : Option Value) (h : Heap) (L : List Loc) : Prop := ∃ b : Addr, v = some (.ref b) ∧ Fr n0 L ∧ Keep h0 h [] ∧ h0.size ≤ b ∧ b < h.size ∧ (∃ (kk : ClassId) (vs : List Value) (dd : Value), Arv Z h b kk .byte (4 : Int32) vs dd)
set_option maxRecDepth 65536 in
set_option maxHeartbeats 40000000 in
theorem rm6 (l : Launch) (Z : State) (a0 : Array Value) (hw : ∀ d ∈ tables_1, d.before a0 Z = true) (ws : List Jvm.Cond) (ob0 : Addr) (kk0 : ClassId) (x0_0 : Value) (x0_1 : Value) (x0_2 : Value) (x0_3 : Value) (x0_4 : Value) (x0_5 : Value) (x0_6 : Value) (x0_7 : Value) (x0_8 : Value) (x0_9 : Value) (x0_10 : Value) (x0_11 : Value) (x0_12 : Value) (x0_13 : Value) (x0_14 : Value) (x0_15 : Value) (h0 : Heap) (n0 : Nat) (Z0 : n0 ≤ h0.size) (V_ob0 : Arv Z h0 ob0 kk0 .byte (16 : Int32) [x0_0, x0_1, x0_2, x0_3, x0_4, x0_5, x0_6, x0_7, x0_8, x0_9, x0_10, x0_11, x0_12, x0_13, x0_14, x0_15] (.int (0 : Int32))) :
    MetFree l (⟨"java/util/Arrays", "copyOfRange", "([BII)[B"⟩ : MethodName) (head1 (Jvm.Cond.code (⟨"java/util/Arrays", "copyOfRange", "([BII)[B"⟩ : MethodName) jdk_65_method_132_code 3 (some (.array .byte)) :: ws) ({ frames := 2, cells := 1, slots := 4, locals := 36 } : Room)) (fun a U => a = #[(.ref ob0), (.int (12 : Int32)), (.int (16 : Int32))] ∧ Z.Warmed39 U.vm ∧ U.heap = h0) (fun _ _ _ _ _ => True) (fun _ U o U' => ∃ v L, o = .returned v ∧ Q6 Z ob0 kk0 x0_0 x0_1 x0_2 x0_3 x0_4 x0_5 x0_6 x0_7 x0_8 x0_9 x0_10 x0_11 x0_12 x0_13 x0_14 x0_15 h0 n0 v U'.heap L ∧ FrameEnd U o U' L ({ frames := 2, cells := 1, slots := 4, locals := 36 } : Room).cells ({ frames := 2, cells := 1, slots := 4, locals := 36 } : Room).slots) := by
  refine MetFree.of_bodySF (plainFor_of_name pn_6) hisR ?_
  intro p e s m args below meth c s₁ Bd hml0 hP hK
  obtain ⟨rfl, hZ, hh⟩ := hP
  have hx := Bd.exec
  have hby := Bd.bytes
  have hml : c.maxLocals = 3 := hml0
  have hown : s.vm.findClass "java/util/Arrays" = some m.cls := findClass_of_methodNamed Bd.named
  have hnm := (name_of_methodNamed Bd.named Bd.method).1
  have X0 : Stand p l e ({ frames := 2, cells := 1, slots := 4, locals := 36 } : Room) s m #[(.ref ob0), (.int (12 : Int32)), (.int (16 : Int32))] below meth c s₁ [] 0 0 := Stand.of_body Bd
  have e0 : s₁.heap = h0 := by rw [← hh, Bd.state]; rfl
  have N0 := Fr.nil n0
  have pre0 : ∀ t, Steps p.tables e below (s₁.setTop (mkF m 0 #[.val (.ref ob0), .val (.int (12 : Int32)), .val (.int (16 : Int32))] [])) t → Steps p.tables e below (s₁.setTop (entryFrame m #[(.ref ob0), (.int (12 : Int32)), (.int (16 : Int32))] 3)) t := fun t k => castTop (ef_6 m ob0) k
  obtain ⟨_, _, ⟨T1, L1, k1, n1⟩, -, X1, ⟨Lc1, hQ1, l1, y1, z1⟩, st1⟩ := Jvm.LawKit.callS X0 hx (y := (⟨"java/util/Arrays", "copyOfRangeByte", "([BII)[B"⟩ : MethodName)) hown (mvT hZ (hw _ (List.mem_of_getElem? (i := 29) rfl))) (mvT hZ (hw _ (List.mem_of_getElem? (i := 30) rfl))) (mvT hZ (hw _ (List.mem_of_getElem? (i := 27) rfl))) (mvT hZ (hw _ (List.mem_of_getElem? (i := 31) rfl))) (by decide) (backOf (W := 0) (rm7 l Z a0 hw [] ob0 _ _ _ _ _ _ _ _ _ _ _ _ _ _ _ _ _ h0 n0 Z0 V_ob0) hZ (hw _ (List.mem_of_getElem? (i := 31) rfl)) (hw _ (List.mem_of_getElem? (i := 27) rfl)) (by decide) (by decide)) (g := (mkF m 13 #[.val (.ref ob0), .val (.int (12 : Int32)), .val (.int (16 : Int32))] [(.int (16 : Int32)), (.int (12 : Int32)), (.ref ob0)])) rfl (by rw [hml]; rfl) (argsL := [(.ref ob0), (.int (12 : Int32)), (.int (16 : Int32))]) (rest := []) (lenOf pd_4 rfl) rfl (by show 2 * 0 + _ ≤ _; exact Nat.le_of_eq rfl) (hb hby d6_13) (fun _ _ => ⟨rfl, e0, (by decide : 0 + 1 ≤ _), (by decide : 0 + 4 ≤ _)⟩)
  dsimp only [Pt.U, Pt.locs, Pt.cells, Pt.slots] at X1 l1 y1 z1 st1 hQ1
  subst l1 y1 z1
  obtain ⟨b1, rfl, N1q, K1, sz1, lt1, ⟨kG2, vsG2, ddG2, G2⟩⟩ := hQ1
  have E1 : Ext h0 T1.heap := ⟨K1.1, fun a c q => K1.2.1 a c q nin0⟩
  have ne_ob0_b1 : ob0 ≠ b1 := Nat.ne_of_lt (Nat.lt_of_lt_of_le V_ob0.lt sz1)
  have vV3 := V_ob0.ext E1
  have g_b1 : n0 ≤ b1 := Nat.le_trans Z0 sz1
  have sz_b1 : h0.size ≤ b1 := Nat.le_trans (Keep.refl h0 []).1 sz1
  have KK1 := (Keep.refl h0 []).ext E1
  have Z1 := Nat.le_trans Z0 E1.1
  have N1 := Fr.app N0 N1q
  obtain ⟨fs, hr, hrun, hended, hW, hsame⟩ := X1.leave (v := some (.ref b1)) (fun h => by rw [Bd.returns] at h; cases h) (BodyLoose.notSynchronized Bd)
  refine ⟨_, _, pre0 _ ?_, hrun, hended, _, _, rfl, ?_, ⟨_, rfl⟩, hW, hsame.mono (by decide) (by decide)⟩
  · show Steps p.tables e below (s₁.setTop (mkF m 0 #[.val (.ref ob0), .val (.int (12 : Int32)), .val (.int (16 : Int32))] [])) _
    refine XS.iloadN X0.here hx rfl (hb hby d6_0) rfl ?_
    show Steps p.tables e below (s₁.setTop (mkF m 1 #[.val (.ref ob0), .val (.int (12 : Int32)), .val (.int (16 : Int32))] [(.int (12 : Int32))])) _
    refine XS.ifYes X0.here hx rfl (pc0 := 1) (pc' := 10) rfl (hb hby d6_1) rfl ((if0 _ _).trans (feq (by decide : ¬ ((12 : Int32) = (0 : Int32)))).2) (by decide) (by decide) ?_
    show Steps p.tables e below (s₁.setTop (mkF m 10 #[.val (.ref ob0), .val (.int (12 : Int32)), .val (.int (16 : Int32))] [])) _
    refine XS.aloadN X0.here hx rfl (hb hby d6_10) rfl rfl ?_
    show Steps p.tables e below (s₁.setTop (mkF m 11 #[.val (.ref ob0), .val (.int (12 : Int32)), .val (.int (16 : Int32))] [(.ref ob0)])) _
    refine XS.iloadN X0.here hx rfl (hb hby d6_11) rfl ?_
    show Steps p.tables e below (s₁.setTop (mkF m 12 #[.val (.ref ob0), .val (.int (12 : Int32)), .val (.int (16 : Int32))] [(.int (12 : Int32)), (.ref ob0)])) _
    refine XS.iloadN X0.here hx rfl (hb hby d6_12) rfl ?_
    show Steps p.tables e below (s₁.setTop (mkF m 13 #[.val (.ref ob0), .val (.int (12 : Int32)), .val (.int (16 : Int32))] [(.int (16 : Int32)), (.int (12 : Int32)), (.ref ob0)])) _
    refine st1 _ ?_
    show Steps p.tables e below (T1.setTop (mkF m 16 #[.val (.ref ob0), .val (.int (12 : Int32)), .val (.int (16 : Int32))] [(.ref b1)])) _
    exact retOut X1 hx Bd.returns rfl (Or.inr (Or.inr (Or.inr (Or.inr ⟨rfl, rfl, rfl⟩)))) (hb hby d6_16) hr
  · show Q6 Z ob0 kk0 x0_0 x0_1 x0_2 x0_3 x0_4 x0_5 x0_6 x0_7 x0_8 x0_9 x0_10 x0_11 x0_12 x0_13 x0_14 x0_15 h0 n0 _ T1.heap _
    exact ⟨b1, rfl, N1, KK1, sz_b1, G2.lt, ⟨_, _, _, G2⟩⟩
theorem d2_0 : decode prog_43_method_1_code 0 = .ok (.aload_n 0, 1) := by decide +kernel
theorem d2_1 : decode prog_43_method_1_code 1 = .ok (.invokespecial 1, 3) := by decide +kernel
theorem d2_4 : decode prog_43_method_1_code 4 = .ok (.aload_n 0, 1) := by decide +kernel
theorem d2_5 : decode prog_43_method_1_code 5 = .ok (.aload_n 1, 1) := by decide +kernel
theorem d2_6 : decode prog_43_method_1_code 6 = .ok (.invokestatic 7, 3) := by decide +kernel
theorem d2_9 : decode prog_43_method_1_code 9 = .ok (.ifCond .eq 14, 3) := by decide +kernel
theorem d2_12 : decode prog_43_method_1_code 12 = .ok (.aload_n 1, 1) := by decide +kernel
theorem d2_13 : decode prog_43_method_1_code 13 = .ok (.bipush 12, 2) := by decide +kernel
theorem d2_15 : decode prog_43_method_1_code 15 = .ok (.aload_n 1, 1) := by decide +kernel
theorem d2_16 : decode prog_43_method_1_code 16 = .ok (.arraylength, 1) := by decide +kernel
theorem d2_17 : decode prog_43_method_1_code 17 = .ok (.invokestatic 13, 3) := by decide +kernel
theorem d2_20 : decode prog_43_method_1_code 20 = .ok (.goto 4, 3) := by decide +kernel
theorem d2_24 : decode prog_43_method_1_code 24 = .ok (.putfield 19, 3) := by decide +kernel
theorem d2_27 : decode prog_43_method_1_code 27 = .ok (.return_, 1) := by decide +kernel
theorem pn_2 : plainName "com/example/flytrap/flytrap/net/IpAddress" = true := by first | (simp [plainName, overriddenIn]; done) | decide +kernel
theorem ef_2_16m (m : MethodId) (ob0 : Addr) (ob1 : Addr) : entryFrame m #[(.ref ob0), (.ref ob1)] 2 = mkF m 0 #[.val (.ref ob0), .val (.ref ob1)] [] := by first | (simp [entryFrame, mkF, argsToLocals, Value.category]; done) | rfl
def Q2_16m (Z : State) (ob0 : Addr) (ob1 : Addr) (kk1 : ClassId) (x1_0 : Int32) (x1_1 : Int32) (x1_2 : Int32) (x1_3 : Int32) (x1_4 : Int32) (x1_5 : Int32) (x1_6 : Int32) (x1_7 : Int32) (x1_8 : Int32) (x1_9 : Int32) (x1_10 : Int32) (x1_11 : Int32) (x1_12 : Int32) (x1_13 : Int32) (x1_14 : Int32) (x1_15 : Int32) (u_bytes : Value) (h0 : Heap) (n0 : Nat) (v : Option Value) (h : Heap) (L : List Loc) : Prop := ∃ b : Addr, v = none ∧ Fr n0 L ∧ Keep h0 h [ob0] ∧ Exa Z h ob0 "com/example/flytrap/flytrap/net/IpAddress" ∧ Fld Z h ob0 "com/example/flytrap/flytrap/net/IpAddress" "bytes" "[B" (.ref b) ∧ (∃ (kk : ClassId) (vs : List Value) (dd : Value), Arv Z h b kk .byte (4 : Int32) vs dd) ∧ h0.size ≤ b
set_option maxRecDepth 65536 in
set_option maxHeartbeats 40000000 in
theorem rm2_16m (l : Launch) (Z : State) (a0 : Array Value) (hw : ∀ d ∈ tables_1, d.before a0 Z = true) (ws : List Jvm.Cond) (ob0 : Addr) (ob1 : Addr) (kk1 : ClassId) (x1_0 : Int32) (x1_1 : Int32) (x1_2 : Int32) (x1_3 : Int32) (x1_4 : Int32) (x1_5 : Int32) (x1_6 : Int32) (x1_7 : Int32) (x1_8 : Int32) (x1_9 : Int32) (x1_10 : Int32) (x1_11 : Int32) (x1_12 : Int32) (x1_13 : Int32) (x1_14 : Int32) (x1_15 : Int32) (u_bytes : Value) (h0 : Heap) (n0 : Nat) (Z0 : n0 ≤ h0.size) (V_ob1 : Arv Z h0 ob1 kk1 .byte (16 : Int32) [(.int x1_0), (.int x1_1), (.int x1_2), (.int x1_3), (.int x1_4), (.int x1_5), (.int x1_6), (.int x1_7), (.int x1_8), (.int x1_9), (.int x1_10), (.int x1_11), (.int x1_12), (.int x1_13), (.int x1_14), (.int x1_15)] (.int (0 : Int32))) (F_bytes_ob0 : Fld Z h0 ob0 "com/example/flytrap/flytrap/net/IpAddress" "bytes" "[B" u_bytes) (E_ob0 : Exa Z h0 ob0 "com/example/flytrap/flytrap/net/IpAddress") (g_ob0 : n0 ≤ ob0) (ne_ob1_ob0 : ob1 ≠ ob0) (hc9 : ¬ ((F4_16 x1_0 x1_1 x1_2 x1_3 x1_4 x1_5 x1_6 x1_7 x1_8 x1_9 x1_10 x1_11) = (0 : Int32))) :
    MetFree l (⟨"com/example/flytrap/flytrap/net/IpAddress", "<init>", "([B)V"⟩ : MethodName) (head1 (Jvm.Cond.code (⟨"com/example/flytrap/flytrap/net/IpAddress", "<init>", "([B)V"⟩ : MethodName) prog_43_method_1_code 2 none :: ws) ({ frames := 3, cells := 1, slots := 4, locals := 51 } : Room)) (fun a U => a = #[(.ref ob0), (.ref ob1)] ∧ Z.Warmed39 U.vm ∧ U.heap = h0) (fun _ _ _ _ _ => True) (fun _ U o U' => ∃ v L, o = .returned v ∧ Q2_16m Z ob0 ob1 kk1 x1_0 x1_1 x1_2 x1_3 x1_4 x1_5 x1_6 x1_7 x1_8 x1_9 x1_10 x1_11 x1_12 x1_13 x1_14 x1_15 u_bytes h0 n0 v U'.heap L ∧ FrameEnd U o U' L ({ frames := 3, cells := 1, slots := 4, locals := 51 } : Room).cells ({ frames := 3, cells := 1, slots := 4, locals := 51 } : Room).slots) := by
  refine MetFree.of_bodySF (plainFor_of_name pn_2) hisR ?_
  intro p e s m args below meth c s₁ Bd hml0 hP hK
  obtain ⟨rfl, hZ, hh⟩ := hP
  have hx := Bd.exec
  have hby := Bd.bytes
  have hml : c.maxLocals = 2 := hml0
  have hown : s.vm.findClass "com/example/flytrap/flytrap/net/IpAddress" = some m.cls := findClass_of_methodNamed Bd.named
  have hnm := (name_of_methodNamed Bd.named Bd.method).1
  have X0 : Stand p l e ({ frames := 3, cells := 1, slots := 4, locals := 51 } : Room) s m #[(.ref ob0), (.ref ob1)] below meth c s₁ [] 0 0 := Stand.of_body Bd
  have e0 : s₁.heap = h0 := by rw [← hh, Bd.state]; rfl
  have N0 := Fr.nil n0
  have pre0 : ∀ t, Steps p.tables e below (s₁.setTop (mkF m 0 #[.val (.ref ob0), .val (.ref ob1)] [])) t → Steps p.tables e below (s₁.setTop (entryFrame m #[(.ref ob0), (.ref ob1)] 2)) t := fun t k => castTop (ef_2_16m m ob0 ob1) k
  obtain ⟨T1, X1, e1, st1⟩ := initO X0 hx hZ hown (hw _ (List.mem_of_getElem? (i := 11) rfl)) (hw _ (List.mem_of_getElem? (i := 12) rfl)) (hw _ (List.mem_of_getElem? (i := 13) rfl)) e0 (g := (mkF m 1 #[.val (.ref ob0), .val (.ref ob1)] [(.ref ob0)])) rfl (by rw [hml]; rfl) rfl (hb hby d2_1) (by decide) (W := 0) (by show 2 * 0 + _ ≤ _; exact Nat.le_of_eq rfl) (by decide)
  obtain ⟨_, _, ⟨T2, L2, k2, n2⟩, -, X2, ⟨Lc2, hQ2, l2, y2, z2⟩, st2⟩ := Jvm.LawKit.callS X1 hx (y := (⟨"com/example/flytrap/flytrap/net/IpAddress", "isIpv4Mapped", "([B)Z"⟩ : MethodName)) hown (mvT hZ (hw _ (List.mem_of_getElem? (i := 14) rfl))) (mvT hZ (hw _ (List.mem_of_getElem? (i := 15) rfl))) (mvT hZ (hw _ (List.mem_of_getElem? (i := 7) rfl))) (mvT hZ (hw _ (List.mem_of_getElem? (i := 16) rfl))) (by decide) (backOf (W := 1) (rm4_16 l Z a0 hw [] ob1 _ _ _ _ _ _ _ _ _ _ _ _ _ _ _ _ _ h0 n0 Z0 V_ob1) hZ (hw _ (List.mem_of_getElem? (i := 16) rfl)) (hw _ (List.mem_of_getElem? (i := 7) rfl)) (by decide) (by decide)) (g := (mkF m 6 #[.val (.ref ob0), .val (.ref ob1)] [(.ref ob1), (.ref ob0)])) rfl (by rw [hml]; rfl) (argsL := [(.ref ob1)]) (rest := [(.ref ob0)]) (lenOf pd_1 rfl) rfl (by show 2 * 0 + _ ≤ _; exact Nat.le_of_eq rfl) (hb hby d2_6) (fun _ _ => ⟨rfl, e1, (by decide : 0 + 0 ≤ _), (by decide : 0 + 0 ≤ _)⟩)
  dsimp only [Pt.U, Pt.locs, Pt.cells, Pt.slots] at X2 l2 y2 z2 st2 hQ2
  subst l2 y2 z2
  obtain ⟨rfl, N2q, e2⟩ := hQ2
  have N2 := Fr.app N0 N2q
  obtain ⟨cl3, Ar3, -, Sz3, Ng3, -, -⟩ := id V_ob1
  obtain ⟨_, _, ⟨T4, L4, k4, n4⟩, -, X4, ⟨Lc4, hQ4, l4, y4, z4⟩, st4⟩ := Jvm.LawKit.callS X2 hx (y := (⟨"java/util/Arrays", "copyOfRange", "([BII)[B"⟩ : MethodName)) hown (mvT hZ (hw _ (List.mem_of_getElem? (i := 25) rfl))) (mvT hZ (hw _ (List.mem_of_getElem? (i := 26) rfl))) (mvT hZ (hw _ (List.mem_of_getElem? (i := 27) rfl))) (mvT hZ (hw _ (List.mem_of_getElem? (i := 28) rfl))) (by decide) (backOf (W := 1) (rm6 l Z a0 hw [] ob1 _ _ _ _ _ _ _ _ _ _ _ _ _ _ _ _ _ h0 n0 Z0 V_ob1) hZ (hw _ (List.mem_of_getElem? (i := 28) rfl)) (hw _ (List.mem_of_getElem? (i := 27) rfl)) (by decide) (by decide)) (g := (mkF m 17 #[.val (.ref ob0), .val (.ref ob1)] [(.int (16 : Int32)), (.int (12 : Int32)), (.ref ob1), (.ref ob0)])) rfl (by rw [hml]; rfl) (argsL := [(.ref ob1), (.int (12 : Int32)), (.int (16 : Int32))]) (rest := [(.ref ob0)]) (lenOf pd_4 rfl) rfl (by show 2 * 0 + _ ≤ _; exact Nat.le_of_eq rfl) (hb hby d2_17) (fun _ _ => ⟨rfl, e2, (by decide : 0 + 1 ≤ _), (by decide : 0 + 4 ≤ _)⟩)
  dsimp only [Pt.U, Pt.locs, Pt.cells, Pt.slots] at X4 l4 y4 z4 st4 hQ4
  subst l4 y4 z4
  obtain ⟨b4, rfl, N4q, K4, sz4, lt4, ⟨kG5, vsG5, ddG5, G5⟩⟩ := hQ4
  have E4 : Ext h0 T4.heap := ⟨K4.1, fun a c q => K4.2.1 a c q nin0⟩
  have ne_ob1_b4 : ob1 ≠ b4 := Nat.ne_of_lt (Nat.lt_of_lt_of_le V_ob1.lt sz4)
  have ne_ob0_b4 : ob0 ≠ b4 := Nat.ne_of_lt (Nat.lt_of_lt_of_le F_bytes_ob0.lt sz4)
  have vV6 := V_ob1.ext E4
  have fF7 := F_bytes_ob0.ext E4
  have eE8 := E_ob0.ext E4
  have g_b4 : n0 ≤ b4 := Nat.le_trans Z0 sz4
  have sz_b4 : h0.size ≤ b4 := Nat.le_trans (Keep.refl h0 [ob0]).1 sz4
  have KK4 := (Keep.refl h0 [ob0]).ext E4
  have Z4 := Nat.le_trans Z0 E4.1
  have N4 := Fr.app N2 N4q
  obtain ⟨T9, h9, X9, e9, W9, st9⟩ := putF X4 hx hZ hown (host := "") (Or.inl (hw _ (List.mem_of_getElem? (i := 17) rfl))) Via.refl rfl fF7 eE8 (Or.inr ⟨(hw _ (List.mem_of_getElem? (i := 18) rfl)), rfl, hnm⟩) (hw _ (List.mem_of_getElem? (i := 6) rfl)) (ty := (.array .byte)) (by decide) rfl rfl (g := (mkF m 24 #[.val (.ref ob0), .val (.ref ob1)] [(.ref b4), (.ref ob0)])) rfl rfl (hb hby d2_24)
  have vV10 := vV6.other W9 ne_ob1_ob0
  have fF11 := fF7.same W9
  have eE12 := eE8.wr W9
  have vV13 := G5.other W9 (Ne.symm ne_ob0_b4)
  have N9 := Fr.snoc X9 N4 g_ob0
  have Z9 := Nat.le_trans Z4 (Keep.of_wr W9).1
  have K9 := KK4.wr W9 (Or.inl (List.mem_of_getElem? (i := 0) rfl))
  obtain ⟨fs, hr, hrun, hended, hW, hsame⟩ := X9.leave (v := none) (fun _ => rfl) (BodyLoose.notSynchronized Bd)
  refine ⟨_, _, pre0 _ ?_, hrun, hended, _, _, rfl, ?_, ⟨_, rfl⟩, hW, hsame.mono (by decide) (by decide)⟩
  · show Steps p.tables e below (s₁.setTop (mkF m 0 #[.val (.ref ob0), .val (.ref ob1)] [])) _
    refine XS.aloadN X0.here hx rfl (hb hby d2_0) rfl rfl ?_
    show Steps p.tables e below (s₁.setTop (mkF m 1 #[.val (.ref ob0), .val (.ref ob1)] [(.ref ob0)])) _
    refine st1 _ ?_
    show Steps p.tables e below (T1.setTop (mkF m 4 #[.val (.ref ob0), .val (.ref ob1)] [])) _
    refine XS.aloadN X1.here hx rfl (hb hby d2_4) rfl rfl ?_
    show Steps p.tables e below (T1.setTop (mkF m 5 #[.val (.ref ob0), .val (.ref ob1)] [(.ref ob0)])) _
    refine XS.aloadN X1.here hx rfl (hb hby d2_5) rfl rfl ?_
    show Steps p.tables e below (T1.setTop (mkF m 6 #[.val (.ref ob0), .val (.ref ob1)] [(.ref ob1), (.ref ob0)])) _
    refine st2 _ ?_
    show Steps p.tables e below (T2.setTop (mkF m 9 #[.val (.ref ob0), .val (.ref ob1)] [(.int (F4_16 x1_0 x1_1 x1_2 x1_3 x1_4 x1_5 x1_6 x1_7 x1_8 x1_9 x1_10 x1_11)), (.ref ob0)])) _
    refine XS.ifNo X2.here hx rfl (hb hby d2_9) rfl ((if0 _ _).trans (feq hc9).1) ?_
    show Steps p.tables e below (T2.setTop (mkF m 12 #[.val (.ref ob0), .val (.ref ob1)] [(.ref ob0)])) _
    refine XS.aloadN X2.here hx rfl (hb hby d2_12) rfl rfl ?_
    show Steps p.tables e below (T2.setTop (mkF m 13 #[.val (.ref ob0), .val (.ref ob1)] [(.ref ob1), (.ref ob0)])) _
    refine XS.bipush X2.here hx rfl (hb hby d2_13) ?_
    show Steps p.tables e below (T2.setTop (mkF m 15 #[.val (.ref ob0), .val (.ref ob1)] [(.int (12 : Int32)), (.ref ob1), (.ref ob0)])) _
    refine XS.aloadN X2.here hx rfl (hb hby d2_15) rfl rfl ?_
    show Steps p.tables e below (T2.setTop (mkF m 16 #[.val (.ref ob0), .val (.ref ob1)] [(.ref ob1), (.int (12 : Int32)), (.ref ob1), (.ref ob0)])) _
    refine X2.arraylength hx (by rw [e2]; exact Ar3.1) (State.isArrayOf_alike hZ.alike Ar3.2.1) (g := (mkF m 16 #[.val (.ref ob0), .val (.ref ob1)] [(.ref ob1), (.int (12 : Int32)), (.ref ob1), (.ref ob0)])) rfl rfl (hb hby d2_16) _ ?_
    rw [len_of Sz3 Ng3]
    show Steps p.tables e below (T2.setTop (mkF m 17 #[.val (.ref ob0), .val (.ref ob1)] [(.int (16 : Int32)), (.int (12 : Int32)), (.ref ob1), (.ref ob0)])) _
    refine st4 _ ?_
    show Steps p.tables e below (T4.setTop (mkF m 20 #[.val (.ref ob0), .val (.ref ob1)] [(.ref b4), (.ref ob0)])) _
    refine XS.goto X4.here hx rfl (pc0 := 20) (pc' := 24) rfl (hb hby d2_20) (by decide) (by decide) ?_
    show Steps p.tables e below (T4.setTop (mkF m 24 #[.val (.ref ob0), .val (.ref ob1)] [(.ref b4), (.ref ob0)])) _
    refine st9 _ ?_
    show Steps p.tables e below (T9.setTop (mkF m 27 #[.val (.ref ob0), .val (.ref ob1)] [])) _
    exact X9.returnOut hx Bd.returns (hb hby d2_27) hr
  · show Q2_16m Z ob0 ob1 kk1 x1_0 x1_1 x1_2 x1_3 x1_4 x1_5 x1_6 x1_7 x1_8 x1_9 x1_10 x1_11 x1_12 x1_13 x1_14 x1_15 u_bytes h0 n0 _ T9.heap _
    rw [e9]
    exact ⟨_, rfl, N9, K9, eE12, fF11, ⟨_, _, _, vV13⟩, sz_b4⟩
theorem pd_5 : parseMethodDescriptor "([B)V" = some ⟨[(.array .byte)], none⟩ := by decide +kernel
def F5 (n_v : Int32) : Int32 :=
  if n_v = (16 : Int32) then (1 : Int32) else (0 : Int32)
theorem d5_0 : decode prog_43_method_5_code 0 = .ok (.aload_n 0, 1) := by decide +kernel
theorem d5_1 : decode prog_43_method_5_code 1 = .ok (.getfield 19, 3) := by decide +kernel
theorem d5_4 : decode prog_43_method_5_code 4 = .ok (.arraylength, 1) := by decide +kernel
theorem d5_5 : decode prog_43_method_5_code 5 = .ok (.bipush 16, 2) := by decide +kernel
theorem d5_7 : decode prog_43_method_5_code 7 = .ok (.if_icmp .ne 7, 3) := by decide +kernel
theorem d5_10 : decode prog_43_method_5_code 10 = .ok (.iconst 1, 1) := by decide +kernel
theorem d5_11 : decode prog_43_method_5_code 11 = .ok (.goto 4, 3) := by decide +kernel
theorem d5_14 : decode prog_43_method_5_code 14 = .ok (.iconst 0, 1) := by decide +kernel
theorem d5_15 : decode prog_43_method_5_code 15 = .ok (.ireturn, 1) := by decide +kernel
theorem pn_5 : plainName "com/example/flytrap/flytrap/net/IpAddress" = true := by first | (simp [plainName, overriddenIn]; done) | decide +kernel
theorem ef_5 (m : MethodId) (ob0 : Addr) : entryFrame m #[(.ref ob0)] 1 = mkF m 0 #[.val (.ref ob0)] [] := by first | (simp [entryFrame, mkF, argsToLocals, Value.category]; done) | rfl
def Q5 (Z : State) (ob0 : Addr) (w_ob0_bytes : Addr) (n_v : Int32) (h0 : Heap) (n0 : Nat) (v : Option Value) (h : Heap) (L : List Loc) : Prop := v = some (.int (F5 n_v)) ∧ Fr n0 L ∧ h = h0
set_option maxRecDepth 65536 in
set_option maxHeartbeats 40000000 in
theorem rm5 (l : Launch) (Z : State) (a0 : Array Value) (hw : ∀ d ∈ tables_1, d.before a0 Z = true) (ws : List Jvm.Cond) (ob0 : Addr) (w_ob0_bytes : Addr) (n_v : Int32) (h0 : Heap) (n0 : Nat) (Z0 : n0 ≤ h0.size) (F_bytes_ob0 : Fld Z h0 ob0 "com/example/flytrap/flytrap/net/IpAddress" "bytes" "[B" (.ref w_ob0_bytes)) (B_v : own_L Z h0 w_ob0_bytes n_v) :
    MetFree l (⟨"com/example/flytrap/flytrap/net/IpAddress", "isIpv6", "()Z"⟩ : MethodName) (head1 (Jvm.Cond.code (⟨"com/example/flytrap/flytrap/net/IpAddress", "isIpv6", "()Z"⟩ : MethodName) prog_43_method_5_code 1 (some .boolean) :: ws) ({ frames := 0, cells := 0, slots := 0, locals := 0 } : Room)) (fun a U => a = #[(.ref ob0)] ∧ Z.Warmed39 U.vm ∧ U.heap = h0) (fun _ _ _ _ _ => True) (fun _ U o U' => ∃ v L, o = .returned v ∧ Q5 Z ob0 w_ob0_bytes n_v h0 n0 v U'.heap L ∧ FrameEnd U o U' L ({ frames := 0, cells := 0, slots := 0, locals := 0 } : Room).cells ({ frames := 0, cells := 0, slots := 0, locals := 0 } : Room).slots) := by
  refine MetFree.of_bodySF (plainFor_of_name pn_5) hisR ?_
  intro p e s m args below meth c s₁ Bd hml0 hP hK
  obtain ⟨rfl, hZ, hh⟩ := hP
  have hx := Bd.exec
  have hby := Bd.bytes
  have hml : c.maxLocals = 1 := hml0
  have hown : s.vm.findClass "com/example/flytrap/flytrap/net/IpAddress" = some m.cls := findClass_of_methodNamed Bd.named
  have hnm := (name_of_methodNamed Bd.named Bd.method).1
  have X0 : Stand p l e ({ frames := 0, cells := 0, slots := 0, locals := 0 } : Room) s m #[(.ref ob0)] below meth c s₁ [] 0 0 := Stand.of_body Bd
  have e0 : s₁.heap = h0 := by rw [← hh, Bd.state]; rfl
  have N0 := Fr.nil n0
  have pre0 : ∀ t, Steps p.tables e below (s₁.setTop (mkF m 0 #[.val (.ref ob0)] [])) t → Steps p.tables e below (s₁.setTop (entryFrame m #[(.ref ob0)] 1)) t := fun t k => castTop (ef_5 m ob0) k
  obtain ⟨T1, X1, e1, st1⟩ := getF X0 hx hZ hown (host := "") (Or.inl (hw _ (List.mem_of_getElem? (i := 17) rfl))) Via.refl e0 F_bytes_ob0 (g := (mkF m 1 #[.val (.ref ob0)] [(.ref ob0)])) rfl rfl (hb hby d5_1)
  obtain ⟨_, _, _, cl2, Ar2, -, Sz2, Ng2, -, -⟩ := id B_v
  have pre3 : ∀ t, Steps p.tables e below (T1.setTop (mkF m 7 #[.val (.ref ob0)] [(.int (16 : Int32)), (.int n_v)])) t → Steps p.tables e below (s₁.setTop (entryFrame m #[(.ref ob0)] 1)) t := fun t k => by
    refine pre0 t ?_
    show Steps p.tables e below (s₁.setTop (mkF m 0 #[.val (.ref ob0)] [])) _
    refine XS.aloadN X0.here hx rfl (hb hby d5_0) rfl rfl ?_
    show Steps p.tables e below (s₁.setTop (mkF m 1 #[.val (.ref ob0)] [(.ref ob0)])) _
    refine st1 _ ?_
    show Steps p.tables e below (T1.setTop (mkF m 4 #[.val (.ref ob0)] [(.ref w_ob0_bytes)])) _
    refine X1.arraylength hx (by rw [e1]; exact Ar2.1) (State.isArrayOf_alike hZ.alike Ar2.2.1) (g := (mkF m 4 #[.val (.ref ob0)] [(.ref w_ob0_bytes)])) rfl rfl (hb hby d5_4) _ ?_
    rw [len_of Sz2 Ng2]
    show Steps p.tables e below (T1.setTop (mkF m 5 #[.val (.ref ob0)] [(.int n_v)])) _
    refine XS.bipush X1.here hx rfl (hb hby d5_5) ?_
    exact k
  by_cases hc7 : n_v = (16 : Int32)
  · obtain ⟨fs, hr, hrun, hended, hW, hsame⟩ := X1.leave (v := some (.int (1 : Int32))) (fun h => by rw [Bd.returns] at h; cases h) (BodyLoose.notSynchronized Bd)
    refine ⟨_, _, pre3 _ ?_, hrun, hended, _, _, rfl, ?_, ⟨_, rfl⟩, hW, hsame.mono (by decide) (by decide)⟩
    · show Steps p.tables e below (T1.setTop (mkF m 7 #[.val (.ref ob0)] [(.int (16 : Int32)), (.int n_v)])) _
      refine XS.icmpNo X1.here hx rfl (hb hby d5_7) rfl (teq hc7).2 ?_
      show Steps p.tables e below (T1.setTop (mkF m 10 #[.val (.ref ob0)] [])) _
      refine XS.iconst X1.here hx rfl (hb hby d5_10) ?_
      show Steps p.tables e below (T1.setTop (mkF m 11 #[.val (.ref ob0)] [(.int (1 : Int32))])) _
      refine XS.goto X1.here hx rfl (pc0 := 11) (pc' := 15) rfl (hb hby d5_11) (by decide) (by decide) ?_
      show Steps p.tables e below (T1.setTop (mkF m 15 #[.val (.ref ob0)] [(.int (1 : Int32))])) _
      exact retN X1 hx (t := .boolean) Bd.returns (by simp) (hb hby d5_15) hr
    · show Q5 Z ob0 w_ob0_bytes n_v h0 n0 _ T1.heap _
      rw [e1]
      exact ⟨(by rw [F5, if_pos hc7]), N0, rfl⟩
  · obtain ⟨fs, hr, hrun, hended, hW, hsame⟩ := X1.leave (v := some (.int (0 : Int32))) (fun h => by rw [Bd.returns] at h; cases h) (BodyLoose.notSynchronized Bd)
    refine ⟨_, _, pre3 _ ?_, hrun, hended, _, _, rfl, ?_, ⟨_, rfl⟩, hW, hsame.mono (by decide) (by decide)⟩
    · show Steps p.tables e below (T1.setTop (mkF m 7 #[.val (.ref ob0)] [(.int (16 : Int32)), (.int n_v)])) _
      refine XS.icmpYes X1.here hx rfl (pc0 := 7) (pc' := 14) rfl (hb hby d5_7) rfl (feq hc7).2 (by decide) (by decide) ?_
      show Steps p.tables e below (T1.setTop (mkF m 14 #[.val (.ref ob0)] [])) _
      refine XS.iconst X1.here hx rfl (hb hby d5_14) ?_
      show Steps p.tables e below (T1.setTop (mkF m 15 #[.val (.ref ob0)] [(.int (0 : Int32))])) _
      exact retN X1 hx (t := .boolean) Bd.returns (by simp) (hb hby d5_15) hr
    · show Q5 Z ob0 w_ob0_bytes n_v h0 n0 _ T1.heap _
      rw [e1]
      exact ⟨(by rw [F5, if_neg hc7]), N0, rfl⟩
theorem pd_6 : parseMethodDescriptor "()Z" = some ⟨[], some .boolean⟩ := by decide +kernel
theorem d2_23 : decode prog_43_method_1_code 23 = .ok (.aload_n 1, 1) := by decide +kernel
theorem ef_2_16n (m : MethodId) (ob0 : Addr) (ob1 : Addr) : entryFrame m #[(.ref ob0), (.ref ob1)] 2 = mkF m 0 #[.val (.ref ob0), .val (.ref ob1)] [] := by first | (simp [entryFrame, mkF, argsToLocals, Value.category]; done) | rfl
def Q2_16n (Z : State) (ob0 : Addr) (ob1 : Addr) (kk1 : ClassId) (x1_0 : Int32) (x1_1 : Int32) (x1_2 : Int32) (x1_3 : Int32) (x1_4 : Int32) (x1_5 : Int32) (x1_6 : Int32) (x1_7 : Int32) (x1_8 : Int32) (x1_9 : Int32) (x1_10 : Int32) (x1_11 : Int32) (x1_12 : Int32) (x1_13 : Int32) (x1_14 : Int32) (x1_15 : Int32) (u_bytes : Value) (h0 : Heap) (n0 : Nat) (v : Option Value) (h : Heap) (L : List Loc) : Prop := v = none ∧ Fr n0 L ∧ Keep h0 h [ob0] ∧ Exa Z h ob0 "com/example/flytrap/flytrap/net/IpAddress" ∧ Fld Z h ob0 "com/example/flytrap/flytrap/net/IpAddress" "bytes" "[B" (.ref ob1)
set_option maxRecDepth 65536 in
set_option maxHeartbeats 40000000 in
theorem rm2_16n (l : Launch) (Z : State) (a0 : Array Value) (hw : ∀ d ∈ tables_1, d.before a0 Z = true) (ws : List Jvm.Cond) (ob0 : Addr) (ob1 : Addr) (kk1 : ClassId) (x1_0 : Int32) (x1_1 : Int32) (x1_2 : Int32) (x1_3 : Int32) (x1_4 : Int32) (x1_5 : Int32) (x1_6 : Int32) (x1_7 : Int32) (x1_8 : Int32) (x1_9 : Int32) (x1_10 : Int32) (x1_11 : Int32) (x1_12 : Int32) (x1_13 : Int32) (x1_14 : Int32) (x1_15 : Int32) (u_bytes : Value) (h0 : Heap) (n0 : Nat) (Z0 : n0 ≤ h0.size) (V_ob1 : Arv Z h0 ob1 kk1 .byte (16 : Int32) [(.int x1_0), (.int x1_1), (.int x1_2), (.int x1_3), (.int x1_4), (.int x1_5), (.int x1_6), (.int x1_7), (.int x1_8), (.int x1_9), (.int x1_10), (.int x1_11), (.int x1_12), (.int x1_13), (.int x1_14), (.int x1_15)] (.int (0 : Int32))) (F_bytes_ob0 : Fld Z h0 ob0 "com/example/flytrap/flytrap/net/IpAddress" "bytes" "[B" u_bytes) (E_ob0 : Exa Z h0 ob0 "com/example/flytrap/flytrap/net/IpAddress") (g_ob0 : n0 ≤ ob0) (ne_ob1_ob0 : ob1 ≠ ob0) (hc9 : (F4_16 x1_0 x1_1 x1_2 x1_3 x1_4 x1_5 x1_6 x1_7 x1_8 x1_9 x1_10 x1_11) = (0 : Int32)) :
    MetFree l (⟨"com/example/flytrap/flytrap/net/IpAddress", "<init>", "([B)V"⟩ : MethodName) (head1 (Jvm.Cond.code (⟨"com/example/flytrap/flytrap/net/IpAddress", "<init>", "([B)V"⟩ : MethodName) prog_43_method_1_code 2 none :: ws) ({ frames := 1, cells := 0, slots := 0, locals := 14 } : Room)) (fun a U => a = #[(.ref ob0), (.ref ob1)] ∧ Z.Warmed39 U.vm ∧ U.heap = h0) (fun _ _ _ _ _ => True) (fun _ U o U' => ∃ v L, o = .returned v ∧ Q2_16n Z ob0 ob1 kk1 x1_0 x1_1 x1_2 x1_3 x1_4 x1_5 x1_6 x1_7 x1_8 x1_9 x1_10 x1_11 x1_12 x1_13 x1_14 x1_15 u_bytes h0 n0 v U'.heap L ∧ FrameEnd U o U' L ({ frames := 1, cells := 0, slots := 0, locals := 14 } : Room).cells ({ frames := 1, cells := 0, slots := 0, locals := 14 } : Room).slots) := by
  refine MetFree.of_bodySF (plainFor_of_name pn_2) hisR ?_
  intro p e s m args below meth c s₁ Bd hml0 hP hK
  obtain ⟨rfl, hZ, hh⟩ := hP
  have hx := Bd.exec
  have hby := Bd.bytes
  have hml : c.maxLocals = 2 := hml0
  have hown : s.vm.findClass "com/example/flytrap/flytrap/net/IpAddress" = some m.cls := findClass_of_methodNamed Bd.named
  have hnm := (name_of_methodNamed Bd.named Bd.method).1
  have X0 : Stand p l e ({ frames := 1, cells := 0, slots := 0, locals := 14 } : Room) s m #[(.ref ob0), (.ref ob1)] below meth c s₁ [] 0 0 := Stand.of_body Bd
  have e0 : s₁.heap = h0 := by rw [← hh, Bd.state]; rfl
  have N0 := Fr.nil n0
  have pre0 : ∀ t, Steps p.tables e below (s₁.setTop (mkF m 0 #[.val (.ref ob0), .val (.ref ob1)] [])) t → Steps p.tables e below (s₁.setTop (entryFrame m #[(.ref ob0), (.ref ob1)] 2)) t := fun t k => castTop (ef_2_16n m ob0 ob1) k
  obtain ⟨T1, X1, e1, st1⟩ := initO X0 hx hZ hown (hw _ (List.mem_of_getElem? (i := 11) rfl)) (hw _ (List.mem_of_getElem? (i := 12) rfl)) (hw _ (List.mem_of_getElem? (i := 13) rfl)) e0 (g := (mkF m 1 #[.val (.ref ob0), .val (.ref ob1)] [(.ref ob0)])) rfl (by rw [hml]; rfl) rfl (hb hby d2_1) (by decide) (W := 0) (by show 2 * 0 + _ ≤ _; exact Nat.le_of_eq rfl) (by decide)
  obtain ⟨_, _, ⟨T2, L2, k2, n2⟩, -, X2, ⟨Lc2, hQ2, l2, y2, z2⟩, st2⟩ := Jvm.LawKit.callS X1 hx (y := (⟨"com/example/flytrap/flytrap/net/IpAddress", "isIpv4Mapped", "([B)Z"⟩ : MethodName)) hown (mvT hZ (hw _ (List.mem_of_getElem? (i := 14) rfl))) (mvT hZ (hw _ (List.mem_of_getElem? (i := 15) rfl))) (mvT hZ (hw _ (List.mem_of_getElem? (i := 7) rfl))) (mvT hZ (hw _ (List.mem_of_getElem? (i := 16) rfl))) (by decide) (backOf (W := 1) (rm4_16 l Z a0 hw [] ob1 _ _ _ _ _ _ _ _ _ _ _ _ _ _ _ _ _ h0 n0 Z0 V_ob1) hZ (hw _ (List.mem_of_getElem? (i := 16) rfl)) (hw _ (List.mem_of_getElem? (i := 7) rfl)) (by decide) (by decide)) (g := (mkF m 6 #[.val (.ref ob0), .val (.ref ob1)] [(.ref ob1), (.ref ob0)])) rfl (by rw [hml]; rfl) (argsL := [(.ref ob1)]) (rest := [(.ref ob0)]) (lenOf pd_1 rfl) rfl (by show 2 * 0 + _ ≤ _; exact Nat.le_of_eq rfl) (hb hby d2_6) (fun _ _ => ⟨rfl, e1, (by decide : 0 + 0 ≤ _), (by decide : 0 + 0 ≤ _)⟩)
  dsimp only [Pt.U, Pt.locs, Pt.cells, Pt.slots] at X2 l2 y2 z2 st2 hQ2
  subst l2 y2 z2
  obtain ⟨rfl, N2q, e2⟩ := hQ2
  have N2 := Fr.app N0 N2q
  obtain ⟨T3, h3, X3, e3, W3, st3⟩ := putF X2 hx hZ hown (host := "") (Or.inl (hw _ (List.mem_of_getElem? (i := 17) rfl))) Via.refl e2 F_bytes_ob0 E_ob0 (Or.inr ⟨(hw _ (List.mem_of_getElem? (i := 18) rfl)), rfl, hnm⟩) (hw _ (List.mem_of_getElem? (i := 6) rfl)) (ty := (.array .byte)) (by decide) rfl rfl (g := (mkF m 24 #[.val (.ref ob0), .val (.ref ob1)] [(.ref ob1), (.ref ob0)])) rfl rfl (hb hby d2_24)
  have vV4 := V_ob1.other W3 ne_ob1_ob0
  have fF5 := F_bytes_ob0.same W3
  have eE6 := E_ob0.wr W3
  have N3 := Fr.snoc X3 N2 g_ob0
  have Z3 := Nat.le_trans Z0 (Keep.of_wr W3).1
  have K3 := (Keep.refl h0 [ob0]).wr W3 (Or.inl (List.mem_of_getElem? (i := 0) rfl))
  obtain ⟨fs, hr, hrun, hended, hW, hsame⟩ := X3.leave (v := none) (fun _ => rfl) (BodyLoose.notSynchronized Bd)
  refine ⟨_, _, pre0 _ ?_, hrun, hended, _, _, rfl, ?_, ⟨_, rfl⟩, hW, hsame.mono (by decide) (by decide)⟩
  · show Steps p.tables e below (s₁.setTop (mkF m 0 #[.val (.ref ob0), .val (.ref ob1)] [])) _
    refine XS.aloadN X0.here hx rfl (hb hby d2_0) rfl rfl ?_
    show Steps p.tables e below (s₁.setTop (mkF m 1 #[.val (.ref ob0), .val (.ref ob1)] [(.ref ob0)])) _
    refine st1 _ ?_
    show Steps p.tables e below (T1.setTop (mkF m 4 #[.val (.ref ob0), .val (.ref ob1)] [])) _
    refine XS.aloadN X1.here hx rfl (hb hby d2_4) rfl rfl ?_
    show Steps p.tables e below (T1.setTop (mkF m 5 #[.val (.ref ob0), .val (.ref ob1)] [(.ref ob0)])) _
    refine XS.aloadN X1.here hx rfl (hb hby d2_5) rfl rfl ?_
    show Steps p.tables e below (T1.setTop (mkF m 6 #[.val (.ref ob0), .val (.ref ob1)] [(.ref ob1), (.ref ob0)])) _
    refine st2 _ ?_
    show Steps p.tables e below (T2.setTop (mkF m 9 #[.val (.ref ob0), .val (.ref ob1)] [(.int (F4_16 x1_0 x1_1 x1_2 x1_3 x1_4 x1_5 x1_6 x1_7 x1_8 x1_9 x1_10 x1_11)), (.ref ob0)])) _
    refine XS.ifYes X2.here hx rfl (pc0 := 9) (pc' := 23) rfl (hb hby d2_9) rfl ((if0 _ _).trans (teq hc9).1) (by decide) (by decide) ?_
    show Steps p.tables e below (T2.setTop (mkF m 23 #[.val (.ref ob0), .val (.ref ob1)] [(.ref ob0)])) _
    refine XS.aloadN X2.here hx rfl (hb hby d2_23) rfl rfl ?_
    show Steps p.tables e below (T2.setTop (mkF m 24 #[.val (.ref ob0), .val (.ref ob1)] [(.ref ob1), (.ref ob0)])) _
    refine st3 _ ?_
    show Steps p.tables e below (T3.setTop (mkF m 27 #[.val (.ref ob0), .val (.ref ob1)] [])) _
    exact X3.returnOut hx Bd.returns (hb hby d2_27) hr
  · show Q2_16n Z ob0 ob1 kk1 x1_0 x1_1 x1_2 x1_3 x1_4 x1_5 x1_6 x1_7 x1_8 x1_9 x1_10 x1_11 x1_12 x1_13 x1_14 x1_15 u_bytes h0 n0 _ T3.heap _
    rw [e3]
    exact ⟨rfl, N3, K3, eE6, fF5⟩
theorem ef_1_4_0 (m : MethodId) (ob0 : Addr) (p2 : Int32) : entryFrame m #[(.ref ob0), (.int (0 : Int32)), (.int p2)] 3 = mkF m 0 #[.val (.ref ob0), .val (.int (0 : Int32)), .val (.int p2)] [] := by first | (simp [entryFrame, mkF, argsToLocals, Value.category]; done) | rfl
def Q1_4_0 (Z : State) (ob0 : Addr) (p2 : Int32) (kk0 : ClassId) (x0_0 : Value) (x0_1 : Value) (x0_2 : Value) (x0_3 : Value) (h0 : Heap) (n0 : Nat) (v : Option Value) (h : Heap) (L : List Loc) : Prop := v = none ∧ Fr n0 L ∧ Keep h0 h [ob0] ∧ (∃ kk : ClassId, Arv Z h ob0 kk .byte (4 : Int32) [(.int (nar .byte (((p2.toUInt32 >>> ((24 : Int32) &&& 31).toUInt32).toInt32).toInt8.toInt32))), (.int (nar .byte (((p2.toUInt32 >>> ((16 : Int32) &&& 31).toUInt32).toInt32).toInt8.toInt32))), (.int (nar .byte (((p2.toUInt32 >>> ((8 : Int32) &&& 31).toUInt32).toInt32).toInt8.toInt32))), (.int (nar .byte (p2.toInt8.toInt32)))] (.int (0 : Int32)))
set_option maxRecDepth 65536 in
set_option maxHeartbeats 40000000 in
theorem rm1_4_0 (l : Launch) (Z : State) (a0 : Array Value) (hw : ∀ d ∈ tables_1, d.before a0 Z = true) (ws : List Jvm.Cond) (ob0 : Addr) (p2 : Int32) (kk0 : ClassId) (x0_0 : Value) (x0_1 : Value) (x0_2 : Value) (x0_3 : Value) (h0 : Heap) (n0 : Nat) (Z0 : n0 ≤ h0.size) (V_ob0 : Arv Z h0 ob0 kk0 .byte (4 : Int32) [x0_0, x0_1, x0_2, x0_3] (.int (0 : Int32))) (g_ob0 : n0 ≤ ob0) :
    MetFree l (⟨"com/example/flytrap/flytrap/net/IpAddressIsIpv6PinLaw", "put", "([BII)V"⟩ : MethodName) (head1 (Jvm.Cond.code (⟨"com/example/flytrap/flytrap/net/IpAddressIsIpv6PinLaw", "put", "([BII)V"⟩ : MethodName) method_3_code 3 none :: ws) ({ frames := 0, cells := 0, slots := 0, locals := 0 } : Room)) (fun a U => a = #[(.ref ob0), (.int (0 : Int32)), (.int p2)] ∧ Z.Warmed39 U.vm ∧ U.heap = h0) (fun _ _ _ _ _ => True) (fun _ U o U' => ∃ v L, o = .returned v ∧ Q1_4_0 Z ob0 p2 kk0 x0_0 x0_1 x0_2 x0_3 h0 n0 v U'.heap L ∧ FrameEnd U o U' L ({ frames := 0, cells := 0, slots := 0, locals := 0 } : Room).cells ({ frames := 0, cells := 0, slots := 0, locals := 0 } : Room).slots) := by
  refine MetFree.of_bodySF (plainFor_of_name pn_1) hisR ?_
  intro p e s m args below meth c s₁ Bd hml0 hP hK
  obtain ⟨rfl, hZ, hh⟩ := hP
  have hx := Bd.exec
  have hby := Bd.bytes
  have hml : c.maxLocals = 3 := hml0
  have hown : s.vm.findClass "com/example/flytrap/flytrap/net/IpAddressIsIpv6PinLaw" = some m.cls := findClass_of_methodNamed Bd.named
  have hnm := (name_of_methodNamed Bd.named Bd.method).1
  have X0 : Stand p l e ({ frames := 0, cells := 0, slots := 0, locals := 0 } : Room) s m #[(.ref ob0), (.int (0 : Int32)), (.int p2)] below meth c s₁ [] 0 0 := Stand.of_body Bd
  have e0 : s₁.heap = h0 := by rw [← hh, Bd.state]; rfl
  have N0 := Fr.nil n0
  have pre0 : ∀ t, Steps p.tables e below (s₁.setTop (mkF m 0 #[.val (.ref ob0), .val (.int (0 : Int32)), .val (.int p2)] [])) t → Steps p.tables e below (s₁.setTop (entryFrame m #[(.ref ob0), (.int (0 : Int32)), (.int p2)] 3)) t := fun t k => castTop (ef_1_4_0 m ob0 p2) k
  obtain ⟨cl1, Ar1, qq1, Sz1, Ng1, Hs1, Gs1⟩ := id V_ob0
  have hin1 : ¬ ((0 : Int32) < 0 ∨ cl1.slots.size ≤ ((0 : Int32)).toNatClampNeg) := inb_of Sz1 ⟨by decide, by decide⟩
  obtain ⟨T2, h2, X2, e2, W2, st2⟩ := stB X0 hx hZ e0 Ar1 (j := (0 : Int32)) hin1 (g := (mkF m 7 #[.val (.ref ob0), .val (.int (0 : Int32)), .val (.int p2)] [(.int (((p2.toUInt32 >>> ((24 : Int32) &&& 31).toUInt32).toInt32).toInt8.toInt32)), (.int (0 : Int32)), (.ref ob0)])) rfl rfl (hb hby d1_7)
  have vV2 : Arv Z h2 ob0 _ .byte (4 : Int32) [(.int (nar .byte (((p2.toUInt32 >>> ((24 : Int32) &&& 31).toUInt32).toInt32).toInt8.toInt32))), x0_1, x0_2, x0_3] (.int (0 : Int32)) := Arv.set Ar1 qq1 Sz1 Ng1 Hs1 Gs1 (fits_nar_byte _) W2 0 rfl (Nat.le_of_ble_eq_true rfl)
  have N2 := Fr.snoc X2 N0 g_ob0
  have Z2 := Nat.le_trans Z0 (Keep.of_wr W2).1
  have K2 := (Keep.refl h0 [ob0]).wr W2 (Or.inl (List.mem_of_getElem? (i := 0) rfl))
  obtain ⟨cl3, Ar3, qq3, Sz3, Ng3, Hs3, Gs3⟩ := id vV2
  have hin3 : ¬ ((1 : Int32) < 0 ∨ cl3.slots.size ≤ ((1 : Int32)).toNatClampNeg) := inb_of Sz3 ⟨by decide, by decide⟩
  obtain ⟨T4, h4, X4, e4, W4, st4⟩ := stB X2 hx hZ e2 Ar3 (j := (1 : Int32)) hin3 (g := (mkF m 17 #[.val (.ref ob0), .val (.int (0 : Int32)), .val (.int p2)] [(.int (((p2.toUInt32 >>> ((16 : Int32) &&& 31).toUInt32).toInt32).toInt8.toInt32)), (.int (1 : Int32)), (.ref ob0)])) rfl rfl (hb hby d1_17)
  have vV4 : Arv Z h4 ob0 _ .byte (4 : Int32) [(.int (nar .byte (((p2.toUInt32 >>> ((24 : Int32) &&& 31).toUInt32).toInt32).toInt8.toInt32))), (.int (nar .byte (((p2.toUInt32 >>> ((16 : Int32) &&& 31).toUInt32).toInt32).toInt8.toInt32))), x0_2, x0_3] (.int (0 : Int32)) := Arv.set Ar3 qq3 Sz3 Ng3 Hs3 Gs3 (fits_nar_byte _) W4 1 rfl (Nat.le_of_ble_eq_true rfl)
  have N4 := Fr.snoc X4 N2 g_ob0
  have Z4 := Nat.le_trans Z2 (Keep.of_wr W4).1
  have K4 := K2.wr W4 (Or.inl (List.mem_of_getElem? (i := 0) rfl))
  obtain ⟨cl5, Ar5, qq5, Sz5, Ng5, Hs5, Gs5⟩ := id vV4
  have hin5 : ¬ ((2 : Int32) < 0 ∨ cl5.slots.size ≤ ((2 : Int32)).toNatClampNeg) := inb_of Sz5 ⟨by decide, by decide⟩
  obtain ⟨T6, h6, X6, e6, W6, st6⟩ := stB X4 hx hZ e4 Ar5 (j := (2 : Int32)) hin5 (g := (mkF m 27 #[.val (.ref ob0), .val (.int (0 : Int32)), .val (.int p2)] [(.int (((p2.toUInt32 >>> ((8 : Int32) &&& 31).toUInt32).toInt32).toInt8.toInt32)), (.int (2 : Int32)), (.ref ob0)])) rfl rfl (hb hby d1_27)
  have vV6 : Arv Z h6 ob0 _ .byte (4 : Int32) [(.int (nar .byte (((p2.toUInt32 >>> ((24 : Int32) &&& 31).toUInt32).toInt32).toInt8.toInt32))), (.int (nar .byte (((p2.toUInt32 >>> ((16 : Int32) &&& 31).toUInt32).toInt32).toInt8.toInt32))), (.int (nar .byte (((p2.toUInt32 >>> ((8 : Int32) &&& 31).toUInt32).toInt32).toInt8.toInt32))), x0_3] (.int (0 : Int32)) := Arv.set Ar5 qq5 Sz5 Ng5 Hs5 Gs5 (fits_nar_byte _) W6 2 rfl (Nat.le_of_ble_eq_true rfl)
  have N6 := Fr.snoc X6 N4 g_ob0
  have Z6 := Nat.le_trans Z4 (Keep.of_wr W6).1
  have K6 := K4.wr W6 (Or.inl (List.mem_of_getElem? (i := 0) rfl))
  obtain ⟨cl7, Ar7, qq7, Sz7, Ng7, Hs7, Gs7⟩ := id vV6
  have hin7 : ¬ ((3 : Int32) < 0 ∨ cl7.slots.size ≤ ((3 : Int32)).toNatClampNeg) := inb_of Sz7 ⟨by decide, by decide⟩
  obtain ⟨T8, h8, X8, e8, W8, st8⟩ := stB X6 hx hZ e6 Ar7 (j := (3 : Int32)) hin7 (g := (mkF m 34 #[.val (.ref ob0), .val (.int (0 : Int32)), .val (.int p2)] [(.int (p2.toInt8.toInt32)), (.int (3 : Int32)), (.ref ob0)])) rfl rfl (hb hby d1_34)
  have vV8 : Arv Z h8 ob0 _ .byte (4 : Int32) [(.int (nar .byte (((p2.toUInt32 >>> ((24 : Int32) &&& 31).toUInt32).toInt32).toInt8.toInt32))), (.int (nar .byte (((p2.toUInt32 >>> ((16 : Int32) &&& 31).toUInt32).toInt32).toInt8.toInt32))), (.int (nar .byte (((p2.toUInt32 >>> ((8 : Int32) &&& 31).toUInt32).toInt32).toInt8.toInt32))), (.int (nar .byte (p2.toInt8.toInt32)))] (.int (0 : Int32)) := Arv.set Ar7 qq7 Sz7 Ng7 Hs7 Gs7 (fits_nar_byte _) W8 3 rfl (Nat.le_of_ble_eq_true rfl)
  have N8 := Fr.snoc X8 N6 g_ob0
  have Z8 := Nat.le_trans Z6 (Keep.of_wr W8).1
  have K8 := K6.wr W8 (Or.inl (List.mem_of_getElem? (i := 0) rfl))
  obtain ⟨fs, hr, hrun, hended, hW, hsame⟩ := X8.leave (v := none) (fun _ => rfl) (BodyLoose.notSynchronized Bd)
  refine ⟨_, _, pre0 _ ?_, hrun, hended, _, _, rfl, ?_, ⟨_, rfl⟩, hW, hsame.mono (by decide) (by decide)⟩
  · show Steps p.tables e below (s₁.setTop (mkF m 0 #[.val (.ref ob0), .val (.int (0 : Int32)), .val (.int p2)] [])) _
    refine XS.aloadN X0.here hx rfl (hb hby d1_0) rfl rfl ?_
    show Steps p.tables e below (s₁.setTop (mkF m 1 #[.val (.ref ob0), .val (.int (0 : Int32)), .val (.int p2)] [(.ref ob0)])) _
    refine XS.iloadN X0.here hx rfl (hb hby d1_1) rfl ?_
    show Steps p.tables e below (s₁.setTop (mkF m 2 #[.val (.ref ob0), .val (.int (0 : Int32)), .val (.int p2)] [(.int (0 : Int32)), (.ref ob0)])) _
    refine XS.iloadN X0.here hx rfl (hb hby d1_2) rfl ?_
    show Steps p.tables e below (s₁.setTop (mkF m 3 #[.val (.ref ob0), .val (.int (0 : Int32)), .val (.int p2)] [(.int p2), (.int (0 : Int32)), (.ref ob0)])) _
    refine XS.bipush X0.here hx rfl (hb hby d1_3) ?_
    show Steps p.tables e below (s₁.setTop (mkF m 5 #[.val (.ref ob0), .val (.int (0 : Int32)), .val (.int p2)] [(.int (24 : Int32)), (.int p2), (.int (0 : Int32)), (.ref ob0)])) _
    refine XS.iushr X0.here hx rfl (hb hby d1_5) rfl ?_
    show Steps p.tables e below (s₁.setTop (mkF m 6 #[.val (.ref ob0), .val (.int (0 : Int32)), .val (.int p2)] [(.int ((p2.toUInt32 >>> ((24 : Int32) &&& 31).toUInt32).toInt32)), (.int (0 : Int32)), (.ref ob0)])) _
    refine XS.i2b X0.here hx rfl (hb hby d1_6) rfl ?_
    show Steps p.tables e below (s₁.setTop (mkF m 7 #[.val (.ref ob0), .val (.int (0 : Int32)), .val (.int p2)] [(.int (((p2.toUInt32 >>> ((24 : Int32) &&& 31).toUInt32).toInt32).toInt8.toInt32)), (.int (0 : Int32)), (.ref ob0)])) _
    refine st2 _ ?_
    show Steps p.tables e below (T2.setTop (mkF m 8 #[.val (.ref ob0), .val (.int (0 : Int32)), .val (.int p2)] [])) _
    refine XS.aloadN X2.here hx rfl (hb hby d1_8) rfl rfl ?_
    show Steps p.tables e below (T2.setTop (mkF m 9 #[.val (.ref ob0), .val (.int (0 : Int32)), .val (.int p2)] [(.ref ob0)])) _
    refine XS.iloadN X2.here hx rfl (hb hby d1_9) rfl ?_
    show Steps p.tables e below (T2.setTop (mkF m 10 #[.val (.ref ob0), .val (.int (0 : Int32)), .val (.int p2)] [(.int (0 : Int32)), (.ref ob0)])) _
    refine XS.iconst X2.here hx rfl (hb hby d1_10) ?_
    show Steps p.tables e below (T2.setTop (mkF m 11 #[.val (.ref ob0), .val (.int (0 : Int32)), .val (.int p2)] [(.int (1 : Int32)), (.int (0 : Int32)), (.ref ob0)])) _
    refine XS.iadd X2.here hx rfl (hb hby d1_11) rfl ?_
    show Steps p.tables e below (T2.setTop (mkF m 12 #[.val (.ref ob0), .val (.int (0 : Int32)), .val (.int p2)] [(.int (1 : Int32)), (.ref ob0)])) _
    refine XS.iloadN X2.here hx rfl (hb hby d1_12) rfl ?_
    show Steps p.tables e below (T2.setTop (mkF m 13 #[.val (.ref ob0), .val (.int (0 : Int32)), .val (.int p2)] [(.int p2), (.int (1 : Int32)), (.ref ob0)])) _
    refine XS.bipush X2.here hx rfl (hb hby d1_13) ?_
    show Steps p.tables e below (T2.setTop (mkF m 15 #[.val (.ref ob0), .val (.int (0 : Int32)), .val (.int p2)] [(.int (16 : Int32)), (.int p2), (.int (1 : Int32)), (.ref ob0)])) _
    refine XS.iushr X2.here hx rfl (hb hby d1_15) rfl ?_
    show Steps p.tables e below (T2.setTop (mkF m 16 #[.val (.ref ob0), .val (.int (0 : Int32)), .val (.int p2)] [(.int ((p2.toUInt32 >>> ((16 : Int32) &&& 31).toUInt32).toInt32)), (.int (1 : Int32)), (.ref ob0)])) _
    refine XS.i2b X2.here hx rfl (hb hby d1_16) rfl ?_
    show Steps p.tables e below (T2.setTop (mkF m 17 #[.val (.ref ob0), .val (.int (0 : Int32)), .val (.int p2)] [(.int (((p2.toUInt32 >>> ((16 : Int32) &&& 31).toUInt32).toInt32).toInt8.toInt32)), (.int (1 : Int32)), (.ref ob0)])) _
    refine st4 _ ?_
    show Steps p.tables e below (T4.setTop (mkF m 18 #[.val (.ref ob0), .val (.int (0 : Int32)), .val (.int p2)] [])) _
    refine XS.aloadN X4.here hx rfl (hb hby d1_18) rfl rfl ?_
    show Steps p.tables e below (T4.setTop (mkF m 19 #[.val (.ref ob0), .val (.int (0 : Int32)), .val (.int p2)] [(.ref ob0)])) _
    refine XS.iloadN X4.here hx rfl (hb hby d1_19) rfl ?_
    show Steps p.tables e below (T4.setTop (mkF m 20 #[.val (.ref ob0), .val (.int (0 : Int32)), .val (.int p2)] [(.int (0 : Int32)), (.ref ob0)])) _
    refine XS.iconst X4.here hx rfl (hb hby d1_20) ?_
    show Steps p.tables e below (T4.setTop (mkF m 21 #[.val (.ref ob0), .val (.int (0 : Int32)), .val (.int p2)] [(.int (2 : Int32)), (.int (0 : Int32)), (.ref ob0)])) _
    refine XS.iadd X4.here hx rfl (hb hby d1_21) rfl ?_
    show Steps p.tables e below (T4.setTop (mkF m 22 #[.val (.ref ob0), .val (.int (0 : Int32)), .val (.int p2)] [(.int (2 : Int32)), (.ref ob0)])) _
    refine XS.iloadN X4.here hx rfl (hb hby d1_22) rfl ?_
    show Steps p.tables e below (T4.setTop (mkF m 23 #[.val (.ref ob0), .val (.int (0 : Int32)), .val (.int p2)] [(.int p2), (.int (2 : Int32)), (.ref ob0)])) _
    refine XS.bipush X4.here hx rfl (hb hby d1_23) ?_
    show Steps p.tables e below (T4.setTop (mkF m 25 #[.val (.ref ob0), .val (.int (0 : Int32)), .val (.int p2)] [(.int (8 : Int32)), (.int p2), (.int (2 : Int32)), (.ref ob0)])) _
    refine XS.iushr X4.here hx rfl (hb hby d1_25) rfl ?_
    show Steps p.tables e below (T4.setTop (mkF m 26 #[.val (.ref ob0), .val (.int (0 : Int32)), .val (.int p2)] [(.int ((p2.toUInt32 >>> ((8 : Int32) &&& 31).toUInt32).toInt32)), (.int (2 : Int32)), (.ref ob0)])) _
    refine XS.i2b X4.here hx rfl (hb hby d1_26) rfl ?_
    show Steps p.tables e below (T4.setTop (mkF m 27 #[.val (.ref ob0), .val (.int (0 : Int32)), .val (.int p2)] [(.int (((p2.toUInt32 >>> ((8 : Int32) &&& 31).toUInt32).toInt32).toInt8.toInt32)), (.int (2 : Int32)), (.ref ob0)])) _
    refine st6 _ ?_
    show Steps p.tables e below (T6.setTop (mkF m 28 #[.val (.ref ob0), .val (.int (0 : Int32)), .val (.int p2)] [])) _
    refine XS.aloadN X6.here hx rfl (hb hby d1_28) rfl rfl ?_
    show Steps p.tables e below (T6.setTop (mkF m 29 #[.val (.ref ob0), .val (.int (0 : Int32)), .val (.int p2)] [(.ref ob0)])) _
    refine XS.iloadN X6.here hx rfl (hb hby d1_29) rfl ?_
    show Steps p.tables e below (T6.setTop (mkF m 30 #[.val (.ref ob0), .val (.int (0 : Int32)), .val (.int p2)] [(.int (0 : Int32)), (.ref ob0)])) _
    refine XS.iconst X6.here hx rfl (hb hby d1_30) ?_
    show Steps p.tables e below (T6.setTop (mkF m 31 #[.val (.ref ob0), .val (.int (0 : Int32)), .val (.int p2)] [(.int (3 : Int32)), (.int (0 : Int32)), (.ref ob0)])) _
    refine XS.iadd X6.here hx rfl (hb hby d1_31) rfl ?_
    show Steps p.tables e below (T6.setTop (mkF m 32 #[.val (.ref ob0), .val (.int (0 : Int32)), .val (.int p2)] [(.int (3 : Int32)), (.ref ob0)])) _
    refine XS.iloadN X6.here hx rfl (hb hby d1_32) rfl ?_
    show Steps p.tables e below (T6.setTop (mkF m 33 #[.val (.ref ob0), .val (.int (0 : Int32)), .val (.int p2)] [(.int p2), (.int (3 : Int32)), (.ref ob0)])) _
    refine XS.i2b X6.here hx rfl (hb hby d1_33) rfl ?_
    show Steps p.tables e below (T6.setTop (mkF m 34 #[.val (.ref ob0), .val (.int (0 : Int32)), .val (.int p2)] [(.int (p2.toInt8.toInt32)), (.int (3 : Int32)), (.ref ob0)])) _
    refine st8 _ ?_
    show Steps p.tables e below (T8.setTop (mkF m 35 #[.val (.ref ob0), .val (.int (0 : Int32)), .val (.int p2)] [])) _
    exact X8.returnOut hx Bd.returns (hb hby d1_35) hr
  · show Q1_4_0 Z ob0 p2 kk0 x0_0 x0_1 x0_2 x0_3 h0 n0 _ T8.heap _
    rw [e8]
    exact ⟨rfl, N8, K8, ⟨_, vV8⟩⟩
theorem d4_7 : decode prog_43_method_12_code 7 = .ok (.iconst 0, 1) := by decide +kernel
theorem d4_8 : decode prog_43_method_12_code 8 = .ok (.ireturn, 1) := by decide +kernel
theorem ef_4_4 (m : MethodId) (ob0 : Addr) : entryFrame m #[(.ref ob0)] 2 = mkF m 0 #[.val (.ref ob0), .unset] [] := by first | (simp [entryFrame, mkF, argsToLocals, Value.category]; done) | rfl
def Q4_4 (Z : State) (ob0 : Addr) (kk0 : ClassId) (x0_0 : Value) (x0_1 : Value) (x0_2 : Value) (x0_3 : Value) (h0 : Heap) (n0 : Nat) (v : Option Value) (h : Heap) (L : List Loc) : Prop := v = some (.int (0 : Int32)) ∧ Fr n0 L ∧ h = h0
set_option maxRecDepth 65536 in
set_option maxHeartbeats 40000000 in
theorem rm4_4 (l : Launch) (Z : State) (a0 : Array Value) (hw : ∀ d ∈ tables_1, d.before a0 Z = true) (ws : List Jvm.Cond) (ob0 : Addr) (kk0 : ClassId) (x0_0 : Value) (x0_1 : Value) (x0_2 : Value) (x0_3 : Value) (h0 : Heap) (n0 : Nat) (Z0 : n0 ≤ h0.size) (V_ob0 : Arv Z h0 ob0 kk0 .byte (4 : Int32) [x0_0, x0_1, x0_2, x0_3] (.int (0 : Int32))) :
    MetFree l (⟨"com/example/flytrap/flytrap/net/IpAddress", "isIpv4Mapped", "([B)Z"⟩ : MethodName) (head1 (Jvm.Cond.code (⟨"com/example/flytrap/flytrap/net/IpAddress", "isIpv4Mapped", "([B)Z"⟩ : MethodName) prog_43_method_12_code 2 (some .boolean) :: ws) ({ frames := 0, cells := 0, slots := 0, locals := 0 } : Room)) (fun a U => a = #[(.ref ob0)] ∧ Z.Warmed39 U.vm ∧ U.heap = h0) (fun _ _ _ _ _ => True) (fun _ U o U' => ∃ v L, o = .returned v ∧ Q4_4 Z ob0 kk0 x0_0 x0_1 x0_2 x0_3 h0 n0 v U'.heap L ∧ FrameEnd U o U' L ({ frames := 0, cells := 0, slots := 0, locals := 0 } : Room).cells ({ frames := 0, cells := 0, slots := 0, locals := 0 } : Room).slots) := by
  refine MetFree.of_bodySF (plainFor_of_name pn_4) hisR ?_
  intro p e s m args below meth c s₁ Bd hml0 hP hK
  obtain ⟨rfl, hZ, hh⟩ := hP
  have hx := Bd.exec
  have hby := Bd.bytes
  have hml : c.maxLocals = 2 := hml0
  have hown : s.vm.findClass "com/example/flytrap/flytrap/net/IpAddress" = some m.cls := findClass_of_methodNamed Bd.named
  have hnm := (name_of_methodNamed Bd.named Bd.method).1
  have X0 : Stand p l e ({ frames := 0, cells := 0, slots := 0, locals := 0 } : Room) s m #[(.ref ob0)] below meth c s₁ [] 0 0 := Stand.of_body Bd
  have e0 : s₁.heap = h0 := by rw [← hh, Bd.state]; rfl
  have N0 := Fr.nil n0
  have pre0 : ∀ t, Steps p.tables e below (s₁.setTop (mkF m 0 #[.val (.ref ob0), .unset] [])) t → Steps p.tables e below (s₁.setTop (entryFrame m #[(.ref ob0)] 2)) t := fun t k => castTop (ef_4_4 m ob0) k
  obtain ⟨cl1, Ar1, -, Sz1, Ng1, -, -⟩ := id V_ob0
  obtain ⟨fs, hr, hrun, hended, hW, hsame⟩ := X0.leave (v := some (.int (0 : Int32))) (fun h => by rw [Bd.returns] at h; cases h) (BodyLoose.notSynchronized Bd)
  refine ⟨_, _, pre0 _ ?_, hrun, hended, _, _, rfl, ?_, ⟨_, rfl⟩, hW, hsame.mono (by decide) (by decide)⟩
  · show Steps p.tables e below (s₁.setTop (mkF m 0 #[.val (.ref ob0), .unset] [])) _
    refine XS.aloadN X0.here hx rfl (hb hby d4_0) rfl rfl ?_
    show Steps p.tables e below (s₁.setTop (mkF m 1 #[.val (.ref ob0), .unset] [(.ref ob0)])) _
    refine X0.arraylength hx (by rw [e0]; exact Ar1.1) (State.isArrayOf_alike hZ.alike Ar1.2.1) (g := (mkF m 1 #[.val (.ref ob0), .unset] [(.ref ob0)])) rfl rfl (hb hby d4_1) _ ?_
    rw [len_of Sz1 Ng1]
    show Steps p.tables e below (s₁.setTop (mkF m 2 #[.val (.ref ob0), .unset] [(.int (4 : Int32))])) _
    refine XS.bipush X0.here hx rfl (hb hby d4_2) ?_
    show Steps p.tables e below (s₁.setTop (mkF m 4 #[.val (.ref ob0), .unset] [(.int (16 : Int32)), (.int (4 : Int32))])) _
    refine XS.icmpNo X0.here hx rfl (hb hby d4_4) rfl (feq (by decide : ¬ ((4 : Int32) = (16 : Int32)))).1 ?_
    show Steps p.tables e below (s₁.setTop (mkF m 7 #[.val (.ref ob0), .unset] [])) _
    refine XS.iconst X0.here hx rfl (hb hby d4_7) ?_
    show Steps p.tables e below (s₁.setTop (mkF m 8 #[.val (.ref ob0), .unset] [(.int (0 : Int32))])) _
    exact retN X0 hx (t := .boolean) Bd.returns (by simp) (hb hby d4_8) hr
  · show Q4_4 Z ob0 kk0 x0_0 x0_1 x0_2 x0_3 h0 n0 _ s₁.heap _
    rw [e0]
    exact ⟨rfl, N0, rfl⟩
theorem ef_2_4 (m : MethodId) (ob0 : Addr) (ob1 : Addr) : entryFrame m #[(.ref ob0), (.ref ob1)] 2 = mkF m 0 #[.val (.ref ob0), .val (.ref ob1)] [] := by first | (simp [entryFrame, mkF, argsToLocals, Value.category]; done) | rfl
def Q2_4 (Z : State) (ob0 : Addr) (ob1 : Addr) (kk1 : ClassId) (x1_0 : Value) (x1_1 : Value) (x1_2 : Value) (x1_3 : Value) (u_bytes : Value) (h0 : Heap) (n0 : Nat) (v : Option Value) (h : Heap) (L : List Loc) : Prop := v = none ∧ Fr n0 L ∧ Keep h0 h [ob0] ∧ Exa Z h ob0 "com/example/flytrap/flytrap/net/IpAddress" ∧ Fld Z h ob0 "com/example/flytrap/flytrap/net/IpAddress" "bytes" "[B" (.ref ob1)
set_option maxRecDepth 65536 in
set_option maxHeartbeats 40000000 in
theorem rm2_4 (l : Launch) (Z : State) (a0 : Array Value) (hw : ∀ d ∈ tables_1, d.before a0 Z = true) (ws : List Jvm.Cond) (ob0 : Addr) (ob1 : Addr) (kk1 : ClassId) (x1_0 : Value) (x1_1 : Value) (x1_2 : Value) (x1_3 : Value) (u_bytes : Value) (h0 : Heap) (n0 : Nat) (Z0 : n0 ≤ h0.size) (V_ob1 : Arv Z h0 ob1 kk1 .byte (4 : Int32) [x1_0, x1_1, x1_2, x1_3] (.int (0 : Int32))) (F_bytes_ob0 : Fld Z h0 ob0 "com/example/flytrap/flytrap/net/IpAddress" "bytes" "[B" u_bytes) (E_ob0 : Exa Z h0 ob0 "com/example/flytrap/flytrap/net/IpAddress") (g_ob0 : n0 ≤ ob0) (ne_ob1_ob0 : ob1 ≠ ob0) :
    MetFree l (⟨"com/example/flytrap/flytrap/net/IpAddress", "<init>", "([B)V"⟩ : MethodName) (head1 (Jvm.Cond.code (⟨"com/example/flytrap/flytrap/net/IpAddress", "<init>", "([B)V"⟩ : MethodName) prog_43_method_1_code 2 none :: ws) ({ frames := 1, cells := 0, slots := 0, locals := 14 } : Room)) (fun a U => a = #[(.ref ob0), (.ref ob1)] ∧ Z.Warmed39 U.vm ∧ U.heap = h0) (fun _ _ _ _ _ => True) (fun _ U o U' => ∃ v L, o = .returned v ∧ Q2_4 Z ob0 ob1 kk1 x1_0 x1_1 x1_2 x1_3 u_bytes h0 n0 v U'.heap L ∧ FrameEnd U o U' L ({ frames := 1, cells := 0, slots := 0, locals := 14 } : Room).cells ({ frames := 1, cells := 0, slots := 0, locals := 14 } : Room).slots) := by
  refine MetFree.of_bodySF (plainFor_of_name pn_2) hisR ?_
  intro p e s m args below meth c s₁ Bd hml0 hP hK
  obtain ⟨rfl, hZ, hh⟩ := hP
  have hx := Bd.exec
  have hby := Bd.bytes
  have hml : c.maxLocals = 2 := hml0
  have hown : s.vm.findClass "com/example/flytrap/flytrap/net/IpAddress" = some m.cls := findClass_of_methodNamed Bd.named
  have hnm := (name_of_methodNamed Bd.named Bd.method).1
  have X0 : Stand p l e ({ frames := 1, cells := 0, slots := 0, locals := 14 } : Room) s m #[(.ref ob0), (.ref ob1)] below meth c s₁ [] 0 0 := Stand.of_body Bd
  have e0 : s₁.heap = h0 := by rw [← hh, Bd.state]; rfl
  have N0 := Fr.nil n0
  have pre0 : ∀ t, Steps p.tables e below (s₁.setTop (mkF m 0 #[.val (.ref ob0), .val (.ref ob1)] [])) t → Steps p.tables e below (s₁.setTop (entryFrame m #[(.ref ob0), (.ref ob1)] 2)) t := fun t k => castTop (ef_2_4 m ob0 ob1) k
  obtain ⟨T1, X1, e1, st1⟩ := initO X0 hx hZ hown (hw _ (List.mem_of_getElem? (i := 11) rfl)) (hw _ (List.mem_of_getElem? (i := 12) rfl)) (hw _ (List.mem_of_getElem? (i := 13) rfl)) e0 (g := (mkF m 1 #[.val (.ref ob0), .val (.ref ob1)] [(.ref ob0)])) rfl (by rw [hml]; rfl) rfl (hb hby d2_1) (by decide) (W := 0) (by show 2 * 0 + _ ≤ _; exact Nat.le_of_eq rfl) (by decide)
  obtain ⟨_, _, ⟨T2, L2, k2, n2⟩, -, X2, ⟨Lc2, hQ2, l2, y2, z2⟩, st2⟩ := Jvm.LawKit.callS X1 hx (y := (⟨"com/example/flytrap/flytrap/net/IpAddress", "isIpv4Mapped", "([B)Z"⟩ : MethodName)) hown (mvT hZ (hw _ (List.mem_of_getElem? (i := 14) rfl))) (mvT hZ (hw _ (List.mem_of_getElem? (i := 15) rfl))) (mvT hZ (hw _ (List.mem_of_getElem? (i := 7) rfl))) (mvT hZ (hw _ (List.mem_of_getElem? (i := 16) rfl))) (by decide) (backOf (W := 1) (rm4_4 l Z a0 hw [] ob1 _ _ _ _ _ h0 n0 Z0 V_ob1) hZ (hw _ (List.mem_of_getElem? (i := 16) rfl)) (hw _ (List.mem_of_getElem? (i := 7) rfl)) (by decide) (by decide)) (g := (mkF m 6 #[.val (.ref ob0), .val (.ref ob1)] [(.ref ob1), (.ref ob0)])) rfl (by rw [hml]; rfl) (argsL := [(.ref ob1)]) (rest := [(.ref ob0)]) (lenOf pd_1 rfl) rfl (by show 2 * 0 + _ ≤ _; exact Nat.le_of_eq rfl) (hb hby d2_6) (fun _ _ => ⟨rfl, e1, (by decide : 0 + 0 ≤ _), (by decide : 0 + 0 ≤ _)⟩)
  dsimp only [Pt.U, Pt.locs, Pt.cells, Pt.slots] at X2 l2 y2 z2 st2 hQ2
  subst l2 y2 z2
  obtain ⟨rfl, N2q, e2⟩ := hQ2
  have N2 := Fr.app N0 N2q
  obtain ⟨T3, h3, X3, e3, W3, st3⟩ := putF X2 hx hZ hown (host := "") (Or.inl (hw _ (List.mem_of_getElem? (i := 17) rfl))) Via.refl e2 F_bytes_ob0 E_ob0 (Or.inr ⟨(hw _ (List.mem_of_getElem? (i := 18) rfl)), rfl, hnm⟩) (hw _ (List.mem_of_getElem? (i := 6) rfl)) (ty := (.array .byte)) (by decide) rfl rfl (g := (mkF m 24 #[.val (.ref ob0), .val (.ref ob1)] [(.ref ob1), (.ref ob0)])) rfl rfl (hb hby d2_24)
  have vV4 := V_ob1.other W3 ne_ob1_ob0
  have fF5 := F_bytes_ob0.same W3
  have eE6 := E_ob0.wr W3
  have N3 := Fr.snoc X3 N2 g_ob0
  have Z3 := Nat.le_trans Z0 (Keep.of_wr W3).1
  have K3 := (Keep.refl h0 [ob0]).wr W3 (Or.inl (List.mem_of_getElem? (i := 0) rfl))
  obtain ⟨fs, hr, hrun, hended, hW, hsame⟩ := X3.leave (v := none) (fun _ => rfl) (BodyLoose.notSynchronized Bd)
  refine ⟨_, _, pre0 _ ?_, hrun, hended, _, _, rfl, ?_, ⟨_, rfl⟩, hW, hsame.mono (by decide) (by decide)⟩
  · show Steps p.tables e below (s₁.setTop (mkF m 0 #[.val (.ref ob0), .val (.ref ob1)] [])) _
    refine XS.aloadN X0.here hx rfl (hb hby d2_0) rfl rfl ?_
    show Steps p.tables e below (s₁.setTop (mkF m 1 #[.val (.ref ob0), .val (.ref ob1)] [(.ref ob0)])) _
    refine st1 _ ?_
    show Steps p.tables e below (T1.setTop (mkF m 4 #[.val (.ref ob0), .val (.ref ob1)] [])) _
    refine XS.aloadN X1.here hx rfl (hb hby d2_4) rfl rfl ?_
    show Steps p.tables e below (T1.setTop (mkF m 5 #[.val (.ref ob0), .val (.ref ob1)] [(.ref ob0)])) _
    refine XS.aloadN X1.here hx rfl (hb hby d2_5) rfl rfl ?_
    show Steps p.tables e below (T1.setTop (mkF m 6 #[.val (.ref ob0), .val (.ref ob1)] [(.ref ob1), (.ref ob0)])) _
    refine st2 _ ?_
    show Steps p.tables e below (T2.setTop (mkF m 9 #[.val (.ref ob0), .val (.ref ob1)] [(.int (0 : Int32)), (.ref ob0)])) _
    refine XS.ifYes X2.here hx rfl (pc0 := 9) (pc' := 23) rfl (hb hby d2_9) rfl ((if0 _ _).trans (teq (by decide : (0 : Int32) = (0 : Int32))).1) (by decide) (by decide) ?_
    show Steps p.tables e below (T2.setTop (mkF m 23 #[.val (.ref ob0), .val (.ref ob1)] [(.ref ob0)])) _
    refine XS.aloadN X2.here hx rfl (hb hby d2_23) rfl rfl ?_
    show Steps p.tables e below (T2.setTop (mkF m 24 #[.val (.ref ob0), .val (.ref ob1)] [(.ref ob1), (.ref ob0)])) _
    refine st3 _ ?_
    show Steps p.tables e below (T3.setTop (mkF m 27 #[.val (.ref ob0), .val (.ref ob1)] [])) _
    exact X3.returnOut hx Bd.returns (hb hby d2_27) hr
  · show Q2_4 Z ob0 ob1 kk1 x1_0 x1_1 x1_2 x1_3 u_bytes h0 n0 _ T3.heap _
    rw [e3]
    exact ⟨rfl, N3, K3, eE6, fF5⟩
theorem pn_0 : plainName "com/example/flytrap/flytrap/net/IpAddressIsIpv6PinLaw" = true := by first | (simp [plainName, overriddenIn]; done) | decide +kernel
theorem ef_0 (m : MethodId) (p0 : Int32) (p1 : Int32) (p2 : Int32) (p3 : Int32) (p4 : Int32) : entryFrame m #[(.int p0), (.int p1), (.int p2), (.int p3), (.int p4)] maxLocals = mkF m 0 #[.val (.int p0), .val (.int p1), .val (.int p2), .val (.int p3), .val (.int p4), .unset, .unset, .unset, .unset, .unset, .unset, .unset] [] := by first | (simp [entryFrame, mkF, argsToLocals, Value.category, maxLocals]; done) | rfl
def Q0 (Z : State) (p0 : Int32) (p1 : Int32) (p2 : Int32) (p3 : Int32) (p4 : Int32) (h0 : Heap) (n0 : Nat) (v : Option Value) (h : Heap) (L : List Loc) : Prop := v = some (.int 1) ∧ Fr n0 L
set_option maxRecDepth 65536 in
set_option maxHeartbeats 40000000 in
theorem rm0 (l : Launch) (Z : State) (a0 : Array Value) (hw : ∀ d ∈ tables_1, d.before a0 Z = true) (ws : List Jvm.Cond) (p0 : Int32) (p1 : Int32) (p2 : Int32) (p3 : Int32) (p4 : Int32) (h0 : Heap) (n0 : Nat) (Z0 : n0 ≤ h0.size) :
    MetFree l x (head1 (Jvm.Cond.code x code maxLocals ret :: ws) room_1) (fun a U => a = #[(.int p0), (.int p1), (.int p2), (.int p3), (.int p4)] ∧ Z.Warmed39 U.vm ∧ U.heap = h0) (fun _ _ _ _ _ => True) (fun _ U o U' => ∃ v L, o = .returned v ∧ Q0 Z p0 p1 p2 p3 p4 h0 n0 v U'.heap L ∧ FrameEnd U o U' L room_1.cells room_1.slots) := by
  refine MetFree.of_bodySF (plainFor_of_name pn_0) hisR ?_
  intro p e s m args below meth c s₁ Bd hml0 hP hK
  obtain ⟨rfl, hZ, hh⟩ := hP
  have hx := Bd.exec
  have hby := Bd.bytes
  have hml : c.maxLocals = 12 := hml0
  have hown : s.vm.findClass "com/example/flytrap/flytrap/net/IpAddressIsIpv6PinLaw" = some m.cls := findClass_of_methodNamed Bd.named
  have hnm := (name_of_methodNamed Bd.named Bd.method).1
  have X0 : Stand p l e room_1 s m #[(.int p0), (.int p1), (.int p2), (.int p3), (.int p4)] below meth c s₁ [] 0 0 := Stand.of_body Bd
  have e0 : s₁.heap = h0 := by rw [← hh, Bd.state]; rfl
  have N0 := Fr.nil n0
  have pre0 : ∀ t, Steps p.tables e below (s₁.setTop (mkF m 0 #[.val (.int p0), .val (.int p1), .val (.int p2), .val (.int p3), .val (.int p4), .unset, .unset, .unset, .unset, .unset, .unset, .unset] [])) t → Steps p.tables e below (s₁.setTop (entryFrame m #[(.int p0), (.int p1), (.int p2), (.int p3), (.int p4)] maxLocals)) t := fun t k => castTop (ef_0 m p0 p1 p2 p3 p4) k
  have pre1 : ∀ t, Steps p.tables e below (s₁.setTop (mkF m 17 #[.val (.int p0), .val (.int p1), .val (.int p2), .val (.int p3), .val (.int p4), .val (.int (p0 &&& (3 : Int32))), .val (.int p1), .val (.int p2), .val (.int p3), .unset, .unset, .unset] [(.int (1 : Int32)), (.int (p0 &&& (3 : Int32)))])) t → Steps p.tables e below (s₁.setTop (entryFrame m #[(.int p0), (.int p1), (.int p2), (.int p3), (.int p4)] maxLocals)) t := fun t k => by
    refine pre0 t ?_
    show Steps p.tables e below (s₁.setTop (mkF m 0 #[.val (.int p0), .val (.int p1), .val (.int p2), .val (.int p3), .val (.int p4), .unset, .unset, .unset, .unset, .unset, .unset, .unset] [])) _
    refine XS.iloadN X0.here hx rfl (hb hby at_0) rfl ?_
    show Steps p.tables e below (s₁.setTop (mkF m 1 #[.val (.int p0), .val (.int p1), .val (.int p2), .val (.int p3), .val (.int p4), .unset, .unset, .unset, .unset, .unset, .unset, .unset] [(.int p0)])) _
    refine XS.iconst X0.here hx rfl (hb hby at_1) ?_
    show Steps p.tables e below (s₁.setTop (mkF m 2 #[.val (.int p0), .val (.int p1), .val (.int p2), .val (.int p3), .val (.int p4), .unset, .unset, .unset, .unset, .unset, .unset, .unset] [(.int (3 : Int32)), (.int p0)])) _
    refine XS.iand X0.here hx rfl (hb hby at_2) rfl ?_
    show Steps p.tables e below (s₁.setTop (mkF m 3 #[.val (.int p0), .val (.int p1), .val (.int p2), .val (.int p3), .val (.int p4), .unset, .unset, .unset, .unset, .unset, .unset, .unset] [(.int (p0 &&& (3 : Int32)))])) _
    refine XS.istore X0.here hx rfl (hb hby at_3) rfl (l' := #[.val (.int p0), .val (.int p1), .val (.int p2), .val (.int p3), .val (.int p4), .val (.int (p0 &&& (3 : Int32))), .unset, .unset, .unset, .unset, .unset, .unset]) rfl ?_
    show Steps p.tables e below (s₁.setTop (mkF m 5 #[.val (.int p0), .val (.int p1), .val (.int p2), .val (.int p3), .val (.int p4), .val (.int (p0 &&& (3 : Int32))), .unset, .unset, .unset, .unset, .unset, .unset] [])) _
    refine XS.iloadN X0.here hx rfl (hb hby at_5) rfl ?_
    show Steps p.tables e below (s₁.setTop (mkF m 6 #[.val (.int p0), .val (.int p1), .val (.int p2), .val (.int p3), .val (.int p4), .val (.int (p0 &&& (3 : Int32))), .unset, .unset, .unset, .unset, .unset, .unset] [(.int p1)])) _
    refine XS.istore X0.here hx rfl (hb hby at_6) rfl (l' := #[.val (.int p0), .val (.int p1), .val (.int p2), .val (.int p3), .val (.int p4), .val (.int (p0 &&& (3 : Int32))), .val (.int p1), .unset, .unset, .unset, .unset, .unset]) rfl ?_
    show Steps p.tables e below (s₁.setTop (mkF m 8 #[.val (.int p0), .val (.int p1), .val (.int p2), .val (.int p3), .val (.int p4), .val (.int (p0 &&& (3 : Int32))), .val (.int p1), .unset, .unset, .unset, .unset, .unset] [])) _
    refine XS.iloadN X0.here hx rfl (hb hby at_8) rfl ?_
    show Steps p.tables e below (s₁.setTop (mkF m 9 #[.val (.int p0), .val (.int p1), .val (.int p2), .val (.int p3), .val (.int p4), .val (.int (p0 &&& (3 : Int32))), .val (.int p1), .unset, .unset, .unset, .unset, .unset] [(.int p2)])) _
    refine XS.istore X0.here hx rfl (hb hby at_9) rfl (l' := #[.val (.int p0), .val (.int p1), .val (.int p2), .val (.int p3), .val (.int p4), .val (.int (p0 &&& (3 : Int32))), .val (.int p1), .val (.int p2), .unset, .unset, .unset, .unset]) rfl ?_
    show Steps p.tables e below (s₁.setTop (mkF m 11 #[.val (.int p0), .val (.int p1), .val (.int p2), .val (.int p3), .val (.int p4), .val (.int (p0 &&& (3 : Int32))), .val (.int p1), .val (.int p2), .unset, .unset, .unset, .unset] [])) _
    refine XS.iloadN X0.here hx rfl (hb hby at_11) rfl ?_
    show Steps p.tables e below (s₁.setTop (mkF m 12 #[.val (.int p0), .val (.int p1), .val (.int p2), .val (.int p3), .val (.int p4), .val (.int (p0 &&& (3 : Int32))), .val (.int p1), .val (.int p2), .unset, .unset, .unset, .unset] [(.int p3)])) _
    refine XS.istore X0.here hx rfl (hb hby at_12) rfl (l' := #[.val (.int p0), .val (.int p1), .val (.int p2), .val (.int p3), .val (.int p4), .val (.int (p0 &&& (3 : Int32))), .val (.int p1), .val (.int p2), .val (.int p3), .unset, .unset, .unset]) rfl ?_
    show Steps p.tables e below (s₁.setTop (mkF m 14 #[.val (.int p0), .val (.int p1), .val (.int p2), .val (.int p3), .val (.int p4), .val (.int (p0 &&& (3 : Int32))), .val (.int p1), .val (.int p2), .val (.int p3), .unset, .unset, .unset] [])) _
    refine XS.iload X0.here hx rfl (hb hby at_14) rfl ?_
    show Steps p.tables e below (s₁.setTop (mkF m 16 #[.val (.int p0), .val (.int p1), .val (.int p2), .val (.int p3), .val (.int p4), .val (.int (p0 &&& (3 : Int32))), .val (.int p1), .val (.int p2), .val (.int p3), .unset, .unset, .unset] [(.int (p0 &&& (3 : Int32)))])) _
    refine XS.iconst X0.here hx rfl (hb hby at_16) ?_
    exact k
  by_cases hc17 : (p0 &&& (3 : Int32)) = (1 : Int32)
  · have hc60 : ¬ ((p0 &&& (3 : Int32)) = (0 : Int32)) := by rw [hc17]; decide
    obtain ⟨T2, h2, k2, X2, e2, E2, A2, st2⟩ := newP X0 hx hZ (hw _ (List.mem_of_getElem? (i := 0) rfl)) e0 (g := (mkF m 80 #[.val (.int p0), .val (.int p1), .val (.int p2), .val (.int p3), .val (.int p4), .val (.int (p0 &&& (3 : Int32))), .val (.int (0 : Int32)), .val (.int (0 : Int32)), .val (.int (65535 : Int32)), .unset, .unset, .unset] [(.int (16 : Int32))])) rfl (hb hby at_80) rfl (by decide) (cap := 16) (by decide) (by decide) (by decide) (by decide)
    obtain ⟨b2, g2⟩ : ∃ z, z = h0.size := ⟨_, rfl⟩
    rw [← g2] at A2 st2
    have g_b2 : n0 ≤ b2 := Nat.le_trans Z0 (Nat.le_of_eq g2.symm)
    have Z2 := Nat.le_trans Z0 E2.1
    have vV2 : Arv Z h2 b2 k2 .byte (16 : Int32) [(.int (0 : Int32)), (.int (0 : Int32)), (.int (0 : Int32)), (.int (0 : Int32)), (.int (0 : Int32)), (.int (0 : Int32)), (.int (0 : Int32)), (.int (0 : Int32)), (.int (0 : Int32)), (.int (0 : Int32)), (.int (0 : Int32)), (.int (0 : Int32)), (.int (0 : Int32)), (.int (0 : Int32)), (.int (0 : Int32)), (.int (0 : Int32))] (.int (0 : Int32)) := (Arv.new A2 (by decide)).pad (pad_rep [] (.int (0 : Int32)) 16)
    obtain ⟨_, _, ⟨T3, L3, k3, n3⟩, -, X3, ⟨Lc3, hQ3, l3, y3, z3⟩, st3⟩ := Jvm.LawKit.callS X2 hx (y := (⟨"com/example/flytrap/flytrap/net/IpAddressIsIpv6PinLaw", "put", "([BII)V"⟩ : MethodName)) hown (mvT hZ (hw _ (List.mem_of_getElem? (i := 1) rfl))) (mvT hZ (hw _ (List.mem_of_getElem? (i := 2) rfl))) (mvT hZ (hw _ (List.mem_of_getElem? (i := 3) rfl))) (mvT hZ (hw _ (List.mem_of_getElem? (i := 4) rfl))) (by decide) (backOf (W := 0) (rm1_16_0 l Z a0 hw [] b2 (0 : Int32) _ _ _ _ _ _ _ _ _ _ _ _ _ _ _ _ _ h2 n0 Z2 vV2 g_b2) hZ (hw _ (List.mem_of_getElem? (i := 4) rfl)) (hw _ (List.mem_of_getElem? (i := 3) rfl)) (by decide) (by decide)) (g := (mkF m 89 #[.val (.int p0), .val (.int p1), .val (.int p2), .val (.int p3), .val (.int p4), .val (.int (p0 &&& (3 : Int32))), .val (.int (0 : Int32)), .val (.int (0 : Int32)), .val (.int (65535 : Int32)), .val (.ref b2), .unset, .unset] [(.int (0 : Int32)), (.int (0 : Int32)), (.ref b2)])) rfl (by rw [hml]; rfl) (argsL := [(.ref b2), (.int (0 : Int32)), (.int (0 : Int32))]) (rest := []) (lenOf pd_0 rfl) rfl (by show 2 * 0 + _ ≤ _; exact Nat.le_of_eq rfl) (hb hby at_89) (fun _ _ => ⟨rfl, e2, (by decide : 1 + 0 ≤ _), (by decide : 16 + 0 ≤ _)⟩)
    dsimp only [Pt.U, Pt.locs, Pt.cells, Pt.slots] at X3 l3 y3 z3 st3 hQ3
    subst l3 y3 z3
    obtain ⟨rfl, N3q, K3, ⟨kG4, G4⟩⟩ := hQ3
    have Z3 := Nat.le_trans Z2 K3.1
    have N3 := Fr.app N0 N3q
    obtain ⟨_, _, ⟨T5, L5, k5, n5⟩, -, X5, ⟨Lc5, hQ5, l5, y5, z5⟩, st5⟩ := Jvm.LawKit.callS X3 hx (y := (⟨"com/example/flytrap/flytrap/net/IpAddressIsIpv6PinLaw", "put", "([BII)V"⟩ : MethodName)) hown (mvT hZ (hw _ (List.mem_of_getElem? (i := 1) rfl))) (mvT hZ (hw _ (List.mem_of_getElem? (i := 2) rfl))) (mvT hZ (hw _ (List.mem_of_getElem? (i := 3) rfl))) (mvT hZ (hw _ (List.mem_of_getElem? (i := 4) rfl))) (by decide) (backOf (W := 0) (rm1_16_4 l Z a0 hw [] b2 (0 : Int32) _ _ _ _ _ _ _ _ _ _ _ _ _ _ _ _ _ T3.heap n0 Z3 G4 g_b2) hZ (hw _ (List.mem_of_getElem? (i := 4) rfl)) (hw _ (List.mem_of_getElem? (i := 3) rfl)) (by decide) (by decide)) (g := (mkF m 97 #[.val (.int p0), .val (.int p1), .val (.int p2), .val (.int p3), .val (.int p4), .val (.int (p0 &&& (3 : Int32))), .val (.int (0 : Int32)), .val (.int (0 : Int32)), .val (.int (65535 : Int32)), .val (.ref b2), .unset, .unset] [(.int (0 : Int32)), (.int (4 : Int32)), (.ref b2)])) rfl (by rw [hml]; rfl) (argsL := [(.ref b2), (.int (4 : Int32)), (.int (0 : Int32))]) (rest := []) (lenOf pd_0 rfl) rfl (by show 2 * 0 + _ ≤ _; exact Nat.le_of_eq rfl) (hb hby at_97) (fun _ _ => ⟨rfl, rfl, (by decide : 1 + 0 ≤ _), (by decide : 16 + 0 ≤ _)⟩)
    dsimp only [Pt.U, Pt.locs, Pt.cells, Pt.slots] at X5 l5 y5 z5 st5 hQ5
    subst l5 y5 z5
    obtain ⟨rfl, N5q, K5, ⟨kG6, G6⟩⟩ := hQ5
    have Z5 := Nat.le_trans Z3 K5.1
    have N5 := Fr.app N3 N5q
    obtain ⟨_, _, ⟨T7, L7, k7, n7⟩, -, X7, ⟨Lc7, hQ7, l7, y7, z7⟩, st7⟩ := Jvm.LawKit.callS X5 hx (y := (⟨"com/example/flytrap/flytrap/net/IpAddressIsIpv6PinLaw", "put", "([BII)V"⟩ : MethodName)) hown (mvT hZ (hw _ (List.mem_of_getElem? (i := 1) rfl))) (mvT hZ (hw _ (List.mem_of_getElem? (i := 2) rfl))) (mvT hZ (hw _ (List.mem_of_getElem? (i := 3) rfl))) (mvT hZ (hw _ (List.mem_of_getElem? (i := 4) rfl))) (by decide) (backOf (W := 0) (rm1_16_8 l Z a0 hw [] b2 (65535 : Int32) _ _ _ _ _ _ _ _ _ _ _ _ _ _ _ _ _ T5.heap n0 Z5 G6 g_b2) hZ (hw _ (List.mem_of_getElem? (i := 4) rfl)) (hw _ (List.mem_of_getElem? (i := 3) rfl)) (by decide) (by decide)) (g := (mkF m 106 #[.val (.int p0), .val (.int p1), .val (.int p2), .val (.int p3), .val (.int p4), .val (.int (p0 &&& (3 : Int32))), .val (.int (0 : Int32)), .val (.int (0 : Int32)), .val (.int (65535 : Int32)), .val (.ref b2), .unset, .unset] [(.int (65535 : Int32)), (.int (8 : Int32)), (.ref b2)])) rfl (by rw [hml]; rfl) (argsL := [(.ref b2), (.int (8 : Int32)), (.int (65535 : Int32))]) (rest := []) (lenOf pd_0 rfl) rfl (by show 2 * 0 + _ ≤ _; exact Nat.le_of_eq rfl) (hb hby at_106) (fun _ _ => ⟨rfl, rfl, (by decide : 1 + 0 ≤ _), (by decide : 16 + 0 ≤ _)⟩)
    dsimp only [Pt.U, Pt.locs, Pt.cells, Pt.slots] at X7 l7 y7 z7 st7 hQ7
    subst l7 y7 z7
    obtain ⟨rfl, N7q, K7, ⟨kG8, G8⟩⟩ := hQ7
    have Z7 := Nat.le_trans Z5 K7.1
    have N7 := Fr.app N5 N7q
    obtain ⟨_, _, ⟨T9, L9, k9, n9⟩, -, X9, ⟨Lc9, hQ9, l9, y9, z9⟩, st9⟩ := Jvm.LawKit.callS X7 hx (y := (⟨"com/example/flytrap/flytrap/net/IpAddressIsIpv6PinLaw", "put", "([BII)V"⟩ : MethodName)) hown (mvT hZ (hw _ (List.mem_of_getElem? (i := 1) rfl))) (mvT hZ (hw _ (List.mem_of_getElem? (i := 2) rfl))) (mvT hZ (hw _ (List.mem_of_getElem? (i := 3) rfl))) (mvT hZ (hw _ (List.mem_of_getElem? (i := 4) rfl))) (by decide) (backOf (W := 0) (rm1_16_12 l Z a0 hw [] b2 p4 _ _ _ _ _ _ _ _ _ _ _ _ _ _ _ _ _ T7.heap n0 Z7 G8 g_b2) hZ (hw _ (List.mem_of_getElem? (i := 4) rfl)) (hw _ (List.mem_of_getElem? (i := 3) rfl)) (by decide) (by decide)) (g := (mkF m 115 #[.val (.int p0), .val (.int p1), .val (.int p2), .val (.int p3), .val (.int p4), .val (.int (p0 &&& (3 : Int32))), .val (.int (0 : Int32)), .val (.int (0 : Int32)), .val (.int (65535 : Int32)), .val (.ref b2), .unset, .unset] [(.int p4), (.int (12 : Int32)), (.ref b2)])) rfl (by rw [hml]; rfl) (argsL := [(.ref b2), (.int (12 : Int32)), (.int p4)]) (rest := []) (lenOf pd_0 rfl) rfl (by show 2 * 0 + _ ≤ _; exact Nat.le_of_eq rfl) (hb hby at_115) (fun _ _ => ⟨rfl, rfl, (by decide : 1 + 0 ≤ _), (by decide : 16 + 0 ≤ _)⟩)
    dsimp only [Pt.U, Pt.locs, Pt.cells, Pt.slots] at X9 l9 y9 z9 st9 hQ9
    subst l9 y9 z9
    obtain ⟨rfl, N9q, K9, ⟨kG10, G10⟩⟩ := hQ9
    have Z9 := Nat.le_trans Z7 K9.1
    have N9 := Fr.app N7 N9q
    obtain ⟨T11, h11, X11, e11, E11, A11, D11, -, st11⟩ := newO X9 hx hZ hown (hw _ (List.mem_of_getElem? (i := 5) rfl)) (hw _ (List.mem_of_getElem? (i := 6) rfl)) (hw _ (List.mem_of_getElem? (i := 7) rfl)) rfl (g := (mkF m 159 #[.val (.int p0), .val (.int p1), .val (.int p2), .val (.int p3), .val (.int p4), .val (.int (p0 &&& (3 : Int32))), .val (.int (0 : Int32)), .val (.int (0 : Int32)), .val (.int (65535 : Int32)), .val (.ref b2), .val (.int (1 : Int32)), .val (.int (0 : Int32))] [])) rfl (hb hby at_159) (by decide) (by decide)
    obtain ⟨b11, g11⟩ : ∃ z, z = T9.heap.size := ⟨_, rfl⟩
    rw [← g11] at A11 D11 st11
    have ne_b2_b11 : b2 ≠ b11 := Nat.ne_of_lt (Nat.lt_of_lt_of_le G10.lt (Nat.le_of_eq g11.symm))
    have vV12 := G10.ext E11
    have g_b11 : n0 ≤ b11 := Nat.le_trans Z9 (Nat.le_of_eq g11.symm)
    have Z11 := Nat.le_trans Z9 E11.1
    have fF13 : Fld Z h11 b11 "com/example/flytrap/flytrap/net/IpAddress" "bytes" "[B" .null := D11 (Or.inr (hw _ (List.mem_of_getElem? (i := 18) rfl))) (ty := (.array .byte)) (by decide)
    have hp14 : ¬ ((F4_16 (nar .byte ((((0 : Int32).toUInt32 >>> ((24 : Int32) &&& 31).toUInt32).toInt32).toInt8.toInt32)) (nar .byte ((((0 : Int32).toUInt32 >>> ((16 : Int32) &&& 31).toUInt32).toInt32).toInt8.toInt32)) (nar .byte ((((0 : Int32).toUInt32 >>> ((8 : Int32) &&& 31).toUInt32).toInt32).toInt8.toInt32)) (nar .byte ((0 : Int32).toInt8.toInt32)) (nar .byte ((((0 : Int32).toUInt32 >>> ((24 : Int32) &&& 31).toUInt32).toInt32).toInt8.toInt32)) (nar .byte ((((0 : Int32).toUInt32 >>> ((16 : Int32) &&& 31).toUInt32).toInt32).toInt8.toInt32)) (nar .byte ((((0 : Int32).toUInt32 >>> ((8 : Int32) &&& 31).toUInt32).toInt32).toInt8.toInt32)) (nar .byte ((0 : Int32).toInt8.toInt32)) (nar .byte ((((65535 : Int32).toUInt32 >>> ((24 : Int32) &&& 31).toUInt32).toInt32).toInt8.toInt32)) (nar .byte ((((65535 : Int32).toUInt32 >>> ((16 : Int32) &&& 31).toUInt32).toInt32).toInt8.toInt32)) (nar .byte ((((65535 : Int32).toUInt32 >>> ((8 : Int32) &&& 31).toUInt32).toInt32).toInt8.toInt32)) (nar .byte ((65535 : Int32).toInt8.toInt32))) = (0 : Int32)) := by decide
    obtain ⟨_, _, ⟨T15, L15, k15, n15⟩, -, X15, ⟨Lc15, hQ15, l15, y15, z15⟩, st15⟩ := X11.specialBack hx (y := (⟨"com/example/flytrap/flytrap/net/IpAddress", "<init>", "([B)V"⟩ : MethodName)) rfl hown (mvT hZ (hw _ (List.mem_of_getElem? (i := 8) rfl))) (mvT hZ (hw _ (List.mem_of_getElem? (i := 9) rfl))) (mvT hZ (hw _ (List.mem_of_getElem? (i := 10) rfl))) (by decide) (backOf (W := 1) (rm2_16m l Z a0 hw [] b11 b2 _ _ _ _ _ _ _ _ _ _ _ _ _ _ _ _ _ .null h11 n0 Z11 vV12 fF13 A11 g_b11 ne_b2_b11 hp14) hZ (hw _ (List.mem_of_getElem? (i := 10) rfl)) (hw _ (List.mem_of_getElem? (i := 7) rfl)) (by decide) (by decide)) (g := (mkF m 165 #[.val (.int p0), .val (.int p1), .val (.int p2), .val (.int p3), .val (.int p4), .val (.int (p0 &&& (3 : Int32))), .val (.int (0 : Int32)), .val (.int (0 : Int32)), .val (.int (65535 : Int32)), .val (.ref b2), .val (.int (1 : Int32)), .val (.int (0 : Int32))] [(.ref b2), (.ref b11), (.ref b11)])) rfl (by rw [hml]; rfl) (Steps.refl _) (a := b11) (argsL := [(.ref b2)]) (rest := [(.ref b11)]) (lenOf pd_5 rfl) rfl (by show 2 * 0 + _ ≤ _; exact Nat.le_of_eq rfl) (hb hby at_165) (fun _ _ => ⟨rfl, e11, (by decide : 2 + 1 ≤ _), (by decide : 17 + 4 ≤ _)⟩)
    dsimp only [Pt.U, Pt.locs, Pt.cells, Pt.slots] at X15 l15 y15 z15 st15 hQ15
    subst l15 y15 z15
    obtain ⟨b15, rfl, N15q, K15, G16, G17, ⟨kG17, vsG17, ddG17, VG17⟩, sz15⟩ := hQ15
    have vV18 := vV12.keep K15 (ninS ne_b2_b11 nin0)
    have Z15 := Nat.le_trans Z11 K15.1
    have N15 := Fr.app N9 N15q
    obtain ⟨cq19, kq19, q19a, q19b, q19c⟩ := isOf hZ rfl G16
    obtain ⟨_, _, ⟨T19, L19, k19, n19⟩, -, X19, ⟨Lc19, hQ19, l19, y19, z19⟩, st19⟩ := X15.virtualBack hx (y := (⟨"com/example/flytrap/flytrap/net/IpAddress", "isIpv6", "()Z"⟩ : MethodName)) (z := (⟨"com/example/flytrap/flytrap/net/IpAddress", "isIpv6", "()Z"⟩ : MethodName)) hown (mvT hZ (hw _ (List.mem_of_getElem? (i := 19) rfl))) (mvT hZ (hw _ (List.mem_of_getElem? (i := 20) rfl))) (notFace_of_selects (args := #[]) (mvT hZ (hw _ (List.mem_of_getElem? (i := 22) rfl)))) (mvT hZ (hw _ (List.mem_of_getElem? (i := 22) rfl))) (mvT hZ (hw _ (List.mem_of_getElem? (i := 21) rfl))) (by decide) (backOf (W := 0) (rm5 l Z a0 hw [] b11 b15 (4 : Int32) T15.heap n0 Z15 G17 ⟨_, _, _, VG17⟩) hZ (hw _ (List.mem_of_getElem? (i := 23) rfl)) (hw _ (List.mem_of_getElem? (i := 7) rfl)) (by decide) (by decide)) q19a q19c (g := (mkF m 168 #[.val (.int p0), .val (.int p1), .val (.int p2), .val (.int p3), .val (.int p4), .val (.int (p0 &&& (3 : Int32))), .val (.int (0 : Int32)), .val (.int (0 : Int32)), .val (.int (65535 : Int32)), .val (.ref b2), .val (.int (1 : Int32)), .val (.int (0 : Int32))] [(.ref b11)])) rfl (by rw [hml]; rfl) (Steps.refl _) (argsL := []) (rest := []) (lenOf pd_6 rfl) rfl (by show 2 * 0 + _ ≤ _; exact Nat.le_of_eq rfl) (hb hby at_168) (fun _ _ => ⟨rfl, rfl, (by decide : 3 + 0 ≤ _), (by decide : 21 + 0 ≤ _)⟩)
    dsimp only [Pt.U, Pt.locs, Pt.cells, Pt.slots] at X19 l19 y19 z19 st19 hQ19
    subst l19 y19 z19
    obtain ⟨rfl, N19q, e19⟩ := hQ19
    have N19 := Fr.app N15 N19q
    have hc173 : (F5 (4 : Int32)) = (0 : Int32) := by decide
    obtain ⟨fs, hr, hrun, hended, hW, hsame⟩ := X19.leave (v := some (.int (1 : Int32))) (fun h => by rw [Bd.returns] at h; cases h) (BodyLoose.notSynchronized Bd)
    refine ⟨_, _, pre1 _ ?_, hrun, hended, _, _, rfl, ?_, ⟨_, rfl⟩, hW, hsame.mono (by decide) (by decide)⟩
    · show Steps p.tables e below (s₁.setTop (mkF m 17 #[.val (.int p0), .val (.int p1), .val (.int p2), .val (.int p3), .val (.int p4), .val (.int (p0 &&& (3 : Int32))), .val (.int p1), .val (.int p2), .val (.int p3), .unset, .unset, .unset] [(.int (1 : Int32)), (.int (p0 &&& (3 : Int32)))])) _
      refine XS.icmpNo X0.here hx rfl (hb hby at_17) rfl (teq hc17).2 ?_
      show Steps p.tables e below (s₁.setTop (mkF m 20 #[.val (.int p0), .val (.int p1), .val (.int p2), .val (.int p3), .val (.int p4), .val (.int (p0 &&& (3 : Int32))), .val (.int p1), .val (.int p2), .val (.int p3), .unset, .unset, .unset] [])) _
      refine XS.iconst X0.here hx rfl (hb hby at_20) ?_
      show Steps p.tables e below (s₁.setTop (mkF m 21 #[.val (.int p0), .val (.int p1), .val (.int p2), .val (.int p3), .val (.int p4), .val (.int (p0 &&& (3 : Int32))), .val (.int p1), .val (.int p2), .val (.int p3), .unset, .unset, .unset] [(.int (0 : Int32))])) _
      refine XS.istore X0.here hx rfl (hb hby at_21) rfl (l' := #[.val (.int p0), .val (.int p1), .val (.int p2), .val (.int p3), .val (.int p4), .val (.int (p0 &&& (3 : Int32))), .val (.int (0 : Int32)), .val (.int p2), .val (.int p3), .unset, .unset, .unset]) rfl ?_
      show Steps p.tables e below (s₁.setTop (mkF m 23 #[.val (.int p0), .val (.int p1), .val (.int p2), .val (.int p3), .val (.int p4), .val (.int (p0 &&& (3 : Int32))), .val (.int (0 : Int32)), .val (.int p2), .val (.int p3), .unset, .unset, .unset] [])) _
      refine XS.iconst X0.here hx rfl (hb hby at_23) ?_
      show Steps p.tables e below (s₁.setTop (mkF m 24 #[.val (.int p0), .val (.int p1), .val (.int p2), .val (.int p3), .val (.int p4), .val (.int (p0 &&& (3 : Int32))), .val (.int (0 : Int32)), .val (.int p2), .val (.int p3), .unset, .unset, .unset] [(.int (0 : Int32))])) _
      refine XS.istore X0.here hx rfl (hb hby at_24) rfl (l' := #[.val (.int p0), .val (.int p1), .val (.int p2), .val (.int p3), .val (.int p4), .val (.int (p0 &&& (3 : Int32))), .val (.int (0 : Int32)), .val (.int (0 : Int32)), .val (.int p3), .unset, .unset, .unset]) rfl ?_
      show Steps p.tables e below (s₁.setTop (mkF m 26 #[.val (.int p0), .val (.int p1), .val (.int p2), .val (.int p3), .val (.int p4), .val (.int (p0 &&& (3 : Int32))), .val (.int (0 : Int32)), .val (.int (0 : Int32)), .val (.int p3), .unset, .unset, .unset] [])) _
      refine X0.ldcInt hx hown (mvT hZ (hw _ (List.mem_of_getElem? (i := 24) rfl))) (g := (mkF m 26 #[.val (.int p0), .val (.int p1), .val (.int p2), .val (.int p3), .val (.int p4), .val (.int (p0 &&& (3 : Int32))), .val (.int (0 : Int32)), .val (.int (0 : Int32)), .val (.int p3), .unset, .unset, .unset] [])) rfl (hb hby at_26) _ ?_
      show Steps p.tables e below (s₁.setTop (mkF m 28 #[.val (.int p0), .val (.int p1), .val (.int p2), .val (.int p3), .val (.int p4), .val (.int (p0 &&& (3 : Int32))), .val (.int (0 : Int32)), .val (.int (0 : Int32)), .val (.int p3), .unset, .unset, .unset] [(.int (65535 : Int32))])) _
      refine XS.istore X0.here hx rfl (hb hby at_28) rfl (l' := #[.val (.int p0), .val (.int p1), .val (.int p2), .val (.int p3), .val (.int p4), .val (.int (p0 &&& (3 : Int32))), .val (.int (0 : Int32)), .val (.int (0 : Int32)), .val (.int (65535 : Int32)), .unset, .unset, .unset]) rfl ?_
      show Steps p.tables e below (s₁.setTop (mkF m 30 #[.val (.int p0), .val (.int p1), .val (.int p2), .val (.int p3), .val (.int p4), .val (.int (p0 &&& (3 : Int32))), .val (.int (0 : Int32)), .val (.int (0 : Int32)), .val (.int (65535 : Int32)), .unset, .unset, .unset] [])) _
      refine XS.goto X0.here hx rfl (pc0 := 30) (pc' := 58) rfl (hb hby at_30) (by decide) (by decide) ?_
      show Steps p.tables e below (s₁.setTop (mkF m 58 #[.val (.int p0), .val (.int p1), .val (.int p2), .val (.int p3), .val (.int p4), .val (.int (p0 &&& (3 : Int32))), .val (.int (0 : Int32)), .val (.int (0 : Int32)), .val (.int (65535 : Int32)), .unset, .unset, .unset] [])) _
      refine XS.iload X0.here hx rfl (hb hby at_58) rfl ?_
      show Steps p.tables e below (s₁.setTop (mkF m 60 #[.val (.int p0), .val (.int p1), .val (.int p2), .val (.int p3), .val (.int p4), .val (.int (p0 &&& (3 : Int32))), .val (.int (0 : Int32)), .val (.int (0 : Int32)), .val (.int (65535 : Int32)), .unset, .unset, .unset] [(.int (p0 &&& (3 : Int32)))])) _
      refine XS.ifYes X0.here hx rfl (pc0 := 60) (pc' := 78) rfl (hb hby at_60) rfl ((if0 _ _).trans (feq hc60).2) (by decide) (by decide) ?_
      show Steps p.tables e below (s₁.setTop (mkF m 78 #[.val (.int p0), .val (.int p1), .val (.int p2), .val (.int p3), .val (.int p4), .val (.int (p0 &&& (3 : Int32))), .val (.int (0 : Int32)), .val (.int (0 : Int32)), .val (.int (65535 : Int32)), .unset, .unset, .unset] [])) _
      refine XS.bipush X0.here hx rfl (hb hby at_78) ?_
      show Steps p.tables e below (s₁.setTop (mkF m 80 #[.val (.int p0), .val (.int p1), .val (.int p2), .val (.int p3), .val (.int p4), .val (.int (p0 &&& (3 : Int32))), .val (.int (0 : Int32)), .val (.int (0 : Int32)), .val (.int (65535 : Int32)), .unset, .unset, .unset] [(.int (16 : Int32))])) _
      refine st2 _ ?_
      show Steps p.tables e below (T2.setTop (mkF m 82 #[.val (.int p0), .val (.int p1), .val (.int p2), .val (.int p3), .val (.int p4), .val (.int (p0 &&& (3 : Int32))), .val (.int (0 : Int32)), .val (.int (0 : Int32)), .val (.int (65535 : Int32)), .unset, .unset, .unset] [(.ref b2)])) _
      refine XS.astore X2.here hx rfl (hb hby at_82) rfl rfl (l' := #[.val (.int p0), .val (.int p1), .val (.int p2), .val (.int p3), .val (.int p4), .val (.int (p0 &&& (3 : Int32))), .val (.int (0 : Int32)), .val (.int (0 : Int32)), .val (.int (65535 : Int32)), .val (.ref b2), .unset, .unset]) rfl ?_
      show Steps p.tables e below (T2.setTop (mkF m 84 #[.val (.int p0), .val (.int p1), .val (.int p2), .val (.int p3), .val (.int p4), .val (.int (p0 &&& (3 : Int32))), .val (.int (0 : Int32)), .val (.int (0 : Int32)), .val (.int (65535 : Int32)), .val (.ref b2), .unset, .unset] [])) _
      refine XS.aload X2.here hx rfl (hb hby at_84) rfl rfl ?_
      show Steps p.tables e below (T2.setTop (mkF m 86 #[.val (.int p0), .val (.int p1), .val (.int p2), .val (.int p3), .val (.int p4), .val (.int (p0 &&& (3 : Int32))), .val (.int (0 : Int32)), .val (.int (0 : Int32)), .val (.int (65535 : Int32)), .val (.ref b2), .unset, .unset] [(.ref b2)])) _
      refine XS.iconst X2.here hx rfl (hb hby at_86) ?_
      show Steps p.tables e below (T2.setTop (mkF m 87 #[.val (.int p0), .val (.int p1), .val (.int p2), .val (.int p3), .val (.int p4), .val (.int (p0 &&& (3 : Int32))), .val (.int (0 : Int32)), .val (.int (0 : Int32)), .val (.int (65535 : Int32)), .val (.ref b2), .unset, .unset] [(.int (0 : Int32)), (.ref b2)])) _
      refine XS.iload X2.here hx rfl (hb hby at_87) rfl ?_
      show Steps p.tables e below (T2.setTop (mkF m 89 #[.val (.int p0), .val (.int p1), .val (.int p2), .val (.int p3), .val (.int p4), .val (.int (p0 &&& (3 : Int32))), .val (.int (0 : Int32)), .val (.int (0 : Int32)), .val (.int (65535 : Int32)), .val (.ref b2), .unset, .unset] [(.int (0 : Int32)), (.int (0 : Int32)), (.ref b2)])) _
      refine st3 _ ?_
      show Steps p.tables e below (T3.setTop (mkF m 92 #[.val (.int p0), .val (.int p1), .val (.int p2), .val (.int p3), .val (.int p4), .val (.int (p0 &&& (3 : Int32))), .val (.int (0 : Int32)), .val (.int (0 : Int32)), .val (.int (65535 : Int32)), .val (.ref b2), .unset, .unset] [])) _
      refine XS.aload X3.here hx rfl (hb hby at_92) rfl rfl ?_
      show Steps p.tables e below (T3.setTop (mkF m 94 #[.val (.int p0), .val (.int p1), .val (.int p2), .val (.int p3), .val (.int p4), .val (.int (p0 &&& (3 : Int32))), .val (.int (0 : Int32)), .val (.int (0 : Int32)), .val (.int (65535 : Int32)), .val (.ref b2), .unset, .unset] [(.ref b2)])) _
      refine XS.iconst X3.here hx rfl (hb hby at_94) ?_
      show Steps p.tables e below (T3.setTop (mkF m 95 #[.val (.int p0), .val (.int p1), .val (.int p2), .val (.int p3), .val (.int p4), .val (.int (p0 &&& (3 : Int32))), .val (.int (0 : Int32)), .val (.int (0 : Int32)), .val (.int (65535 : Int32)), .val (.ref b2), .unset, .unset] [(.int (4 : Int32)), (.ref b2)])) _
      refine XS.iload X3.here hx rfl (hb hby at_95) rfl ?_
      show Steps p.tables e below (T3.setTop (mkF m 97 #[.val (.int p0), .val (.int p1), .val (.int p2), .val (.int p3), .val (.int p4), .val (.int (p0 &&& (3 : Int32))), .val (.int (0 : Int32)), .val (.int (0 : Int32)), .val (.int (65535 : Int32)), .val (.ref b2), .unset, .unset] [(.int (0 : Int32)), (.int (4 : Int32)), (.ref b2)])) _
      refine st5 _ ?_
      show Steps p.tables e below (T5.setTop (mkF m 100 #[.val (.int p0), .val (.int p1), .val (.int p2), .val (.int p3), .val (.int p4), .val (.int (p0 &&& (3 : Int32))), .val (.int (0 : Int32)), .val (.int (0 : Int32)), .val (.int (65535 : Int32)), .val (.ref b2), .unset, .unset] [])) _
      refine XS.aload X5.here hx rfl (hb hby at_100) rfl rfl ?_
      show Steps p.tables e below (T5.setTop (mkF m 102 #[.val (.int p0), .val (.int p1), .val (.int p2), .val (.int p3), .val (.int p4), .val (.int (p0 &&& (3 : Int32))), .val (.int (0 : Int32)), .val (.int (0 : Int32)), .val (.int (65535 : Int32)), .val (.ref b2), .unset, .unset] [(.ref b2)])) _
      refine XS.bipush X5.here hx rfl (hb hby at_102) ?_
      show Steps p.tables e below (T5.setTop (mkF m 104 #[.val (.int p0), .val (.int p1), .val (.int p2), .val (.int p3), .val (.int p4), .val (.int (p0 &&& (3 : Int32))), .val (.int (0 : Int32)), .val (.int (0 : Int32)), .val (.int (65535 : Int32)), .val (.ref b2), .unset, .unset] [(.int (8 : Int32)), (.ref b2)])) _
      refine XS.iload X5.here hx rfl (hb hby at_104) rfl ?_
      show Steps p.tables e below (T5.setTop (mkF m 106 #[.val (.int p0), .val (.int p1), .val (.int p2), .val (.int p3), .val (.int p4), .val (.int (p0 &&& (3 : Int32))), .val (.int (0 : Int32)), .val (.int (0 : Int32)), .val (.int (65535 : Int32)), .val (.ref b2), .unset, .unset] [(.int (65535 : Int32)), (.int (8 : Int32)), (.ref b2)])) _
      refine st7 _ ?_
      show Steps p.tables e below (T7.setTop (mkF m 109 #[.val (.int p0), .val (.int p1), .val (.int p2), .val (.int p3), .val (.int p4), .val (.int (p0 &&& (3 : Int32))), .val (.int (0 : Int32)), .val (.int (0 : Int32)), .val (.int (65535 : Int32)), .val (.ref b2), .unset, .unset] [])) _
      refine XS.aload X7.here hx rfl (hb hby at_109) rfl rfl ?_
      show Steps p.tables e below (T7.setTop (mkF m 111 #[.val (.int p0), .val (.int p1), .val (.int p2), .val (.int p3), .val (.int p4), .val (.int (p0 &&& (3 : Int32))), .val (.int (0 : Int32)), .val (.int (0 : Int32)), .val (.int (65535 : Int32)), .val (.ref b2), .unset, .unset] [(.ref b2)])) _
      refine XS.bipush X7.here hx rfl (hb hby at_111) ?_
      show Steps p.tables e below (T7.setTop (mkF m 113 #[.val (.int p0), .val (.int p1), .val (.int p2), .val (.int p3), .val (.int p4), .val (.int (p0 &&& (3 : Int32))), .val (.int (0 : Int32)), .val (.int (0 : Int32)), .val (.int (65535 : Int32)), .val (.ref b2), .unset, .unset] [(.int (12 : Int32)), (.ref b2)])) _
      refine XS.iload X7.here hx rfl (hb hby at_113) rfl ?_
      show Steps p.tables e below (T7.setTop (mkF m 115 #[.val (.int p0), .val (.int p1), .val (.int p2), .val (.int p3), .val (.int p4), .val (.int (p0 &&& (3 : Int32))), .val (.int (0 : Int32)), .val (.int (0 : Int32)), .val (.int (65535 : Int32)), .val (.ref b2), .unset, .unset] [(.int p4), (.int (12 : Int32)), (.ref b2)])) _
      refine st9 _ ?_
      show Steps p.tables e below (T9.setTop (mkF m 118 #[.val (.int p0), .val (.int p1), .val (.int p2), .val (.int p3), .val (.int p4), .val (.int (p0 &&& (3 : Int32))), .val (.int (0 : Int32)), .val (.int (0 : Int32)), .val (.int (65535 : Int32)), .val (.ref b2), .unset, .unset] [])) _
      refine XS.iload X9.here hx rfl (hb hby at_118) rfl ?_
      show Steps p.tables e below (T9.setTop (mkF m 120 #[.val (.int p0), .val (.int p1), .val (.int p2), .val (.int p3), .val (.int p4), .val (.int (p0 &&& (3 : Int32))), .val (.int (0 : Int32)), .val (.int (0 : Int32)), .val (.int (65535 : Int32)), .val (.ref b2), .unset, .unset] [(.int (0 : Int32))])) _
      refine XS.ifNo X9.here hx rfl (hb hby at_120) rfl ((if0 _ _).trans (teq (by decide : (0 : Int32) = (0 : Int32))).2) ?_
      show Steps p.tables e below (T9.setTop (mkF m 123 #[.val (.int p0), .val (.int p1), .val (.int p2), .val (.int p3), .val (.int p4), .val (.int (p0 &&& (3 : Int32))), .val (.int (0 : Int32)), .val (.int (0 : Int32)), .val (.int (65535 : Int32)), .val (.ref b2), .unset, .unset] [])) _
      refine XS.iload X9.here hx rfl (hb hby at_123) rfl ?_
      show Steps p.tables e below (T9.setTop (mkF m 125 #[.val (.int p0), .val (.int p1), .val (.int p2), .val (.int p3), .val (.int p4), .val (.int (p0 &&& (3 : Int32))), .val (.int (0 : Int32)), .val (.int (0 : Int32)), .val (.int (65535 : Int32)), .val (.ref b2), .unset, .unset] [(.int (0 : Int32))])) _
      refine XS.ifNo X9.here hx rfl (hb hby at_125) rfl ((if0 _ _).trans (teq (by decide : (0 : Int32) = (0 : Int32))).2) ?_
      show Steps p.tables e below (T9.setTop (mkF m 128 #[.val (.int p0), .val (.int p1), .val (.int p2), .val (.int p3), .val (.int p4), .val (.int (p0 &&& (3 : Int32))), .val (.int (0 : Int32)), .val (.int (0 : Int32)), .val (.int (65535 : Int32)), .val (.ref b2), .unset, .unset] [])) _
      refine XS.iload X9.here hx rfl (hb hby at_128) rfl ?_
      show Steps p.tables e below (T9.setTop (mkF m 130 #[.val (.int p0), .val (.int p1), .val (.int p2), .val (.int p3), .val (.int p4), .val (.int (p0 &&& (3 : Int32))), .val (.int (0 : Int32)), .val (.int (0 : Int32)), .val (.int (65535 : Int32)), .val (.ref b2), .unset, .unset] [(.int (65535 : Int32))])) _
      refine X9.ldcInt hx hown (mvT hZ (hw _ (List.mem_of_getElem? (i := 24) rfl))) (g := (mkF m 130 #[.val (.int p0), .val (.int p1), .val (.int p2), .val (.int p3), .val (.int p4), .val (.int (p0 &&& (3 : Int32))), .val (.int (0 : Int32)), .val (.int (0 : Int32)), .val (.int (65535 : Int32)), .val (.ref b2), .unset, .unset] [(.int (65535 : Int32))])) rfl (hb hby at_130) _ ?_
      show Steps p.tables e below (T9.setTop (mkF m 132 #[.val (.int p0), .val (.int p1), .val (.int p2), .val (.int p3), .val (.int p4), .val (.int (p0 &&& (3 : Int32))), .val (.int (0 : Int32)), .val (.int (0 : Int32)), .val (.int (65535 : Int32)), .val (.ref b2), .unset, .unset] [(.int (65535 : Int32)), (.int (65535 : Int32))])) _
      refine XS.icmpNo X9.here hx rfl (hb hby at_132) rfl (teq (by decide : (65535 : Int32) = (65535 : Int32))).2 ?_
      show Steps p.tables e below (T9.setTop (mkF m 135 #[.val (.int p0), .val (.int p1), .val (.int p2), .val (.int p3), .val (.int p4), .val (.int (p0 &&& (3 : Int32))), .val (.int (0 : Int32)), .val (.int (0 : Int32)), .val (.int (65535 : Int32)), .val (.ref b2), .unset, .unset] [])) _
      refine XS.iconst X9.here hx rfl (hb hby at_135) ?_
      show Steps p.tables e below (T9.setTop (mkF m 136 #[.val (.int p0), .val (.int p1), .val (.int p2), .val (.int p3), .val (.int p4), .val (.int (p0 &&& (3 : Int32))), .val (.int (0 : Int32)), .val (.int (0 : Int32)), .val (.int (65535 : Int32)), .val (.ref b2), .unset, .unset] [(.int (1 : Int32))])) _
      refine XS.goto X9.here hx rfl (pc0 := 136) (pc' := 140) rfl (hb hby at_136) (by decide) (by decide) ?_
      show Steps p.tables e below (T9.setTop (mkF m 140 #[.val (.int p0), .val (.int p1), .val (.int p2), .val (.int p3), .val (.int p4), .val (.int (p0 &&& (3 : Int32))), .val (.int (0 : Int32)), .val (.int (0 : Int32)), .val (.int (65535 : Int32)), .val (.ref b2), .unset, .unset] [(.int (1 : Int32))])) _
      refine XS.istore X9.here hx rfl (hb hby at_140) rfl (l' := #[.val (.int p0), .val (.int p1), .val (.int p2), .val (.int p3), .val (.int p4), .val (.int (p0 &&& (3 : Int32))), .val (.int (0 : Int32)), .val (.int (0 : Int32)), .val (.int (65535 : Int32)), .val (.ref b2), .val (.int (1 : Int32)), .unset]) rfl ?_
      show Steps p.tables e below (T9.setTop (mkF m 142 #[.val (.int p0), .val (.int p1), .val (.int p2), .val (.int p3), .val (.int p4), .val (.int (p0 &&& (3 : Int32))), .val (.int (0 : Int32)), .val (.int (0 : Int32)), .val (.int (65535 : Int32)), .val (.ref b2), .val (.int (1 : Int32)), .unset] [])) _
      refine XS.iload X9.here hx rfl (hb hby at_142) rfl ?_
      show Steps p.tables e below (T9.setTop (mkF m 144 #[.val (.int p0), .val (.int p1), .val (.int p2), .val (.int p3), .val (.int p4), .val (.int (p0 &&& (3 : Int32))), .val (.int (0 : Int32)), .val (.int (0 : Int32)), .val (.int (65535 : Int32)), .val (.ref b2), .val (.int (1 : Int32)), .unset] [(.int (p0 &&& (3 : Int32)))])) _
      refine XS.ifNo X9.here hx rfl (hb hby at_144) rfl ((if0 _ _).trans (feq hc60).1) ?_
      show Steps p.tables e below (T9.setTop (mkF m 147 #[.val (.int p0), .val (.int p1), .val (.int p2), .val (.int p3), .val (.int p4), .val (.int (p0 &&& (3 : Int32))), .val (.int (0 : Int32)), .val (.int (0 : Int32)), .val (.int (65535 : Int32)), .val (.ref b2), .val (.int (1 : Int32)), .unset] [])) _
      refine XS.iload X9.here hx rfl (hb hby at_147) rfl ?_
      show Steps p.tables e below (T9.setTop (mkF m 149 #[.val (.int p0), .val (.int p1), .val (.int p2), .val (.int p3), .val (.int p4), .val (.int (p0 &&& (3 : Int32))), .val (.int (0 : Int32)), .val (.int (0 : Int32)), .val (.int (65535 : Int32)), .val (.ref b2), .val (.int (1 : Int32)), .unset] [(.int (1 : Int32))])) _
      refine XS.ifYes X9.here hx rfl (pc0 := 149) (pc' := 156) rfl (hb hby at_149) rfl ((if0 _ _).trans (feq (by decide : ¬ ((1 : Int32) = (0 : Int32)))).2) (by decide) (by decide) ?_
      show Steps p.tables e below (T9.setTop (mkF m 156 #[.val (.int p0), .val (.int p1), .val (.int p2), .val (.int p3), .val (.int p4), .val (.int (p0 &&& (3 : Int32))), .val (.int (0 : Int32)), .val (.int (0 : Int32)), .val (.int (65535 : Int32)), .val (.ref b2), .val (.int (1 : Int32)), .unset] [])) _
      refine XS.iconst X9.here hx rfl (hb hby at_156) ?_
      show Steps p.tables e below (T9.setTop (mkF m 157 #[.val (.int p0), .val (.int p1), .val (.int p2), .val (.int p3), .val (.int p4), .val (.int (p0 &&& (3 : Int32))), .val (.int (0 : Int32)), .val (.int (0 : Int32)), .val (.int (65535 : Int32)), .val (.ref b2), .val (.int (1 : Int32)), .unset] [(.int (0 : Int32))])) _
      refine XS.istore X9.here hx rfl (hb hby at_157) rfl (l' := #[.val (.int p0), .val (.int p1), .val (.int p2), .val (.int p3), .val (.int p4), .val (.int (p0 &&& (3 : Int32))), .val (.int (0 : Int32)), .val (.int (0 : Int32)), .val (.int (65535 : Int32)), .val (.ref b2), .val (.int (1 : Int32)), .val (.int (0 : Int32))]) rfl ?_
      show Steps p.tables e below (T9.setTop (mkF m 159 #[.val (.int p0), .val (.int p1), .val (.int p2), .val (.int p3), .val (.int p4), .val (.int (p0 &&& (3 : Int32))), .val (.int (0 : Int32)), .val (.int (0 : Int32)), .val (.int (65535 : Int32)), .val (.ref b2), .val (.int (1 : Int32)), .val (.int (0 : Int32))] [])) _
      refine st11 _ ?_
      show Steps p.tables e below (T11.setTop (mkF m 162 #[.val (.int p0), .val (.int p1), .val (.int p2), .val (.int p3), .val (.int p4), .val (.int (p0 &&& (3 : Int32))), .val (.int (0 : Int32)), .val (.int (0 : Int32)), .val (.int (65535 : Int32)), .val (.ref b2), .val (.int (1 : Int32)), .val (.int (0 : Int32))] [(.ref b11)])) _
      refine XS.dup X11.here hx rfl (hb hby at_162) rfl rfl ?_
      show Steps p.tables e below (T11.setTop (mkF m 163 #[.val (.int p0), .val (.int p1), .val (.int p2), .val (.int p3), .val (.int p4), .val (.int (p0 &&& (3 : Int32))), .val (.int (0 : Int32)), .val (.int (0 : Int32)), .val (.int (65535 : Int32)), .val (.ref b2), .val (.int (1 : Int32)), .val (.int (0 : Int32))] [(.ref b11), (.ref b11)])) _
      refine XS.aload X11.here hx rfl (hb hby at_163) rfl rfl ?_
      show Steps p.tables e below (T11.setTop (mkF m 165 #[.val (.int p0), .val (.int p1), .val (.int p2), .val (.int p3), .val (.int p4), .val (.int (p0 &&& (3 : Int32))), .val (.int (0 : Int32)), .val (.int (0 : Int32)), .val (.int (65535 : Int32)), .val (.ref b2), .val (.int (1 : Int32)), .val (.int (0 : Int32))] [(.ref b2), (.ref b11), (.ref b11)])) _
      refine st15.trans ?_
      show Steps p.tables e below (T15.setTop (mkF m 168 #[.val (.int p0), .val (.int p1), .val (.int p2), .val (.int p3), .val (.int p4), .val (.int (p0 &&& (3 : Int32))), .val (.int (0 : Int32)), .val (.int (0 : Int32)), .val (.int (65535 : Int32)), .val (.ref b2), .val (.int (1 : Int32)), .val (.int (0 : Int32))] [(.ref b11)])) _
      refine st19.trans ?_
      show Steps p.tables e below (T19.setTop (mkF m 171 #[.val (.int p0), .val (.int p1), .val (.int p2), .val (.int p3), .val (.int p4), .val (.int (p0 &&& (3 : Int32))), .val (.int (0 : Int32)), .val (.int (0 : Int32)), .val (.int (65535 : Int32)), .val (.ref b2), .val (.int (1 : Int32)), .val (.int (0 : Int32))] [(.int (F5 (4 : Int32)))])) _
      refine XS.iload X19.here hx rfl (hb hby at_171) rfl ?_
      show Steps p.tables e below (T19.setTop (mkF m 173 #[.val (.int p0), .val (.int p1), .val (.int p2), .val (.int p3), .val (.int p4), .val (.int (p0 &&& (3 : Int32))), .val (.int (0 : Int32)), .val (.int (0 : Int32)), .val (.int (65535 : Int32)), .val (.ref b2), .val (.int (1 : Int32)), .val (.int (0 : Int32))] [(.int (0 : Int32)), (.int (F5 (4 : Int32)))])) _
      refine XS.icmpNo X19.here hx rfl (hb hby at_173) rfl (teq hc173).2 ?_
      show Steps p.tables e below (T19.setTop (mkF m 176 #[.val (.int p0), .val (.int p1), .val (.int p2), .val (.int p3), .val (.int p4), .val (.int (p0 &&& (3 : Int32))), .val (.int (0 : Int32)), .val (.int (0 : Int32)), .val (.int (65535 : Int32)), .val (.ref b2), .val (.int (1 : Int32)), .val (.int (0 : Int32))] [])) _
      refine XS.iconst X19.here hx rfl (hb hby at_176) ?_
      show Steps p.tables e below (T19.setTop (mkF m 177 #[.val (.int p0), .val (.int p1), .val (.int p2), .val (.int p3), .val (.int p4), .val (.int (p0 &&& (3 : Int32))), .val (.int (0 : Int32)), .val (.int (0 : Int32)), .val (.int (65535 : Int32)), .val (.ref b2), .val (.int (1 : Int32)), .val (.int (0 : Int32))] [(.int (1 : Int32))])) _
      refine XS.goto X19.here hx rfl (pc0 := 177) (pc' := 181) rfl (hb hby at_177) (by decide) (by decide) ?_
      show Steps p.tables e below (T19.setTop (mkF m 181 #[.val (.int p0), .val (.int p1), .val (.int p2), .val (.int p3), .val (.int p4), .val (.int (p0 &&& (3 : Int32))), .val (.int (0 : Int32)), .val (.int (0 : Int32)), .val (.int (65535 : Int32)), .val (.ref b2), .val (.int (1 : Int32)), .val (.int (0 : Int32))] [(.int (1 : Int32))])) _
      exact retN X19 hx (t := .boolean) Bd.returns (by simp) (hb hby at_181) hr
    · show Q0 Z p0 p1 p2 p3 p4 h0 n0 _ T19.heap _
      rw [e19]
      exact ⟨rfl, N19⟩
  · have pre20 : ∀ t, Steps p.tables e below (s₁.setTop (mkF m 36 #[.val (.int p0), .val (.int p1), .val (.int p2), .val (.int p3), .val (.int p4), .val (.int (p0 &&& (3 : Int32))), .val (.int p1), .val (.int p2), .val (.int p3), .unset, .unset, .unset] [(.int (2 : Int32)), (.int (p0 &&& (3 : Int32)))])) t → Steps p.tables e below (s₁.setTop (entryFrame m #[(.int p0), (.int p1), (.int p2), (.int p3), (.int p4)] maxLocals)) t := fun t k => by
      refine pre1 t ?_
      show Steps p.tables e below (s₁.setTop (mkF m 17 #[.val (.int p0), .val (.int p1), .val (.int p2), .val (.int p3), .val (.int p4), .val (.int (p0 &&& (3 : Int32))), .val (.int p1), .val (.int p2), .val (.int p3), .unset, .unset, .unset] [(.int (1 : Int32)), (.int (p0 &&& (3 : Int32)))])) _
      refine XS.icmpYes X0.here hx rfl (pc0 := 17) (pc' := 33) rfl (hb hby at_17) rfl (feq hc17).2 (by decide) (by decide) ?_
      show Steps p.tables e below (s₁.setTop (mkF m 33 #[.val (.int p0), .val (.int p1), .val (.int p2), .val (.int p3), .val (.int p4), .val (.int (p0 &&& (3 : Int32))), .val (.int p1), .val (.int p2), .val (.int p3), .unset, .unset, .unset] [])) _
      refine XS.iload X0.here hx rfl (hb hby at_33) rfl ?_
      show Steps p.tables e below (s₁.setTop (mkF m 35 #[.val (.int p0), .val (.int p1), .val (.int p2), .val (.int p3), .val (.int p4), .val (.int (p0 &&& (3 : Int32))), .val (.int p1), .val (.int p2), .val (.int p3), .unset, .unset, .unset] [(.int (p0 &&& (3 : Int32)))])) _
      refine XS.iconst X0.here hx rfl (hb hby at_35) ?_
      exact k
    by_cases hc36 : (p0 &&& (3 : Int32)) = (2 : Int32)
    · have hc60 : ¬ ((p0 &&& (3 : Int32)) = (0 : Int32)) := by rw [hc36]; decide
      obtain ⟨T21, h21, k21, X21, e21, E21, A21, st21⟩ := newP X0 hx hZ (hw _ (List.mem_of_getElem? (i := 0) rfl)) e0 (g := (mkF m 80 #[.val (.int p0), .val (.int p1), .val (.int p2), .val (.int p3), .val (.int p4), .val (.int (p0 &&& (3 : Int32))), .val (.int (0 : Int32)), .val (.int (0 : Int32)), .val (.int ((65535 : Int32) ^^^ ((1 : Int32) <<< ((((p0.toUInt32 >>> ((2 : Int32) &&& 31).toUInt32).toInt32) &&& (31 : Int32)) &&& 31)))), .unset, .unset, .unset] [(.int (16 : Int32))])) rfl (hb hby at_80) rfl (by decide) (cap := 16) (by decide) (by decide) (by decide) (by decide)
      obtain ⟨b21, g21⟩ : ∃ z, z = h0.size := ⟨_, rfl⟩
      rw [← g21] at A21 st21
      have g_b21 : n0 ≤ b21 := Nat.le_trans Z0 (Nat.le_of_eq g21.symm)
      have Z21 := Nat.le_trans Z0 E21.1
      have vV21 : Arv Z h21 b21 k21 .byte (16 : Int32) [(.int (0 : Int32)), (.int (0 : Int32)), (.int (0 : Int32)), (.int (0 : Int32)), (.int (0 : Int32)), (.int (0 : Int32)), (.int (0 : Int32)), (.int (0 : Int32)), (.int (0 : Int32)), (.int (0 : Int32)), (.int (0 : Int32)), (.int (0 : Int32)), (.int (0 : Int32)), (.int (0 : Int32)), (.int (0 : Int32)), (.int (0 : Int32))] (.int (0 : Int32)) := (Arv.new A21 (by decide)).pad (pad_rep [] (.int (0 : Int32)) 16)
      obtain ⟨_, _, ⟨T22, L22, k22, n22⟩, -, X22, ⟨Lc22, hQ22, l22, y22, z22⟩, st22⟩ := Jvm.LawKit.callS X21 hx (y := (⟨"com/example/flytrap/flytrap/net/IpAddressIsIpv6PinLaw", "put", "([BII)V"⟩ : MethodName)) hown (mvT hZ (hw _ (List.mem_of_getElem? (i := 1) rfl))) (mvT hZ (hw _ (List.mem_of_getElem? (i := 2) rfl))) (mvT hZ (hw _ (List.mem_of_getElem? (i := 3) rfl))) (mvT hZ (hw _ (List.mem_of_getElem? (i := 4) rfl))) (by decide) (backOf (W := 0) (rm1_16_0 l Z a0 hw [] b21 (0 : Int32) _ _ _ _ _ _ _ _ _ _ _ _ _ _ _ _ _ h21 n0 Z21 vV21 g_b21) hZ (hw _ (List.mem_of_getElem? (i := 4) rfl)) (hw _ (List.mem_of_getElem? (i := 3) rfl)) (by decide) (by decide)) (g := (mkF m 89 #[.val (.int p0), .val (.int p1), .val (.int p2), .val (.int p3), .val (.int p4), .val (.int (p0 &&& (3 : Int32))), .val (.int (0 : Int32)), .val (.int (0 : Int32)), .val (.int ((65535 : Int32) ^^^ ((1 : Int32) <<< ((((p0.toUInt32 >>> ((2 : Int32) &&& 31).toUInt32).toInt32) &&& (31 : Int32)) &&& 31)))), .val (.ref b21), .unset, .unset] [(.int (0 : Int32)), (.int (0 : Int32)), (.ref b21)])) rfl (by rw [hml]; rfl) (argsL := [(.ref b21), (.int (0 : Int32)), (.int (0 : Int32))]) (rest := []) (lenOf pd_0 rfl) rfl (by show 2 * 0 + _ ≤ _; exact Nat.le_of_eq rfl) (hb hby at_89) (fun _ _ => ⟨rfl, e21, (by decide : 1 + 0 ≤ _), (by decide : 16 + 0 ≤ _)⟩)
      dsimp only [Pt.U, Pt.locs, Pt.cells, Pt.slots] at X22 l22 y22 z22 st22 hQ22
      subst l22 y22 z22
      obtain ⟨rfl, N22q, K22, ⟨kG23, G23⟩⟩ := hQ22
      have Z22 := Nat.le_trans Z21 K22.1
      have N22 := Fr.app N0 N22q
      obtain ⟨_, _, ⟨T24, L24, k24, n24⟩, -, X24, ⟨Lc24, hQ24, l24, y24, z24⟩, st24⟩ := Jvm.LawKit.callS X22 hx (y := (⟨"com/example/flytrap/flytrap/net/IpAddressIsIpv6PinLaw", "put", "([BII)V"⟩ : MethodName)) hown (mvT hZ (hw _ (List.mem_of_getElem? (i := 1) rfl))) (mvT hZ (hw _ (List.mem_of_getElem? (i := 2) rfl))) (mvT hZ (hw _ (List.mem_of_getElem? (i := 3) rfl))) (mvT hZ (hw _ (List.mem_of_getElem? (i := 4) rfl))) (by decide) (backOf (W := 0) (rm1_16_4 l Z a0 hw [] b21 (0 : Int32) _ _ _ _ _ _ _ _ _ _ _ _ _ _ _ _ _ T22.heap n0 Z22 G23 g_b21) hZ (hw _ (List.mem_of_getElem? (i := 4) rfl)) (hw _ (List.mem_of_getElem? (i := 3) rfl)) (by decide) (by decide)) (g := (mkF m 97 #[.val (.int p0), .val (.int p1), .val (.int p2), .val (.int p3), .val (.int p4), .val (.int (p0 &&& (3 : Int32))), .val (.int (0 : Int32)), .val (.int (0 : Int32)), .val (.int ((65535 : Int32) ^^^ ((1 : Int32) <<< ((((p0.toUInt32 >>> ((2 : Int32) &&& 31).toUInt32).toInt32) &&& (31 : Int32)) &&& 31)))), .val (.ref b21), .unset, .unset] [(.int (0 : Int32)), (.int (4 : Int32)), (.ref b21)])) rfl (by rw [hml]; rfl) (argsL := [(.ref b21), (.int (4 : Int32)), (.int (0 : Int32))]) (rest := []) (lenOf pd_0 rfl) rfl (by show 2 * 0 + _ ≤ _; exact Nat.le_of_eq rfl) (hb hby at_97) (fun _ _ => ⟨rfl, rfl, (by decide : 1 + 0 ≤ _), (by decide : 16 + 0 ≤ _)⟩)
      dsimp only [Pt.U, Pt.locs, Pt.cells, Pt.slots] at X24 l24 y24 z24 st24 hQ24
      subst l24 y24 z24
      obtain ⟨rfl, N24q, K24, ⟨kG25, G25⟩⟩ := hQ24
      have Z24 := Nat.le_trans Z22 K24.1
      have N24 := Fr.app N22 N24q
      obtain ⟨_, _, ⟨T26, L26, k26, n26⟩, -, X26, ⟨Lc26, hQ26, l26, y26, z26⟩, st26⟩ := Jvm.LawKit.callS X24 hx (y := (⟨"com/example/flytrap/flytrap/net/IpAddressIsIpv6PinLaw", "put", "([BII)V"⟩ : MethodName)) hown (mvT hZ (hw _ (List.mem_of_getElem? (i := 1) rfl))) (mvT hZ (hw _ (List.mem_of_getElem? (i := 2) rfl))) (mvT hZ (hw _ (List.mem_of_getElem? (i := 3) rfl))) (mvT hZ (hw _ (List.mem_of_getElem? (i := 4) rfl))) (by decide) (backOf (W := 0) (rm1_16_8 l Z a0 hw [] b21 ((65535 : Int32) ^^^ ((1 : Int32) <<< ((((p0.toUInt32 >>> ((2 : Int32) &&& 31).toUInt32).toInt32) &&& (31 : Int32)) &&& 31))) _ _ _ _ _ _ _ _ _ _ _ _ _ _ _ _ _ T24.heap n0 Z24 G25 g_b21) hZ (hw _ (List.mem_of_getElem? (i := 4) rfl)) (hw _ (List.mem_of_getElem? (i := 3) rfl)) (by decide) (by decide)) (g := (mkF m 106 #[.val (.int p0), .val (.int p1), .val (.int p2), .val (.int p3), .val (.int p4), .val (.int (p0 &&& (3 : Int32))), .val (.int (0 : Int32)), .val (.int (0 : Int32)), .val (.int ((65535 : Int32) ^^^ ((1 : Int32) <<< ((((p0.toUInt32 >>> ((2 : Int32) &&& 31).toUInt32).toInt32) &&& (31 : Int32)) &&& 31)))), .val (.ref b21), .unset, .unset] [(.int ((65535 : Int32) ^^^ ((1 : Int32) <<< ((((p0.toUInt32 >>> ((2 : Int32) &&& 31).toUInt32).toInt32) &&& (31 : Int32)) &&& 31)))), (.int (8 : Int32)), (.ref b21)])) rfl (by rw [hml]; rfl) (argsL := [(.ref b21), (.int (8 : Int32)), (.int ((65535 : Int32) ^^^ ((1 : Int32) <<< ((((p0.toUInt32 >>> ((2 : Int32) &&& 31).toUInt32).toInt32) &&& (31 : Int32)) &&& 31))))]) (rest := []) (lenOf pd_0 rfl) rfl (by show 2 * 0 + _ ≤ _; exact Nat.le_of_eq rfl) (hb hby at_106) (fun _ _ => ⟨rfl, rfl, (by decide : 1 + 0 ≤ _), (by decide : 16 + 0 ≤ _)⟩)
      dsimp only [Pt.U, Pt.locs, Pt.cells, Pt.slots] at X26 l26 y26 z26 st26 hQ26
      subst l26 y26 z26
      obtain ⟨rfl, N26q, K26, ⟨kG27, G27⟩⟩ := hQ26
      have Z26 := Nat.le_trans Z24 K26.1
      have N26 := Fr.app N24 N26q
      obtain ⟨_, _, ⟨T28, L28, k28, n28⟩, -, X28, ⟨Lc28, hQ28, l28, y28, z28⟩, st28⟩ := Jvm.LawKit.callS X26 hx (y := (⟨"com/example/flytrap/flytrap/net/IpAddressIsIpv6PinLaw", "put", "([BII)V"⟩ : MethodName)) hown (mvT hZ (hw _ (List.mem_of_getElem? (i := 1) rfl))) (mvT hZ (hw _ (List.mem_of_getElem? (i := 2) rfl))) (mvT hZ (hw _ (List.mem_of_getElem? (i := 3) rfl))) (mvT hZ (hw _ (List.mem_of_getElem? (i := 4) rfl))) (by decide) (backOf (W := 0) (rm1_16_12 l Z a0 hw [] b21 p4 _ _ _ _ _ _ _ _ _ _ _ _ _ _ _ _ _ T26.heap n0 Z26 G27 g_b21) hZ (hw _ (List.mem_of_getElem? (i := 4) rfl)) (hw _ (List.mem_of_getElem? (i := 3) rfl)) (by decide) (by decide)) (g := (mkF m 115 #[.val (.int p0), .val (.int p1), .val (.int p2), .val (.int p3), .val (.int p4), .val (.int (p0 &&& (3 : Int32))), .val (.int (0 : Int32)), .val (.int (0 : Int32)), .val (.int ((65535 : Int32) ^^^ ((1 : Int32) <<< ((((p0.toUInt32 >>> ((2 : Int32) &&& 31).toUInt32).toInt32) &&& (31 : Int32)) &&& 31)))), .val (.ref b21), .unset, .unset] [(.int p4), (.int (12 : Int32)), (.ref b21)])) rfl (by rw [hml]; rfl) (argsL := [(.ref b21), (.int (12 : Int32)), (.int p4)]) (rest := []) (lenOf pd_0 rfl) rfl (by show 2 * 0 + _ ≤ _; exact Nat.le_of_eq rfl) (hb hby at_115) (fun _ _ => ⟨rfl, rfl, (by decide : 1 + 0 ≤ _), (by decide : 16 + 0 ≤ _)⟩)
      dsimp only [Pt.U, Pt.locs, Pt.cells, Pt.slots] at X28 l28 y28 z28 st28 hQ28
      subst l28 y28 z28
      obtain ⟨rfl, N28q, K28, ⟨kG29, G29⟩⟩ := hQ28
      have Z28 := Nat.le_trans Z26 K28.1
      have N28 := Fr.app N26 N28q
      have hc132 : ¬ (((65535 : Int32) ^^^ ((1 : Int32) <<< ((((p0.toUInt32 >>> ((2 : Int32) &&& 31).toUInt32).toInt32) &&& (31 : Int32)) &&& 31))) = (65535 : Int32)) := own_flip _
      obtain ⟨T30, h30, X30, e30, E30, A30, D30, -, st30⟩ := newO X28 hx hZ hown (hw _ (List.mem_of_getElem? (i := 5) rfl)) (hw _ (List.mem_of_getElem? (i := 6) rfl)) (hw _ (List.mem_of_getElem? (i := 7) rfl)) rfl (g := (mkF m 159 #[.val (.int p0), .val (.int p1), .val (.int p2), .val (.int p3), .val (.int p4), .val (.int (p0 &&& (3 : Int32))), .val (.int (0 : Int32)), .val (.int (0 : Int32)), .val (.int ((65535 : Int32) ^^^ ((1 : Int32) <<< ((((p0.toUInt32 >>> ((2 : Int32) &&& 31).toUInt32).toInt32) &&& (31 : Int32)) &&& 31)))), .val (.ref b21), .val (.int (0 : Int32)), .val (.int (1 : Int32))] [])) rfl (hb hby at_159) (by decide) (by decide)
      obtain ⟨b30, g30⟩ : ∃ z, z = T28.heap.size := ⟨_, rfl⟩
      rw [← g30] at A30 D30 st30
      have ne_b21_b30 : b21 ≠ b30 := Nat.ne_of_lt (Nat.lt_of_lt_of_le G29.lt (Nat.le_of_eq g30.symm))
      have vV31 := G29.ext E30
      have g_b30 : n0 ≤ b30 := Nat.le_trans Z28 (Nat.le_of_eq g30.symm)
      have Z30 := Nat.le_trans Z28 E30.1
      have fF32 : Fld Z h30 b30 "com/example/flytrap/flytrap/net/IpAddress" "bytes" "[B" .null := D30 (Or.inr (hw _ (List.mem_of_getElem? (i := 18) rfl))) (ty := (.array .byte)) (by decide)
      have hp33 : (F4_16 (nar .byte ((((0 : Int32).toUInt32 >>> ((24 : Int32) &&& 31).toUInt32).toInt32).toInt8.toInt32)) (nar .byte ((((0 : Int32).toUInt32 >>> ((16 : Int32) &&& 31).toUInt32).toInt32).toInt8.toInt32)) (nar .byte ((((0 : Int32).toUInt32 >>> ((8 : Int32) &&& 31).toUInt32).toInt32).toInt8.toInt32)) (nar .byte ((0 : Int32).toInt8.toInt32)) (nar .byte ((((0 : Int32).toUInt32 >>> ((24 : Int32) &&& 31).toUInt32).toInt32).toInt8.toInt32)) (nar .byte ((((0 : Int32).toUInt32 >>> ((16 : Int32) &&& 31).toUInt32).toInt32).toInt8.toInt32)) (nar .byte ((((0 : Int32).toUInt32 >>> ((8 : Int32) &&& 31).toUInt32).toInt32).toInt8.toInt32)) (nar .byte ((0 : Int32).toInt8.toInt32)) (nar .byte (((((65535 : Int32) ^^^ ((1 : Int32) <<< ((((p0.toUInt32 >>> ((2 : Int32) &&& 31).toUInt32).toInt32) &&& (31 : Int32)) &&& 31))).toUInt32 >>> ((24 : Int32) &&& 31).toUInt32).toInt32).toInt8.toInt32)) (nar .byte (((((65535 : Int32) ^^^ ((1 : Int32) <<< ((((p0.toUInt32 >>> ((2 : Int32) &&& 31).toUInt32).toInt32) &&& (31 : Int32)) &&& 31))).toUInt32 >>> ((16 : Int32) &&& 31).toUInt32).toInt32).toInt8.toInt32)) (nar .byte (((((65535 : Int32) ^^^ ((1 : Int32) <<< ((((p0.toUInt32 >>> ((2 : Int32) &&& 31).toUInt32).toInt32) &&& (31 : Int32)) &&& 31))).toUInt32 >>> ((8 : Int32) &&& 31).toUInt32).toInt32).toInt8.toInt32)) (nar .byte (((65535 : Int32) ^^^ ((1 : Int32) <<< ((((p0.toUInt32 >>> ((2 : Int32) &&& 31).toUInt32).toInt32) &&& (31 : Int32)) &&& 31))).toInt8.toInt32))) = (0 : Int32) := own_map0 (fun q => own_flip _ q.2.2)
      obtain ⟨_, _, ⟨T34, L34, k34, n34⟩, -, X34, ⟨Lc34, hQ34, l34, y34, z34⟩, st34⟩ := X30.specialBack hx (y := (⟨"com/example/flytrap/flytrap/net/IpAddress", "<init>", "([B)V"⟩ : MethodName)) rfl hown (mvT hZ (hw _ (List.mem_of_getElem? (i := 8) rfl))) (mvT hZ (hw _ (List.mem_of_getElem? (i := 9) rfl))) (mvT hZ (hw _ (List.mem_of_getElem? (i := 10) rfl))) (by decide) (backOf (W := 1) (rm2_16n l Z a0 hw [] b30 b21 _ _ _ _ _ _ _ _ _ _ _ _ _ _ _ _ _ .null h30 n0 Z30 vV31 fF32 A30 g_b30 ne_b21_b30 hp33) hZ (hw _ (List.mem_of_getElem? (i := 10) rfl)) (hw _ (List.mem_of_getElem? (i := 7) rfl)) (by decide) (by decide)) (g := (mkF m 165 #[.val (.int p0), .val (.int p1), .val (.int p2), .val (.int p3), .val (.int p4), .val (.int (p0 &&& (3 : Int32))), .val (.int (0 : Int32)), .val (.int (0 : Int32)), .val (.int ((65535 : Int32) ^^^ ((1 : Int32) <<< ((((p0.toUInt32 >>> ((2 : Int32) &&& 31).toUInt32).toInt32) &&& (31 : Int32)) &&& 31)))), .val (.ref b21), .val (.int (0 : Int32)), .val (.int (1 : Int32))] [(.ref b21), (.ref b30), (.ref b30)])) rfl (by rw [hml]; rfl) (Steps.refl _) (a := b30) (argsL := [(.ref b21)]) (rest := [(.ref b30)]) (lenOf pd_5 rfl) rfl (by show 2 * 0 + _ ≤ _; exact Nat.le_of_eq rfl) (hb hby at_165) (fun _ _ => ⟨rfl, e30, (by decide : 2 + 0 ≤ _), (by decide : 17 + 0 ≤ _)⟩)
      dsimp only [Pt.U, Pt.locs, Pt.cells, Pt.slots] at X34 l34 y34 z34 st34 hQ34
      subst l34 y34 z34
      obtain ⟨rfl, N34q, K34, G35, G36⟩ := hQ34
      have vV37 := vV31.keep K34 (ninS ne_b21_b30 nin0)
      have Z34 := Nat.le_trans Z30 K34.1
      have N34 := Fr.app N28 N34q
      obtain ⟨cq38, kq38, q38a, q38b, q38c⟩ := isOf hZ rfl G35
      obtain ⟨_, _, ⟨T38, L38, k38, n38⟩, -, X38, ⟨Lc38, hQ38, l38, y38, z38⟩, st38⟩ := X34.virtualBack hx (y := (⟨"com/example/flytrap/flytrap/net/IpAddress", "isIpv6", "()Z"⟩ : MethodName)) (z := (⟨"com/example/flytrap/flytrap/net/IpAddress", "isIpv6", "()Z"⟩ : MethodName)) hown (mvT hZ (hw _ (List.mem_of_getElem? (i := 19) rfl))) (mvT hZ (hw _ (List.mem_of_getElem? (i := 20) rfl))) (notFace_of_selects (args := #[]) (mvT hZ (hw _ (List.mem_of_getElem? (i := 22) rfl)))) (mvT hZ (hw _ (List.mem_of_getElem? (i := 22) rfl))) (mvT hZ (hw _ (List.mem_of_getElem? (i := 21) rfl))) (by decide) (backOf (W := 0) (rm5 l Z a0 hw [] b30 b21 (16 : Int32) T34.heap n0 Z34 G36 ⟨_, _, _, vV37⟩) hZ (hw _ (List.mem_of_getElem? (i := 23) rfl)) (hw _ (List.mem_of_getElem? (i := 7) rfl)) (by decide) (by decide)) q38a q38c (g := (mkF m 168 #[.val (.int p0), .val (.int p1), .val (.int p2), .val (.int p3), .val (.int p4), .val (.int (p0 &&& (3 : Int32))), .val (.int (0 : Int32)), .val (.int (0 : Int32)), .val (.int ((65535 : Int32) ^^^ ((1 : Int32) <<< ((((p0.toUInt32 >>> ((2 : Int32) &&& 31).toUInt32).toInt32) &&& (31 : Int32)) &&& 31)))), .val (.ref b21), .val (.int (0 : Int32)), .val (.int (1 : Int32))] [(.ref b30)])) rfl (by rw [hml]; rfl) (Steps.refl _) (argsL := []) (rest := []) (lenOf pd_6 rfl) rfl (by show 2 * 0 + _ ≤ _; exact Nat.le_of_eq rfl) (hb hby at_168) (fun _ _ => ⟨rfl, rfl, (by decide : 2 + 0 ≤ _), (by decide : 17 + 0 ≤ _)⟩)
      dsimp only [Pt.U, Pt.locs, Pt.cells, Pt.slots] at X38 l38 y38 z38 st38 hQ38
      subst l38 y38 z38
      obtain ⟨rfl, N38q, e38⟩ := hQ38
      have N38 := Fr.app N34 N38q
      have hc173 : (F5 (16 : Int32)) = (1 : Int32) := by decide
      obtain ⟨fs, hr, hrun, hended, hW, hsame⟩ := X38.leave (v := some (.int (1 : Int32))) (fun h => by rw [Bd.returns] at h; cases h) (BodyLoose.notSynchronized Bd)
      refine ⟨_, _, pre20 _ ?_, hrun, hended, _, _, rfl, ?_, ⟨_, rfl⟩, hW, hsame.mono (by decide) (by decide)⟩
      · show Steps p.tables e below (s₁.setTop (mkF m 36 #[.val (.int p0), .val (.int p1), .val (.int p2), .val (.int p3), .val (.int p4), .val (.int (p0 &&& (3 : Int32))), .val (.int p1), .val (.int p2), .val (.int p3), .unset, .unset, .unset] [(.int (2 : Int32)), (.int (p0 &&& (3 : Int32)))])) _
        refine XS.icmpNo X0.here hx rfl (hb hby at_36) rfl (teq hc36).2 ?_
        show Steps p.tables e below (s₁.setTop (mkF m 39 #[.val (.int p0), .val (.int p1), .val (.int p2), .val (.int p3), .val (.int p4), .val (.int (p0 &&& (3 : Int32))), .val (.int p1), .val (.int p2), .val (.int p3), .unset, .unset, .unset] [])) _
        refine XS.iconst X0.here hx rfl (hb hby at_39) ?_
        show Steps p.tables e below (s₁.setTop (mkF m 40 #[.val (.int p0), .val (.int p1), .val (.int p2), .val (.int p3), .val (.int p4), .val (.int (p0 &&& (3 : Int32))), .val (.int p1), .val (.int p2), .val (.int p3), .unset, .unset, .unset] [(.int (0 : Int32))])) _
        refine XS.istore X0.here hx rfl (hb hby at_40) rfl (l' := #[.val (.int p0), .val (.int p1), .val (.int p2), .val (.int p3), .val (.int p4), .val (.int (p0 &&& (3 : Int32))), .val (.int (0 : Int32)), .val (.int p2), .val (.int p3), .unset, .unset, .unset]) rfl ?_
        show Steps p.tables e below (s₁.setTop (mkF m 42 #[.val (.int p0), .val (.int p1), .val (.int p2), .val (.int p3), .val (.int p4), .val (.int (p0 &&& (3 : Int32))), .val (.int (0 : Int32)), .val (.int p2), .val (.int p3), .unset, .unset, .unset] [])) _
        refine XS.iconst X0.here hx rfl (hb hby at_42) ?_
        show Steps p.tables e below (s₁.setTop (mkF m 43 #[.val (.int p0), .val (.int p1), .val (.int p2), .val (.int p3), .val (.int p4), .val (.int (p0 &&& (3 : Int32))), .val (.int (0 : Int32)), .val (.int p2), .val (.int p3), .unset, .unset, .unset] [(.int (0 : Int32))])) _
        refine XS.istore X0.here hx rfl (hb hby at_43) rfl (l' := #[.val (.int p0), .val (.int p1), .val (.int p2), .val (.int p3), .val (.int p4), .val (.int (p0 &&& (3 : Int32))), .val (.int (0 : Int32)), .val (.int (0 : Int32)), .val (.int p3), .unset, .unset, .unset]) rfl ?_
        show Steps p.tables e below (s₁.setTop (mkF m 45 #[.val (.int p0), .val (.int p1), .val (.int p2), .val (.int p3), .val (.int p4), .val (.int (p0 &&& (3 : Int32))), .val (.int (0 : Int32)), .val (.int (0 : Int32)), .val (.int p3), .unset, .unset, .unset] [])) _
        refine X0.ldcInt hx hown (mvT hZ (hw _ (List.mem_of_getElem? (i := 24) rfl))) (g := (mkF m 45 #[.val (.int p0), .val (.int p1), .val (.int p2), .val (.int p3), .val (.int p4), .val (.int (p0 &&& (3 : Int32))), .val (.int (0 : Int32)), .val (.int (0 : Int32)), .val (.int p3), .unset, .unset, .unset] [])) rfl (hb hby at_45) _ ?_
        show Steps p.tables e below (s₁.setTop (mkF m 47 #[.val (.int p0), .val (.int p1), .val (.int p2), .val (.int p3), .val (.int p4), .val (.int (p0 &&& (3 : Int32))), .val (.int (0 : Int32)), .val (.int (0 : Int32)), .val (.int p3), .unset, .unset, .unset] [(.int (65535 : Int32))])) _
        refine XS.iconst X0.here hx rfl (hb hby at_47) ?_
        show Steps p.tables e below (s₁.setTop (mkF m 48 #[.val (.int p0), .val (.int p1), .val (.int p2), .val (.int p3), .val (.int p4), .val (.int (p0 &&& (3 : Int32))), .val (.int (0 : Int32)), .val (.int (0 : Int32)), .val (.int p3), .unset, .unset, .unset] [(.int (1 : Int32)), (.int (65535 : Int32))])) _
        refine XS.iloadN X0.here hx rfl (hb hby at_48) rfl ?_
        show Steps p.tables e below (s₁.setTop (mkF m 49 #[.val (.int p0), .val (.int p1), .val (.int p2), .val (.int p3), .val (.int p4), .val (.int (p0 &&& (3 : Int32))), .val (.int (0 : Int32)), .val (.int (0 : Int32)), .val (.int p3), .unset, .unset, .unset] [(.int p0), (.int (1 : Int32)), (.int (65535 : Int32))])) _
        refine XS.iconst X0.here hx rfl (hb hby at_49) ?_
        show Steps p.tables e below (s₁.setTop (mkF m 50 #[.val (.int p0), .val (.int p1), .val (.int p2), .val (.int p3), .val (.int p4), .val (.int (p0 &&& (3 : Int32))), .val (.int (0 : Int32)), .val (.int (0 : Int32)), .val (.int p3), .unset, .unset, .unset] [(.int (2 : Int32)), (.int p0), (.int (1 : Int32)), (.int (65535 : Int32))])) _
        refine XS.iushr X0.here hx rfl (hb hby at_50) rfl ?_
        show Steps p.tables e below (s₁.setTop (mkF m 51 #[.val (.int p0), .val (.int p1), .val (.int p2), .val (.int p3), .val (.int p4), .val (.int (p0 &&& (3 : Int32))), .val (.int (0 : Int32)), .val (.int (0 : Int32)), .val (.int p3), .unset, .unset, .unset] [(.int ((p0.toUInt32 >>> ((2 : Int32) &&& 31).toUInt32).toInt32)), (.int (1 : Int32)), (.int (65535 : Int32))])) _
        refine XS.bipush X0.here hx rfl (hb hby at_51) ?_
        show Steps p.tables e below (s₁.setTop (mkF m 53 #[.val (.int p0), .val (.int p1), .val (.int p2), .val (.int p3), .val (.int p4), .val (.int (p0 &&& (3 : Int32))), .val (.int (0 : Int32)), .val (.int (0 : Int32)), .val (.int p3), .unset, .unset, .unset] [(.int (31 : Int32)), (.int ((p0.toUInt32 >>> ((2 : Int32) &&& 31).toUInt32).toInt32)), (.int (1 : Int32)), (.int (65535 : Int32))])) _
        refine XS.iand X0.here hx rfl (hb hby at_53) rfl ?_
        show Steps p.tables e below (s₁.setTop (mkF m 54 #[.val (.int p0), .val (.int p1), .val (.int p2), .val (.int p3), .val (.int p4), .val (.int (p0 &&& (3 : Int32))), .val (.int (0 : Int32)), .val (.int (0 : Int32)), .val (.int p3), .unset, .unset, .unset] [(.int (((p0.toUInt32 >>> ((2 : Int32) &&& 31).toUInt32).toInt32) &&& (31 : Int32))), (.int (1 : Int32)), (.int (65535 : Int32))])) _
        refine XS.ishl X0.here hx rfl (hb hby at_54) rfl ?_
        show Steps p.tables e below (s₁.setTop (mkF m 55 #[.val (.int p0), .val (.int p1), .val (.int p2), .val (.int p3), .val (.int p4), .val (.int (p0 &&& (3 : Int32))), .val (.int (0 : Int32)), .val (.int (0 : Int32)), .val (.int p3), .unset, .unset, .unset] [(.int ((1 : Int32) <<< ((((p0.toUInt32 >>> ((2 : Int32) &&& 31).toUInt32).toInt32) &&& (31 : Int32)) &&& 31))), (.int (65535 : Int32))])) _
        refine XS.ixor X0.here hx rfl (hb hby at_55) rfl ?_
        show Steps p.tables e below (s₁.setTop (mkF m 56 #[.val (.int p0), .val (.int p1), .val (.int p2), .val (.int p3), .val (.int p4), .val (.int (p0 &&& (3 : Int32))), .val (.int (0 : Int32)), .val (.int (0 : Int32)), .val (.int p3), .unset, .unset, .unset] [(.int ((65535 : Int32) ^^^ ((1 : Int32) <<< ((((p0.toUInt32 >>> ((2 : Int32) &&& 31).toUInt32).toInt32) &&& (31 : Int32)) &&& 31))))])) _
        refine XS.istore X0.here hx rfl (hb hby at_56) rfl (l' := #[.val (.int p0), .val (.int p1), .val (.int p2), .val (.int p3), .val (.int p4), .val (.int (p0 &&& (3 : Int32))), .val (.int (0 : Int32)), .val (.int (0 : Int32)), .val (.int ((65535 : Int32) ^^^ ((1 : Int32) <<< ((((p0.toUInt32 >>> ((2 : Int32) &&& 31).toUInt32).toInt32) &&& (31 : Int32)) &&& 31)))), .unset, .unset, .unset]) rfl ?_
        show Steps p.tables e below (s₁.setTop (mkF m 58 #[.val (.int p0), .val (.int p1), .val (.int p2), .val (.int p3), .val (.int p4), .val (.int (p0 &&& (3 : Int32))), .val (.int (0 : Int32)), .val (.int (0 : Int32)), .val (.int ((65535 : Int32) ^^^ ((1 : Int32) <<< ((((p0.toUInt32 >>> ((2 : Int32) &&& 31).toUInt32).toInt32) &&& (31 : Int32)) &&& 31)))), .unset, .unset, .unset] [])) _
        refine XS.iload X0.here hx rfl (hb hby at_58) rfl ?_
        show Steps p.tables e below (s₁.setTop (mkF m 60 #[.val (.int p0), .val (.int p1), .val (.int p2), .val (.int p3), .val (.int p4), .val (.int (p0 &&& (3 : Int32))), .val (.int (0 : Int32)), .val (.int (0 : Int32)), .val (.int ((65535 : Int32) ^^^ ((1 : Int32) <<< ((((p0.toUInt32 >>> ((2 : Int32) &&& 31).toUInt32).toInt32) &&& (31 : Int32)) &&& 31)))), .unset, .unset, .unset] [(.int (p0 &&& (3 : Int32)))])) _
        refine XS.ifYes X0.here hx rfl (pc0 := 60) (pc' := 78) rfl (hb hby at_60) rfl ((if0 _ _).trans (feq hc60).2) (by decide) (by decide) ?_
        show Steps p.tables e below (s₁.setTop (mkF m 78 #[.val (.int p0), .val (.int p1), .val (.int p2), .val (.int p3), .val (.int p4), .val (.int (p0 &&& (3 : Int32))), .val (.int (0 : Int32)), .val (.int (0 : Int32)), .val (.int ((65535 : Int32) ^^^ ((1 : Int32) <<< ((((p0.toUInt32 >>> ((2 : Int32) &&& 31).toUInt32).toInt32) &&& (31 : Int32)) &&& 31)))), .unset, .unset, .unset] [])) _
        refine XS.bipush X0.here hx rfl (hb hby at_78) ?_
        show Steps p.tables e below (s₁.setTop (mkF m 80 #[.val (.int p0), .val (.int p1), .val (.int p2), .val (.int p3), .val (.int p4), .val (.int (p0 &&& (3 : Int32))), .val (.int (0 : Int32)), .val (.int (0 : Int32)), .val (.int ((65535 : Int32) ^^^ ((1 : Int32) <<< ((((p0.toUInt32 >>> ((2 : Int32) &&& 31).toUInt32).toInt32) &&& (31 : Int32)) &&& 31)))), .unset, .unset, .unset] [(.int (16 : Int32))])) _
        refine st21 _ ?_
        show Steps p.tables e below (T21.setTop (mkF m 82 #[.val (.int p0), .val (.int p1), .val (.int p2), .val (.int p3), .val (.int p4), .val (.int (p0 &&& (3 : Int32))), .val (.int (0 : Int32)), .val (.int (0 : Int32)), .val (.int ((65535 : Int32) ^^^ ((1 : Int32) <<< ((((p0.toUInt32 >>> ((2 : Int32) &&& 31).toUInt32).toInt32) &&& (31 : Int32)) &&& 31)))), .unset, .unset, .unset] [(.ref b21)])) _
        refine XS.astore X21.here hx rfl (hb hby at_82) rfl rfl (l' := #[.val (.int p0), .val (.int p1), .val (.int p2), .val (.int p3), .val (.int p4), .val (.int (p0 &&& (3 : Int32))), .val (.int (0 : Int32)), .val (.int (0 : Int32)), .val (.int ((65535 : Int32) ^^^ ((1 : Int32) <<< ((((p0.toUInt32 >>> ((2 : Int32) &&& 31).toUInt32).toInt32) &&& (31 : Int32)) &&& 31)))), .val (.ref b21), .unset, .unset]) rfl ?_
        show Steps p.tables e below (T21.setTop (mkF m 84 #[.val (.int p0), .val (.int p1), .val (.int p2), .val (.int p3), .val (.int p4), .val (.int (p0 &&& (3 : Int32))), .val (.int (0 : Int32)), .val (.int (0 : Int32)), .val (.int ((65535 : Int32) ^^^ ((1 : Int32) <<< ((((p0.toUInt32 >>> ((2 : Int32) &&& 31).toUInt32).toInt32) &&& (31 : Int32)) &&& 31)))), .val (.ref b21), .unset, .unset] [])) _
        refine XS.aload X21.here hx rfl (hb hby at_84) rfl rfl ?_
        show Steps p.tables e below (T21.setTop (mkF m 86 #[.val (.int p0), .val (.int p1), .val (.int p2), .val (.int p3), .val (.int p4), .val (.int (p0 &&& (3 : Int32))), .val (.int (0 : Int32)), .val (.int (0 : Int32)), .val (.int ((65535 : Int32) ^^^ ((1 : Int32) <<< ((((p0.toUInt32 >>> ((2 : Int32) &&& 31).toUInt32).toInt32) &&& (31 : Int32)) &&& 31)))), .val (.ref b21), .unset, .unset] [(.ref b21)])) _
        refine XS.iconst X21.here hx rfl (hb hby at_86) ?_
        show Steps p.tables e below (T21.setTop (mkF m 87 #[.val (.int p0), .val (.int p1), .val (.int p2), .val (.int p3), .val (.int p4), .val (.int (p0 &&& (3 : Int32))), .val (.int (0 : Int32)), .val (.int (0 : Int32)), .val (.int ((65535 : Int32) ^^^ ((1 : Int32) <<< ((((p0.toUInt32 >>> ((2 : Int32) &&& 31).toUInt32).toInt32) &&& (31 : Int32)) &&& 31)))), .val (.ref b21), .unset, .unset] [(.int (0 : Int32)), (.ref b21)])) _
        refine XS.iload X21.here hx rfl (hb hby at_87) rfl ?_
        show Steps p.tables e below (T21.setTop (mkF m 89 #[.val (.int p0), .val (.int p1), .val (.int p2), .val (.int p3), .val (.int p4), .val (.int (p0 &&& (3 : Int32))), .val (.int (0 : Int32)), .val (.int (0 : Int32)), .val (.int ((65535 : Int32) ^^^ ((1 : Int32) <<< ((((p0.toUInt32 >>> ((2 : Int32) &&& 31).toUInt32).toInt32) &&& (31 : Int32)) &&& 31)))), .val (.ref b21), .unset, .unset] [(.int (0 : Int32)), (.int (0 : Int32)), (.ref b21)])) _
        refine st22 _ ?_
        show Steps p.tables e below (T22.setTop (mkF m 92 #[.val (.int p0), .val (.int p1), .val (.int p2), .val (.int p3), .val (.int p4), .val (.int (p0 &&& (3 : Int32))), .val (.int (0 : Int32)), .val (.int (0 : Int32)), .val (.int ((65535 : Int32) ^^^ ((1 : Int32) <<< ((((p0.toUInt32 >>> ((2 : Int32) &&& 31).toUInt32).toInt32) &&& (31 : Int32)) &&& 31)))), .val (.ref b21), .unset, .unset] [])) _
        refine XS.aload X22.here hx rfl (hb hby at_92) rfl rfl ?_
        show Steps p.tables e below (T22.setTop (mkF m 94 #[.val (.int p0), .val (.int p1), .val (.int p2), .val (.int p3), .val (.int p4), .val (.int (p0 &&& (3 : Int32))), .val (.int (0 : Int32)), .val (.int (0 : Int32)), .val (.int ((65535 : Int32) ^^^ ((1 : Int32) <<< ((((p0.toUInt32 >>> ((2 : Int32) &&& 31).toUInt32).toInt32) &&& (31 : Int32)) &&& 31)))), .val (.ref b21), .unset, .unset] [(.ref b21)])) _
        refine XS.iconst X22.here hx rfl (hb hby at_94) ?_
        show Steps p.tables e below (T22.setTop (mkF m 95 #[.val (.int p0), .val (.int p1), .val (.int p2), .val (.int p3), .val (.int p4), .val (.int (p0 &&& (3 : Int32))), .val (.int (0 : Int32)), .val (.int (0 : Int32)), .val (.int ((65535 : Int32) ^^^ ((1 : Int32) <<< ((((p0.toUInt32 >>> ((2 : Int32) &&& 31).toUInt32).toInt32) &&& (31 : Int32)) &&& 31)))), .val (.ref b21), .unset, .unset] [(.int (4 : Int32)), (.ref b21)])) _
        refine XS.iload X22.here hx rfl (hb hby at_95) rfl ?_
        show Steps p.tables e below (T22.setTop (mkF m 97 #[.val (.int p0), .val (.int p1), .val (.int p2), .val (.int p3), .val (.int p4), .val (.int (p0 &&& (3 : Int32))), .val (.int (0 : Int32)), .val (.int (0 : Int32)), .val (.int ((65535 : Int32) ^^^ ((1 : Int32) <<< ((((p0.toUInt32 >>> ((2 : Int32) &&& 31).toUInt32).toInt32) &&& (31 : Int32)) &&& 31)))), .val (.ref b21), .unset, .unset] [(.int (0 : Int32)), (.int (4 : Int32)), (.ref b21)])) _
        refine st24 _ ?_
        show Steps p.tables e below (T24.setTop (mkF m 100 #[.val (.int p0), .val (.int p1), .val (.int p2), .val (.int p3), .val (.int p4), .val (.int (p0 &&& (3 : Int32))), .val (.int (0 : Int32)), .val (.int (0 : Int32)), .val (.int ((65535 : Int32) ^^^ ((1 : Int32) <<< ((((p0.toUInt32 >>> ((2 : Int32) &&& 31).toUInt32).toInt32) &&& (31 : Int32)) &&& 31)))), .val (.ref b21), .unset, .unset] [])) _
        refine XS.aload X24.here hx rfl (hb hby at_100) rfl rfl ?_
        show Steps p.tables e below (T24.setTop (mkF m 102 #[.val (.int p0), .val (.int p1), .val (.int p2), .val (.int p3), .val (.int p4), .val (.int (p0 &&& (3 : Int32))), .val (.int (0 : Int32)), .val (.int (0 : Int32)), .val (.int ((65535 : Int32) ^^^ ((1 : Int32) <<< ((((p0.toUInt32 >>> ((2 : Int32) &&& 31).toUInt32).toInt32) &&& (31 : Int32)) &&& 31)))), .val (.ref b21), .unset, .unset] [(.ref b21)])) _
        refine XS.bipush X24.here hx rfl (hb hby at_102) ?_
        show Steps p.tables e below (T24.setTop (mkF m 104 #[.val (.int p0), .val (.int p1), .val (.int p2), .val (.int p3), .val (.int p4), .val (.int (p0 &&& (3 : Int32))), .val (.int (0 : Int32)), .val (.int (0 : Int32)), .val (.int ((65535 : Int32) ^^^ ((1 : Int32) <<< ((((p0.toUInt32 >>> ((2 : Int32) &&& 31).toUInt32).toInt32) &&& (31 : Int32)) &&& 31)))), .val (.ref b21), .unset, .unset] [(.int (8 : Int32)), (.ref b21)])) _
        refine XS.iload X24.here hx rfl (hb hby at_104) rfl ?_
        show Steps p.tables e below (T24.setTop (mkF m 106 #[.val (.int p0), .val (.int p1), .val (.int p2), .val (.int p3), .val (.int p4), .val (.int (p0 &&& (3 : Int32))), .val (.int (0 : Int32)), .val (.int (0 : Int32)), .val (.int ((65535 : Int32) ^^^ ((1 : Int32) <<< ((((p0.toUInt32 >>> ((2 : Int32) &&& 31).toUInt32).toInt32) &&& (31 : Int32)) &&& 31)))), .val (.ref b21), .unset, .unset] [(.int ((65535 : Int32) ^^^ ((1 : Int32) <<< ((((p0.toUInt32 >>> ((2 : Int32) &&& 31).toUInt32).toInt32) &&& (31 : Int32)) &&& 31)))), (.int (8 : Int32)), (.ref b21)])) _
        refine st26 _ ?_
        show Steps p.tables e below (T26.setTop (mkF m 109 #[.val (.int p0), .val (.int p1), .val (.int p2), .val (.int p3), .val (.int p4), .val (.int (p0 &&& (3 : Int32))), .val (.int (0 : Int32)), .val (.int (0 : Int32)), .val (.int ((65535 : Int32) ^^^ ((1 : Int32) <<< ((((p0.toUInt32 >>> ((2 : Int32) &&& 31).toUInt32).toInt32) &&& (31 : Int32)) &&& 31)))), .val (.ref b21), .unset, .unset] [])) _
        refine XS.aload X26.here hx rfl (hb hby at_109) rfl rfl ?_
        show Steps p.tables e below (T26.setTop (mkF m 111 #[.val (.int p0), .val (.int p1), .val (.int p2), .val (.int p3), .val (.int p4), .val (.int (p0 &&& (3 : Int32))), .val (.int (0 : Int32)), .val (.int (0 : Int32)), .val (.int ((65535 : Int32) ^^^ ((1 : Int32) <<< ((((p0.toUInt32 >>> ((2 : Int32) &&& 31).toUInt32).toInt32) &&& (31 : Int32)) &&& 31)))), .val (.ref b21), .unset, .unset] [(.ref b21)])) _
        refine XS.bipush X26.here hx rfl (hb hby at_111) ?_
        show Steps p.tables e below (T26.setTop (mkF m 113 #[.val (.int p0), .val (.int p1), .val (.int p2), .val (.int p3), .val (.int p4), .val (.int (p0 &&& (3 : Int32))), .val (.int (0 : Int32)), .val (.int (0 : Int32)), .val (.int ((65535 : Int32) ^^^ ((1 : Int32) <<< ((((p0.toUInt32 >>> ((2 : Int32) &&& 31).toUInt32).toInt32) &&& (31 : Int32)) &&& 31)))), .val (.ref b21), .unset, .unset] [(.int (12 : Int32)), (.ref b21)])) _
        refine XS.iload X26.here hx rfl (hb hby at_113) rfl ?_
        show Steps p.tables e below (T26.setTop (mkF m 115 #[.val (.int p0), .val (.int p1), .val (.int p2), .val (.int p3), .val (.int p4), .val (.int (p0 &&& (3 : Int32))), .val (.int (0 : Int32)), .val (.int (0 : Int32)), .val (.int ((65535 : Int32) ^^^ ((1 : Int32) <<< ((((p0.toUInt32 >>> ((2 : Int32) &&& 31).toUInt32).toInt32) &&& (31 : Int32)) &&& 31)))), .val (.ref b21), .unset, .unset] [(.int p4), (.int (12 : Int32)), (.ref b21)])) _
        refine st28 _ ?_
        show Steps p.tables e below (T28.setTop (mkF m 118 #[.val (.int p0), .val (.int p1), .val (.int p2), .val (.int p3), .val (.int p4), .val (.int (p0 &&& (3 : Int32))), .val (.int (0 : Int32)), .val (.int (0 : Int32)), .val (.int ((65535 : Int32) ^^^ ((1 : Int32) <<< ((((p0.toUInt32 >>> ((2 : Int32) &&& 31).toUInt32).toInt32) &&& (31 : Int32)) &&& 31)))), .val (.ref b21), .unset, .unset] [])) _
        refine XS.iload X28.here hx rfl (hb hby at_118) rfl ?_
        show Steps p.tables e below (T28.setTop (mkF m 120 #[.val (.int p0), .val (.int p1), .val (.int p2), .val (.int p3), .val (.int p4), .val (.int (p0 &&& (3 : Int32))), .val (.int (0 : Int32)), .val (.int (0 : Int32)), .val (.int ((65535 : Int32) ^^^ ((1 : Int32) <<< ((((p0.toUInt32 >>> ((2 : Int32) &&& 31).toUInt32).toInt32) &&& (31 : Int32)) &&& 31)))), .val (.ref b21), .unset, .unset] [(.int (0 : Int32))])) _
        refine XS.ifNo X28.here hx rfl (hb hby at_120) rfl ((if0 _ _).trans (teq (by decide : (0 : Int32) = (0 : Int32))).2) ?_
        show Steps p.tables e below (T28.setTop (mkF m 123 #[.val (.int p0), .val (.int p1), .val (.int p2), .val (.int p3), .val (.int p4), .val (.int (p0 &&& (3 : Int32))), .val (.int (0 : Int32)), .val (.int (0 : Int32)), .val (.int ((65535 : Int32) ^^^ ((1 : Int32) <<< ((((p0.toUInt32 >>> ((2 : Int32) &&& 31).toUInt32).toInt32) &&& (31 : Int32)) &&& 31)))), .val (.ref b21), .unset, .unset] [])) _
        refine XS.iload X28.here hx rfl (hb hby at_123) rfl ?_
        show Steps p.tables e below (T28.setTop (mkF m 125 #[.val (.int p0), .val (.int p1), .val (.int p2), .val (.int p3), .val (.int p4), .val (.int (p0 &&& (3 : Int32))), .val (.int (0 : Int32)), .val (.int (0 : Int32)), .val (.int ((65535 : Int32) ^^^ ((1 : Int32) <<< ((((p0.toUInt32 >>> ((2 : Int32) &&& 31).toUInt32).toInt32) &&& (31 : Int32)) &&& 31)))), .val (.ref b21), .unset, .unset] [(.int (0 : Int32))])) _
        refine XS.ifNo X28.here hx rfl (hb hby at_125) rfl ((if0 _ _).trans (teq (by decide : (0 : Int32) = (0 : Int32))).2) ?_
        show Steps p.tables e below (T28.setTop (mkF m 128 #[.val (.int p0), .val (.int p1), .val (.int p2), .val (.int p3), .val (.int p4), .val (.int (p0 &&& (3 : Int32))), .val (.int (0 : Int32)), .val (.int (0 : Int32)), .val (.int ((65535 : Int32) ^^^ ((1 : Int32) <<< ((((p0.toUInt32 >>> ((2 : Int32) &&& 31).toUInt32).toInt32) &&& (31 : Int32)) &&& 31)))), .val (.ref b21), .unset, .unset] [])) _
        refine XS.iload X28.here hx rfl (hb hby at_128) rfl ?_
        show Steps p.tables e below (T28.setTop (mkF m 130 #[.val (.int p0), .val (.int p1), .val (.int p2), .val (.int p3), .val (.int p4), .val (.int (p0 &&& (3 : Int32))), .val (.int (0 : Int32)), .val (.int (0 : Int32)), .val (.int ((65535 : Int32) ^^^ ((1 : Int32) <<< ((((p0.toUInt32 >>> ((2 : Int32) &&& 31).toUInt32).toInt32) &&& (31 : Int32)) &&& 31)))), .val (.ref b21), .unset, .unset] [(.int ((65535 : Int32) ^^^ ((1 : Int32) <<< ((((p0.toUInt32 >>> ((2 : Int32) &&& 31).toUInt32).toInt32) &&& (31 : Int32)) &&& 31))))])) _
        refine X28.ldcInt hx hown (mvT hZ (hw _ (List.mem_of_getElem? (i := 24) rfl))) (g := (mkF m 130 #[.val (.int p0), .val (.int p1), .val (.int p2), .val (.int p3), .val (.int p4), .val (.int (p0 &&& (3 : Int32))), .val (.int (0 : Int32)), .val (.int (0 : Int32)), .val (.int ((65535 : Int32) ^^^ ((1 : Int32) <<< ((((p0.toUInt32 >>> ((2 : Int32) &&& 31).toUInt32).toInt32) &&& (31 : Int32)) &&& 31)))), .val (.ref b21), .unset, .unset] [(.int ((65535 : Int32) ^^^ ((1 : Int32) <<< ((((p0.toUInt32 >>> ((2 : Int32) &&& 31).toUInt32).toInt32) &&& (31 : Int32)) &&& 31))))])) rfl (hb hby at_130) _ ?_
        show Steps p.tables e below (T28.setTop (mkF m 132 #[.val (.int p0), .val (.int p1), .val (.int p2), .val (.int p3), .val (.int p4), .val (.int (p0 &&& (3 : Int32))), .val (.int (0 : Int32)), .val (.int (0 : Int32)), .val (.int ((65535 : Int32) ^^^ ((1 : Int32) <<< ((((p0.toUInt32 >>> ((2 : Int32) &&& 31).toUInt32).toInt32) &&& (31 : Int32)) &&& 31)))), .val (.ref b21), .unset, .unset] [(.int (65535 : Int32)), (.int ((65535 : Int32) ^^^ ((1 : Int32) <<< ((((p0.toUInt32 >>> ((2 : Int32) &&& 31).toUInt32).toInt32) &&& (31 : Int32)) &&& 31))))])) _
        refine XS.icmpYes X28.here hx rfl (pc0 := 132) (pc' := 139) rfl (hb hby at_132) rfl (feq hc132).2 (by decide) (by decide) ?_
        show Steps p.tables e below (T28.setTop (mkF m 139 #[.val (.int p0), .val (.int p1), .val (.int p2), .val (.int p3), .val (.int p4), .val (.int (p0 &&& (3 : Int32))), .val (.int (0 : Int32)), .val (.int (0 : Int32)), .val (.int ((65535 : Int32) ^^^ ((1 : Int32) <<< ((((p0.toUInt32 >>> ((2 : Int32) &&& 31).toUInt32).toInt32) &&& (31 : Int32)) &&& 31)))), .val (.ref b21), .unset, .unset] [])) _
        refine XS.iconst X28.here hx rfl (hb hby at_139) ?_
        show Steps p.tables e below (T28.setTop (mkF m 140 #[.val (.int p0), .val (.int p1), .val (.int p2), .val (.int p3), .val (.int p4), .val (.int (p0 &&& (3 : Int32))), .val (.int (0 : Int32)), .val (.int (0 : Int32)), .val (.int ((65535 : Int32) ^^^ ((1 : Int32) <<< ((((p0.toUInt32 >>> ((2 : Int32) &&& 31).toUInt32).toInt32) &&& (31 : Int32)) &&& 31)))), .val (.ref b21), .unset, .unset] [(.int (0 : Int32))])) _
        refine XS.istore X28.here hx rfl (hb hby at_140) rfl (l' := #[.val (.int p0), .val (.int p1), .val (.int p2), .val (.int p3), .val (.int p4), .val (.int (p0 &&& (3 : Int32))), .val (.int (0 : Int32)), .val (.int (0 : Int32)), .val (.int ((65535 : Int32) ^^^ ((1 : Int32) <<< ((((p0.toUInt32 >>> ((2 : Int32) &&& 31).toUInt32).toInt32) &&& (31 : Int32)) &&& 31)))), .val (.ref b21), .val (.int (0 : Int32)), .unset]) rfl ?_
        show Steps p.tables e below (T28.setTop (mkF m 142 #[.val (.int p0), .val (.int p1), .val (.int p2), .val (.int p3), .val (.int p4), .val (.int (p0 &&& (3 : Int32))), .val (.int (0 : Int32)), .val (.int (0 : Int32)), .val (.int ((65535 : Int32) ^^^ ((1 : Int32) <<< ((((p0.toUInt32 >>> ((2 : Int32) &&& 31).toUInt32).toInt32) &&& (31 : Int32)) &&& 31)))), .val (.ref b21), .val (.int (0 : Int32)), .unset] [])) _
        refine XS.iload X28.here hx rfl (hb hby at_142) rfl ?_
        show Steps p.tables e below (T28.setTop (mkF m 144 #[.val (.int p0), .val (.int p1), .val (.int p2), .val (.int p3), .val (.int p4), .val (.int (p0 &&& (3 : Int32))), .val (.int (0 : Int32)), .val (.int (0 : Int32)), .val (.int ((65535 : Int32) ^^^ ((1 : Int32) <<< ((((p0.toUInt32 >>> ((2 : Int32) &&& 31).toUInt32).toInt32) &&& (31 : Int32)) &&& 31)))), .val (.ref b21), .val (.int (0 : Int32)), .unset] [(.int (p0 &&& (3 : Int32)))])) _
        refine XS.ifNo X28.here hx rfl (hb hby at_144) rfl ((if0 _ _).trans (feq hc60).1) ?_
        show Steps p.tables e below (T28.setTop (mkF m 147 #[.val (.int p0), .val (.int p1), .val (.int p2), .val (.int p3), .val (.int p4), .val (.int (p0 &&& (3 : Int32))), .val (.int (0 : Int32)), .val (.int (0 : Int32)), .val (.int ((65535 : Int32) ^^^ ((1 : Int32) <<< ((((p0.toUInt32 >>> ((2 : Int32) &&& 31).toUInt32).toInt32) &&& (31 : Int32)) &&& 31)))), .val (.ref b21), .val (.int (0 : Int32)), .unset] [])) _
        refine XS.iload X28.here hx rfl (hb hby at_147) rfl ?_
        show Steps p.tables e below (T28.setTop (mkF m 149 #[.val (.int p0), .val (.int p1), .val (.int p2), .val (.int p3), .val (.int p4), .val (.int (p0 &&& (3 : Int32))), .val (.int (0 : Int32)), .val (.int (0 : Int32)), .val (.int ((65535 : Int32) ^^^ ((1 : Int32) <<< ((((p0.toUInt32 >>> ((2 : Int32) &&& 31).toUInt32).toInt32) &&& (31 : Int32)) &&& 31)))), .val (.ref b21), .val (.int (0 : Int32)), .unset] [(.int (0 : Int32))])) _
        refine XS.ifNo X28.here hx rfl (hb hby at_149) rfl ((if0 _ _).trans (teq (by decide : (0 : Int32) = (0 : Int32))).2) ?_
        show Steps p.tables e below (T28.setTop (mkF m 152 #[.val (.int p0), .val (.int p1), .val (.int p2), .val (.int p3), .val (.int p4), .val (.int (p0 &&& (3 : Int32))), .val (.int (0 : Int32)), .val (.int (0 : Int32)), .val (.int ((65535 : Int32) ^^^ ((1 : Int32) <<< ((((p0.toUInt32 >>> ((2 : Int32) &&& 31).toUInt32).toInt32) &&& (31 : Int32)) &&& 31)))), .val (.ref b21), .val (.int (0 : Int32)), .unset] [])) _
        refine XS.iconst X28.here hx rfl (hb hby at_152) ?_
        show Steps p.tables e below (T28.setTop (mkF m 153 #[.val (.int p0), .val (.int p1), .val (.int p2), .val (.int p3), .val (.int p4), .val (.int (p0 &&& (3 : Int32))), .val (.int (0 : Int32)), .val (.int (0 : Int32)), .val (.int ((65535 : Int32) ^^^ ((1 : Int32) <<< ((((p0.toUInt32 >>> ((2 : Int32) &&& 31).toUInt32).toInt32) &&& (31 : Int32)) &&& 31)))), .val (.ref b21), .val (.int (0 : Int32)), .unset] [(.int (1 : Int32))])) _
        refine XS.goto X28.here hx rfl (pc0 := 153) (pc' := 157) rfl (hb hby at_153) (by decide) (by decide) ?_
        show Steps p.tables e below (T28.setTop (mkF m 157 #[.val (.int p0), .val (.int p1), .val (.int p2), .val (.int p3), .val (.int p4), .val (.int (p0 &&& (3 : Int32))), .val (.int (0 : Int32)), .val (.int (0 : Int32)), .val (.int ((65535 : Int32) ^^^ ((1 : Int32) <<< ((((p0.toUInt32 >>> ((2 : Int32) &&& 31).toUInt32).toInt32) &&& (31 : Int32)) &&& 31)))), .val (.ref b21), .val (.int (0 : Int32)), .unset] [(.int (1 : Int32))])) _
        refine XS.istore X28.here hx rfl (hb hby at_157) rfl (l' := #[.val (.int p0), .val (.int p1), .val (.int p2), .val (.int p3), .val (.int p4), .val (.int (p0 &&& (3 : Int32))), .val (.int (0 : Int32)), .val (.int (0 : Int32)), .val (.int ((65535 : Int32) ^^^ ((1 : Int32) <<< ((((p0.toUInt32 >>> ((2 : Int32) &&& 31).toUInt32).toInt32) &&& (31 : Int32)) &&& 31)))), .val (.ref b21), .val (.int (0 : Int32)), .val (.int (1 : Int32))]) rfl ?_
        show Steps p.tables e below (T28.setTop (mkF m 159 #[.val (.int p0), .val (.int p1), .val (.int p2), .val (.int p3), .val (.int p4), .val (.int (p0 &&& (3 : Int32))), .val (.int (0 : Int32)), .val (.int (0 : Int32)), .val (.int ((65535 : Int32) ^^^ ((1 : Int32) <<< ((((p0.toUInt32 >>> ((2 : Int32) &&& 31).toUInt32).toInt32) &&& (31 : Int32)) &&& 31)))), .val (.ref b21), .val (.int (0 : Int32)), .val (.int (1 : Int32))] [])) _
        refine st30 _ ?_
        show Steps p.tables e below (T30.setTop (mkF m 162 #[.val (.int p0), .val (.int p1), .val (.int p2), .val (.int p3), .val (.int p4), .val (.int (p0 &&& (3 : Int32))), .val (.int (0 : Int32)), .val (.int (0 : Int32)), .val (.int ((65535 : Int32) ^^^ ((1 : Int32) <<< ((((p0.toUInt32 >>> ((2 : Int32) &&& 31).toUInt32).toInt32) &&& (31 : Int32)) &&& 31)))), .val (.ref b21), .val (.int (0 : Int32)), .val (.int (1 : Int32))] [(.ref b30)])) _
        refine XS.dup X30.here hx rfl (hb hby at_162) rfl rfl ?_
        show Steps p.tables e below (T30.setTop (mkF m 163 #[.val (.int p0), .val (.int p1), .val (.int p2), .val (.int p3), .val (.int p4), .val (.int (p0 &&& (3 : Int32))), .val (.int (0 : Int32)), .val (.int (0 : Int32)), .val (.int ((65535 : Int32) ^^^ ((1 : Int32) <<< ((((p0.toUInt32 >>> ((2 : Int32) &&& 31).toUInt32).toInt32) &&& (31 : Int32)) &&& 31)))), .val (.ref b21), .val (.int (0 : Int32)), .val (.int (1 : Int32))] [(.ref b30), (.ref b30)])) _
        refine XS.aload X30.here hx rfl (hb hby at_163) rfl rfl ?_
        show Steps p.tables e below (T30.setTop (mkF m 165 #[.val (.int p0), .val (.int p1), .val (.int p2), .val (.int p3), .val (.int p4), .val (.int (p0 &&& (3 : Int32))), .val (.int (0 : Int32)), .val (.int (0 : Int32)), .val (.int ((65535 : Int32) ^^^ ((1 : Int32) <<< ((((p0.toUInt32 >>> ((2 : Int32) &&& 31).toUInt32).toInt32) &&& (31 : Int32)) &&& 31)))), .val (.ref b21), .val (.int (0 : Int32)), .val (.int (1 : Int32))] [(.ref b21), (.ref b30), (.ref b30)])) _
        refine st34.trans ?_
        show Steps p.tables e below (T34.setTop (mkF m 168 #[.val (.int p0), .val (.int p1), .val (.int p2), .val (.int p3), .val (.int p4), .val (.int (p0 &&& (3 : Int32))), .val (.int (0 : Int32)), .val (.int (0 : Int32)), .val (.int ((65535 : Int32) ^^^ ((1 : Int32) <<< ((((p0.toUInt32 >>> ((2 : Int32) &&& 31).toUInt32).toInt32) &&& (31 : Int32)) &&& 31)))), .val (.ref b21), .val (.int (0 : Int32)), .val (.int (1 : Int32))] [(.ref b30)])) _
        refine st38.trans ?_
        show Steps p.tables e below (T38.setTop (mkF m 171 #[.val (.int p0), .val (.int p1), .val (.int p2), .val (.int p3), .val (.int p4), .val (.int (p0 &&& (3 : Int32))), .val (.int (0 : Int32)), .val (.int (0 : Int32)), .val (.int ((65535 : Int32) ^^^ ((1 : Int32) <<< ((((p0.toUInt32 >>> ((2 : Int32) &&& 31).toUInt32).toInt32) &&& (31 : Int32)) &&& 31)))), .val (.ref b21), .val (.int (0 : Int32)), .val (.int (1 : Int32))] [(.int (F5 (16 : Int32)))])) _
        refine XS.iload X38.here hx rfl (hb hby at_171) rfl ?_
        show Steps p.tables e below (T38.setTop (mkF m 173 #[.val (.int p0), .val (.int p1), .val (.int p2), .val (.int p3), .val (.int p4), .val (.int (p0 &&& (3 : Int32))), .val (.int (0 : Int32)), .val (.int (0 : Int32)), .val (.int ((65535 : Int32) ^^^ ((1 : Int32) <<< ((((p0.toUInt32 >>> ((2 : Int32) &&& 31).toUInt32).toInt32) &&& (31 : Int32)) &&& 31)))), .val (.ref b21), .val (.int (0 : Int32)), .val (.int (1 : Int32))] [(.int (1 : Int32)), (.int (F5 (16 : Int32)))])) _
        refine XS.icmpNo X38.here hx rfl (hb hby at_173) rfl (teq hc173).2 ?_
        show Steps p.tables e below (T38.setTop (mkF m 176 #[.val (.int p0), .val (.int p1), .val (.int p2), .val (.int p3), .val (.int p4), .val (.int (p0 &&& (3 : Int32))), .val (.int (0 : Int32)), .val (.int (0 : Int32)), .val (.int ((65535 : Int32) ^^^ ((1 : Int32) <<< ((((p0.toUInt32 >>> ((2 : Int32) &&& 31).toUInt32).toInt32) &&& (31 : Int32)) &&& 31)))), .val (.ref b21), .val (.int (0 : Int32)), .val (.int (1 : Int32))] [])) _
        refine XS.iconst X38.here hx rfl (hb hby at_176) ?_
        show Steps p.tables e below (T38.setTop (mkF m 177 #[.val (.int p0), .val (.int p1), .val (.int p2), .val (.int p3), .val (.int p4), .val (.int (p0 &&& (3 : Int32))), .val (.int (0 : Int32)), .val (.int (0 : Int32)), .val (.int ((65535 : Int32) ^^^ ((1 : Int32) <<< ((((p0.toUInt32 >>> ((2 : Int32) &&& 31).toUInt32).toInt32) &&& (31 : Int32)) &&& 31)))), .val (.ref b21), .val (.int (0 : Int32)), .val (.int (1 : Int32))] [(.int (1 : Int32))])) _
        refine XS.goto X38.here hx rfl (pc0 := 177) (pc' := 181) rfl (hb hby at_177) (by decide) (by decide) ?_
        show Steps p.tables e below (T38.setTop (mkF m 181 #[.val (.int p0), .val (.int p1), .val (.int p2), .val (.int p3), .val (.int p4), .val (.int (p0 &&& (3 : Int32))), .val (.int (0 : Int32)), .val (.int (0 : Int32)), .val (.int ((65535 : Int32) ^^^ ((1 : Int32) <<< ((((p0.toUInt32 >>> ((2 : Int32) &&& 31).toUInt32).toInt32) &&& (31 : Int32)) &&& 31)))), .val (.ref b21), .val (.int (0 : Int32)), .val (.int (1 : Int32))] [(.int (1 : Int32))])) _
        exact retN X38 hx (t := .boolean) Bd.returns (by simp) (hb hby at_181) hr
      · show Q0 Z p0 p1 p2 p3 p4 h0 n0 _ T38.heap _
        rw [e38]
        exact ⟨rfl, N38⟩
    · have pre39 : ∀ t, Steps p.tables e below (s₁.setTop (mkF m 60 #[.val (.int p0), .val (.int p1), .val (.int p2), .val (.int p3), .val (.int p4), .val (.int (p0 &&& (3 : Int32))), .val (.int p1), .val (.int p2), .val (.int p3), .unset, .unset, .unset] [(.int (p0 &&& (3 : Int32)))])) t → Steps p.tables e below (s₁.setTop (entryFrame m #[(.int p0), (.int p1), (.int p2), (.int p3), (.int p4)] maxLocals)) t := fun t k => by
        refine pre20 t ?_
        show Steps p.tables e below (s₁.setTop (mkF m 36 #[.val (.int p0), .val (.int p1), .val (.int p2), .val (.int p3), .val (.int p4), .val (.int (p0 &&& (3 : Int32))), .val (.int p1), .val (.int p2), .val (.int p3), .unset, .unset, .unset] [(.int (2 : Int32)), (.int (p0 &&& (3 : Int32)))])) _
        refine XS.icmpYes X0.here hx rfl (pc0 := 36) (pc' := 58) rfl (hb hby at_36) rfl (feq hc36).2 (by decide) (by decide) ?_
        show Steps p.tables e below (s₁.setTop (mkF m 58 #[.val (.int p0), .val (.int p1), .val (.int p2), .val (.int p3), .val (.int p4), .val (.int (p0 &&& (3 : Int32))), .val (.int p1), .val (.int p2), .val (.int p3), .unset, .unset, .unset] [])) _
        refine XS.iload X0.here hx rfl (hb hby at_58) rfl ?_
        exact k
      by_cases hc60 : (p0 &&& (3 : Int32)) = (0 : Int32)
      · obtain ⟨T40, h40, k40, X40, e40, E40, A40, st40⟩ := newP X0 hx hZ (hw _ (List.mem_of_getElem? (i := 0) rfl)) e0 (g := (mkF m 64 #[.val (.int p0), .val (.int p1), .val (.int p2), .val (.int p3), .val (.int p4), .val (.int (p0 &&& (3 : Int32))), .val (.int p1), .val (.int p2), .val (.int p3), .unset, .unset, .unset] [(.int (4 : Int32))])) rfl (hb hby at_64) rfl (by decide) (cap := 4) (by decide) (by decide) (by decide) (by decide)
        obtain ⟨b40, g40⟩ : ∃ z, z = h0.size := ⟨_, rfl⟩
        rw [← g40] at A40 st40
        have g_b40 : n0 ≤ b40 := Nat.le_trans Z0 (Nat.le_of_eq g40.symm)
        have Z40 := Nat.le_trans Z0 E40.1
        have vV40 : Arv Z h40 b40 k40 .byte (4 : Int32) [(.int (0 : Int32)), (.int (0 : Int32)), (.int (0 : Int32)), (.int (0 : Int32))] (.int (0 : Int32)) := (Arv.new A40 (by decide)).pad (pad_rep [] (.int (0 : Int32)) 4)
        obtain ⟨_, _, ⟨T41, L41, k41, n41⟩, -, X41, ⟨Lc41, hQ41, l41, y41, z41⟩, st41⟩ := Jvm.LawKit.callS X40 hx (y := (⟨"com/example/flytrap/flytrap/net/IpAddressIsIpv6PinLaw", "put", "([BII)V"⟩ : MethodName)) hown (mvT hZ (hw _ (List.mem_of_getElem? (i := 1) rfl))) (mvT hZ (hw _ (List.mem_of_getElem? (i := 2) rfl))) (mvT hZ (hw _ (List.mem_of_getElem? (i := 3) rfl))) (mvT hZ (hw _ (List.mem_of_getElem? (i := 4) rfl))) (by decide) (backOf (W := 0) (rm1_4_0 l Z a0 hw [] b40 p1 _ _ _ _ _ h40 n0 Z40 vV40 g_b40) hZ (hw _ (List.mem_of_getElem? (i := 4) rfl)) (hw _ (List.mem_of_getElem? (i := 3) rfl)) (by decide) (by decide)) (g := (mkF m 72 #[.val (.int p0), .val (.int p1), .val (.int p2), .val (.int p3), .val (.int p4), .val (.int (p0 &&& (3 : Int32))), .val (.int p1), .val (.int p2), .val (.int p3), .val (.ref b40), .unset, .unset] [(.int p1), (.int (0 : Int32)), (.ref b40)])) rfl (by rw [hml]; rfl) (argsL := [(.ref b40), (.int (0 : Int32)), (.int p1)]) (rest := []) (lenOf pd_0 rfl) rfl (by show 2 * 0 + _ ≤ _; exact Nat.le_of_eq rfl) (hb hby at_72) (fun _ _ => ⟨rfl, e40, (by decide : 1 + 0 ≤ _), (by decide : 4 + 0 ≤ _)⟩)
        dsimp only [Pt.U, Pt.locs, Pt.cells, Pt.slots] at X41 l41 y41 z41 st41 hQ41
        subst l41 y41 z41
        obtain ⟨rfl, N41q, K41, ⟨kG42, G42⟩⟩ := hQ41
        have Z41 := Nat.le_trans Z40 K41.1
        have N41 := Fr.app N0 N41q
        have pre43 : ∀ t, Steps p.tables e below (T41.setTop (mkF m 120 #[.val (.int p0), .val (.int p1), .val (.int p2), .val (.int p3), .val (.int p4), .val (.int (p0 &&& (3 : Int32))), .val (.int p1), .val (.int p2), .val (.int p3), .val (.ref b40), .unset, .unset] [(.int p1)])) t → Steps p.tables e below (s₁.setTop (entryFrame m #[(.int p0), (.int p1), (.int p2), (.int p3), (.int p4)] maxLocals)) t := fun t k => by
          refine pre39 t ?_
          show Steps p.tables e below (s₁.setTop (mkF m 60 #[.val (.int p0), .val (.int p1), .val (.int p2), .val (.int p3), .val (.int p4), .val (.int (p0 &&& (3 : Int32))), .val (.int p1), .val (.int p2), .val (.int p3), .unset, .unset, .unset] [(.int (p0 &&& (3 : Int32)))])) _
          refine XS.ifNo X0.here hx rfl (hb hby at_60) rfl ((if0 _ _).trans (teq hc60).2) ?_
          show Steps p.tables e below (s₁.setTop (mkF m 63 #[.val (.int p0), .val (.int p1), .val (.int p2), .val (.int p3), .val (.int p4), .val (.int (p0 &&& (3 : Int32))), .val (.int p1), .val (.int p2), .val (.int p3), .unset, .unset, .unset] [])) _
          refine XS.iconst X0.here hx rfl (hb hby at_63) ?_
          show Steps p.tables e below (s₁.setTop (mkF m 64 #[.val (.int p0), .val (.int p1), .val (.int p2), .val (.int p3), .val (.int p4), .val (.int (p0 &&& (3 : Int32))), .val (.int p1), .val (.int p2), .val (.int p3), .unset, .unset, .unset] [(.int (4 : Int32))])) _
          refine st40 _ ?_
          show Steps p.tables e below (T40.setTop (mkF m 66 #[.val (.int p0), .val (.int p1), .val (.int p2), .val (.int p3), .val (.int p4), .val (.int (p0 &&& (3 : Int32))), .val (.int p1), .val (.int p2), .val (.int p3), .unset, .unset, .unset] [(.ref b40)])) _
          refine XS.astore X40.here hx rfl (hb hby at_66) rfl rfl (l' := #[.val (.int p0), .val (.int p1), .val (.int p2), .val (.int p3), .val (.int p4), .val (.int (p0 &&& (3 : Int32))), .val (.int p1), .val (.int p2), .val (.int p3), .val (.ref b40), .unset, .unset]) rfl ?_
          show Steps p.tables e below (T40.setTop (mkF m 68 #[.val (.int p0), .val (.int p1), .val (.int p2), .val (.int p3), .val (.int p4), .val (.int (p0 &&& (3 : Int32))), .val (.int p1), .val (.int p2), .val (.int p3), .val (.ref b40), .unset, .unset] [])) _
          refine XS.aload X40.here hx rfl (hb hby at_68) rfl rfl ?_
          show Steps p.tables e below (T40.setTop (mkF m 70 #[.val (.int p0), .val (.int p1), .val (.int p2), .val (.int p3), .val (.int p4), .val (.int (p0 &&& (3 : Int32))), .val (.int p1), .val (.int p2), .val (.int p3), .val (.ref b40), .unset, .unset] [(.ref b40)])) _
          refine XS.iconst X40.here hx rfl (hb hby at_70) ?_
          show Steps p.tables e below (T40.setTop (mkF m 71 #[.val (.int p0), .val (.int p1), .val (.int p2), .val (.int p3), .val (.int p4), .val (.int (p0 &&& (3 : Int32))), .val (.int p1), .val (.int p2), .val (.int p3), .val (.ref b40), .unset, .unset] [(.int (0 : Int32)), (.ref b40)])) _
          refine XS.iloadN X40.here hx rfl (hb hby at_71) rfl ?_
          show Steps p.tables e below (T40.setTop (mkF m 72 #[.val (.int p0), .val (.int p1), .val (.int p2), .val (.int p3), .val (.int p4), .val (.int (p0 &&& (3 : Int32))), .val (.int p1), .val (.int p2), .val (.int p3), .val (.ref b40), .unset, .unset] [(.int p1), (.int (0 : Int32)), (.ref b40)])) _
          refine st41 _ ?_
          show Steps p.tables e below (T41.setTop (mkF m 75 #[.val (.int p0), .val (.int p1), .val (.int p2), .val (.int p3), .val (.int p4), .val (.int (p0 &&& (3 : Int32))), .val (.int p1), .val (.int p2), .val (.int p3), .val (.ref b40), .unset, .unset] [])) _
          refine XS.goto X41.here hx rfl (pc0 := 75) (pc' := 118) rfl (hb hby at_75) (by decide) (by decide) ?_
          show Steps p.tables e below (T41.setTop (mkF m 118 #[.val (.int p0), .val (.int p1), .val (.int p2), .val (.int p3), .val (.int p4), .val (.int (p0 &&& (3 : Int32))), .val (.int p1), .val (.int p2), .val (.int p3), .val (.ref b40), .unset, .unset] [])) _
          refine XS.iload X41.here hx rfl (hb hby at_118) rfl ?_
          exact k
        by_cases hc120 : p1 = (0 : Int32)
        · have pre44 : ∀ t, Steps p.tables e below (T41.setTop (mkF m 125 #[.val (.int p0), .val (.int p1), .val (.int p2), .val (.int p3), .val (.int p4), .val (.int (p0 &&& (3 : Int32))), .val (.int p1), .val (.int p2), .val (.int p3), .val (.ref b40), .unset, .unset] [(.int p2)])) t → Steps p.tables e below (s₁.setTop (entryFrame m #[(.int p0), (.int p1), (.int p2), (.int p3), (.int p4)] maxLocals)) t := fun t k => by
            refine pre43 t ?_
            show Steps p.tables e below (T41.setTop (mkF m 120 #[.val (.int p0), .val (.int p1), .val (.int p2), .val (.int p3), .val (.int p4), .val (.int (p0 &&& (3 : Int32))), .val (.int p1), .val (.int p2), .val (.int p3), .val (.ref b40), .unset, .unset] [(.int p1)])) _
            refine XS.ifNo X41.here hx rfl (hb hby at_120) rfl ((if0 _ _).trans (teq hc120).2) ?_
            show Steps p.tables e below (T41.setTop (mkF m 123 #[.val (.int p0), .val (.int p1), .val (.int p2), .val (.int p3), .val (.int p4), .val (.int (p0 &&& (3 : Int32))), .val (.int p1), .val (.int p2), .val (.int p3), .val (.ref b40), .unset, .unset] [])) _
            refine XS.iload X41.here hx rfl (hb hby at_123) rfl ?_
            exact k
          by_cases hc125 : p2 = (0 : Int32)
          · have pre45 : ∀ t, Steps p.tables e below (T41.setTop (mkF m 132 #[.val (.int p0), .val (.int p1), .val (.int p2), .val (.int p3), .val (.int p4), .val (.int (p0 &&& (3 : Int32))), .val (.int p1), .val (.int p2), .val (.int p3), .val (.ref b40), .unset, .unset] [(.int (65535 : Int32)), (.int p3)])) t → Steps p.tables e below (s₁.setTop (entryFrame m #[(.int p0), (.int p1), (.int p2), (.int p3), (.int p4)] maxLocals)) t := fun t k => by
              refine pre44 t ?_
              show Steps p.tables e below (T41.setTop (mkF m 125 #[.val (.int p0), .val (.int p1), .val (.int p2), .val (.int p3), .val (.int p4), .val (.int (p0 &&& (3 : Int32))), .val (.int p1), .val (.int p2), .val (.int p3), .val (.ref b40), .unset, .unset] [(.int p2)])) _
              refine XS.ifNo X41.here hx rfl (hb hby at_125) rfl ((if0 _ _).trans (teq hc125).2) ?_
              show Steps p.tables e below (T41.setTop (mkF m 128 #[.val (.int p0), .val (.int p1), .val (.int p2), .val (.int p3), .val (.int p4), .val (.int (p0 &&& (3 : Int32))), .val (.int p1), .val (.int p2), .val (.int p3), .val (.ref b40), .unset, .unset] [])) _
              refine XS.iload X41.here hx rfl (hb hby at_128) rfl ?_
              show Steps p.tables e below (T41.setTop (mkF m 130 #[.val (.int p0), .val (.int p1), .val (.int p2), .val (.int p3), .val (.int p4), .val (.int (p0 &&& (3 : Int32))), .val (.int p1), .val (.int p2), .val (.int p3), .val (.ref b40), .unset, .unset] [(.int p3)])) _
              refine X41.ldcInt hx hown (mvT hZ (hw _ (List.mem_of_getElem? (i := 24) rfl))) (g := (mkF m 130 #[.val (.int p0), .val (.int p1), .val (.int p2), .val (.int p3), .val (.int p4), .val (.int (p0 &&& (3 : Int32))), .val (.int p1), .val (.int p2), .val (.int p3), .val (.ref b40), .unset, .unset] [(.int p3)])) rfl (hb hby at_130) _ ?_
              exact k
            by_cases hc132 : p3 = (65535 : Int32)
            · obtain ⟨T46, h46, X46, e46, E46, A46, D46, -, st46⟩ := newO X41 hx hZ hown (hw _ (List.mem_of_getElem? (i := 5) rfl)) (hw _ (List.mem_of_getElem? (i := 6) rfl)) (hw _ (List.mem_of_getElem? (i := 7) rfl)) rfl (g := (mkF m 159 #[.val (.int p0), .val (.int p1), .val (.int p2), .val (.int p3), .val (.int p4), .val (.int (p0 &&& (3 : Int32))), .val (.int p1), .val (.int p2), .val (.int p3), .val (.ref b40), .val (.int (1 : Int32)), .val (.int (0 : Int32))] [])) rfl (hb hby at_159) (by decide) (by decide)
              obtain ⟨b46, g46⟩ : ∃ z, z = T41.heap.size := ⟨_, rfl⟩
              rw [← g46] at A46 D46 st46
              have ne_b40_b46 : b40 ≠ b46 := Nat.ne_of_lt (Nat.lt_of_lt_of_le G42.lt (Nat.le_of_eq g46.symm))
              have vV47 := G42.ext E46
              have g_b46 : n0 ≤ b46 := Nat.le_trans Z41 (Nat.le_of_eq g46.symm)
              have Z46 := Nat.le_trans Z41 E46.1
              have fF48 : Fld Z h46 b46 "com/example/flytrap/flytrap/net/IpAddress" "bytes" "[B" .null := D46 (Or.inr (hw _ (List.mem_of_getElem? (i := 18) rfl))) (ty := (.array .byte)) (by decide)
              obtain ⟨_, _, ⟨T49, L49, k49, n49⟩, -, X49, ⟨Lc49, hQ49, l49, y49, z49⟩, st49⟩ := X46.specialBack hx (y := (⟨"com/example/flytrap/flytrap/net/IpAddress", "<init>", "([B)V"⟩ : MethodName)) rfl hown (mvT hZ (hw _ (List.mem_of_getElem? (i := 8) rfl))) (mvT hZ (hw _ (List.mem_of_getElem? (i := 9) rfl))) (mvT hZ (hw _ (List.mem_of_getElem? (i := 10) rfl))) (by decide) (backOf (W := 1) (rm2_4 l Z a0 hw [] b46 b40 _ _ _ _ _ .null h46 n0 Z46 vV47 fF48 A46 g_b46 ne_b40_b46) hZ (hw _ (List.mem_of_getElem? (i := 10) rfl)) (hw _ (List.mem_of_getElem? (i := 7) rfl)) (by decide) (by decide)) (g := (mkF m 165 #[.val (.int p0), .val (.int p1), .val (.int p2), .val (.int p3), .val (.int p4), .val (.int (p0 &&& (3 : Int32))), .val (.int p1), .val (.int p2), .val (.int p3), .val (.ref b40), .val (.int (1 : Int32)), .val (.int (0 : Int32))] [(.ref b40), (.ref b46), (.ref b46)])) rfl (by rw [hml]; rfl) (Steps.refl _) (a := b46) (argsL := [(.ref b40)]) (rest := [(.ref b46)]) (lenOf pd_5 rfl) rfl (by show 2 * 0 + _ ≤ _; exact Nat.le_of_eq rfl) (hb hby at_165) (fun _ _ => ⟨rfl, e46, (by decide : 2 + 0 ≤ _), (by decide : 5 + 0 ≤ _)⟩)
              dsimp only [Pt.U, Pt.locs, Pt.cells, Pt.slots] at X49 l49 y49 z49 st49 hQ49
              subst l49 y49 z49
              obtain ⟨rfl, N49q, K49, G50, G51⟩ := hQ49
              have vV52 := vV47.keep K49 (ninS ne_b40_b46 nin0)
              have Z49 := Nat.le_trans Z46 K49.1
              have N49 := Fr.app N41 N49q
              obtain ⟨cq53, kq53, q53a, q53b, q53c⟩ := isOf hZ rfl G50
              obtain ⟨_, _, ⟨T53, L53, k53, n53⟩, -, X53, ⟨Lc53, hQ53, l53, y53, z53⟩, st53⟩ := X49.virtualBack hx (y := (⟨"com/example/flytrap/flytrap/net/IpAddress", "isIpv6", "()Z"⟩ : MethodName)) (z := (⟨"com/example/flytrap/flytrap/net/IpAddress", "isIpv6", "()Z"⟩ : MethodName)) hown (mvT hZ (hw _ (List.mem_of_getElem? (i := 19) rfl))) (mvT hZ (hw _ (List.mem_of_getElem? (i := 20) rfl))) (notFace_of_selects (args := #[]) (mvT hZ (hw _ (List.mem_of_getElem? (i := 22) rfl)))) (mvT hZ (hw _ (List.mem_of_getElem? (i := 22) rfl))) (mvT hZ (hw _ (List.mem_of_getElem? (i := 21) rfl))) (by decide) (backOf (W := 0) (rm5 l Z a0 hw [] b46 b40 (4 : Int32) T49.heap n0 Z49 G51 ⟨_, _, _, vV52⟩) hZ (hw _ (List.mem_of_getElem? (i := 23) rfl)) (hw _ (List.mem_of_getElem? (i := 7) rfl)) (by decide) (by decide)) q53a q53c (g := (mkF m 168 #[.val (.int p0), .val (.int p1), .val (.int p2), .val (.int p3), .val (.int p4), .val (.int (p0 &&& (3 : Int32))), .val (.int p1), .val (.int p2), .val (.int p3), .val (.ref b40), .val (.int (1 : Int32)), .val (.int (0 : Int32))] [(.ref b46)])) rfl (by rw [hml]; rfl) (Steps.refl _) (argsL := []) (rest := []) (lenOf pd_6 rfl) rfl (by show 2 * 0 + _ ≤ _; exact Nat.le_of_eq rfl) (hb hby at_168) (fun _ _ => ⟨rfl, rfl, (by decide : 2 + 0 ≤ _), (by decide : 5 + 0 ≤ _)⟩)
              dsimp only [Pt.U, Pt.locs, Pt.cells, Pt.slots] at X53 l53 y53 z53 st53 hQ53
              subst l53 y53 z53
              obtain ⟨rfl, N53q, e53⟩ := hQ53
              have N53 := Fr.app N49 N53q
              have hc173 : (F5 (4 : Int32)) = (0 : Int32) := by decide
              obtain ⟨fs, hr, hrun, hended, hW, hsame⟩ := X53.leave (v := some (.int (1 : Int32))) (fun h => by rw [Bd.returns] at h; cases h) (BodyLoose.notSynchronized Bd)
              refine ⟨_, _, pre45 _ ?_, hrun, hended, _, _, rfl, ?_, ⟨_, rfl⟩, hW, hsame.mono (by decide) (by decide)⟩
              · show Steps p.tables e below (T41.setTop (mkF m 132 #[.val (.int p0), .val (.int p1), .val (.int p2), .val (.int p3), .val (.int p4), .val (.int (p0 &&& (3 : Int32))), .val (.int p1), .val (.int p2), .val (.int p3), .val (.ref b40), .unset, .unset] [(.int (65535 : Int32)), (.int p3)])) _
                refine XS.icmpNo X41.here hx rfl (hb hby at_132) rfl (teq hc132).2 ?_
                show Steps p.tables e below (T41.setTop (mkF m 135 #[.val (.int p0), .val (.int p1), .val (.int p2), .val (.int p3), .val (.int p4), .val (.int (p0 &&& (3 : Int32))), .val (.int p1), .val (.int p2), .val (.int p3), .val (.ref b40), .unset, .unset] [])) _
                refine XS.iconst X41.here hx rfl (hb hby at_135) ?_
                show Steps p.tables e below (T41.setTop (mkF m 136 #[.val (.int p0), .val (.int p1), .val (.int p2), .val (.int p3), .val (.int p4), .val (.int (p0 &&& (3 : Int32))), .val (.int p1), .val (.int p2), .val (.int p3), .val (.ref b40), .unset, .unset] [(.int (1 : Int32))])) _
                refine XS.goto X41.here hx rfl (pc0 := 136) (pc' := 140) rfl (hb hby at_136) (by decide) (by decide) ?_
                show Steps p.tables e below (T41.setTop (mkF m 140 #[.val (.int p0), .val (.int p1), .val (.int p2), .val (.int p3), .val (.int p4), .val (.int (p0 &&& (3 : Int32))), .val (.int p1), .val (.int p2), .val (.int p3), .val (.ref b40), .unset, .unset] [(.int (1 : Int32))])) _
                refine XS.istore X41.here hx rfl (hb hby at_140) rfl (l' := #[.val (.int p0), .val (.int p1), .val (.int p2), .val (.int p3), .val (.int p4), .val (.int (p0 &&& (3 : Int32))), .val (.int p1), .val (.int p2), .val (.int p3), .val (.ref b40), .val (.int (1 : Int32)), .unset]) rfl ?_
                show Steps p.tables e below (T41.setTop (mkF m 142 #[.val (.int p0), .val (.int p1), .val (.int p2), .val (.int p3), .val (.int p4), .val (.int (p0 &&& (3 : Int32))), .val (.int p1), .val (.int p2), .val (.int p3), .val (.ref b40), .val (.int (1 : Int32)), .unset] [])) _
                refine XS.iload X41.here hx rfl (hb hby at_142) rfl ?_
                show Steps p.tables e below (T41.setTop (mkF m 144 #[.val (.int p0), .val (.int p1), .val (.int p2), .val (.int p3), .val (.int p4), .val (.int (p0 &&& (3 : Int32))), .val (.int p1), .val (.int p2), .val (.int p3), .val (.ref b40), .val (.int (1 : Int32)), .unset] [(.int (p0 &&& (3 : Int32)))])) _
                refine XS.ifYes X41.here hx rfl (pc0 := 144) (pc' := 156) rfl (hb hby at_144) rfl ((if0 _ _).trans (teq hc60).1) (by decide) (by decide) ?_
                show Steps p.tables e below (T41.setTop (mkF m 156 #[.val (.int p0), .val (.int p1), .val (.int p2), .val (.int p3), .val (.int p4), .val (.int (p0 &&& (3 : Int32))), .val (.int p1), .val (.int p2), .val (.int p3), .val (.ref b40), .val (.int (1 : Int32)), .unset] [])) _
                refine XS.iconst X41.here hx rfl (hb hby at_156) ?_
                show Steps p.tables e below (T41.setTop (mkF m 157 #[.val (.int p0), .val (.int p1), .val (.int p2), .val (.int p3), .val (.int p4), .val (.int (p0 &&& (3 : Int32))), .val (.int p1), .val (.int p2), .val (.int p3), .val (.ref b40), .val (.int (1 : Int32)), .unset] [(.int (0 : Int32))])) _
                refine XS.istore X41.here hx rfl (hb hby at_157) rfl (l' := #[.val (.int p0), .val (.int p1), .val (.int p2), .val (.int p3), .val (.int p4), .val (.int (p0 &&& (3 : Int32))), .val (.int p1), .val (.int p2), .val (.int p3), .val (.ref b40), .val (.int (1 : Int32)), .val (.int (0 : Int32))]) rfl ?_
                show Steps p.tables e below (T41.setTop (mkF m 159 #[.val (.int p0), .val (.int p1), .val (.int p2), .val (.int p3), .val (.int p4), .val (.int (p0 &&& (3 : Int32))), .val (.int p1), .val (.int p2), .val (.int p3), .val (.ref b40), .val (.int (1 : Int32)), .val (.int (0 : Int32))] [])) _
                refine st46 _ ?_
                show Steps p.tables e below (T46.setTop (mkF m 162 #[.val (.int p0), .val (.int p1), .val (.int p2), .val (.int p3), .val (.int p4), .val (.int (p0 &&& (3 : Int32))), .val (.int p1), .val (.int p2), .val (.int p3), .val (.ref b40), .val (.int (1 : Int32)), .val (.int (0 : Int32))] [(.ref b46)])) _
                refine XS.dup X46.here hx rfl (hb hby at_162) rfl rfl ?_
                show Steps p.tables e below (T46.setTop (mkF m 163 #[.val (.int p0), .val (.int p1), .val (.int p2), .val (.int p3), .val (.int p4), .val (.int (p0 &&& (3 : Int32))), .val (.int p1), .val (.int p2), .val (.int p3), .val (.ref b40), .val (.int (1 : Int32)), .val (.int (0 : Int32))] [(.ref b46), (.ref b46)])) _
                refine XS.aload X46.here hx rfl (hb hby at_163) rfl rfl ?_
                show Steps p.tables e below (T46.setTop (mkF m 165 #[.val (.int p0), .val (.int p1), .val (.int p2), .val (.int p3), .val (.int p4), .val (.int (p0 &&& (3 : Int32))), .val (.int p1), .val (.int p2), .val (.int p3), .val (.ref b40), .val (.int (1 : Int32)), .val (.int (0 : Int32))] [(.ref b40), (.ref b46), (.ref b46)])) _
                refine st49.trans ?_
                show Steps p.tables e below (T49.setTop (mkF m 168 #[.val (.int p0), .val (.int p1), .val (.int p2), .val (.int p3), .val (.int p4), .val (.int (p0 &&& (3 : Int32))), .val (.int p1), .val (.int p2), .val (.int p3), .val (.ref b40), .val (.int (1 : Int32)), .val (.int (0 : Int32))] [(.ref b46)])) _
                refine st53.trans ?_
                show Steps p.tables e below (T53.setTop (mkF m 171 #[.val (.int p0), .val (.int p1), .val (.int p2), .val (.int p3), .val (.int p4), .val (.int (p0 &&& (3 : Int32))), .val (.int p1), .val (.int p2), .val (.int p3), .val (.ref b40), .val (.int (1 : Int32)), .val (.int (0 : Int32))] [(.int (F5 (4 : Int32)))])) _
                refine XS.iload X53.here hx rfl (hb hby at_171) rfl ?_
                show Steps p.tables e below (T53.setTop (mkF m 173 #[.val (.int p0), .val (.int p1), .val (.int p2), .val (.int p3), .val (.int p4), .val (.int (p0 &&& (3 : Int32))), .val (.int p1), .val (.int p2), .val (.int p3), .val (.ref b40), .val (.int (1 : Int32)), .val (.int (0 : Int32))] [(.int (0 : Int32)), (.int (F5 (4 : Int32)))])) _
                refine XS.icmpNo X53.here hx rfl (hb hby at_173) rfl (teq hc173).2 ?_
                show Steps p.tables e below (T53.setTop (mkF m 176 #[.val (.int p0), .val (.int p1), .val (.int p2), .val (.int p3), .val (.int p4), .val (.int (p0 &&& (3 : Int32))), .val (.int p1), .val (.int p2), .val (.int p3), .val (.ref b40), .val (.int (1 : Int32)), .val (.int (0 : Int32))] [])) _
                refine XS.iconst X53.here hx rfl (hb hby at_176) ?_
                show Steps p.tables e below (T53.setTop (mkF m 177 #[.val (.int p0), .val (.int p1), .val (.int p2), .val (.int p3), .val (.int p4), .val (.int (p0 &&& (3 : Int32))), .val (.int p1), .val (.int p2), .val (.int p3), .val (.ref b40), .val (.int (1 : Int32)), .val (.int (0 : Int32))] [(.int (1 : Int32))])) _
                refine XS.goto X53.here hx rfl (pc0 := 177) (pc' := 181) rfl (hb hby at_177) (by decide) (by decide) ?_
                show Steps p.tables e below (T53.setTop (mkF m 181 #[.val (.int p0), .val (.int p1), .val (.int p2), .val (.int p3), .val (.int p4), .val (.int (p0 &&& (3 : Int32))), .val (.int p1), .val (.int p2), .val (.int p3), .val (.ref b40), .val (.int (1 : Int32)), .val (.int (0 : Int32))] [(.int (1 : Int32))])) _
                exact retN X53 hx (t := .boolean) Bd.returns (by simp) (hb hby at_181) hr
              · show Q0 Z p0 p1 p2 p3 p4 h0 n0 _ T53.heap _
                rw [e53]
                exact ⟨rfl, N53⟩
            · obtain ⟨T54, h54, X54, e54, E54, A54, D54, -, st54⟩ := newO X41 hx hZ hown (hw _ (List.mem_of_getElem? (i := 5) rfl)) (hw _ (List.mem_of_getElem? (i := 6) rfl)) (hw _ (List.mem_of_getElem? (i := 7) rfl)) rfl (g := (mkF m 159 #[.val (.int p0), .val (.int p1), .val (.int p2), .val (.int p3), .val (.int p4), .val (.int (p0 &&& (3 : Int32))), .val (.int p1), .val (.int p2), .val (.int p3), .val (.ref b40), .val (.int (0 : Int32)), .val (.int (0 : Int32))] [])) rfl (hb hby at_159) (by decide) (by decide)
              obtain ⟨b54, g54⟩ : ∃ z, z = T41.heap.size := ⟨_, rfl⟩
              rw [← g54] at A54 D54 st54
              have ne_b40_b54 : b40 ≠ b54 := Nat.ne_of_lt (Nat.lt_of_lt_of_le G42.lt (Nat.le_of_eq g54.symm))
              have vV55 := G42.ext E54
              have g_b54 : n0 ≤ b54 := Nat.le_trans Z41 (Nat.le_of_eq g54.symm)
              have Z54 := Nat.le_trans Z41 E54.1
              have fF56 : Fld Z h54 b54 "com/example/flytrap/flytrap/net/IpAddress" "bytes" "[B" .null := D54 (Or.inr (hw _ (List.mem_of_getElem? (i := 18) rfl))) (ty := (.array .byte)) (by decide)
              obtain ⟨_, _, ⟨T57, L57, k57, n57⟩, -, X57, ⟨Lc57, hQ57, l57, y57, z57⟩, st57⟩ := X54.specialBack hx (y := (⟨"com/example/flytrap/flytrap/net/IpAddress", "<init>", "([B)V"⟩ : MethodName)) rfl hown (mvT hZ (hw _ (List.mem_of_getElem? (i := 8) rfl))) (mvT hZ (hw _ (List.mem_of_getElem? (i := 9) rfl))) (mvT hZ (hw _ (List.mem_of_getElem? (i := 10) rfl))) (by decide) (backOf (W := 1) (rm2_4 l Z a0 hw [] b54 b40 _ _ _ _ _ .null h54 n0 Z54 vV55 fF56 A54 g_b54 ne_b40_b54) hZ (hw _ (List.mem_of_getElem? (i := 10) rfl)) (hw _ (List.mem_of_getElem? (i := 7) rfl)) (by decide) (by decide)) (g := (mkF m 165 #[.val (.int p0), .val (.int p1), .val (.int p2), .val (.int p3), .val (.int p4), .val (.int (p0 &&& (3 : Int32))), .val (.int p1), .val (.int p2), .val (.int p3), .val (.ref b40), .val (.int (0 : Int32)), .val (.int (0 : Int32))] [(.ref b40), (.ref b54), (.ref b54)])) rfl (by rw [hml]; rfl) (Steps.refl _) (a := b54) (argsL := [(.ref b40)]) (rest := [(.ref b54)]) (lenOf pd_5 rfl) rfl (by show 2 * 0 + _ ≤ _; exact Nat.le_of_eq rfl) (hb hby at_165) (fun _ _ => ⟨rfl, e54, (by decide : 2 + 0 ≤ _), (by decide : 5 + 0 ≤ _)⟩)
              dsimp only [Pt.U, Pt.locs, Pt.cells, Pt.slots] at X57 l57 y57 z57 st57 hQ57
              subst l57 y57 z57
              obtain ⟨rfl, N57q, K57, G58, G59⟩ := hQ57
              have vV60 := vV55.keep K57 (ninS ne_b40_b54 nin0)
              have Z57 := Nat.le_trans Z54 K57.1
              have N57 := Fr.app N41 N57q
              obtain ⟨cq61, kq61, q61a, q61b, q61c⟩ := isOf hZ rfl G58
              obtain ⟨_, _, ⟨T61, L61, k61, n61⟩, -, X61, ⟨Lc61, hQ61, l61, y61, z61⟩, st61⟩ := X57.virtualBack hx (y := (⟨"com/example/flytrap/flytrap/net/IpAddress", "isIpv6", "()Z"⟩ : MethodName)) (z := (⟨"com/example/flytrap/flytrap/net/IpAddress", "isIpv6", "()Z"⟩ : MethodName)) hown (mvT hZ (hw _ (List.mem_of_getElem? (i := 19) rfl))) (mvT hZ (hw _ (List.mem_of_getElem? (i := 20) rfl))) (notFace_of_selects (args := #[]) (mvT hZ (hw _ (List.mem_of_getElem? (i := 22) rfl)))) (mvT hZ (hw _ (List.mem_of_getElem? (i := 22) rfl))) (mvT hZ (hw _ (List.mem_of_getElem? (i := 21) rfl))) (by decide) (backOf (W := 0) (rm5 l Z a0 hw [] b54 b40 (4 : Int32) T57.heap n0 Z57 G59 ⟨_, _, _, vV60⟩) hZ (hw _ (List.mem_of_getElem? (i := 23) rfl)) (hw _ (List.mem_of_getElem? (i := 7) rfl)) (by decide) (by decide)) q61a q61c (g := (mkF m 168 #[.val (.int p0), .val (.int p1), .val (.int p2), .val (.int p3), .val (.int p4), .val (.int (p0 &&& (3 : Int32))), .val (.int p1), .val (.int p2), .val (.int p3), .val (.ref b40), .val (.int (0 : Int32)), .val (.int (0 : Int32))] [(.ref b54)])) rfl (by rw [hml]; rfl) (Steps.refl _) (argsL := []) (rest := []) (lenOf pd_6 rfl) rfl (by show 2 * 0 + _ ≤ _; exact Nat.le_of_eq rfl) (hb hby at_168) (fun _ _ => ⟨rfl, rfl, (by decide : 2 + 0 ≤ _), (by decide : 5 + 0 ≤ _)⟩)
              dsimp only [Pt.U, Pt.locs, Pt.cells, Pt.slots] at X61 l61 y61 z61 st61 hQ61
              subst l61 y61 z61
              obtain ⟨rfl, N61q, e61⟩ := hQ61
              have N61 := Fr.app N57 N61q
              have hc173 : (F5 (4 : Int32)) = (0 : Int32) := by decide
              obtain ⟨fs, hr, hrun, hended, hW, hsame⟩ := X61.leave (v := some (.int (1 : Int32))) (fun h => by rw [Bd.returns] at h; cases h) (BodyLoose.notSynchronized Bd)
              refine ⟨_, _, pre45 _ ?_, hrun, hended, _, _, rfl, ?_, ⟨_, rfl⟩, hW, hsame.mono (by decide) (by decide)⟩
              · show Steps p.tables e below (T41.setTop (mkF m 132 #[.val (.int p0), .val (.int p1), .val (.int p2), .val (.int p3), .val (.int p4), .val (.int (p0 &&& (3 : Int32))), .val (.int p1), .val (.int p2), .val (.int p3), .val (.ref b40), .unset, .unset] [(.int (65535 : Int32)), (.int p3)])) _
                refine XS.icmpYes X41.here hx rfl (pc0 := 132) (pc' := 139) rfl (hb hby at_132) rfl (feq hc132).2 (by decide) (by decide) ?_
                show Steps p.tables e below (T41.setTop (mkF m 139 #[.val (.int p0), .val (.int p1), .val (.int p2), .val (.int p3), .val (.int p4), .val (.int (p0 &&& (3 : Int32))), .val (.int p1), .val (.int p2), .val (.int p3), .val (.ref b40), .unset, .unset] [])) _
                refine XS.iconst X41.here hx rfl (hb hby at_139) ?_
                show Steps p.tables e below (T41.setTop (mkF m 140 #[.val (.int p0), .val (.int p1), .val (.int p2), .val (.int p3), .val (.int p4), .val (.int (p0 &&& (3 : Int32))), .val (.int p1), .val (.int p2), .val (.int p3), .val (.ref b40), .unset, .unset] [(.int (0 : Int32))])) _
                refine XS.istore X41.here hx rfl (hb hby at_140) rfl (l' := #[.val (.int p0), .val (.int p1), .val (.int p2), .val (.int p3), .val (.int p4), .val (.int (p0 &&& (3 : Int32))), .val (.int p1), .val (.int p2), .val (.int p3), .val (.ref b40), .val (.int (0 : Int32)), .unset]) rfl ?_
                show Steps p.tables e below (T41.setTop (mkF m 142 #[.val (.int p0), .val (.int p1), .val (.int p2), .val (.int p3), .val (.int p4), .val (.int (p0 &&& (3 : Int32))), .val (.int p1), .val (.int p2), .val (.int p3), .val (.ref b40), .val (.int (0 : Int32)), .unset] [])) _
                refine XS.iload X41.here hx rfl (hb hby at_142) rfl ?_
                show Steps p.tables e below (T41.setTop (mkF m 144 #[.val (.int p0), .val (.int p1), .val (.int p2), .val (.int p3), .val (.int p4), .val (.int (p0 &&& (3 : Int32))), .val (.int p1), .val (.int p2), .val (.int p3), .val (.ref b40), .val (.int (0 : Int32)), .unset] [(.int (p0 &&& (3 : Int32)))])) _
                refine XS.ifYes X41.here hx rfl (pc0 := 144) (pc' := 156) rfl (hb hby at_144) rfl ((if0 _ _).trans (teq hc60).1) (by decide) (by decide) ?_
                show Steps p.tables e below (T41.setTop (mkF m 156 #[.val (.int p0), .val (.int p1), .val (.int p2), .val (.int p3), .val (.int p4), .val (.int (p0 &&& (3 : Int32))), .val (.int p1), .val (.int p2), .val (.int p3), .val (.ref b40), .val (.int (0 : Int32)), .unset] [])) _
                refine XS.iconst X41.here hx rfl (hb hby at_156) ?_
                show Steps p.tables e below (T41.setTop (mkF m 157 #[.val (.int p0), .val (.int p1), .val (.int p2), .val (.int p3), .val (.int p4), .val (.int (p0 &&& (3 : Int32))), .val (.int p1), .val (.int p2), .val (.int p3), .val (.ref b40), .val (.int (0 : Int32)), .unset] [(.int (0 : Int32))])) _
                refine XS.istore X41.here hx rfl (hb hby at_157) rfl (l' := #[.val (.int p0), .val (.int p1), .val (.int p2), .val (.int p3), .val (.int p4), .val (.int (p0 &&& (3 : Int32))), .val (.int p1), .val (.int p2), .val (.int p3), .val (.ref b40), .val (.int (0 : Int32)), .val (.int (0 : Int32))]) rfl ?_
                show Steps p.tables e below (T41.setTop (mkF m 159 #[.val (.int p0), .val (.int p1), .val (.int p2), .val (.int p3), .val (.int p4), .val (.int (p0 &&& (3 : Int32))), .val (.int p1), .val (.int p2), .val (.int p3), .val (.ref b40), .val (.int (0 : Int32)), .val (.int (0 : Int32))] [])) _
                refine st54 _ ?_
                show Steps p.tables e below (T54.setTop (mkF m 162 #[.val (.int p0), .val (.int p1), .val (.int p2), .val (.int p3), .val (.int p4), .val (.int (p0 &&& (3 : Int32))), .val (.int p1), .val (.int p2), .val (.int p3), .val (.ref b40), .val (.int (0 : Int32)), .val (.int (0 : Int32))] [(.ref b54)])) _
                refine XS.dup X54.here hx rfl (hb hby at_162) rfl rfl ?_
                show Steps p.tables e below (T54.setTop (mkF m 163 #[.val (.int p0), .val (.int p1), .val (.int p2), .val (.int p3), .val (.int p4), .val (.int (p0 &&& (3 : Int32))), .val (.int p1), .val (.int p2), .val (.int p3), .val (.ref b40), .val (.int (0 : Int32)), .val (.int (0 : Int32))] [(.ref b54), (.ref b54)])) _
                refine XS.aload X54.here hx rfl (hb hby at_163) rfl rfl ?_
                show Steps p.tables e below (T54.setTop (mkF m 165 #[.val (.int p0), .val (.int p1), .val (.int p2), .val (.int p3), .val (.int p4), .val (.int (p0 &&& (3 : Int32))), .val (.int p1), .val (.int p2), .val (.int p3), .val (.ref b40), .val (.int (0 : Int32)), .val (.int (0 : Int32))] [(.ref b40), (.ref b54), (.ref b54)])) _
                refine st57.trans ?_
                show Steps p.tables e below (T57.setTop (mkF m 168 #[.val (.int p0), .val (.int p1), .val (.int p2), .val (.int p3), .val (.int p4), .val (.int (p0 &&& (3 : Int32))), .val (.int p1), .val (.int p2), .val (.int p3), .val (.ref b40), .val (.int (0 : Int32)), .val (.int (0 : Int32))] [(.ref b54)])) _
                refine st61.trans ?_
                show Steps p.tables e below (T61.setTop (mkF m 171 #[.val (.int p0), .val (.int p1), .val (.int p2), .val (.int p3), .val (.int p4), .val (.int (p0 &&& (3 : Int32))), .val (.int p1), .val (.int p2), .val (.int p3), .val (.ref b40), .val (.int (0 : Int32)), .val (.int (0 : Int32))] [(.int (F5 (4 : Int32)))])) _
                refine XS.iload X61.here hx rfl (hb hby at_171) rfl ?_
                show Steps p.tables e below (T61.setTop (mkF m 173 #[.val (.int p0), .val (.int p1), .val (.int p2), .val (.int p3), .val (.int p4), .val (.int (p0 &&& (3 : Int32))), .val (.int p1), .val (.int p2), .val (.int p3), .val (.ref b40), .val (.int (0 : Int32)), .val (.int (0 : Int32))] [(.int (0 : Int32)), (.int (F5 (4 : Int32)))])) _
                refine XS.icmpNo X61.here hx rfl (hb hby at_173) rfl (teq hc173).2 ?_
                show Steps p.tables e below (T61.setTop (mkF m 176 #[.val (.int p0), .val (.int p1), .val (.int p2), .val (.int p3), .val (.int p4), .val (.int (p0 &&& (3 : Int32))), .val (.int p1), .val (.int p2), .val (.int p3), .val (.ref b40), .val (.int (0 : Int32)), .val (.int (0 : Int32))] [])) _
                refine XS.iconst X61.here hx rfl (hb hby at_176) ?_
                show Steps p.tables e below (T61.setTop (mkF m 177 #[.val (.int p0), .val (.int p1), .val (.int p2), .val (.int p3), .val (.int p4), .val (.int (p0 &&& (3 : Int32))), .val (.int p1), .val (.int p2), .val (.int p3), .val (.ref b40), .val (.int (0 : Int32)), .val (.int (0 : Int32))] [(.int (1 : Int32))])) _
                refine XS.goto X61.here hx rfl (pc0 := 177) (pc' := 181) rfl (hb hby at_177) (by decide) (by decide) ?_
                show Steps p.tables e below (T61.setTop (mkF m 181 #[.val (.int p0), .val (.int p1), .val (.int p2), .val (.int p3), .val (.int p4), .val (.int (p0 &&& (3 : Int32))), .val (.int p1), .val (.int p2), .val (.int p3), .val (.ref b40), .val (.int (0 : Int32)), .val (.int (0 : Int32))] [(.int (1 : Int32))])) _
                exact retN X61 hx (t := .boolean) Bd.returns (by simp) (hb hby at_181) hr
              · show Q0 Z p0 p1 p2 p3 p4 h0 n0 _ T61.heap _
                rw [e61]
                exact ⟨rfl, N61⟩
          · obtain ⟨T62, h62, X62, e62, E62, A62, D62, -, st62⟩ := newO X41 hx hZ hown (hw _ (List.mem_of_getElem? (i := 5) rfl)) (hw _ (List.mem_of_getElem? (i := 6) rfl)) (hw _ (List.mem_of_getElem? (i := 7) rfl)) rfl (g := (mkF m 159 #[.val (.int p0), .val (.int p1), .val (.int p2), .val (.int p3), .val (.int p4), .val (.int (p0 &&& (3 : Int32))), .val (.int p1), .val (.int p2), .val (.int p3), .val (.ref b40), .val (.int (0 : Int32)), .val (.int (0 : Int32))] [])) rfl (hb hby at_159) (by decide) (by decide)
            obtain ⟨b62, g62⟩ : ∃ z, z = T41.heap.size := ⟨_, rfl⟩
            rw [← g62] at A62 D62 st62
            have ne_b40_b62 : b40 ≠ b62 := Nat.ne_of_lt (Nat.lt_of_lt_of_le G42.lt (Nat.le_of_eq g62.symm))
            have vV63 := G42.ext E62
            have g_b62 : n0 ≤ b62 := Nat.le_trans Z41 (Nat.le_of_eq g62.symm)
            have Z62 := Nat.le_trans Z41 E62.1
            have fF64 : Fld Z h62 b62 "com/example/flytrap/flytrap/net/IpAddress" "bytes" "[B" .null := D62 (Or.inr (hw _ (List.mem_of_getElem? (i := 18) rfl))) (ty := (.array .byte)) (by decide)
            obtain ⟨_, _, ⟨T65, L65, k65, n65⟩, -, X65, ⟨Lc65, hQ65, l65, y65, z65⟩, st65⟩ := X62.specialBack hx (y := (⟨"com/example/flytrap/flytrap/net/IpAddress", "<init>", "([B)V"⟩ : MethodName)) rfl hown (mvT hZ (hw _ (List.mem_of_getElem? (i := 8) rfl))) (mvT hZ (hw _ (List.mem_of_getElem? (i := 9) rfl))) (mvT hZ (hw _ (List.mem_of_getElem? (i := 10) rfl))) (by decide) (backOf (W := 1) (rm2_4 l Z a0 hw [] b62 b40 _ _ _ _ _ .null h62 n0 Z62 vV63 fF64 A62 g_b62 ne_b40_b62) hZ (hw _ (List.mem_of_getElem? (i := 10) rfl)) (hw _ (List.mem_of_getElem? (i := 7) rfl)) (by decide) (by decide)) (g := (mkF m 165 #[.val (.int p0), .val (.int p1), .val (.int p2), .val (.int p3), .val (.int p4), .val (.int (p0 &&& (3 : Int32))), .val (.int p1), .val (.int p2), .val (.int p3), .val (.ref b40), .val (.int (0 : Int32)), .val (.int (0 : Int32))] [(.ref b40), (.ref b62), (.ref b62)])) rfl (by rw [hml]; rfl) (Steps.refl _) (a := b62) (argsL := [(.ref b40)]) (rest := [(.ref b62)]) (lenOf pd_5 rfl) rfl (by show 2 * 0 + _ ≤ _; exact Nat.le_of_eq rfl) (hb hby at_165) (fun _ _ => ⟨rfl, e62, (by decide : 2 + 0 ≤ _), (by decide : 5 + 0 ≤ _)⟩)
            dsimp only [Pt.U, Pt.locs, Pt.cells, Pt.slots] at X65 l65 y65 z65 st65 hQ65
            subst l65 y65 z65
            obtain ⟨rfl, N65q, K65, G66, G67⟩ := hQ65
            have vV68 := vV63.keep K65 (ninS ne_b40_b62 nin0)
            have Z65 := Nat.le_trans Z62 K65.1
            have N65 := Fr.app N41 N65q
            obtain ⟨cq69, kq69, q69a, q69b, q69c⟩ := isOf hZ rfl G66
            obtain ⟨_, _, ⟨T69, L69, k69, n69⟩, -, X69, ⟨Lc69, hQ69, l69, y69, z69⟩, st69⟩ := X65.virtualBack hx (y := (⟨"com/example/flytrap/flytrap/net/IpAddress", "isIpv6", "()Z"⟩ : MethodName)) (z := (⟨"com/example/flytrap/flytrap/net/IpAddress", "isIpv6", "()Z"⟩ : MethodName)) hown (mvT hZ (hw _ (List.mem_of_getElem? (i := 19) rfl))) (mvT hZ (hw _ (List.mem_of_getElem? (i := 20) rfl))) (notFace_of_selects (args := #[]) (mvT hZ (hw _ (List.mem_of_getElem? (i := 22) rfl)))) (mvT hZ (hw _ (List.mem_of_getElem? (i := 22) rfl))) (mvT hZ (hw _ (List.mem_of_getElem? (i := 21) rfl))) (by decide) (backOf (W := 0) (rm5 l Z a0 hw [] b62 b40 (4 : Int32) T65.heap n0 Z65 G67 ⟨_, _, _, vV68⟩) hZ (hw _ (List.mem_of_getElem? (i := 23) rfl)) (hw _ (List.mem_of_getElem? (i := 7) rfl)) (by decide) (by decide)) q69a q69c (g := (mkF m 168 #[.val (.int p0), .val (.int p1), .val (.int p2), .val (.int p3), .val (.int p4), .val (.int (p0 &&& (3 : Int32))), .val (.int p1), .val (.int p2), .val (.int p3), .val (.ref b40), .val (.int (0 : Int32)), .val (.int (0 : Int32))] [(.ref b62)])) rfl (by rw [hml]; rfl) (Steps.refl _) (argsL := []) (rest := []) (lenOf pd_6 rfl) rfl (by show 2 * 0 + _ ≤ _; exact Nat.le_of_eq rfl) (hb hby at_168) (fun _ _ => ⟨rfl, rfl, (by decide : 2 + 0 ≤ _), (by decide : 5 + 0 ≤ _)⟩)
            dsimp only [Pt.U, Pt.locs, Pt.cells, Pt.slots] at X69 l69 y69 z69 st69 hQ69
            subst l69 y69 z69
            obtain ⟨rfl, N69q, e69⟩ := hQ69
            have N69 := Fr.app N65 N69q
            have hc173 : (F5 (4 : Int32)) = (0 : Int32) := by decide
            obtain ⟨fs, hr, hrun, hended, hW, hsame⟩ := X69.leave (v := some (.int (1 : Int32))) (fun h => by rw [Bd.returns] at h; cases h) (BodyLoose.notSynchronized Bd)
            refine ⟨_, _, pre44 _ ?_, hrun, hended, _, _, rfl, ?_, ⟨_, rfl⟩, hW, hsame.mono (by decide) (by decide)⟩
            · show Steps p.tables e below (T41.setTop (mkF m 125 #[.val (.int p0), .val (.int p1), .val (.int p2), .val (.int p3), .val (.int p4), .val (.int (p0 &&& (3 : Int32))), .val (.int p1), .val (.int p2), .val (.int p3), .val (.ref b40), .unset, .unset] [(.int p2)])) _
              refine XS.ifYes X41.here hx rfl (pc0 := 125) (pc' := 139) rfl (hb hby at_125) rfl ((if0 _ _).trans (feq hc125).2) (by decide) (by decide) ?_
              show Steps p.tables e below (T41.setTop (mkF m 139 #[.val (.int p0), .val (.int p1), .val (.int p2), .val (.int p3), .val (.int p4), .val (.int (p0 &&& (3 : Int32))), .val (.int p1), .val (.int p2), .val (.int p3), .val (.ref b40), .unset, .unset] [])) _
              refine XS.iconst X41.here hx rfl (hb hby at_139) ?_
              show Steps p.tables e below (T41.setTop (mkF m 140 #[.val (.int p0), .val (.int p1), .val (.int p2), .val (.int p3), .val (.int p4), .val (.int (p0 &&& (3 : Int32))), .val (.int p1), .val (.int p2), .val (.int p3), .val (.ref b40), .unset, .unset] [(.int (0 : Int32))])) _
              refine XS.istore X41.here hx rfl (hb hby at_140) rfl (l' := #[.val (.int p0), .val (.int p1), .val (.int p2), .val (.int p3), .val (.int p4), .val (.int (p0 &&& (3 : Int32))), .val (.int p1), .val (.int p2), .val (.int p3), .val (.ref b40), .val (.int (0 : Int32)), .unset]) rfl ?_
              show Steps p.tables e below (T41.setTop (mkF m 142 #[.val (.int p0), .val (.int p1), .val (.int p2), .val (.int p3), .val (.int p4), .val (.int (p0 &&& (3 : Int32))), .val (.int p1), .val (.int p2), .val (.int p3), .val (.ref b40), .val (.int (0 : Int32)), .unset] [])) _
              refine XS.iload X41.here hx rfl (hb hby at_142) rfl ?_
              show Steps p.tables e below (T41.setTop (mkF m 144 #[.val (.int p0), .val (.int p1), .val (.int p2), .val (.int p3), .val (.int p4), .val (.int (p0 &&& (3 : Int32))), .val (.int p1), .val (.int p2), .val (.int p3), .val (.ref b40), .val (.int (0 : Int32)), .unset] [(.int (p0 &&& (3 : Int32)))])) _
              refine XS.ifYes X41.here hx rfl (pc0 := 144) (pc' := 156) rfl (hb hby at_144) rfl ((if0 _ _).trans (teq hc60).1) (by decide) (by decide) ?_
              show Steps p.tables e below (T41.setTop (mkF m 156 #[.val (.int p0), .val (.int p1), .val (.int p2), .val (.int p3), .val (.int p4), .val (.int (p0 &&& (3 : Int32))), .val (.int p1), .val (.int p2), .val (.int p3), .val (.ref b40), .val (.int (0 : Int32)), .unset] [])) _
              refine XS.iconst X41.here hx rfl (hb hby at_156) ?_
              show Steps p.tables e below (T41.setTop (mkF m 157 #[.val (.int p0), .val (.int p1), .val (.int p2), .val (.int p3), .val (.int p4), .val (.int (p0 &&& (3 : Int32))), .val (.int p1), .val (.int p2), .val (.int p3), .val (.ref b40), .val (.int (0 : Int32)), .unset] [(.int (0 : Int32))])) _
              refine XS.istore X41.here hx rfl (hb hby at_157) rfl (l' := #[.val (.int p0), .val (.int p1), .val (.int p2), .val (.int p3), .val (.int p4), .val (.int (p0 &&& (3 : Int32))), .val (.int p1), .val (.int p2), .val (.int p3), .val (.ref b40), .val (.int (0 : Int32)), .val (.int (0 : Int32))]) rfl ?_
              show Steps p.tables e below (T41.setTop (mkF m 159 #[.val (.int p0), .val (.int p1), .val (.int p2), .val (.int p3), .val (.int p4), .val (.int (p0 &&& (3 : Int32))), .val (.int p1), .val (.int p2), .val (.int p3), .val (.ref b40), .val (.int (0 : Int32)), .val (.int (0 : Int32))] [])) _
              refine st62 _ ?_
              show Steps p.tables e below (T62.setTop (mkF m 162 #[.val (.int p0), .val (.int p1), .val (.int p2), .val (.int p3), .val (.int p4), .val (.int (p0 &&& (3 : Int32))), .val (.int p1), .val (.int p2), .val (.int p3), .val (.ref b40), .val (.int (0 : Int32)), .val (.int (0 : Int32))] [(.ref b62)])) _
              refine XS.dup X62.here hx rfl (hb hby at_162) rfl rfl ?_
              show Steps p.tables e below (T62.setTop (mkF m 163 #[.val (.int p0), .val (.int p1), .val (.int p2), .val (.int p3), .val (.int p4), .val (.int (p0 &&& (3 : Int32))), .val (.int p1), .val (.int p2), .val (.int p3), .val (.ref b40), .val (.int (0 : Int32)), .val (.int (0 : Int32))] [(.ref b62), (.ref b62)])) _
              refine XS.aload X62.here hx rfl (hb hby at_163) rfl rfl ?_
              show Steps p.tables e below (T62.setTop (mkF m 165 #[.val (.int p0), .val (.int p1), .val (.int p2), .val (.int p3), .val (.int p4), .val (.int (p0 &&& (3 : Int32))), .val (.int p1), .val (.int p2), .val (.int p3), .val (.ref b40), .val (.int (0 : Int32)), .val (.int (0 : Int32))] [(.ref b40), (.ref b62), (.ref b62)])) _
              refine st65.trans ?_
              show Steps p.tables e below (T65.setTop (mkF m 168 #[.val (.int p0), .val (.int p1), .val (.int p2), .val (.int p3), .val (.int p4), .val (.int (p0 &&& (3 : Int32))), .val (.int p1), .val (.int p2), .val (.int p3), .val (.ref b40), .val (.int (0 : Int32)), .val (.int (0 : Int32))] [(.ref b62)])) _
              refine st69.trans ?_
              show Steps p.tables e below (T69.setTop (mkF m 171 #[.val (.int p0), .val (.int p1), .val (.int p2), .val (.int p3), .val (.int p4), .val (.int (p0 &&& (3 : Int32))), .val (.int p1), .val (.int p2), .val (.int p3), .val (.ref b40), .val (.int (0 : Int32)), .val (.int (0 : Int32))] [(.int (F5 (4 : Int32)))])) _
              refine XS.iload X69.here hx rfl (hb hby at_171) rfl ?_
              show Steps p.tables e below (T69.setTop (mkF m 173 #[.val (.int p0), .val (.int p1), .val (.int p2), .val (.int p3), .val (.int p4), .val (.int (p0 &&& (3 : Int32))), .val (.int p1), .val (.int p2), .val (.int p3), .val (.ref b40), .val (.int (0 : Int32)), .val (.int (0 : Int32))] [(.int (0 : Int32)), (.int (F5 (4 : Int32)))])) _
              refine XS.icmpNo X69.here hx rfl (hb hby at_173) rfl (teq hc173).2 ?_
              show Steps p.tables e below (T69.setTop (mkF m 176 #[.val (.int p0), .val (.int p1), .val (.int p2), .val (.int p3), .val (.int p4), .val (.int (p0 &&& (3 : Int32))), .val (.int p1), .val (.int p2), .val (.int p3), .val (.ref b40), .val (.int (0 : Int32)), .val (.int (0 : Int32))] [])) _
              refine XS.iconst X69.here hx rfl (hb hby at_176) ?_
              show Steps p.tables e below (T69.setTop (mkF m 177 #[.val (.int p0), .val (.int p1), .val (.int p2), .val (.int p3), .val (.int p4), .val (.int (p0 &&& (3 : Int32))), .val (.int p1), .val (.int p2), .val (.int p3), .val (.ref b40), .val (.int (0 : Int32)), .val (.int (0 : Int32))] [(.int (1 : Int32))])) _
              refine XS.goto X69.here hx rfl (pc0 := 177) (pc' := 181) rfl (hb hby at_177) (by decide) (by decide) ?_
              show Steps p.tables e below (T69.setTop (mkF m 181 #[.val (.int p0), .val (.int p1), .val (.int p2), .val (.int p3), .val (.int p4), .val (.int (p0 &&& (3 : Int32))), .val (.int p1), .val (.int p2), .val (.int p3), .val (.ref b40), .val (.int (0 : Int32)), .val (.int (0 : Int32))] [(.int (1 : Int32))])) _
              exact retN X69 hx (t := .boolean) Bd.returns (by simp) (hb hby at_181) hr
            · show Q0 Z p0 p1 p2 p3 p4 h0 n0 _ T69.heap _
              rw [e69]
              exact ⟨rfl, N69⟩
        · obtain ⟨T70, h70, X70, e70, E70, A70, D70, -, st70⟩ := newO X41 hx hZ hown (hw _ (List.mem_of_getElem? (i := 5) rfl)) (hw _ (List.mem_of_getElem? (i := 6) rfl)) (hw _ (List.mem_of_getElem? (i := 7) rfl)) rfl (g := (mkF m 159 #[.val (.int p0), .val (.int p1), .val (.int p2), .val (.int p3), .val (.int p4), .val (.int (p0 &&& (3 : Int32))), .val (.int p1), .val (.int p2), .val (.int p3), .val (.ref b40), .val (.int (0 : Int32)), .val (.int (0 : Int32))] [])) rfl (hb hby at_159) (by decide) (by decide)
          obtain ⟨b70, g70⟩ : ∃ z, z = T41.heap.size := ⟨_, rfl⟩
          rw [← g70] at A70 D70 st70
          have ne_b40_b70 : b40 ≠ b70 := Nat.ne_of_lt (Nat.lt_of_lt_of_le G42.lt (Nat.le_of_eq g70.symm))
          have vV71 := G42.ext E70
          have g_b70 : n0 ≤ b70 := Nat.le_trans Z41 (Nat.le_of_eq g70.symm)
          have Z70 := Nat.le_trans Z41 E70.1
          have fF72 : Fld Z h70 b70 "com/example/flytrap/flytrap/net/IpAddress" "bytes" "[B" .null := D70 (Or.inr (hw _ (List.mem_of_getElem? (i := 18) rfl))) (ty := (.array .byte)) (by decide)
          obtain ⟨_, _, ⟨T73, L73, k73, n73⟩, -, X73, ⟨Lc73, hQ73, l73, y73, z73⟩, st73⟩ := X70.specialBack hx (y := (⟨"com/example/flytrap/flytrap/net/IpAddress", "<init>", "([B)V"⟩ : MethodName)) rfl hown (mvT hZ (hw _ (List.mem_of_getElem? (i := 8) rfl))) (mvT hZ (hw _ (List.mem_of_getElem? (i := 9) rfl))) (mvT hZ (hw _ (List.mem_of_getElem? (i := 10) rfl))) (by decide) (backOf (W := 1) (rm2_4 l Z a0 hw [] b70 b40 _ _ _ _ _ .null h70 n0 Z70 vV71 fF72 A70 g_b70 ne_b40_b70) hZ (hw _ (List.mem_of_getElem? (i := 10) rfl)) (hw _ (List.mem_of_getElem? (i := 7) rfl)) (by decide) (by decide)) (g := (mkF m 165 #[.val (.int p0), .val (.int p1), .val (.int p2), .val (.int p3), .val (.int p4), .val (.int (p0 &&& (3 : Int32))), .val (.int p1), .val (.int p2), .val (.int p3), .val (.ref b40), .val (.int (0 : Int32)), .val (.int (0 : Int32))] [(.ref b40), (.ref b70), (.ref b70)])) rfl (by rw [hml]; rfl) (Steps.refl _) (a := b70) (argsL := [(.ref b40)]) (rest := [(.ref b70)]) (lenOf pd_5 rfl) rfl (by show 2 * 0 + _ ≤ _; exact Nat.le_of_eq rfl) (hb hby at_165) (fun _ _ => ⟨rfl, e70, (by decide : 2 + 0 ≤ _), (by decide : 5 + 0 ≤ _)⟩)
          dsimp only [Pt.U, Pt.locs, Pt.cells, Pt.slots] at X73 l73 y73 z73 st73 hQ73
          subst l73 y73 z73
          obtain ⟨rfl, N73q, K73, G74, G75⟩ := hQ73
          have vV76 := vV71.keep K73 (ninS ne_b40_b70 nin0)
          have Z73 := Nat.le_trans Z70 K73.1
          have N73 := Fr.app N41 N73q
          obtain ⟨cq77, kq77, q77a, q77b, q77c⟩ := isOf hZ rfl G74
          obtain ⟨_, _, ⟨T77, L77, k77, n77⟩, -, X77, ⟨Lc77, hQ77, l77, y77, z77⟩, st77⟩ := X73.virtualBack hx (y := (⟨"com/example/flytrap/flytrap/net/IpAddress", "isIpv6", "()Z"⟩ : MethodName)) (z := (⟨"com/example/flytrap/flytrap/net/IpAddress", "isIpv6", "()Z"⟩ : MethodName)) hown (mvT hZ (hw _ (List.mem_of_getElem? (i := 19) rfl))) (mvT hZ (hw _ (List.mem_of_getElem? (i := 20) rfl))) (notFace_of_selects (args := #[]) (mvT hZ (hw _ (List.mem_of_getElem? (i := 22) rfl)))) (mvT hZ (hw _ (List.mem_of_getElem? (i := 22) rfl))) (mvT hZ (hw _ (List.mem_of_getElem? (i := 21) rfl))) (by decide) (backOf (W := 0) (rm5 l Z a0 hw [] b70 b40 (4 : Int32) T73.heap n0 Z73 G75 ⟨_, _, _, vV76⟩) hZ (hw _ (List.mem_of_getElem? (i := 23) rfl)) (hw _ (List.mem_of_getElem? (i := 7) rfl)) (by decide) (by decide)) q77a q77c (g := (mkF m 168 #[.val (.int p0), .val (.int p1), .val (.int p2), .val (.int p3), .val (.int p4), .val (.int (p0 &&& (3 : Int32))), .val (.int p1), .val (.int p2), .val (.int p3), .val (.ref b40), .val (.int (0 : Int32)), .val (.int (0 : Int32))] [(.ref b70)])) rfl (by rw [hml]; rfl) (Steps.refl _) (argsL := []) (rest := []) (lenOf pd_6 rfl) rfl (by show 2 * 0 + _ ≤ _; exact Nat.le_of_eq rfl) (hb hby at_168) (fun _ _ => ⟨rfl, rfl, (by decide : 2 + 0 ≤ _), (by decide : 5 + 0 ≤ _)⟩)
          dsimp only [Pt.U, Pt.locs, Pt.cells, Pt.slots] at X77 l77 y77 z77 st77 hQ77
          subst l77 y77 z77
          obtain ⟨rfl, N77q, e77⟩ := hQ77
          have N77 := Fr.app N73 N77q
          have hc173 : (F5 (4 : Int32)) = (0 : Int32) := by decide
          obtain ⟨fs, hr, hrun, hended, hW, hsame⟩ := X77.leave (v := some (.int (1 : Int32))) (fun h => by rw [Bd.returns] at h; cases h) (BodyLoose.notSynchronized Bd)
          refine ⟨_, _, pre43 _ ?_, hrun, hended, _, _, rfl, ?_, ⟨_, rfl⟩, hW, hsame.mono (by decide) (by decide)⟩
          · show Steps p.tables e below (T41.setTop (mkF m 120 #[.val (.int p0), .val (.int p1), .val (.int p2), .val (.int p3), .val (.int p4), .val (.int (p0 &&& (3 : Int32))), .val (.int p1), .val (.int p2), .val (.int p3), .val (.ref b40), .unset, .unset] [(.int p1)])) _
            refine XS.ifYes X41.here hx rfl (pc0 := 120) (pc' := 139) rfl (hb hby at_120) rfl ((if0 _ _).trans (feq hc120).2) (by decide) (by decide) ?_
            show Steps p.tables e below (T41.setTop (mkF m 139 #[.val (.int p0), .val (.int p1), .val (.int p2), .val (.int p3), .val (.int p4), .val (.int (p0 &&& (3 : Int32))), .val (.int p1), .val (.int p2), .val (.int p3), .val (.ref b40), .unset, .unset] [])) _
            refine XS.iconst X41.here hx rfl (hb hby at_139) ?_
            show Steps p.tables e below (T41.setTop (mkF m 140 #[.val (.int p0), .val (.int p1), .val (.int p2), .val (.int p3), .val (.int p4), .val (.int (p0 &&& (3 : Int32))), .val (.int p1), .val (.int p2), .val (.int p3), .val (.ref b40), .unset, .unset] [(.int (0 : Int32))])) _
            refine XS.istore X41.here hx rfl (hb hby at_140) rfl (l' := #[.val (.int p0), .val (.int p1), .val (.int p2), .val (.int p3), .val (.int p4), .val (.int (p0 &&& (3 : Int32))), .val (.int p1), .val (.int p2), .val (.int p3), .val (.ref b40), .val (.int (0 : Int32)), .unset]) rfl ?_
            show Steps p.tables e below (T41.setTop (mkF m 142 #[.val (.int p0), .val (.int p1), .val (.int p2), .val (.int p3), .val (.int p4), .val (.int (p0 &&& (3 : Int32))), .val (.int p1), .val (.int p2), .val (.int p3), .val (.ref b40), .val (.int (0 : Int32)), .unset] [])) _
            refine XS.iload X41.here hx rfl (hb hby at_142) rfl ?_
            show Steps p.tables e below (T41.setTop (mkF m 144 #[.val (.int p0), .val (.int p1), .val (.int p2), .val (.int p3), .val (.int p4), .val (.int (p0 &&& (3 : Int32))), .val (.int p1), .val (.int p2), .val (.int p3), .val (.ref b40), .val (.int (0 : Int32)), .unset] [(.int (p0 &&& (3 : Int32)))])) _
            refine XS.ifYes X41.here hx rfl (pc0 := 144) (pc' := 156) rfl (hb hby at_144) rfl ((if0 _ _).trans (teq hc60).1) (by decide) (by decide) ?_
            show Steps p.tables e below (T41.setTop (mkF m 156 #[.val (.int p0), .val (.int p1), .val (.int p2), .val (.int p3), .val (.int p4), .val (.int (p0 &&& (3 : Int32))), .val (.int p1), .val (.int p2), .val (.int p3), .val (.ref b40), .val (.int (0 : Int32)), .unset] [])) _
            refine XS.iconst X41.here hx rfl (hb hby at_156) ?_
            show Steps p.tables e below (T41.setTop (mkF m 157 #[.val (.int p0), .val (.int p1), .val (.int p2), .val (.int p3), .val (.int p4), .val (.int (p0 &&& (3 : Int32))), .val (.int p1), .val (.int p2), .val (.int p3), .val (.ref b40), .val (.int (0 : Int32)), .unset] [(.int (0 : Int32))])) _
            refine XS.istore X41.here hx rfl (hb hby at_157) rfl (l' := #[.val (.int p0), .val (.int p1), .val (.int p2), .val (.int p3), .val (.int p4), .val (.int (p0 &&& (3 : Int32))), .val (.int p1), .val (.int p2), .val (.int p3), .val (.ref b40), .val (.int (0 : Int32)), .val (.int (0 : Int32))]) rfl ?_
            show Steps p.tables e below (T41.setTop (mkF m 159 #[.val (.int p0), .val (.int p1), .val (.int p2), .val (.int p3), .val (.int p4), .val (.int (p0 &&& (3 : Int32))), .val (.int p1), .val (.int p2), .val (.int p3), .val (.ref b40), .val (.int (0 : Int32)), .val (.int (0 : Int32))] [])) _
            refine st70 _ ?_
            show Steps p.tables e below (T70.setTop (mkF m 162 #[.val (.int p0), .val (.int p1), .val (.int p2), .val (.int p3), .val (.int p4), .val (.int (p0 &&& (3 : Int32))), .val (.int p1), .val (.int p2), .val (.int p3), .val (.ref b40), .val (.int (0 : Int32)), .val (.int (0 : Int32))] [(.ref b70)])) _
            refine XS.dup X70.here hx rfl (hb hby at_162) rfl rfl ?_
            show Steps p.tables e below (T70.setTop (mkF m 163 #[.val (.int p0), .val (.int p1), .val (.int p2), .val (.int p3), .val (.int p4), .val (.int (p0 &&& (3 : Int32))), .val (.int p1), .val (.int p2), .val (.int p3), .val (.ref b40), .val (.int (0 : Int32)), .val (.int (0 : Int32))] [(.ref b70), (.ref b70)])) _
            refine XS.aload X70.here hx rfl (hb hby at_163) rfl rfl ?_
            show Steps p.tables e below (T70.setTop (mkF m 165 #[.val (.int p0), .val (.int p1), .val (.int p2), .val (.int p3), .val (.int p4), .val (.int (p0 &&& (3 : Int32))), .val (.int p1), .val (.int p2), .val (.int p3), .val (.ref b40), .val (.int (0 : Int32)), .val (.int (0 : Int32))] [(.ref b40), (.ref b70), (.ref b70)])) _
            refine st73.trans ?_
            show Steps p.tables e below (T73.setTop (mkF m 168 #[.val (.int p0), .val (.int p1), .val (.int p2), .val (.int p3), .val (.int p4), .val (.int (p0 &&& (3 : Int32))), .val (.int p1), .val (.int p2), .val (.int p3), .val (.ref b40), .val (.int (0 : Int32)), .val (.int (0 : Int32))] [(.ref b70)])) _
            refine st77.trans ?_
            show Steps p.tables e below (T77.setTop (mkF m 171 #[.val (.int p0), .val (.int p1), .val (.int p2), .val (.int p3), .val (.int p4), .val (.int (p0 &&& (3 : Int32))), .val (.int p1), .val (.int p2), .val (.int p3), .val (.ref b40), .val (.int (0 : Int32)), .val (.int (0 : Int32))] [(.int (F5 (4 : Int32)))])) _
            refine XS.iload X77.here hx rfl (hb hby at_171) rfl ?_
            show Steps p.tables e below (T77.setTop (mkF m 173 #[.val (.int p0), .val (.int p1), .val (.int p2), .val (.int p3), .val (.int p4), .val (.int (p0 &&& (3 : Int32))), .val (.int p1), .val (.int p2), .val (.int p3), .val (.ref b40), .val (.int (0 : Int32)), .val (.int (0 : Int32))] [(.int (0 : Int32)), (.int (F5 (4 : Int32)))])) _
            refine XS.icmpNo X77.here hx rfl (hb hby at_173) rfl (teq hc173).2 ?_
            show Steps p.tables e below (T77.setTop (mkF m 176 #[.val (.int p0), .val (.int p1), .val (.int p2), .val (.int p3), .val (.int p4), .val (.int (p0 &&& (3 : Int32))), .val (.int p1), .val (.int p2), .val (.int p3), .val (.ref b40), .val (.int (0 : Int32)), .val (.int (0 : Int32))] [])) _
            refine XS.iconst X77.here hx rfl (hb hby at_176) ?_
            show Steps p.tables e below (T77.setTop (mkF m 177 #[.val (.int p0), .val (.int p1), .val (.int p2), .val (.int p3), .val (.int p4), .val (.int (p0 &&& (3 : Int32))), .val (.int p1), .val (.int p2), .val (.int p3), .val (.ref b40), .val (.int (0 : Int32)), .val (.int (0 : Int32))] [(.int (1 : Int32))])) _
            refine XS.goto X77.here hx rfl (pc0 := 177) (pc' := 181) rfl (hb hby at_177) (by decide) (by decide) ?_
            show Steps p.tables e below (T77.setTop (mkF m 181 #[.val (.int p0), .val (.int p1), .val (.int p2), .val (.int p3), .val (.int p4), .val (.int (p0 &&& (3 : Int32))), .val (.int p1), .val (.int p2), .val (.int p3), .val (.ref b40), .val (.int (0 : Int32)), .val (.int (0 : Int32))] [(.int (1 : Int32))])) _
            exact retN X77 hx (t := .boolean) Bd.returns (by simp) (hb hby at_181) hr
          · show Q0 Z p0 p1 p2 p3 p4 h0 n0 _ T77.heap _
            rw [e77]
            exact ⟨rfl, N77⟩
      · obtain ⟨T78, h78, k78, X78, e78, E78, A78, st78⟩ := newP X0 hx hZ (hw _ (List.mem_of_getElem? (i := 0) rfl)) e0 (g := (mkF m 80 #[.val (.int p0), .val (.int p1), .val (.int p2), .val (.int p3), .val (.int p4), .val (.int (p0 &&& (3 : Int32))), .val (.int p1), .val (.int p2), .val (.int p3), .unset, .unset, .unset] [(.int (16 : Int32))])) rfl (hb hby at_80) rfl (by decide) (cap := 16) (by decide) (by decide) (by decide) (by decide)
        obtain ⟨b78, g78⟩ : ∃ z, z = h0.size := ⟨_, rfl⟩
        rw [← g78] at A78 st78
        have g_b78 : n0 ≤ b78 := Nat.le_trans Z0 (Nat.le_of_eq g78.symm)
        have Z78 := Nat.le_trans Z0 E78.1
        have vV78 : Arv Z h78 b78 k78 .byte (16 : Int32) [(.int (0 : Int32)), (.int (0 : Int32)), (.int (0 : Int32)), (.int (0 : Int32)), (.int (0 : Int32)), (.int (0 : Int32)), (.int (0 : Int32)), (.int (0 : Int32)), (.int (0 : Int32)), (.int (0 : Int32)), (.int (0 : Int32)), (.int (0 : Int32)), (.int (0 : Int32)), (.int (0 : Int32)), (.int (0 : Int32)), (.int (0 : Int32))] (.int (0 : Int32)) := (Arv.new A78 (by decide)).pad (pad_rep [] (.int (0 : Int32)) 16)
        obtain ⟨_, _, ⟨T79, L79, k79, n79⟩, -, X79, ⟨Lc79, hQ79, l79, y79, z79⟩, st79⟩ := Jvm.LawKit.callS X78 hx (y := (⟨"com/example/flytrap/flytrap/net/IpAddressIsIpv6PinLaw", "put", "([BII)V"⟩ : MethodName)) hown (mvT hZ (hw _ (List.mem_of_getElem? (i := 1) rfl))) (mvT hZ (hw _ (List.mem_of_getElem? (i := 2) rfl))) (mvT hZ (hw _ (List.mem_of_getElem? (i := 3) rfl))) (mvT hZ (hw _ (List.mem_of_getElem? (i := 4) rfl))) (by decide) (backOf (W := 0) (rm1_16_0 l Z a0 hw [] b78 p1 _ _ _ _ _ _ _ _ _ _ _ _ _ _ _ _ _ h78 n0 Z78 vV78 g_b78) hZ (hw _ (List.mem_of_getElem? (i := 4) rfl)) (hw _ (List.mem_of_getElem? (i := 3) rfl)) (by decide) (by decide)) (g := (mkF m 89 #[.val (.int p0), .val (.int p1), .val (.int p2), .val (.int p3), .val (.int p4), .val (.int (p0 &&& (3 : Int32))), .val (.int p1), .val (.int p2), .val (.int p3), .val (.ref b78), .unset, .unset] [(.int p1), (.int (0 : Int32)), (.ref b78)])) rfl (by rw [hml]; rfl) (argsL := [(.ref b78), (.int (0 : Int32)), (.int p1)]) (rest := []) (lenOf pd_0 rfl) rfl (by show 2 * 0 + _ ≤ _; exact Nat.le_of_eq rfl) (hb hby at_89) (fun _ _ => ⟨rfl, e78, (by decide : 1 + 0 ≤ _), (by decide : 16 + 0 ≤ _)⟩)
        dsimp only [Pt.U, Pt.locs, Pt.cells, Pt.slots] at X79 l79 y79 z79 st79 hQ79
        subst l79 y79 z79
        obtain ⟨rfl, N79q, K79, ⟨kG80, G80⟩⟩ := hQ79
        have Z79 := Nat.le_trans Z78 K79.1
        have N79 := Fr.app N0 N79q
        obtain ⟨_, _, ⟨T81, L81, k81, n81⟩, -, X81, ⟨Lc81, hQ81, l81, y81, z81⟩, st81⟩ := Jvm.LawKit.callS X79 hx (y := (⟨"com/example/flytrap/flytrap/net/IpAddressIsIpv6PinLaw", "put", "([BII)V"⟩ : MethodName)) hown (mvT hZ (hw _ (List.mem_of_getElem? (i := 1) rfl))) (mvT hZ (hw _ (List.mem_of_getElem? (i := 2) rfl))) (mvT hZ (hw _ (List.mem_of_getElem? (i := 3) rfl))) (mvT hZ (hw _ (List.mem_of_getElem? (i := 4) rfl))) (by decide) (backOf (W := 0) (rm1_16_4 l Z a0 hw [] b78 p2 _ _ _ _ _ _ _ _ _ _ _ _ _ _ _ _ _ T79.heap n0 Z79 G80 g_b78) hZ (hw _ (List.mem_of_getElem? (i := 4) rfl)) (hw _ (List.mem_of_getElem? (i := 3) rfl)) (by decide) (by decide)) (g := (mkF m 97 #[.val (.int p0), .val (.int p1), .val (.int p2), .val (.int p3), .val (.int p4), .val (.int (p0 &&& (3 : Int32))), .val (.int p1), .val (.int p2), .val (.int p3), .val (.ref b78), .unset, .unset] [(.int p2), (.int (4 : Int32)), (.ref b78)])) rfl (by rw [hml]; rfl) (argsL := [(.ref b78), (.int (4 : Int32)), (.int p2)]) (rest := []) (lenOf pd_0 rfl) rfl (by show 2 * 0 + _ ≤ _; exact Nat.le_of_eq rfl) (hb hby at_97) (fun _ _ => ⟨rfl, rfl, (by decide : 1 + 0 ≤ _), (by decide : 16 + 0 ≤ _)⟩)
        dsimp only [Pt.U, Pt.locs, Pt.cells, Pt.slots] at X81 l81 y81 z81 st81 hQ81
        subst l81 y81 z81
        obtain ⟨rfl, N81q, K81, ⟨kG82, G82⟩⟩ := hQ81
        have Z81 := Nat.le_trans Z79 K81.1
        have N81 := Fr.app N79 N81q
        obtain ⟨_, _, ⟨T83, L83, k83, n83⟩, -, X83, ⟨Lc83, hQ83, l83, y83, z83⟩, st83⟩ := Jvm.LawKit.callS X81 hx (y := (⟨"com/example/flytrap/flytrap/net/IpAddressIsIpv6PinLaw", "put", "([BII)V"⟩ : MethodName)) hown (mvT hZ (hw _ (List.mem_of_getElem? (i := 1) rfl))) (mvT hZ (hw _ (List.mem_of_getElem? (i := 2) rfl))) (mvT hZ (hw _ (List.mem_of_getElem? (i := 3) rfl))) (mvT hZ (hw _ (List.mem_of_getElem? (i := 4) rfl))) (by decide) (backOf (W := 0) (rm1_16_8 l Z a0 hw [] b78 p3 _ _ _ _ _ _ _ _ _ _ _ _ _ _ _ _ _ T81.heap n0 Z81 G82 g_b78) hZ (hw _ (List.mem_of_getElem? (i := 4) rfl)) (hw _ (List.mem_of_getElem? (i := 3) rfl)) (by decide) (by decide)) (g := (mkF m 106 #[.val (.int p0), .val (.int p1), .val (.int p2), .val (.int p3), .val (.int p4), .val (.int (p0 &&& (3 : Int32))), .val (.int p1), .val (.int p2), .val (.int p3), .val (.ref b78), .unset, .unset] [(.int p3), (.int (8 : Int32)), (.ref b78)])) rfl (by rw [hml]; rfl) (argsL := [(.ref b78), (.int (8 : Int32)), (.int p3)]) (rest := []) (lenOf pd_0 rfl) rfl (by show 2 * 0 + _ ≤ _; exact Nat.le_of_eq rfl) (hb hby at_106) (fun _ _ => ⟨rfl, rfl, (by decide : 1 + 0 ≤ _), (by decide : 16 + 0 ≤ _)⟩)
        dsimp only [Pt.U, Pt.locs, Pt.cells, Pt.slots] at X83 l83 y83 z83 st83 hQ83
        subst l83 y83 z83
        obtain ⟨rfl, N83q, K83, ⟨kG84, G84⟩⟩ := hQ83
        have Z83 := Nat.le_trans Z81 K83.1
        have N83 := Fr.app N81 N83q
        obtain ⟨_, _, ⟨T85, L85, k85, n85⟩, -, X85, ⟨Lc85, hQ85, l85, y85, z85⟩, st85⟩ := Jvm.LawKit.callS X83 hx (y := (⟨"com/example/flytrap/flytrap/net/IpAddressIsIpv6PinLaw", "put", "([BII)V"⟩ : MethodName)) hown (mvT hZ (hw _ (List.mem_of_getElem? (i := 1) rfl))) (mvT hZ (hw _ (List.mem_of_getElem? (i := 2) rfl))) (mvT hZ (hw _ (List.mem_of_getElem? (i := 3) rfl))) (mvT hZ (hw _ (List.mem_of_getElem? (i := 4) rfl))) (by decide) (backOf (W := 0) (rm1_16_12 l Z a0 hw [] b78 p4 _ _ _ _ _ _ _ _ _ _ _ _ _ _ _ _ _ T83.heap n0 Z83 G84 g_b78) hZ (hw _ (List.mem_of_getElem? (i := 4) rfl)) (hw _ (List.mem_of_getElem? (i := 3) rfl)) (by decide) (by decide)) (g := (mkF m 115 #[.val (.int p0), .val (.int p1), .val (.int p2), .val (.int p3), .val (.int p4), .val (.int (p0 &&& (3 : Int32))), .val (.int p1), .val (.int p2), .val (.int p3), .val (.ref b78), .unset, .unset] [(.int p4), (.int (12 : Int32)), (.ref b78)])) rfl (by rw [hml]; rfl) (argsL := [(.ref b78), (.int (12 : Int32)), (.int p4)]) (rest := []) (lenOf pd_0 rfl) rfl (by show 2 * 0 + _ ≤ _; exact Nat.le_of_eq rfl) (hb hby at_115) (fun _ _ => ⟨rfl, rfl, (by decide : 1 + 0 ≤ _), (by decide : 16 + 0 ≤ _)⟩)
        dsimp only [Pt.U, Pt.locs, Pt.cells, Pt.slots] at X85 l85 y85 z85 st85 hQ85
        subst l85 y85 z85
        obtain ⟨rfl, N85q, K85, ⟨kG86, G86⟩⟩ := hQ85
        have Z85 := Nat.le_trans Z83 K85.1
        have N85 := Fr.app N83 N85q
        have pre87 : ∀ t, Steps p.tables e below (T85.setTop (mkF m 120 #[.val (.int p0), .val (.int p1), .val (.int p2), .val (.int p3), .val (.int p4), .val (.int (p0 &&& (3 : Int32))), .val (.int p1), .val (.int p2), .val (.int p3), .val (.ref b78), .unset, .unset] [(.int p1)])) t → Steps p.tables e below (s₁.setTop (entryFrame m #[(.int p0), (.int p1), (.int p2), (.int p3), (.int p4)] maxLocals)) t := fun t k => by
          refine pre39 t ?_
          show Steps p.tables e below (s₁.setTop (mkF m 60 #[.val (.int p0), .val (.int p1), .val (.int p2), .val (.int p3), .val (.int p4), .val (.int (p0 &&& (3 : Int32))), .val (.int p1), .val (.int p2), .val (.int p3), .unset, .unset, .unset] [(.int (p0 &&& (3 : Int32)))])) _
          refine XS.ifYes X0.here hx rfl (pc0 := 60) (pc' := 78) rfl (hb hby at_60) rfl ((if0 _ _).trans (feq hc60).2) (by decide) (by decide) ?_
          show Steps p.tables e below (s₁.setTop (mkF m 78 #[.val (.int p0), .val (.int p1), .val (.int p2), .val (.int p3), .val (.int p4), .val (.int (p0 &&& (3 : Int32))), .val (.int p1), .val (.int p2), .val (.int p3), .unset, .unset, .unset] [])) _
          refine XS.bipush X0.here hx rfl (hb hby at_78) ?_
          show Steps p.tables e below (s₁.setTop (mkF m 80 #[.val (.int p0), .val (.int p1), .val (.int p2), .val (.int p3), .val (.int p4), .val (.int (p0 &&& (3 : Int32))), .val (.int p1), .val (.int p2), .val (.int p3), .unset, .unset, .unset] [(.int (16 : Int32))])) _
          refine st78 _ ?_
          show Steps p.tables e below (T78.setTop (mkF m 82 #[.val (.int p0), .val (.int p1), .val (.int p2), .val (.int p3), .val (.int p4), .val (.int (p0 &&& (3 : Int32))), .val (.int p1), .val (.int p2), .val (.int p3), .unset, .unset, .unset] [(.ref b78)])) _
          refine XS.astore X78.here hx rfl (hb hby at_82) rfl rfl (l' := #[.val (.int p0), .val (.int p1), .val (.int p2), .val (.int p3), .val (.int p4), .val (.int (p0 &&& (3 : Int32))), .val (.int p1), .val (.int p2), .val (.int p3), .val (.ref b78), .unset, .unset]) rfl ?_
          show Steps p.tables e below (T78.setTop (mkF m 84 #[.val (.int p0), .val (.int p1), .val (.int p2), .val (.int p3), .val (.int p4), .val (.int (p0 &&& (3 : Int32))), .val (.int p1), .val (.int p2), .val (.int p3), .val (.ref b78), .unset, .unset] [])) _
          refine XS.aload X78.here hx rfl (hb hby at_84) rfl rfl ?_
          show Steps p.tables e below (T78.setTop (mkF m 86 #[.val (.int p0), .val (.int p1), .val (.int p2), .val (.int p3), .val (.int p4), .val (.int (p0 &&& (3 : Int32))), .val (.int p1), .val (.int p2), .val (.int p3), .val (.ref b78), .unset, .unset] [(.ref b78)])) _
          refine XS.iconst X78.here hx rfl (hb hby at_86) ?_
          show Steps p.tables e below (T78.setTop (mkF m 87 #[.val (.int p0), .val (.int p1), .val (.int p2), .val (.int p3), .val (.int p4), .val (.int (p0 &&& (3 : Int32))), .val (.int p1), .val (.int p2), .val (.int p3), .val (.ref b78), .unset, .unset] [(.int (0 : Int32)), (.ref b78)])) _
          refine XS.iload X78.here hx rfl (hb hby at_87) rfl ?_
          show Steps p.tables e below (T78.setTop (mkF m 89 #[.val (.int p0), .val (.int p1), .val (.int p2), .val (.int p3), .val (.int p4), .val (.int (p0 &&& (3 : Int32))), .val (.int p1), .val (.int p2), .val (.int p3), .val (.ref b78), .unset, .unset] [(.int p1), (.int (0 : Int32)), (.ref b78)])) _
          refine st79 _ ?_
          show Steps p.tables e below (T79.setTop (mkF m 92 #[.val (.int p0), .val (.int p1), .val (.int p2), .val (.int p3), .val (.int p4), .val (.int (p0 &&& (3 : Int32))), .val (.int p1), .val (.int p2), .val (.int p3), .val (.ref b78), .unset, .unset] [])) _
          refine XS.aload X79.here hx rfl (hb hby at_92) rfl rfl ?_
          show Steps p.tables e below (T79.setTop (mkF m 94 #[.val (.int p0), .val (.int p1), .val (.int p2), .val (.int p3), .val (.int p4), .val (.int (p0 &&& (3 : Int32))), .val (.int p1), .val (.int p2), .val (.int p3), .val (.ref b78), .unset, .unset] [(.ref b78)])) _
          refine XS.iconst X79.here hx rfl (hb hby at_94) ?_
          show Steps p.tables e below (T79.setTop (mkF m 95 #[.val (.int p0), .val (.int p1), .val (.int p2), .val (.int p3), .val (.int p4), .val (.int (p0 &&& (3 : Int32))), .val (.int p1), .val (.int p2), .val (.int p3), .val (.ref b78), .unset, .unset] [(.int (4 : Int32)), (.ref b78)])) _
          refine XS.iload X79.here hx rfl (hb hby at_95) rfl ?_
          show Steps p.tables e below (T79.setTop (mkF m 97 #[.val (.int p0), .val (.int p1), .val (.int p2), .val (.int p3), .val (.int p4), .val (.int (p0 &&& (3 : Int32))), .val (.int p1), .val (.int p2), .val (.int p3), .val (.ref b78), .unset, .unset] [(.int p2), (.int (4 : Int32)), (.ref b78)])) _
          refine st81 _ ?_
          show Steps p.tables e below (T81.setTop (mkF m 100 #[.val (.int p0), .val (.int p1), .val (.int p2), .val (.int p3), .val (.int p4), .val (.int (p0 &&& (3 : Int32))), .val (.int p1), .val (.int p2), .val (.int p3), .val (.ref b78), .unset, .unset] [])) _
          refine XS.aload X81.here hx rfl (hb hby at_100) rfl rfl ?_
          show Steps p.tables e below (T81.setTop (mkF m 102 #[.val (.int p0), .val (.int p1), .val (.int p2), .val (.int p3), .val (.int p4), .val (.int (p0 &&& (3 : Int32))), .val (.int p1), .val (.int p2), .val (.int p3), .val (.ref b78), .unset, .unset] [(.ref b78)])) _
          refine XS.bipush X81.here hx rfl (hb hby at_102) ?_
          show Steps p.tables e below (T81.setTop (mkF m 104 #[.val (.int p0), .val (.int p1), .val (.int p2), .val (.int p3), .val (.int p4), .val (.int (p0 &&& (3 : Int32))), .val (.int p1), .val (.int p2), .val (.int p3), .val (.ref b78), .unset, .unset] [(.int (8 : Int32)), (.ref b78)])) _
          refine XS.iload X81.here hx rfl (hb hby at_104) rfl ?_
          show Steps p.tables e below (T81.setTop (mkF m 106 #[.val (.int p0), .val (.int p1), .val (.int p2), .val (.int p3), .val (.int p4), .val (.int (p0 &&& (3 : Int32))), .val (.int p1), .val (.int p2), .val (.int p3), .val (.ref b78), .unset, .unset] [(.int p3), (.int (8 : Int32)), (.ref b78)])) _
          refine st83 _ ?_
          show Steps p.tables e below (T83.setTop (mkF m 109 #[.val (.int p0), .val (.int p1), .val (.int p2), .val (.int p3), .val (.int p4), .val (.int (p0 &&& (3 : Int32))), .val (.int p1), .val (.int p2), .val (.int p3), .val (.ref b78), .unset, .unset] [])) _
          refine XS.aload X83.here hx rfl (hb hby at_109) rfl rfl ?_
          show Steps p.tables e below (T83.setTop (mkF m 111 #[.val (.int p0), .val (.int p1), .val (.int p2), .val (.int p3), .val (.int p4), .val (.int (p0 &&& (3 : Int32))), .val (.int p1), .val (.int p2), .val (.int p3), .val (.ref b78), .unset, .unset] [(.ref b78)])) _
          refine XS.bipush X83.here hx rfl (hb hby at_111) ?_
          show Steps p.tables e below (T83.setTop (mkF m 113 #[.val (.int p0), .val (.int p1), .val (.int p2), .val (.int p3), .val (.int p4), .val (.int (p0 &&& (3 : Int32))), .val (.int p1), .val (.int p2), .val (.int p3), .val (.ref b78), .unset, .unset] [(.int (12 : Int32)), (.ref b78)])) _
          refine XS.iload X83.here hx rfl (hb hby at_113) rfl ?_
          show Steps p.tables e below (T83.setTop (mkF m 115 #[.val (.int p0), .val (.int p1), .val (.int p2), .val (.int p3), .val (.int p4), .val (.int (p0 &&& (3 : Int32))), .val (.int p1), .val (.int p2), .val (.int p3), .val (.ref b78), .unset, .unset] [(.int p4), (.int (12 : Int32)), (.ref b78)])) _
          refine st85 _ ?_
          show Steps p.tables e below (T85.setTop (mkF m 118 #[.val (.int p0), .val (.int p1), .val (.int p2), .val (.int p3), .val (.int p4), .val (.int (p0 &&& (3 : Int32))), .val (.int p1), .val (.int p2), .val (.int p3), .val (.ref b78), .unset, .unset] [])) _
          refine XS.iload X85.here hx rfl (hb hby at_118) rfl ?_
          exact k
        by_cases hc120 : p1 = (0 : Int32)
        · have pre88 : ∀ t, Steps p.tables e below (T85.setTop (mkF m 125 #[.val (.int p0), .val (.int p1), .val (.int p2), .val (.int p3), .val (.int p4), .val (.int (p0 &&& (3 : Int32))), .val (.int p1), .val (.int p2), .val (.int p3), .val (.ref b78), .unset, .unset] [(.int p2)])) t → Steps p.tables e below (s₁.setTop (entryFrame m #[(.int p0), (.int p1), (.int p2), (.int p3), (.int p4)] maxLocals)) t := fun t k => by
            refine pre87 t ?_
            show Steps p.tables e below (T85.setTop (mkF m 120 #[.val (.int p0), .val (.int p1), .val (.int p2), .val (.int p3), .val (.int p4), .val (.int (p0 &&& (3 : Int32))), .val (.int p1), .val (.int p2), .val (.int p3), .val (.ref b78), .unset, .unset] [(.int p1)])) _
            refine XS.ifNo X85.here hx rfl (hb hby at_120) rfl ((if0 _ _).trans (teq hc120).2) ?_
            show Steps p.tables e below (T85.setTop (mkF m 123 #[.val (.int p0), .val (.int p1), .val (.int p2), .val (.int p3), .val (.int p4), .val (.int (p0 &&& (3 : Int32))), .val (.int p1), .val (.int p2), .val (.int p3), .val (.ref b78), .unset, .unset] [])) _
            refine XS.iload X85.here hx rfl (hb hby at_123) rfl ?_
            exact k
          by_cases hc125 : p2 = (0 : Int32)
          · have pre89 : ∀ t, Steps p.tables e below (T85.setTop (mkF m 132 #[.val (.int p0), .val (.int p1), .val (.int p2), .val (.int p3), .val (.int p4), .val (.int (p0 &&& (3 : Int32))), .val (.int p1), .val (.int p2), .val (.int p3), .val (.ref b78), .unset, .unset] [(.int (65535 : Int32)), (.int p3)])) t → Steps p.tables e below (s₁.setTop (entryFrame m #[(.int p0), (.int p1), (.int p2), (.int p3), (.int p4)] maxLocals)) t := fun t k => by
              refine pre88 t ?_
              show Steps p.tables e below (T85.setTop (mkF m 125 #[.val (.int p0), .val (.int p1), .val (.int p2), .val (.int p3), .val (.int p4), .val (.int (p0 &&& (3 : Int32))), .val (.int p1), .val (.int p2), .val (.int p3), .val (.ref b78), .unset, .unset] [(.int p2)])) _
              refine XS.ifNo X85.here hx rfl (hb hby at_125) rfl ((if0 _ _).trans (teq hc125).2) ?_
              show Steps p.tables e below (T85.setTop (mkF m 128 #[.val (.int p0), .val (.int p1), .val (.int p2), .val (.int p3), .val (.int p4), .val (.int (p0 &&& (3 : Int32))), .val (.int p1), .val (.int p2), .val (.int p3), .val (.ref b78), .unset, .unset] [])) _
              refine XS.iload X85.here hx rfl (hb hby at_128) rfl ?_
              show Steps p.tables e below (T85.setTop (mkF m 130 #[.val (.int p0), .val (.int p1), .val (.int p2), .val (.int p3), .val (.int p4), .val (.int (p0 &&& (3 : Int32))), .val (.int p1), .val (.int p2), .val (.int p3), .val (.ref b78), .unset, .unset] [(.int p3)])) _
              refine X85.ldcInt hx hown (mvT hZ (hw _ (List.mem_of_getElem? (i := 24) rfl))) (g := (mkF m 130 #[.val (.int p0), .val (.int p1), .val (.int p2), .val (.int p3), .val (.int p4), .val (.int (p0 &&& (3 : Int32))), .val (.int p1), .val (.int p2), .val (.int p3), .val (.ref b78), .unset, .unset] [(.int p3)])) rfl (hb hby at_130) _ ?_
              exact k
            by_cases hc132 : p3 = (65535 : Int32)
            · obtain ⟨T90, h90, X90, e90, E90, A90, D90, -, st90⟩ := newO X85 hx hZ hown (hw _ (List.mem_of_getElem? (i := 5) rfl)) (hw _ (List.mem_of_getElem? (i := 6) rfl)) (hw _ (List.mem_of_getElem? (i := 7) rfl)) rfl (g := (mkF m 159 #[.val (.int p0), .val (.int p1), .val (.int p2), .val (.int p3), .val (.int p4), .val (.int (p0 &&& (3 : Int32))), .val (.int p1), .val (.int p2), .val (.int p3), .val (.ref b78), .val (.int (1 : Int32)), .val (.int (0 : Int32))] [])) rfl (hb hby at_159) (by decide) (by decide)
              obtain ⟨b90, g90⟩ : ∃ z, z = T85.heap.size := ⟨_, rfl⟩
              rw [← g90] at A90 D90 st90
              have ne_b78_b90 : b78 ≠ b90 := Nat.ne_of_lt (Nat.lt_of_lt_of_le G86.lt (Nat.le_of_eq g90.symm))
              have vV91 := G86.ext E90
              have g_b90 : n0 ≤ b90 := Nat.le_trans Z85 (Nat.le_of_eq g90.symm)
              have Z90 := Nat.le_trans Z85 E90.1
              have fF92 : Fld Z h90 b90 "com/example/flytrap/flytrap/net/IpAddress" "bytes" "[B" .null := D90 (Or.inr (hw _ (List.mem_of_getElem? (i := 18) rfl))) (ty := (.array .byte)) (by decide)
              have hp93 : ¬ ((F4_16 (nar .byte (((p1.toUInt32 >>> ((24 : Int32) &&& 31).toUInt32).toInt32).toInt8.toInt32)) (nar .byte (((p1.toUInt32 >>> ((16 : Int32) &&& 31).toUInt32).toInt32).toInt8.toInt32)) (nar .byte (((p1.toUInt32 >>> ((8 : Int32) &&& 31).toUInt32).toInt32).toInt8.toInt32)) (nar .byte (p1.toInt8.toInt32)) (nar .byte (((p2.toUInt32 >>> ((24 : Int32) &&& 31).toUInt32).toInt32).toInt8.toInt32)) (nar .byte (((p2.toUInt32 >>> ((16 : Int32) &&& 31).toUInt32).toInt32).toInt8.toInt32)) (nar .byte (((p2.toUInt32 >>> ((8 : Int32) &&& 31).toUInt32).toInt32).toInt8.toInt32)) (nar .byte (p2.toInt8.toInt32)) (nar .byte (((p3.toUInt32 >>> ((24 : Int32) &&& 31).toUInt32).toInt32).toInt8.toInt32)) (nar .byte (((p3.toUInt32 >>> ((16 : Int32) &&& 31).toUInt32).toInt32).toInt8.toInt32)) (nar .byte (((p3.toUInt32 >>> ((8 : Int32) &&& 31).toUInt32).toInt32).toInt8.toInt32)) (nar .byte (p3.toInt8.toInt32))) = (0 : Int32)) := own_map1 hc120 hc125 hc132
              obtain ⟨_, _, ⟨T94, L94, k94, n94⟩, -, X94, ⟨Lc94, hQ94, l94, y94, z94⟩, st94⟩ := X90.specialBack hx (y := (⟨"com/example/flytrap/flytrap/net/IpAddress", "<init>", "([B)V"⟩ : MethodName)) rfl hown (mvT hZ (hw _ (List.mem_of_getElem? (i := 8) rfl))) (mvT hZ (hw _ (List.mem_of_getElem? (i := 9) rfl))) (mvT hZ (hw _ (List.mem_of_getElem? (i := 10) rfl))) (by decide) (backOf (W := 1) (rm2_16m l Z a0 hw [] b90 b78 _ _ _ _ _ _ _ _ _ _ _ _ _ _ _ _ _ .null h90 n0 Z90 vV91 fF92 A90 g_b90 ne_b78_b90 hp93) hZ (hw _ (List.mem_of_getElem? (i := 10) rfl)) (hw _ (List.mem_of_getElem? (i := 7) rfl)) (by decide) (by decide)) (g := (mkF m 165 #[.val (.int p0), .val (.int p1), .val (.int p2), .val (.int p3), .val (.int p4), .val (.int (p0 &&& (3 : Int32))), .val (.int p1), .val (.int p2), .val (.int p3), .val (.ref b78), .val (.int (1 : Int32)), .val (.int (0 : Int32))] [(.ref b78), (.ref b90), (.ref b90)])) rfl (by rw [hml]; rfl) (Steps.refl _) (a := b90) (argsL := [(.ref b78)]) (rest := [(.ref b90)]) (lenOf pd_5 rfl) rfl (by show 2 * 0 + _ ≤ _; exact Nat.le_of_eq rfl) (hb hby at_165) (fun _ _ => ⟨rfl, e90, (by decide : 2 + 1 ≤ _), (by decide : 17 + 4 ≤ _)⟩)
              dsimp only [Pt.U, Pt.locs, Pt.cells, Pt.slots] at X94 l94 y94 z94 st94 hQ94
              subst l94 y94 z94
              obtain ⟨b94, rfl, N94q, K94, G95, G96, ⟨kG96, vsG96, ddG96, VG96⟩, sz94⟩ := hQ94
              have vV97 := vV91.keep K94 (ninS ne_b78_b90 nin0)
              have Z94 := Nat.le_trans Z90 K94.1
              have N94 := Fr.app N85 N94q
              obtain ⟨cq98, kq98, q98a, q98b, q98c⟩ := isOf hZ rfl G95
              obtain ⟨_, _, ⟨T98, L98, k98, n98⟩, -, X98, ⟨Lc98, hQ98, l98, y98, z98⟩, st98⟩ := X94.virtualBack hx (y := (⟨"com/example/flytrap/flytrap/net/IpAddress", "isIpv6", "()Z"⟩ : MethodName)) (z := (⟨"com/example/flytrap/flytrap/net/IpAddress", "isIpv6", "()Z"⟩ : MethodName)) hown (mvT hZ (hw _ (List.mem_of_getElem? (i := 19) rfl))) (mvT hZ (hw _ (List.mem_of_getElem? (i := 20) rfl))) (notFace_of_selects (args := #[]) (mvT hZ (hw _ (List.mem_of_getElem? (i := 22) rfl)))) (mvT hZ (hw _ (List.mem_of_getElem? (i := 22) rfl))) (mvT hZ (hw _ (List.mem_of_getElem? (i := 21) rfl))) (by decide) (backOf (W := 0) (rm5 l Z a0 hw [] b90 b94 (4 : Int32) T94.heap n0 Z94 G96 ⟨_, _, _, VG96⟩) hZ (hw _ (List.mem_of_getElem? (i := 23) rfl)) (hw _ (List.mem_of_getElem? (i := 7) rfl)) (by decide) (by decide)) q98a q98c (g := (mkF m 168 #[.val (.int p0), .val (.int p1), .val (.int p2), .val (.int p3), .val (.int p4), .val (.int (p0 &&& (3 : Int32))), .val (.int p1), .val (.int p2), .val (.int p3), .val (.ref b78), .val (.int (1 : Int32)), .val (.int (0 : Int32))] [(.ref b90)])) rfl (by rw [hml]; rfl) (Steps.refl _) (argsL := []) (rest := []) (lenOf pd_6 rfl) rfl (by show 2 * 0 + _ ≤ _; exact Nat.le_of_eq rfl) (hb hby at_168) (fun _ _ => ⟨rfl, rfl, (by decide : 3 + 0 ≤ _), (by decide : 21 + 0 ≤ _)⟩)
              dsimp only [Pt.U, Pt.locs, Pt.cells, Pt.slots] at X98 l98 y98 z98 st98 hQ98
              subst l98 y98 z98
              obtain ⟨rfl, N98q, e98⟩ := hQ98
              have N98 := Fr.app N94 N98q
              have hc173 : (F5 (4 : Int32)) = (0 : Int32) := by decide
              obtain ⟨fs, hr, hrun, hended, hW, hsame⟩ := X98.leave (v := some (.int (1 : Int32))) (fun h => by rw [Bd.returns] at h; cases h) (BodyLoose.notSynchronized Bd)
              refine ⟨_, _, pre89 _ ?_, hrun, hended, _, _, rfl, ?_, ⟨_, rfl⟩, hW, hsame.mono (by decide) (by decide)⟩
              · show Steps p.tables e below (T85.setTop (mkF m 132 #[.val (.int p0), .val (.int p1), .val (.int p2), .val (.int p3), .val (.int p4), .val (.int (p0 &&& (3 : Int32))), .val (.int p1), .val (.int p2), .val (.int p3), .val (.ref b78), .unset, .unset] [(.int (65535 : Int32)), (.int p3)])) _
                refine XS.icmpNo X85.here hx rfl (hb hby at_132) rfl (teq hc132).2 ?_
                show Steps p.tables e below (T85.setTop (mkF m 135 #[.val (.int p0), .val (.int p1), .val (.int p2), .val (.int p3), .val (.int p4), .val (.int (p0 &&& (3 : Int32))), .val (.int p1), .val (.int p2), .val (.int p3), .val (.ref b78), .unset, .unset] [])) _
                refine XS.iconst X85.here hx rfl (hb hby at_135) ?_
                show Steps p.tables e below (T85.setTop (mkF m 136 #[.val (.int p0), .val (.int p1), .val (.int p2), .val (.int p3), .val (.int p4), .val (.int (p0 &&& (3 : Int32))), .val (.int p1), .val (.int p2), .val (.int p3), .val (.ref b78), .unset, .unset] [(.int (1 : Int32))])) _
                refine XS.goto X85.here hx rfl (pc0 := 136) (pc' := 140) rfl (hb hby at_136) (by decide) (by decide) ?_
                show Steps p.tables e below (T85.setTop (mkF m 140 #[.val (.int p0), .val (.int p1), .val (.int p2), .val (.int p3), .val (.int p4), .val (.int (p0 &&& (3 : Int32))), .val (.int p1), .val (.int p2), .val (.int p3), .val (.ref b78), .unset, .unset] [(.int (1 : Int32))])) _
                refine XS.istore X85.here hx rfl (hb hby at_140) rfl (l' := #[.val (.int p0), .val (.int p1), .val (.int p2), .val (.int p3), .val (.int p4), .val (.int (p0 &&& (3 : Int32))), .val (.int p1), .val (.int p2), .val (.int p3), .val (.ref b78), .val (.int (1 : Int32)), .unset]) rfl ?_
                show Steps p.tables e below (T85.setTop (mkF m 142 #[.val (.int p0), .val (.int p1), .val (.int p2), .val (.int p3), .val (.int p4), .val (.int (p0 &&& (3 : Int32))), .val (.int p1), .val (.int p2), .val (.int p3), .val (.ref b78), .val (.int (1 : Int32)), .unset] [])) _
                refine XS.iload X85.here hx rfl (hb hby at_142) rfl ?_
                show Steps p.tables e below (T85.setTop (mkF m 144 #[.val (.int p0), .val (.int p1), .val (.int p2), .val (.int p3), .val (.int p4), .val (.int (p0 &&& (3 : Int32))), .val (.int p1), .val (.int p2), .val (.int p3), .val (.ref b78), .val (.int (1 : Int32)), .unset] [(.int (p0 &&& (3 : Int32)))])) _
                refine XS.ifNo X85.here hx rfl (hb hby at_144) rfl ((if0 _ _).trans (feq hc60).1) ?_
                show Steps p.tables e below (T85.setTop (mkF m 147 #[.val (.int p0), .val (.int p1), .val (.int p2), .val (.int p3), .val (.int p4), .val (.int (p0 &&& (3 : Int32))), .val (.int p1), .val (.int p2), .val (.int p3), .val (.ref b78), .val (.int (1 : Int32)), .unset] [])) _
                refine XS.iload X85.here hx rfl (hb hby at_147) rfl ?_
                show Steps p.tables e below (T85.setTop (mkF m 149 #[.val (.int p0), .val (.int p1), .val (.int p2), .val (.int p3), .val (.int p4), .val (.int (p0 &&& (3 : Int32))), .val (.int p1), .val (.int p2), .val (.int p3), .val (.ref b78), .val (.int (1 : Int32)), .unset] [(.int (1 : Int32))])) _
                refine XS.ifYes X85.here hx rfl (pc0 := 149) (pc' := 156) rfl (hb hby at_149) rfl ((if0 _ _).trans (feq (by decide : ¬ ((1 : Int32) = (0 : Int32)))).2) (by decide) (by decide) ?_
                show Steps p.tables e below (T85.setTop (mkF m 156 #[.val (.int p0), .val (.int p1), .val (.int p2), .val (.int p3), .val (.int p4), .val (.int (p0 &&& (3 : Int32))), .val (.int p1), .val (.int p2), .val (.int p3), .val (.ref b78), .val (.int (1 : Int32)), .unset] [])) _
                refine XS.iconst X85.here hx rfl (hb hby at_156) ?_
                show Steps p.tables e below (T85.setTop (mkF m 157 #[.val (.int p0), .val (.int p1), .val (.int p2), .val (.int p3), .val (.int p4), .val (.int (p0 &&& (3 : Int32))), .val (.int p1), .val (.int p2), .val (.int p3), .val (.ref b78), .val (.int (1 : Int32)), .unset] [(.int (0 : Int32))])) _
                refine XS.istore X85.here hx rfl (hb hby at_157) rfl (l' := #[.val (.int p0), .val (.int p1), .val (.int p2), .val (.int p3), .val (.int p4), .val (.int (p0 &&& (3 : Int32))), .val (.int p1), .val (.int p2), .val (.int p3), .val (.ref b78), .val (.int (1 : Int32)), .val (.int (0 : Int32))]) rfl ?_
                show Steps p.tables e below (T85.setTop (mkF m 159 #[.val (.int p0), .val (.int p1), .val (.int p2), .val (.int p3), .val (.int p4), .val (.int (p0 &&& (3 : Int32))), .val (.int p1), .val (.int p2), .val (.int p3), .val (.ref b78), .val (.int (1 : Int32)), .val (.int (0 : Int32))] [])) _
                refine st90 _ ?_
                show Steps p.tables e below (T90.setTop (mkF m 162 #[.val (.int p0), .val (.int p1), .val (.int p2), .val (.int p3), .val (.int p4), .val (.int (p0 &&& (3 : Int32))), .val (.int p1), .val (.int p2), .val (.int p3), .val (.ref b78), .val (.int (1 : Int32)), .val (.int (0 : Int32))] [(.ref b90)])) _
                refine XS.dup X90.here hx rfl (hb hby at_162) rfl rfl ?_
                show Steps p.tables e below (T90.setTop (mkF m 163 #[.val (.int p0), .val (.int p1), .val (.int p2), .val (.int p3), .val (.int p4), .val (.int (p0 &&& (3 : Int32))), .val (.int p1), .val (.int p2), .val (.int p3), .val (.ref b78), .val (.int (1 : Int32)), .val (.int (0 : Int32))] [(.ref b90), (.ref b90)])) _
                refine XS.aload X90.here hx rfl (hb hby at_163) rfl rfl ?_
                show Steps p.tables e below (T90.setTop (mkF m 165 #[.val (.int p0), .val (.int p1), .val (.int p2), .val (.int p3), .val (.int p4), .val (.int (p0 &&& (3 : Int32))), .val (.int p1), .val (.int p2), .val (.int p3), .val (.ref b78), .val (.int (1 : Int32)), .val (.int (0 : Int32))] [(.ref b78), (.ref b90), (.ref b90)])) _
                refine st94.trans ?_
                show Steps p.tables e below (T94.setTop (mkF m 168 #[.val (.int p0), .val (.int p1), .val (.int p2), .val (.int p3), .val (.int p4), .val (.int (p0 &&& (3 : Int32))), .val (.int p1), .val (.int p2), .val (.int p3), .val (.ref b78), .val (.int (1 : Int32)), .val (.int (0 : Int32))] [(.ref b90)])) _
                refine st98.trans ?_
                show Steps p.tables e below (T98.setTop (mkF m 171 #[.val (.int p0), .val (.int p1), .val (.int p2), .val (.int p3), .val (.int p4), .val (.int (p0 &&& (3 : Int32))), .val (.int p1), .val (.int p2), .val (.int p3), .val (.ref b78), .val (.int (1 : Int32)), .val (.int (0 : Int32))] [(.int (F5 (4 : Int32)))])) _
                refine XS.iload X98.here hx rfl (hb hby at_171) rfl ?_
                show Steps p.tables e below (T98.setTop (mkF m 173 #[.val (.int p0), .val (.int p1), .val (.int p2), .val (.int p3), .val (.int p4), .val (.int (p0 &&& (3 : Int32))), .val (.int p1), .val (.int p2), .val (.int p3), .val (.ref b78), .val (.int (1 : Int32)), .val (.int (0 : Int32))] [(.int (0 : Int32)), (.int (F5 (4 : Int32)))])) _
                refine XS.icmpNo X98.here hx rfl (hb hby at_173) rfl (teq hc173).2 ?_
                show Steps p.tables e below (T98.setTop (mkF m 176 #[.val (.int p0), .val (.int p1), .val (.int p2), .val (.int p3), .val (.int p4), .val (.int (p0 &&& (3 : Int32))), .val (.int p1), .val (.int p2), .val (.int p3), .val (.ref b78), .val (.int (1 : Int32)), .val (.int (0 : Int32))] [])) _
                refine XS.iconst X98.here hx rfl (hb hby at_176) ?_
                show Steps p.tables e below (T98.setTop (mkF m 177 #[.val (.int p0), .val (.int p1), .val (.int p2), .val (.int p3), .val (.int p4), .val (.int (p0 &&& (3 : Int32))), .val (.int p1), .val (.int p2), .val (.int p3), .val (.ref b78), .val (.int (1 : Int32)), .val (.int (0 : Int32))] [(.int (1 : Int32))])) _
                refine XS.goto X98.here hx rfl (pc0 := 177) (pc' := 181) rfl (hb hby at_177) (by decide) (by decide) ?_
                show Steps p.tables e below (T98.setTop (mkF m 181 #[.val (.int p0), .val (.int p1), .val (.int p2), .val (.int p3), .val (.int p4), .val (.int (p0 &&& (3 : Int32))), .val (.int p1), .val (.int p2), .val (.int p3), .val (.ref b78), .val (.int (1 : Int32)), .val (.int (0 : Int32))] [(.int (1 : Int32))])) _
                exact retN X98 hx (t := .boolean) Bd.returns (by simp) (hb hby at_181) hr
              · show Q0 Z p0 p1 p2 p3 p4 h0 n0 _ T98.heap _
                rw [e98]
                exact ⟨rfl, N98⟩
            · obtain ⟨T99, h99, X99, e99, E99, A99, D99, -, st99⟩ := newO X85 hx hZ hown (hw _ (List.mem_of_getElem? (i := 5) rfl)) (hw _ (List.mem_of_getElem? (i := 6) rfl)) (hw _ (List.mem_of_getElem? (i := 7) rfl)) rfl (g := (mkF m 159 #[.val (.int p0), .val (.int p1), .val (.int p2), .val (.int p3), .val (.int p4), .val (.int (p0 &&& (3 : Int32))), .val (.int p1), .val (.int p2), .val (.int p3), .val (.ref b78), .val (.int (0 : Int32)), .val (.int (1 : Int32))] [])) rfl (hb hby at_159) (by decide) (by decide)
              obtain ⟨b99, g99⟩ : ∃ z, z = T85.heap.size := ⟨_, rfl⟩
              rw [← g99] at A99 D99 st99
              have ne_b78_b99 : b78 ≠ b99 := Nat.ne_of_lt (Nat.lt_of_lt_of_le G86.lt (Nat.le_of_eq g99.symm))
              have vV100 := G86.ext E99
              have g_b99 : n0 ≤ b99 := Nat.le_trans Z85 (Nat.le_of_eq g99.symm)
              have Z99 := Nat.le_trans Z85 E99.1
              have fF101 : Fld Z h99 b99 "com/example/flytrap/flytrap/net/IpAddress" "bytes" "[B" .null := D99 (Or.inr (hw _ (List.mem_of_getElem? (i := 18) rfl))) (ty := (.array .byte)) (by decide)
              have hp102 : (F4_16 (nar .byte (((p1.toUInt32 >>> ((24 : Int32) &&& 31).toUInt32).toInt32).toInt8.toInt32)) (nar .byte (((p1.toUInt32 >>> ((16 : Int32) &&& 31).toUInt32).toInt32).toInt8.toInt32)) (nar .byte (((p1.toUInt32 >>> ((8 : Int32) &&& 31).toUInt32).toInt32).toInt8.toInt32)) (nar .byte (p1.toInt8.toInt32)) (nar .byte (((p2.toUInt32 >>> ((24 : Int32) &&& 31).toUInt32).toInt32).toInt8.toInt32)) (nar .byte (((p2.toUInt32 >>> ((16 : Int32) &&& 31).toUInt32).toInt32).toInt8.toInt32)) (nar .byte (((p2.toUInt32 >>> ((8 : Int32) &&& 31).toUInt32).toInt32).toInt8.toInt32)) (nar .byte (p2.toInt8.toInt32)) (nar .byte (((p3.toUInt32 >>> ((24 : Int32) &&& 31).toUInt32).toInt32).toInt8.toInt32)) (nar .byte (((p3.toUInt32 >>> ((16 : Int32) &&& 31).toUInt32).toInt32).toInt8.toInt32)) (nar .byte (((p3.toUInt32 >>> ((8 : Int32) &&& 31).toUInt32).toInt32).toInt8.toInt32)) (nar .byte (p3.toInt8.toInt32))) = (0 : Int32) := own_map0 (fun q => hc132 q.2.2)
              obtain ⟨_, _, ⟨T103, L103, k103, n103⟩, -, X103, ⟨Lc103, hQ103, l103, y103, z103⟩, st103⟩ := X99.specialBack hx (y := (⟨"com/example/flytrap/flytrap/net/IpAddress", "<init>", "([B)V"⟩ : MethodName)) rfl hown (mvT hZ (hw _ (List.mem_of_getElem? (i := 8) rfl))) (mvT hZ (hw _ (List.mem_of_getElem? (i := 9) rfl))) (mvT hZ (hw _ (List.mem_of_getElem? (i := 10) rfl))) (by decide) (backOf (W := 1) (rm2_16n l Z a0 hw [] b99 b78 _ _ _ _ _ _ _ _ _ _ _ _ _ _ _ _ _ .null h99 n0 Z99 vV100 fF101 A99 g_b99 ne_b78_b99 hp102) hZ (hw _ (List.mem_of_getElem? (i := 10) rfl)) (hw _ (List.mem_of_getElem? (i := 7) rfl)) (by decide) (by decide)) (g := (mkF m 165 #[.val (.int p0), .val (.int p1), .val (.int p2), .val (.int p3), .val (.int p4), .val (.int (p0 &&& (3 : Int32))), .val (.int p1), .val (.int p2), .val (.int p3), .val (.ref b78), .val (.int (0 : Int32)), .val (.int (1 : Int32))] [(.ref b78), (.ref b99), (.ref b99)])) rfl (by rw [hml]; rfl) (Steps.refl _) (a := b99) (argsL := [(.ref b78)]) (rest := [(.ref b99)]) (lenOf pd_5 rfl) rfl (by show 2 * 0 + _ ≤ _; exact Nat.le_of_eq rfl) (hb hby at_165) (fun _ _ => ⟨rfl, e99, (by decide : 2 + 0 ≤ _), (by decide : 17 + 0 ≤ _)⟩)
              dsimp only [Pt.U, Pt.locs, Pt.cells, Pt.slots] at X103 l103 y103 z103 st103 hQ103
              subst l103 y103 z103
              obtain ⟨rfl, N103q, K103, G104, G105⟩ := hQ103
              have vV106 := vV100.keep K103 (ninS ne_b78_b99 nin0)
              have Z103 := Nat.le_trans Z99 K103.1
              have N103 := Fr.app N85 N103q
              obtain ⟨cq107, kq107, q107a, q107b, q107c⟩ := isOf hZ rfl G104
              obtain ⟨_, _, ⟨T107, L107, k107, n107⟩, -, X107, ⟨Lc107, hQ107, l107, y107, z107⟩, st107⟩ := X103.virtualBack hx (y := (⟨"com/example/flytrap/flytrap/net/IpAddress", "isIpv6", "()Z"⟩ : MethodName)) (z := (⟨"com/example/flytrap/flytrap/net/IpAddress", "isIpv6", "()Z"⟩ : MethodName)) hown (mvT hZ (hw _ (List.mem_of_getElem? (i := 19) rfl))) (mvT hZ (hw _ (List.mem_of_getElem? (i := 20) rfl))) (notFace_of_selects (args := #[]) (mvT hZ (hw _ (List.mem_of_getElem? (i := 22) rfl)))) (mvT hZ (hw _ (List.mem_of_getElem? (i := 22) rfl))) (mvT hZ (hw _ (List.mem_of_getElem? (i := 21) rfl))) (by decide) (backOf (W := 0) (rm5 l Z a0 hw [] b99 b78 (16 : Int32) T103.heap n0 Z103 G105 ⟨_, _, _, vV106⟩) hZ (hw _ (List.mem_of_getElem? (i := 23) rfl)) (hw _ (List.mem_of_getElem? (i := 7) rfl)) (by decide) (by decide)) q107a q107c (g := (mkF m 168 #[.val (.int p0), .val (.int p1), .val (.int p2), .val (.int p3), .val (.int p4), .val (.int (p0 &&& (3 : Int32))), .val (.int p1), .val (.int p2), .val (.int p3), .val (.ref b78), .val (.int (0 : Int32)), .val (.int (1 : Int32))] [(.ref b99)])) rfl (by rw [hml]; rfl) (Steps.refl _) (argsL := []) (rest := []) (lenOf pd_6 rfl) rfl (by show 2 * 0 + _ ≤ _; exact Nat.le_of_eq rfl) (hb hby at_168) (fun _ _ => ⟨rfl, rfl, (by decide : 2 + 0 ≤ _), (by decide : 17 + 0 ≤ _)⟩)
              dsimp only [Pt.U, Pt.locs, Pt.cells, Pt.slots] at X107 l107 y107 z107 st107 hQ107
              subst l107 y107 z107
              obtain ⟨rfl, N107q, e107⟩ := hQ107
              have N107 := Fr.app N103 N107q
              have hc173 : (F5 (16 : Int32)) = (1 : Int32) := by decide
              obtain ⟨fs, hr, hrun, hended, hW, hsame⟩ := X107.leave (v := some (.int (1 : Int32))) (fun h => by rw [Bd.returns] at h; cases h) (BodyLoose.notSynchronized Bd)
              refine ⟨_, _, pre89 _ ?_, hrun, hended, _, _, rfl, ?_, ⟨_, rfl⟩, hW, hsame.mono (by decide) (by decide)⟩
              · show Steps p.tables e below (T85.setTop (mkF m 132 #[.val (.int p0), .val (.int p1), .val (.int p2), .val (.int p3), .val (.int p4), .val (.int (p0 &&& (3 : Int32))), .val (.int p1), .val (.int p2), .val (.int p3), .val (.ref b78), .unset, .unset] [(.int (65535 : Int32)), (.int p3)])) _
                refine XS.icmpYes X85.here hx rfl (pc0 := 132) (pc' := 139) rfl (hb hby at_132) rfl (feq hc132).2 (by decide) (by decide) ?_
                show Steps p.tables e below (T85.setTop (mkF m 139 #[.val (.int p0), .val (.int p1), .val (.int p2), .val (.int p3), .val (.int p4), .val (.int (p0 &&& (3 : Int32))), .val (.int p1), .val (.int p2), .val (.int p3), .val (.ref b78), .unset, .unset] [])) _
                refine XS.iconst X85.here hx rfl (hb hby at_139) ?_
                show Steps p.tables e below (T85.setTop (mkF m 140 #[.val (.int p0), .val (.int p1), .val (.int p2), .val (.int p3), .val (.int p4), .val (.int (p0 &&& (3 : Int32))), .val (.int p1), .val (.int p2), .val (.int p3), .val (.ref b78), .unset, .unset] [(.int (0 : Int32))])) _
                refine XS.istore X85.here hx rfl (hb hby at_140) rfl (l' := #[.val (.int p0), .val (.int p1), .val (.int p2), .val (.int p3), .val (.int p4), .val (.int (p0 &&& (3 : Int32))), .val (.int p1), .val (.int p2), .val (.int p3), .val (.ref b78), .val (.int (0 : Int32)), .unset]) rfl ?_
                show Steps p.tables e below (T85.setTop (mkF m 142 #[.val (.int p0), .val (.int p1), .val (.int p2), .val (.int p3), .val (.int p4), .val (.int (p0 &&& (3 : Int32))), .val (.int p1), .val (.int p2), .val (.int p3), .val (.ref b78), .val (.int (0 : Int32)), .unset] [])) _
                refine XS.iload X85.here hx rfl (hb hby at_142) rfl ?_
                show Steps p.tables e below (T85.setTop (mkF m 144 #[.val (.int p0), .val (.int p1), .val (.int p2), .val (.int p3), .val (.int p4), .val (.int (p0 &&& (3 : Int32))), .val (.int p1), .val (.int p2), .val (.int p3), .val (.ref b78), .val (.int (0 : Int32)), .unset] [(.int (p0 &&& (3 : Int32)))])) _
                refine XS.ifNo X85.here hx rfl (hb hby at_144) rfl ((if0 _ _).trans (feq hc60).1) ?_
                show Steps p.tables e below (T85.setTop (mkF m 147 #[.val (.int p0), .val (.int p1), .val (.int p2), .val (.int p3), .val (.int p4), .val (.int (p0 &&& (3 : Int32))), .val (.int p1), .val (.int p2), .val (.int p3), .val (.ref b78), .val (.int (0 : Int32)), .unset] [])) _
                refine XS.iload X85.here hx rfl (hb hby at_147) rfl ?_
                show Steps p.tables e below (T85.setTop (mkF m 149 #[.val (.int p0), .val (.int p1), .val (.int p2), .val (.int p3), .val (.int p4), .val (.int (p0 &&& (3 : Int32))), .val (.int p1), .val (.int p2), .val (.int p3), .val (.ref b78), .val (.int (0 : Int32)), .unset] [(.int (0 : Int32))])) _
                refine XS.ifNo X85.here hx rfl (hb hby at_149) rfl ((if0 _ _).trans (teq (by decide : (0 : Int32) = (0 : Int32))).2) ?_
                show Steps p.tables e below (T85.setTop (mkF m 152 #[.val (.int p0), .val (.int p1), .val (.int p2), .val (.int p3), .val (.int p4), .val (.int (p0 &&& (3 : Int32))), .val (.int p1), .val (.int p2), .val (.int p3), .val (.ref b78), .val (.int (0 : Int32)), .unset] [])) _
                refine XS.iconst X85.here hx rfl (hb hby at_152) ?_
                show Steps p.tables e below (T85.setTop (mkF m 153 #[.val (.int p0), .val (.int p1), .val (.int p2), .val (.int p3), .val (.int p4), .val (.int (p0 &&& (3 : Int32))), .val (.int p1), .val (.int p2), .val (.int p3), .val (.ref b78), .val (.int (0 : Int32)), .unset] [(.int (1 : Int32))])) _
                refine XS.goto X85.here hx rfl (pc0 := 153) (pc' := 157) rfl (hb hby at_153) (by decide) (by decide) ?_
                show Steps p.tables e below (T85.setTop (mkF m 157 #[.val (.int p0), .val (.int p1), .val (.int p2), .val (.int p3), .val (.int p4), .val (.int (p0 &&& (3 : Int32))), .val (.int p1), .val (.int p2), .val (.int p3), .val (.ref b78), .val (.int (0 : Int32)), .unset] [(.int (1 : Int32))])) _
                refine XS.istore X85.here hx rfl (hb hby at_157) rfl (l' := #[.val (.int p0), .val (.int p1), .val (.int p2), .val (.int p3), .val (.int p4), .val (.int (p0 &&& (3 : Int32))), .val (.int p1), .val (.int p2), .val (.int p3), .val (.ref b78), .val (.int (0 : Int32)), .val (.int (1 : Int32))]) rfl ?_
                show Steps p.tables e below (T85.setTop (mkF m 159 #[.val (.int p0), .val (.int p1), .val (.int p2), .val (.int p3), .val (.int p4), .val (.int (p0 &&& (3 : Int32))), .val (.int p1), .val (.int p2), .val (.int p3), .val (.ref b78), .val (.int (0 : Int32)), .val (.int (1 : Int32))] [])) _
                refine st99 _ ?_
                show Steps p.tables e below (T99.setTop (mkF m 162 #[.val (.int p0), .val (.int p1), .val (.int p2), .val (.int p3), .val (.int p4), .val (.int (p0 &&& (3 : Int32))), .val (.int p1), .val (.int p2), .val (.int p3), .val (.ref b78), .val (.int (0 : Int32)), .val (.int (1 : Int32))] [(.ref b99)])) _
                refine XS.dup X99.here hx rfl (hb hby at_162) rfl rfl ?_
                show Steps p.tables e below (T99.setTop (mkF m 163 #[.val (.int p0), .val (.int p1), .val (.int p2), .val (.int p3), .val (.int p4), .val (.int (p0 &&& (3 : Int32))), .val (.int p1), .val (.int p2), .val (.int p3), .val (.ref b78), .val (.int (0 : Int32)), .val (.int (1 : Int32))] [(.ref b99), (.ref b99)])) _
                refine XS.aload X99.here hx rfl (hb hby at_163) rfl rfl ?_
                show Steps p.tables e below (T99.setTop (mkF m 165 #[.val (.int p0), .val (.int p1), .val (.int p2), .val (.int p3), .val (.int p4), .val (.int (p0 &&& (3 : Int32))), .val (.int p1), .val (.int p2), .val (.int p3), .val (.ref b78), .val (.int (0 : Int32)), .val (.int (1 : Int32))] [(.ref b78), (.ref b99), (.ref b99)])) _
                refine st103.trans ?_
                show Steps p.tables e below (T103.setTop (mkF m 168 #[.val (.int p0), .val (.int p1), .val (.int p2), .val (.int p3), .val (.int p4), .val (.int (p0 &&& (3 : Int32))), .val (.int p1), .val (.int p2), .val (.int p3), .val (.ref b78), .val (.int (0 : Int32)), .val (.int (1 : Int32))] [(.ref b99)])) _
                refine st107.trans ?_
                show Steps p.tables e below (T107.setTop (mkF m 171 #[.val (.int p0), .val (.int p1), .val (.int p2), .val (.int p3), .val (.int p4), .val (.int (p0 &&& (3 : Int32))), .val (.int p1), .val (.int p2), .val (.int p3), .val (.ref b78), .val (.int (0 : Int32)), .val (.int (1 : Int32))] [(.int (F5 (16 : Int32)))])) _
                refine XS.iload X107.here hx rfl (hb hby at_171) rfl ?_
                show Steps p.tables e below (T107.setTop (mkF m 173 #[.val (.int p0), .val (.int p1), .val (.int p2), .val (.int p3), .val (.int p4), .val (.int (p0 &&& (3 : Int32))), .val (.int p1), .val (.int p2), .val (.int p3), .val (.ref b78), .val (.int (0 : Int32)), .val (.int (1 : Int32))] [(.int (1 : Int32)), (.int (F5 (16 : Int32)))])) _
                refine XS.icmpNo X107.here hx rfl (hb hby at_173) rfl (teq hc173).2 ?_
                show Steps p.tables e below (T107.setTop (mkF m 176 #[.val (.int p0), .val (.int p1), .val (.int p2), .val (.int p3), .val (.int p4), .val (.int (p0 &&& (3 : Int32))), .val (.int p1), .val (.int p2), .val (.int p3), .val (.ref b78), .val (.int (0 : Int32)), .val (.int (1 : Int32))] [])) _
                refine XS.iconst X107.here hx rfl (hb hby at_176) ?_
                show Steps p.tables e below (T107.setTop (mkF m 177 #[.val (.int p0), .val (.int p1), .val (.int p2), .val (.int p3), .val (.int p4), .val (.int (p0 &&& (3 : Int32))), .val (.int p1), .val (.int p2), .val (.int p3), .val (.ref b78), .val (.int (0 : Int32)), .val (.int (1 : Int32))] [(.int (1 : Int32))])) _
                refine XS.goto X107.here hx rfl (pc0 := 177) (pc' := 181) rfl (hb hby at_177) (by decide) (by decide) ?_
                show Steps p.tables e below (T107.setTop (mkF m 181 #[.val (.int p0), .val (.int p1), .val (.int p2), .val (.int p3), .val (.int p4), .val (.int (p0 &&& (3 : Int32))), .val (.int p1), .val (.int p2), .val (.int p3), .val (.ref b78), .val (.int (0 : Int32)), .val (.int (1 : Int32))] [(.int (1 : Int32))])) _
                exact retN X107 hx (t := .boolean) Bd.returns (by simp) (hb hby at_181) hr
              · show Q0 Z p0 p1 p2 p3 p4 h0 n0 _ T107.heap _
                rw [e107]
                exact ⟨rfl, N107⟩
          · obtain ⟨T108, h108, X108, e108, E108, A108, D108, -, st108⟩ := newO X85 hx hZ hown (hw _ (List.mem_of_getElem? (i := 5) rfl)) (hw _ (List.mem_of_getElem? (i := 6) rfl)) (hw _ (List.mem_of_getElem? (i := 7) rfl)) rfl (g := (mkF m 159 #[.val (.int p0), .val (.int p1), .val (.int p2), .val (.int p3), .val (.int p4), .val (.int (p0 &&& (3 : Int32))), .val (.int p1), .val (.int p2), .val (.int p3), .val (.ref b78), .val (.int (0 : Int32)), .val (.int (1 : Int32))] [])) rfl (hb hby at_159) (by decide) (by decide)
            obtain ⟨b108, g108⟩ : ∃ z, z = T85.heap.size := ⟨_, rfl⟩
            rw [← g108] at A108 D108 st108
            have ne_b78_b108 : b78 ≠ b108 := Nat.ne_of_lt (Nat.lt_of_lt_of_le G86.lt (Nat.le_of_eq g108.symm))
            have vV109 := G86.ext E108
            have g_b108 : n0 ≤ b108 := Nat.le_trans Z85 (Nat.le_of_eq g108.symm)
            have Z108 := Nat.le_trans Z85 E108.1
            have fF110 : Fld Z h108 b108 "com/example/flytrap/flytrap/net/IpAddress" "bytes" "[B" .null := D108 (Or.inr (hw _ (List.mem_of_getElem? (i := 18) rfl))) (ty := (.array .byte)) (by decide)
            have hp111 : (F4_16 (nar .byte (((p1.toUInt32 >>> ((24 : Int32) &&& 31).toUInt32).toInt32).toInt8.toInt32)) (nar .byte (((p1.toUInt32 >>> ((16 : Int32) &&& 31).toUInt32).toInt32).toInt8.toInt32)) (nar .byte (((p1.toUInt32 >>> ((8 : Int32) &&& 31).toUInt32).toInt32).toInt8.toInt32)) (nar .byte (p1.toInt8.toInt32)) (nar .byte (((p2.toUInt32 >>> ((24 : Int32) &&& 31).toUInt32).toInt32).toInt8.toInt32)) (nar .byte (((p2.toUInt32 >>> ((16 : Int32) &&& 31).toUInt32).toInt32).toInt8.toInt32)) (nar .byte (((p2.toUInt32 >>> ((8 : Int32) &&& 31).toUInt32).toInt32).toInt8.toInt32)) (nar .byte (p2.toInt8.toInt32)) (nar .byte (((p3.toUInt32 >>> ((24 : Int32) &&& 31).toUInt32).toInt32).toInt8.toInt32)) (nar .byte (((p3.toUInt32 >>> ((16 : Int32) &&& 31).toUInt32).toInt32).toInt8.toInt32)) (nar .byte (((p3.toUInt32 >>> ((8 : Int32) &&& 31).toUInt32).toInt32).toInt8.toInt32)) (nar .byte (p3.toInt8.toInt32))) = (0 : Int32) := own_map0 (fun q => hc125 q.2.1)
            obtain ⟨_, _, ⟨T112, L112, k112, n112⟩, -, X112, ⟨Lc112, hQ112, l112, y112, z112⟩, st112⟩ := X108.specialBack hx (y := (⟨"com/example/flytrap/flytrap/net/IpAddress", "<init>", "([B)V"⟩ : MethodName)) rfl hown (mvT hZ (hw _ (List.mem_of_getElem? (i := 8) rfl))) (mvT hZ (hw _ (List.mem_of_getElem? (i := 9) rfl))) (mvT hZ (hw _ (List.mem_of_getElem? (i := 10) rfl))) (by decide) (backOf (W := 1) (rm2_16n l Z a0 hw [] b108 b78 _ _ _ _ _ _ _ _ _ _ _ _ _ _ _ _ _ .null h108 n0 Z108 vV109 fF110 A108 g_b108 ne_b78_b108 hp111) hZ (hw _ (List.mem_of_getElem? (i := 10) rfl)) (hw _ (List.mem_of_getElem? (i := 7) rfl)) (by decide) (by decide)) (g := (mkF m 165 #[.val (.int p0), .val (.int p1), .val (.int p2), .val (.int p3), .val (.int p4), .val (.int (p0 &&& (3 : Int32))), .val (.int p1), .val (.int p2), .val (.int p3), .val (.ref b78), .val (.int (0 : Int32)), .val (.int (1 : Int32))] [(.ref b78), (.ref b108), (.ref b108)])) rfl (by rw [hml]; rfl) (Steps.refl _) (a := b108) (argsL := [(.ref b78)]) (rest := [(.ref b108)]) (lenOf pd_5 rfl) rfl (by show 2 * 0 + _ ≤ _; exact Nat.le_of_eq rfl) (hb hby at_165) (fun _ _ => ⟨rfl, e108, (by decide : 2 + 0 ≤ _), (by decide : 17 + 0 ≤ _)⟩)
            dsimp only [Pt.U, Pt.locs, Pt.cells, Pt.slots] at X112 l112 y112 z112 st112 hQ112
            subst l112 y112 z112
            obtain ⟨rfl, N112q, K112, G113, G114⟩ := hQ112
            have vV115 := vV109.keep K112 (ninS ne_b78_b108 nin0)
            have Z112 := Nat.le_trans Z108 K112.1
            have N112 := Fr.app N85 N112q
            obtain ⟨cq116, kq116, q116a, q116b, q116c⟩ := isOf hZ rfl G113
            obtain ⟨_, _, ⟨T116, L116, k116, n116⟩, -, X116, ⟨Lc116, hQ116, l116, y116, z116⟩, st116⟩ := X112.virtualBack hx (y := (⟨"com/example/flytrap/flytrap/net/IpAddress", "isIpv6", "()Z"⟩ : MethodName)) (z := (⟨"com/example/flytrap/flytrap/net/IpAddress", "isIpv6", "()Z"⟩ : MethodName)) hown (mvT hZ (hw _ (List.mem_of_getElem? (i := 19) rfl))) (mvT hZ (hw _ (List.mem_of_getElem? (i := 20) rfl))) (notFace_of_selects (args := #[]) (mvT hZ (hw _ (List.mem_of_getElem? (i := 22) rfl)))) (mvT hZ (hw _ (List.mem_of_getElem? (i := 22) rfl))) (mvT hZ (hw _ (List.mem_of_getElem? (i := 21) rfl))) (by decide) (backOf (W := 0) (rm5 l Z a0 hw [] b108 b78 (16 : Int32) T112.heap n0 Z112 G114 ⟨_, _, _, vV115⟩) hZ (hw _ (List.mem_of_getElem? (i := 23) rfl)) (hw _ (List.mem_of_getElem? (i := 7) rfl)) (by decide) (by decide)) q116a q116c (g := (mkF m 168 #[.val (.int p0), .val (.int p1), .val (.int p2), .val (.int p3), .val (.int p4), .val (.int (p0 &&& (3 : Int32))), .val (.int p1), .val (.int p2), .val (.int p3), .val (.ref b78), .val (.int (0 : Int32)), .val (.int (1 : Int32))] [(.ref b108)])) rfl (by rw [hml]; rfl) (Steps.refl _) (argsL := []) (rest := []) (lenOf pd_6 rfl) rfl (by show 2 * 0 + _ ≤ _; exact Nat.le_of_eq rfl) (hb hby at_168) (fun _ _ => ⟨rfl, rfl, (by decide : 2 + 0 ≤ _), (by decide : 17 + 0 ≤ _)⟩)
            dsimp only [Pt.U, Pt.locs, Pt.cells, Pt.slots] at X116 l116 y116 z116 st116 hQ116
            subst l116 y116 z116
            obtain ⟨rfl, N116q, e116⟩ := hQ116
            have N116 := Fr.app N112 N116q
            have hc173 : (F5 (16 : Int32)) = (1 : Int32) := by decide
            obtain ⟨fs, hr, hrun, hended, hW, hsame⟩ := X116.leave (v := some (.int (1 : Int32))) (fun h => by rw [Bd.returns] at h; cases h) (BodyLoose.notSynchronized Bd)
            refine ⟨_, _, pre88 _ ?_, hrun, hended, _, _, rfl, ?_, ⟨_, rfl⟩, hW, hsame.mono (by decide) (by decide)⟩
            · show Steps p.tables e below (T85.setTop (mkF m 125 #[.val (.int p0), .val (.int p1), .val (.int p2), .val (.int p3), .val (.int p4), .val (.int (p0 &&& (3 : Int32))), .val (.int p1), .val (.int p2), .val (.int p3), .val (.ref b78), .unset, .unset] [(.int p2)])) _
              refine XS.ifYes X85.here hx rfl (pc0 := 125) (pc' := 139) rfl (hb hby at_125) rfl ((if0 _ _).trans (feq hc125).2) (by decide) (by decide) ?_
              show Steps p.tables e below (T85.setTop (mkF m 139 #[.val (.int p0), .val (.int p1), .val (.int p2), .val (.int p3), .val (.int p4), .val (.int (p0 &&& (3 : Int32))), .val (.int p1), .val (.int p2), .val (.int p3), .val (.ref b78), .unset, .unset] [])) _
              refine XS.iconst X85.here hx rfl (hb hby at_139) ?_
              show Steps p.tables e below (T85.setTop (mkF m 140 #[.val (.int p0), .val (.int p1), .val (.int p2), .val (.int p3), .val (.int p4), .val (.int (p0 &&& (3 : Int32))), .val (.int p1), .val (.int p2), .val (.int p3), .val (.ref b78), .unset, .unset] [(.int (0 : Int32))])) _
              refine XS.istore X85.here hx rfl (hb hby at_140) rfl (l' := #[.val (.int p0), .val (.int p1), .val (.int p2), .val (.int p3), .val (.int p4), .val (.int (p0 &&& (3 : Int32))), .val (.int p1), .val (.int p2), .val (.int p3), .val (.ref b78), .val (.int (0 : Int32)), .unset]) rfl ?_
              show Steps p.tables e below (T85.setTop (mkF m 142 #[.val (.int p0), .val (.int p1), .val (.int p2), .val (.int p3), .val (.int p4), .val (.int (p0 &&& (3 : Int32))), .val (.int p1), .val (.int p2), .val (.int p3), .val (.ref b78), .val (.int (0 : Int32)), .unset] [])) _
              refine XS.iload X85.here hx rfl (hb hby at_142) rfl ?_
              show Steps p.tables e below (T85.setTop (mkF m 144 #[.val (.int p0), .val (.int p1), .val (.int p2), .val (.int p3), .val (.int p4), .val (.int (p0 &&& (3 : Int32))), .val (.int p1), .val (.int p2), .val (.int p3), .val (.ref b78), .val (.int (0 : Int32)), .unset] [(.int (p0 &&& (3 : Int32)))])) _
              refine XS.ifNo X85.here hx rfl (hb hby at_144) rfl ((if0 _ _).trans (feq hc60).1) ?_
              show Steps p.tables e below (T85.setTop (mkF m 147 #[.val (.int p0), .val (.int p1), .val (.int p2), .val (.int p3), .val (.int p4), .val (.int (p0 &&& (3 : Int32))), .val (.int p1), .val (.int p2), .val (.int p3), .val (.ref b78), .val (.int (0 : Int32)), .unset] [])) _
              refine XS.iload X85.here hx rfl (hb hby at_147) rfl ?_
              show Steps p.tables e below (T85.setTop (mkF m 149 #[.val (.int p0), .val (.int p1), .val (.int p2), .val (.int p3), .val (.int p4), .val (.int (p0 &&& (3 : Int32))), .val (.int p1), .val (.int p2), .val (.int p3), .val (.ref b78), .val (.int (0 : Int32)), .unset] [(.int (0 : Int32))])) _
              refine XS.ifNo X85.here hx rfl (hb hby at_149) rfl ((if0 _ _).trans (teq (by decide : (0 : Int32) = (0 : Int32))).2) ?_
              show Steps p.tables e below (T85.setTop (mkF m 152 #[.val (.int p0), .val (.int p1), .val (.int p2), .val (.int p3), .val (.int p4), .val (.int (p0 &&& (3 : Int32))), .val (.int p1), .val (.int p2), .val (.int p3), .val (.ref b78), .val (.int (0 : Int32)), .unset] [])) _
              refine XS.iconst X85.here hx rfl (hb hby at_152) ?_
              show Steps p.tables e below (T85.setTop (mkF m 153 #[.val (.int p0), .val (.int p1), .val (.int p2), .val (.int p3), .val (.int p4), .val (.int (p0 &&& (3 : Int32))), .val (.int p1), .val (.int p2), .val (.int p3), .val (.ref b78), .val (.int (0 : Int32)), .unset] [(.int (1 : Int32))])) _
              refine XS.goto X85.here hx rfl (pc0 := 153) (pc' := 157) rfl (hb hby at_153) (by decide) (by decide) ?_
              show Steps p.tables e below (T85.setTop (mkF m 157 #[.val (.int p0), .val (.int p1), .val (.int p2), .val (.int p3), .val (.int p4), .val (.int (p0 &&& (3 : Int32))), .val (.int p1), .val (.int p2), .val (.int p3), .val (.ref b78), .val (.int (0 : Int32)), .unset] [(.int (1 : Int32))])) _
              refine XS.istore X85.here hx rfl (hb hby at_157) rfl (l' := #[.val (.int p0), .val (.int p1), .val (.int p2), .val (.int p3), .val (.int p4), .val (.int (p0 &&& (3 : Int32))), .val (.int p1), .val (.int p2), .val (.int p3), .val (.ref b78), .val (.int (0 : Int32)), .val (.int (1 : Int32))]) rfl ?_
              show Steps p.tables e below (T85.setTop (mkF m 159 #[.val (.int p0), .val (.int p1), .val (.int p2), .val (.int p3), .val (.int p4), .val (.int (p0 &&& (3 : Int32))), .val (.int p1), .val (.int p2), .val (.int p3), .val (.ref b78), .val (.int (0 : Int32)), .val (.int (1 : Int32))] [])) _
              refine st108 _ ?_
              show Steps p.tables e below (T108.setTop (mkF m 162 #[.val (.int p0), .val (.int p1), .val (.int p2), .val (.int p3), .val (.int p4), .val (.int (p0 &&& (3 : Int32))), .val (.int p1), .val (.int p2), .val (.int p3), .val (.ref b78), .val (.int (0 : Int32)), .val (.int (1 : Int32))] [(.ref b108)])) _
              refine XS.dup X108.here hx rfl (hb hby at_162) rfl rfl ?_
              show Steps p.tables e below (T108.setTop (mkF m 163 #[.val (.int p0), .val (.int p1), .val (.int p2), .val (.int p3), .val (.int p4), .val (.int (p0 &&& (3 : Int32))), .val (.int p1), .val (.int p2), .val (.int p3), .val (.ref b78), .val (.int (0 : Int32)), .val (.int (1 : Int32))] [(.ref b108), (.ref b108)])) _
              refine XS.aload X108.here hx rfl (hb hby at_163) rfl rfl ?_
              show Steps p.tables e below (T108.setTop (mkF m 165 #[.val (.int p0), .val (.int p1), .val (.int p2), .val (.int p3), .val (.int p4), .val (.int (p0 &&& (3 : Int32))), .val (.int p1), .val (.int p2), .val (.int p3), .val (.ref b78), .val (.int (0 : Int32)), .val (.int (1 : Int32))] [(.ref b78), (.ref b108), (.ref b108)])) _
              refine st112.trans ?_
              show Steps p.tables e below (T112.setTop (mkF m 168 #[.val (.int p0), .val (.int p1), .val (.int p2), .val (.int p3), .val (.int p4), .val (.int (p0 &&& (3 : Int32))), .val (.int p1), .val (.int p2), .val (.int p3), .val (.ref b78), .val (.int (0 : Int32)), .val (.int (1 : Int32))] [(.ref b108)])) _
              refine st116.trans ?_
              show Steps p.tables e below (T116.setTop (mkF m 171 #[.val (.int p0), .val (.int p1), .val (.int p2), .val (.int p3), .val (.int p4), .val (.int (p0 &&& (3 : Int32))), .val (.int p1), .val (.int p2), .val (.int p3), .val (.ref b78), .val (.int (0 : Int32)), .val (.int (1 : Int32))] [(.int (F5 (16 : Int32)))])) _
              refine XS.iload X116.here hx rfl (hb hby at_171) rfl ?_
              show Steps p.tables e below (T116.setTop (mkF m 173 #[.val (.int p0), .val (.int p1), .val (.int p2), .val (.int p3), .val (.int p4), .val (.int (p0 &&& (3 : Int32))), .val (.int p1), .val (.int p2), .val (.int p3), .val (.ref b78), .val (.int (0 : Int32)), .val (.int (1 : Int32))] [(.int (1 : Int32)), (.int (F5 (16 : Int32)))])) _
              refine XS.icmpNo X116.here hx rfl (hb hby at_173) rfl (teq hc173).2 ?_
              show Steps p.tables e below (T116.setTop (mkF m 176 #[.val (.int p0), .val (.int p1), .val (.int p2), .val (.int p3), .val (.int p4), .val (.int (p0 &&& (3 : Int32))), .val (.int p1), .val (.int p2), .val (.int p3), .val (.ref b78), .val (.int (0 : Int32)), .val (.int (1 : Int32))] [])) _
              refine XS.iconst X116.here hx rfl (hb hby at_176) ?_
              show Steps p.tables e below (T116.setTop (mkF m 177 #[.val (.int p0), .val (.int p1), .val (.int p2), .val (.int p3), .val (.int p4), .val (.int (p0 &&& (3 : Int32))), .val (.int p1), .val (.int p2), .val (.int p3), .val (.ref b78), .val (.int (0 : Int32)), .val (.int (1 : Int32))] [(.int (1 : Int32))])) _
              refine XS.goto X116.here hx rfl (pc0 := 177) (pc' := 181) rfl (hb hby at_177) (by decide) (by decide) ?_
              show Steps p.tables e below (T116.setTop (mkF m 181 #[.val (.int p0), .val (.int p1), .val (.int p2), .val (.int p3), .val (.int p4), .val (.int (p0 &&& (3 : Int32))), .val (.int p1), .val (.int p2), .val (.int p3), .val (.ref b78), .val (.int (0 : Int32)), .val (.int (1 : Int32))] [(.int (1 : Int32))])) _
              exact retN X116 hx (t := .boolean) Bd.returns (by simp) (hb hby at_181) hr
            · show Q0 Z p0 p1 p2 p3 p4 h0 n0 _ T116.heap _
              rw [e116]
              exact ⟨rfl, N116⟩
        · obtain ⟨T117, h117, X117, e117, E117, A117, D117, -, st117⟩ := newO X85 hx hZ hown (hw _ (List.mem_of_getElem? (i := 5) rfl)) (hw _ (List.mem_of_getElem? (i := 6) rfl)) (hw _ (List.mem_of_getElem? (i := 7) rfl)) rfl (g := (mkF m 159 #[.val (.int p0), .val (.int p1), .val (.int p2), .val (.int p3), .val (.int p4), .val (.int (p0 &&& (3 : Int32))), .val (.int p1), .val (.int p2), .val (.int p3), .val (.ref b78), .val (.int (0 : Int32)), .val (.int (1 : Int32))] [])) rfl (hb hby at_159) (by decide) (by decide)
          obtain ⟨b117, g117⟩ : ∃ z, z = T85.heap.size := ⟨_, rfl⟩
          rw [← g117] at A117 D117 st117
          have ne_b78_b117 : b78 ≠ b117 := Nat.ne_of_lt (Nat.lt_of_lt_of_le G86.lt (Nat.le_of_eq g117.symm))
          have vV118 := G86.ext E117
          have g_b117 : n0 ≤ b117 := Nat.le_trans Z85 (Nat.le_of_eq g117.symm)
          have Z117 := Nat.le_trans Z85 E117.1
          have fF119 : Fld Z h117 b117 "com/example/flytrap/flytrap/net/IpAddress" "bytes" "[B" .null := D117 (Or.inr (hw _ (List.mem_of_getElem? (i := 18) rfl))) (ty := (.array .byte)) (by decide)
          have hp120 : (F4_16 (nar .byte (((p1.toUInt32 >>> ((24 : Int32) &&& 31).toUInt32).toInt32).toInt8.toInt32)) (nar .byte (((p1.toUInt32 >>> ((16 : Int32) &&& 31).toUInt32).toInt32).toInt8.toInt32)) (nar .byte (((p1.toUInt32 >>> ((8 : Int32) &&& 31).toUInt32).toInt32).toInt8.toInt32)) (nar .byte (p1.toInt8.toInt32)) (nar .byte (((p2.toUInt32 >>> ((24 : Int32) &&& 31).toUInt32).toInt32).toInt8.toInt32)) (nar .byte (((p2.toUInt32 >>> ((16 : Int32) &&& 31).toUInt32).toInt32).toInt8.toInt32)) (nar .byte (((p2.toUInt32 >>> ((8 : Int32) &&& 31).toUInt32).toInt32).toInt8.toInt32)) (nar .byte (p2.toInt8.toInt32)) (nar .byte (((p3.toUInt32 >>> ((24 : Int32) &&& 31).toUInt32).toInt32).toInt8.toInt32)) (nar .byte (((p3.toUInt32 >>> ((16 : Int32) &&& 31).toUInt32).toInt32).toInt8.toInt32)) (nar .byte (((p3.toUInt32 >>> ((8 : Int32) &&& 31).toUInt32).toInt32).toInt8.toInt32)) (nar .byte (p3.toInt8.toInt32))) = (0 : Int32) := own_map0 (fun q => hc120 q.1)
          obtain ⟨_, _, ⟨T121, L121, k121, n121⟩, -, X121, ⟨Lc121, hQ121, l121, y121, z121⟩, st121⟩ := X117.specialBack hx (y := (⟨"com/example/flytrap/flytrap/net/IpAddress", "<init>", "([B)V"⟩ : MethodName)) rfl hown (mvT hZ (hw _ (List.mem_of_getElem? (i := 8) rfl))) (mvT hZ (hw _ (List.mem_of_getElem? (i := 9) rfl))) (mvT hZ (hw _ (List.mem_of_getElem? (i := 10) rfl))) (by decide) (backOf (W := 1) (rm2_16n l Z a0 hw [] b117 b78 _ _ _ _ _ _ _ _ _ _ _ _ _ _ _ _ _ .null h117 n0 Z117 vV118 fF119 A117 g_b117 ne_b78_b117 hp120) hZ (hw _ (List.mem_of_getElem? (i := 10) rfl)) (hw _ (List.mem_of_getElem? (i := 7) rfl)) (by decide) (by decide)) (g := (mkF m 165 #[.val (.int p0), .val (.int p1), .val (.int p2), .val (.int p3), .val (.int p4), .val (.int (p0 &&& (3 : Int32))), .val (.int p1), .val (.int p2), .val (.int p3), .val (.ref b78), .val (.int (0 : Int32)), .val (.int (1 : Int32))] [(.ref b78), (.ref b117), (.ref b117)])) rfl (by rw [hml]; rfl) (Steps.refl _) (a := b117) (argsL := [(.ref b78)]) (rest := [(.ref b117)]) (lenOf pd_5 rfl) rfl (by show 2 * 0 + _ ≤ _; exact Nat.le_of_eq rfl) (hb hby at_165) (fun _ _ => ⟨rfl, e117, (by decide : 2 + 0 ≤ _), (by decide : 17 + 0 ≤ _)⟩)
          dsimp only [Pt.U, Pt.locs, Pt.cells, Pt.slots] at X121 l121 y121 z121 st121 hQ121
          subst l121 y121 z121
          obtain ⟨rfl, N121q, K121, G122, G123⟩ := hQ121
          have vV124 := vV118.keep K121 (ninS ne_b78_b117 nin0)
          have Z121 := Nat.le_trans Z117 K121.1
          have N121 := Fr.app N85 N121q
          obtain ⟨cq125, kq125, q125a, q125b, q125c⟩ := isOf hZ rfl G122
          obtain ⟨_, _, ⟨T125, L125, k125, n125⟩, -, X125, ⟨Lc125, hQ125, l125, y125, z125⟩, st125⟩ := X121.virtualBack hx (y := (⟨"com/example/flytrap/flytrap/net/IpAddress", "isIpv6", "()Z"⟩ : MethodName)) (z := (⟨"com/example/flytrap/flytrap/net/IpAddress", "isIpv6", "()Z"⟩ : MethodName)) hown (mvT hZ (hw _ (List.mem_of_getElem? (i := 19) rfl))) (mvT hZ (hw _ (List.mem_of_getElem? (i := 20) rfl))) (notFace_of_selects (args := #[]) (mvT hZ (hw _ (List.mem_of_getElem? (i := 22) rfl)))) (mvT hZ (hw _ (List.mem_of_getElem? (i := 22) rfl))) (mvT hZ (hw _ (List.mem_of_getElem? (i := 21) rfl))) (by decide) (backOf (W := 0) (rm5 l Z a0 hw [] b117 b78 (16 : Int32) T121.heap n0 Z121 G123 ⟨_, _, _, vV124⟩) hZ (hw _ (List.mem_of_getElem? (i := 23) rfl)) (hw _ (List.mem_of_getElem? (i := 7) rfl)) (by decide) (by decide)) q125a q125c (g := (mkF m 168 #[.val (.int p0), .val (.int p1), .val (.int p2), .val (.int p3), .val (.int p4), .val (.int (p0 &&& (3 : Int32))), .val (.int p1), .val (.int p2), .val (.int p3), .val (.ref b78), .val (.int (0 : Int32)), .val (.int (1 : Int32))] [(.ref b117)])) rfl (by rw [hml]; rfl) (Steps.refl _) (argsL := []) (rest := []) (lenOf pd_6 rfl) rfl (by show 2 * 0 + _ ≤ _; exact Nat.le_of_eq rfl) (hb hby at_168) (fun _ _ => ⟨rfl, rfl, (by decide : 2 + 0 ≤ _), (by decide : 17 + 0 ≤ _)⟩)
          dsimp only [Pt.U, Pt.locs, Pt.cells, Pt.slots] at X125 l125 y125 z125 st125 hQ125
          subst l125 y125 z125
          obtain ⟨rfl, N125q, e125⟩ := hQ125
          have N125 := Fr.app N121 N125q
          have hc173 : (F5 (16 : Int32)) = (1 : Int32) := by decide
          obtain ⟨fs, hr, hrun, hended, hW, hsame⟩ := X125.leave (v := some (.int (1 : Int32))) (fun h => by rw [Bd.returns] at h; cases h) (BodyLoose.notSynchronized Bd)
          refine ⟨_, _, pre87 _ ?_, hrun, hended, _, _, rfl, ?_, ⟨_, rfl⟩, hW, hsame.mono (by decide) (by decide)⟩
          · show Steps p.tables e below (T85.setTop (mkF m 120 #[.val (.int p0), .val (.int p1), .val (.int p2), .val (.int p3), .val (.int p4), .val (.int (p0 &&& (3 : Int32))), .val (.int p1), .val (.int p2), .val (.int p3), .val (.ref b78), .unset, .unset] [(.int p1)])) _
            refine XS.ifYes X85.here hx rfl (pc0 := 120) (pc' := 139) rfl (hb hby at_120) rfl ((if0 _ _).trans (feq hc120).2) (by decide) (by decide) ?_
            show Steps p.tables e below (T85.setTop (mkF m 139 #[.val (.int p0), .val (.int p1), .val (.int p2), .val (.int p3), .val (.int p4), .val (.int (p0 &&& (3 : Int32))), .val (.int p1), .val (.int p2), .val (.int p3), .val (.ref b78), .unset, .unset] [])) _
            refine XS.iconst X85.here hx rfl (hb hby at_139) ?_
            show Steps p.tables e below (T85.setTop (mkF m 140 #[.val (.int p0), .val (.int p1), .val (.int p2), .val (.int p3), .val (.int p4), .val (.int (p0 &&& (3 : Int32))), .val (.int p1), .val (.int p2), .val (.int p3), .val (.ref b78), .unset, .unset] [(.int (0 : Int32))])) _
            refine XS.istore X85.here hx rfl (hb hby at_140) rfl (l' := #[.val (.int p0), .val (.int p1), .val (.int p2), .val (.int p3), .val (.int p4), .val (.int (p0 &&& (3 : Int32))), .val (.int p1), .val (.int p2), .val (.int p3), .val (.ref b78), .val (.int (0 : Int32)), .unset]) rfl ?_
            show Steps p.tables e below (T85.setTop (mkF m 142 #[.val (.int p0), .val (.int p1), .val (.int p2), .val (.int p3), .val (.int p4), .val (.int (p0 &&& (3 : Int32))), .val (.int p1), .val (.int p2), .val (.int p3), .val (.ref b78), .val (.int (0 : Int32)), .unset] [])) _
            refine XS.iload X85.here hx rfl (hb hby at_142) rfl ?_
            show Steps p.tables e below (T85.setTop (mkF m 144 #[.val (.int p0), .val (.int p1), .val (.int p2), .val (.int p3), .val (.int p4), .val (.int (p0 &&& (3 : Int32))), .val (.int p1), .val (.int p2), .val (.int p3), .val (.ref b78), .val (.int (0 : Int32)), .unset] [(.int (p0 &&& (3 : Int32)))])) _
            refine XS.ifNo X85.here hx rfl (hb hby at_144) rfl ((if0 _ _).trans (feq hc60).1) ?_
            show Steps p.tables e below (T85.setTop (mkF m 147 #[.val (.int p0), .val (.int p1), .val (.int p2), .val (.int p3), .val (.int p4), .val (.int (p0 &&& (3 : Int32))), .val (.int p1), .val (.int p2), .val (.int p3), .val (.ref b78), .val (.int (0 : Int32)), .unset] [])) _
            refine XS.iload X85.here hx rfl (hb hby at_147) rfl ?_
            show Steps p.tables e below (T85.setTop (mkF m 149 #[.val (.int p0), .val (.int p1), .val (.int p2), .val (.int p3), .val (.int p4), .val (.int (p0 &&& (3 : Int32))), .val (.int p1), .val (.int p2), .val (.int p3), .val (.ref b78), .val (.int (0 : Int32)), .unset] [(.int (0 : Int32))])) _
            refine XS.ifNo X85.here hx rfl (hb hby at_149) rfl ((if0 _ _).trans (teq (by decide : (0 : Int32) = (0 : Int32))).2) ?_
            show Steps p.tables e below (T85.setTop (mkF m 152 #[.val (.int p0), .val (.int p1), .val (.int p2), .val (.int p3), .val (.int p4), .val (.int (p0 &&& (3 : Int32))), .val (.int p1), .val (.int p2), .val (.int p3), .val (.ref b78), .val (.int (0 : Int32)), .unset] [])) _
            refine XS.iconst X85.here hx rfl (hb hby at_152) ?_
            show Steps p.tables e below (T85.setTop (mkF m 153 #[.val (.int p0), .val (.int p1), .val (.int p2), .val (.int p3), .val (.int p4), .val (.int (p0 &&& (3 : Int32))), .val (.int p1), .val (.int p2), .val (.int p3), .val (.ref b78), .val (.int (0 : Int32)), .unset] [(.int (1 : Int32))])) _
            refine XS.goto X85.here hx rfl (pc0 := 153) (pc' := 157) rfl (hb hby at_153) (by decide) (by decide) ?_
            show Steps p.tables e below (T85.setTop (mkF m 157 #[.val (.int p0), .val (.int p1), .val (.int p2), .val (.int p3), .val (.int p4), .val (.int (p0 &&& (3 : Int32))), .val (.int p1), .val (.int p2), .val (.int p3), .val (.ref b78), .val (.int (0 : Int32)), .unset] [(.int (1 : Int32))])) _
            refine XS.istore X85.here hx rfl (hb hby at_157) rfl (l' := #[.val (.int p0), .val (.int p1), .val (.int p2), .val (.int p3), .val (.int p4), .val (.int (p0 &&& (3 : Int32))), .val (.int p1), .val (.int p2), .val (.int p3), .val (.ref b78), .val (.int (0 : Int32)), .val (.int (1 : Int32))]) rfl ?_
            show Steps p.tables e below (T85.setTop (mkF m 159 #[.val (.int p0), .val (.int p1), .val (.int p2), .val (.int p3), .val (.int p4), .val (.int (p0 &&& (3 : Int32))), .val (.int p1), .val (.int p2), .val (.int p3), .val (.ref b78), .val (.int (0 : Int32)), .val (.int (1 : Int32))] [])) _
            refine st117 _ ?_
            show Steps p.tables e below (T117.setTop (mkF m 162 #[.val (.int p0), .val (.int p1), .val (.int p2), .val (.int p3), .val (.int p4), .val (.int (p0 &&& (3 : Int32))), .val (.int p1), .val (.int p2), .val (.int p3), .val (.ref b78), .val (.int (0 : Int32)), .val (.int (1 : Int32))] [(.ref b117)])) _
            refine XS.dup X117.here hx rfl (hb hby at_162) rfl rfl ?_
            show Steps p.tables e below (T117.setTop (mkF m 163 #[.val (.int p0), .val (.int p1), .val (.int p2), .val (.int p3), .val (.int p4), .val (.int (p0 &&& (3 : Int32))), .val (.int p1), .val (.int p2), .val (.int p3), .val (.ref b78), .val (.int (0 : Int32)), .val (.int (1 : Int32))] [(.ref b117), (.ref b117)])) _
            refine XS.aload X117.here hx rfl (hb hby at_163) rfl rfl ?_
            show Steps p.tables e below (T117.setTop (mkF m 165 #[.val (.int p0), .val (.int p1), .val (.int p2), .val (.int p3), .val (.int p4), .val (.int (p0 &&& (3 : Int32))), .val (.int p1), .val (.int p2), .val (.int p3), .val (.ref b78), .val (.int (0 : Int32)), .val (.int (1 : Int32))] [(.ref b78), (.ref b117), (.ref b117)])) _
            refine st121.trans ?_
            show Steps p.tables e below (T121.setTop (mkF m 168 #[.val (.int p0), .val (.int p1), .val (.int p2), .val (.int p3), .val (.int p4), .val (.int (p0 &&& (3 : Int32))), .val (.int p1), .val (.int p2), .val (.int p3), .val (.ref b78), .val (.int (0 : Int32)), .val (.int (1 : Int32))] [(.ref b117)])) _
            refine st125.trans ?_
            show Steps p.tables e below (T125.setTop (mkF m 171 #[.val (.int p0), .val (.int p1), .val (.int p2), .val (.int p3), .val (.int p4), .val (.int (p0 &&& (3 : Int32))), .val (.int p1), .val (.int p2), .val (.int p3), .val (.ref b78), .val (.int (0 : Int32)), .val (.int (1 : Int32))] [(.int (F5 (16 : Int32)))])) _
            refine XS.iload X125.here hx rfl (hb hby at_171) rfl ?_
            show Steps p.tables e below (T125.setTop (mkF m 173 #[.val (.int p0), .val (.int p1), .val (.int p2), .val (.int p3), .val (.int p4), .val (.int (p0 &&& (3 : Int32))), .val (.int p1), .val (.int p2), .val (.int p3), .val (.ref b78), .val (.int (0 : Int32)), .val (.int (1 : Int32))] [(.int (1 : Int32)), (.int (F5 (16 : Int32)))])) _
            refine XS.icmpNo X125.here hx rfl (hb hby at_173) rfl (teq hc173).2 ?_
            show Steps p.tables e below (T125.setTop (mkF m 176 #[.val (.int p0), .val (.int p1), .val (.int p2), .val (.int p3), .val (.int p4), .val (.int (p0 &&& (3 : Int32))), .val (.int p1), .val (.int p2), .val (.int p3), .val (.ref b78), .val (.int (0 : Int32)), .val (.int (1 : Int32))] [])) _
            refine XS.iconst X125.here hx rfl (hb hby at_176) ?_
            show Steps p.tables e below (T125.setTop (mkF m 177 #[.val (.int p0), .val (.int p1), .val (.int p2), .val (.int p3), .val (.int p4), .val (.int (p0 &&& (3 : Int32))), .val (.int p1), .val (.int p2), .val (.int p3), .val (.ref b78), .val (.int (0 : Int32)), .val (.int (1 : Int32))] [(.int (1 : Int32))])) _
            refine XS.goto X125.here hx rfl (pc0 := 177) (pc' := 181) rfl (hb hby at_177) (by decide) (by decide) ?_
            show Steps p.tables e below (T125.setTop (mkF m 181 #[.val (.int p0), .val (.int p1), .val (.int p2), .val (.int p3), .val (.int p4), .val (.int (p0 &&& (3 : Int32))), .val (.int p1), .val (.int p2), .val (.int p3), .val (.ref b78), .val (.int (0 : Int32)), .val (.int (1 : Int32))] [(.int (1 : Int32))])) _
            exact retN X125 hx (t := .boolean) Bd.returns (by simp) (hb hby at_181) hr
          · show Q0 Z p0 p1 p2 p3 p4 h0 n0 _ T125.heap _
            rw [e125]
            exact ⟨rfl, N125⟩
set_option maxRecDepth 65536 in
set_option maxHeartbeats 40000000 in
theorem comes_1 {Post : Tables → Env → Array Value → State → Outcome → State → Prop} (hpost : ∀ tb e args s v u, (limb_1_1.after args s (.returned v) u = true ∧ limb_1_2.after args s (.returned v) u = true ∧ True) → FrameEnd s (.returned v) u (Jvm.fieldLocs frame_1_writes args s ++ Jvm.arrayLocs frame_1_arrays args s ++ Jvm.staticLocs frame_1_statics s) 16 128 → Post tb e args s (.returned v) u) :
    ArmFor flags0 classFile x code maxLocals ret World_1 tables_1 room_1 Calls_1 rest_1 Pre_1 Post := by
  intro l hfl _ _ p e ha hc hk s m args below hf hA hF happ hP
  obtain ⟨hcalls, hrest, hpre⟩ := hP
  obtain ⟨-, -, -, hnamed, -, -, -, hat⟩ := (Spec.applies_iff hf).mp happ
  obtain ⟨hg, hn⟩ := and_e (Cond.before_iff.mp (show (Jvm.Cond.and given_1 narrow_1).before args s = true from hpre))
  obtain ⟨g1, g2⟩ := and_e hg
  obtain ⟨g3, g4⟩ := and_e g2
  obtain ⟨g5, g6⟩ := and_e g4
  obtain ⟨g7, g8⟩ := and_e g6
  obtain ⟨g9, g10⟩ := and_e g8
  obtain ⟨w0, w1, w2, w3, w4, rfl⟩ : ∃ w0 w1 w2 w3 w4 : Value, args = #[w0, w1, w2, w3, w4] := by
    have hs : args.size = 5 := by simpa [Cond.value, given_1] using g1
    obtain ⟨L⟩ := args
    match L, hs with
    | [w0, w1, w2, w3, w4], _ => exact ⟨w0, w1, w2, w3, w4, rfl⟩
  have hw := fun d (hd : d ∈ tables_1) => atoms_spec (ws := Jvm.Cond.code x code maxLocals ret :: tables_1) hat d (List.mem_cons_of_mem _ hd)
  obtain ⟨i0, ei0⟩ := is_v g3
  obtain rfl : w0 = (.int i0) := Option.some.inj ei0
  obtain ⟨i1, ei1⟩ := is_v g5
  obtain rfl : w1 = (.int i1) := Option.some.inj ei1
  obtain ⟨i2, ei2⟩ := is_v g7
  obtain rfl : w2 = (.int i2) := Option.some.inj ei2
  obtain ⟨i3, ei3⟩ := is_v g9
  obtain rfl : w3 = (.int i3) := Option.some.inj ei3
  obtain ⟨i4, ei4⟩ := is_v g10
  obtain rfl : w4 = (.int i4) := Option.some.inj ei4
  obtain ⟨n, o, h1, h2, h3, _, L, rfl, ⟨rfl, N⟩, hq⟩ := rm0 l s _ hw tables_1 i0 i1 i2 i3 i4  s.heap s.heap.size (Nat.le_refl _)  p e ha hc hk s m _ below hf ((Spec.applies_iff_loose hf).mp happ).1 ⟨rfl, State.Warmed39.refl s, rfl⟩ trivial
  refine ⟨n, _, h1, h2, h3, hpost _ _ _ _ _ _ ⟨Cond.after_iff.mpr rfl, Cond.after_iff.mpr (eq_i res_at (Term.int_eval (1)) rfl), trivial⟩ ⟨hq.1, hq.2.1, (hq.2.2.sift fun y hy => Or.inr (N y hy)).mono (by decide) (by decide)⟩⟩
theorem main_1_1 : Claimed_1_1 := comes_1 fun _ _ _ _ _ _ h hF => ⟨h.1, hF⟩
theorem main_1_2 : Claimed_1_2 := comes_1 fun _ _ _ _ _ _ h hF => ⟨h.2.1, hF⟩
end Jvm.Pilot.@@N@@
namespace Jvm.Pilot.@@N@@
open Jvm Jvm.ClassFile Sem Op Lib Jvm.Free Jvm.Stand Jvm.Pilot.@@N@@.Jvm.D
/-! MADE BY PROGRAM (witnessworld.py) out of the Statement's table words and the real class files: 12 classes; the members and pool entries that the words name. The judged class is class 1, her method 1. -/
namespace start1
open Jvm.ClassFile
def u (s : String) : CpInfo := .utf8 (stringToUtf16 s)
/-- a pool by its gaps: so many unusable entries, then the entry; so many at the end -/
def gap : Nat → List CpInfo → List CpInfo
  | 0, r => r
  | n + 1, r => .unusable :: gap n r
def poolList (es : List (Nat × CpInfo)) (last : Nat) : List CpInfo := es.foldr (fun e r => gap e.1 (e.2 :: r)) (gap last [])
def pool (es : List (Nat × CpInfo)) (last : Nat) : Array CpInfo := ⟨poolList es last⟩
def fileOf (pool : Array CpInfo) (this : Nat) (attrs : Array Attribute := #[]) (ms : Array MethodInfo := #[]) (fl : Nat := 33) (sup : Nat := 0) (ifs : Array Nat := #[]) (fds : Array FieldInfo := #[]) : ClassFile where
  minorVersion := 0
  majorVersion := 65
  constantPool := pool
  accessFlags := fl
  thisClass := this
  superClass := sup
  interfaces := ifs
  fields := fds
  methods := ms
  attributes := attrs
def plain (name : String) (sup : Option ClassId) : Class where
  name := name
  kind := .ordinary
  loader := none
  accessFlags := 33
  super := sup
  interfaces := #[]
  cf := none
  fields := #[]
  methods := #[]
  instanceTypes := #[]
  staticTypes := #[]
  resolved := #[]
  callSites := []
  init := .initialized
  statics := none
  mirror := none

def pool0 : Array CpInfo := pool [(5, u "<init>"), (0, u "()V"), (1, .class_ 10), (1, u "java/lang/Object")] 113

def k0c0 : Code := { maxStack := 0, maxLocals := 1, code := object_method_1_code, exceptionTable := #[], attributes := #[] }
def k0m0 : Method := { name := "<init>", desc := "()V", sig := { parameters := [], returnType := none }, accessFlags := 1, code := some k0c0 }
/-- java/lang/Object -/
def k0 : Class := { plain "java/lang/Object" none with
  accessFlags := 33
  interfaces := #[]
  cf := some (fileOf pool0 8 #[] #[{ accessFlags := 1, nameIndex := 5, descriptorIndex := 6, attributes := #[] }] 33 0 #[] #[])
  fields := #[]
  methods := #[k0m0]
  instanceTypes := #[]
  staticTypes := #[]
  resolved := Array.replicate 124 none
  statics := none }

def pool1 : Array CpInfo := pool [(2, .class_ 4), (1, u "java/lang/Object"), (0, u "<init>"), (0, u "()V"), (0, .integer 65535), (0, .methodref 9 10), (0, .class_ 11), (0, .nameAndType 12 13), (0, u "com/example/flytrap/flytrap/net/IpAddressIsIpv6PinLaw"), (0, u "put"), (0, u "([BII)V"), (0, .class_ 15), (0, u "com/example/flytrap/flytrap/net/IpAddress"), (0, .methodref 14 17), (0, .nameAndType 5 18), (0, u "([B)V"), (0, .methodref 14 20), (0, .nameAndType 21 22), (0, u "isIpv6"), (0, u "()Z"), (2, u "law"), (0, u "(IIIII)Z")] 5

def k1m0 : Method := { name := "<init>", desc := "()V", sig := { parameters := [], returnType := none }, accessFlags := 1, code := none }
def k1c1 : Code := { maxStack := 4, maxLocals := 12, code := code, exceptionTable := #[], attributes := #[] }
def k1m1 : Method := { name := "law", desc := "(IIIII)Z", sig := { parameters := [.int, .int, .int, .int, .int], returnType := some .boolean }, accessFlags := 9, code := some k1c1 }
def k1c2 : Code := { maxStack := 4, maxLocals := 3, code := method_3_code, exceptionTable := #[], attributes := #[] }
def k1m2 : Method := { name := "put", desc := "([BII)V", sig := { parameters := [(.array .byte), .int, .int], returnType := none }, accessFlags := 10, code := some k1c2 }
/-- com/example/flytrap/flytrap/net/IpAddressIsIpv6PinLaw -/
def k1 : Class := { plain "com/example/flytrap/flytrap/net/IpAddressIsIpv6PinLaw" (some 0) with
  accessFlags := 49
  interfaces := #[]
  cf := some (fileOf pool1 9 #[] #[{ accessFlags := 1, nameIndex := 5, descriptorIndex := 6, attributes := #[] }, { accessFlags := 9, nameIndex := 25, descriptorIndex := 26, attributes := #[] }, { accessFlags := 10, nameIndex := 12, descriptorIndex := 13, attributes := #[] }] 49 2 #[] #[])
  fields := #[]
  methods := #[k1m0, k1m1, k1m2]
  instanceTypes := #[]
  staticTypes := #[]
  resolved := Array.replicate 32 none
  statics := none }

def pool2 : Array CpInfo := pool [(1, .methodref 2 3), (0, .class_ 4), (0, .nameAndType 5 6), (0, u "java/lang/Object"), (0, u "<init>"), (0, u "()V"), (0, .methodref 8 9), (0, .class_ 10), (0, .nameAndType 11 12), (0, u "com/example/flytrap/flytrap/net/IpAddress"), (0, u "isIpv4Mapped"), (0, u "([B)Z"), (0, .methodref 14 15), (0, .class_ 16), (0, .nameAndType 17 18), (0, u "java/util/Arrays"), (0, u "copyOfRange"), (0, u "([BII)[B"), (0, .fieldref 8 20), (0, .nameAndType 21 22), (0, u "bytes"), (0, u "[B"), (8, u "([B)V"), (21, u "()Z"), (78, u "IPV4_GROUPS"), (0, u "I"), (2, u "IPV6_GROUPS"), (1, u "IPV4_MAPPED_PREFIX_BYTES"), (8, u "isIpv6")] 24

def k2c0 : Code := { maxStack := 4, maxLocals := 2, code := prog_43_method_1_code, exceptionTable := #[], attributes := #[] }
def k2m0 : Method := { name := "<init>", desc := "([B)V", sig := { parameters := [(.array .byte)], returnType := none }, accessFlags := 0, code := some k2c0 }
def k2c1 : Code := { maxStack := 2, maxLocals := 1, code := prog_43_method_5_code, exceptionTable := #[], attributes := #[] }
def k2m1 : Method := { name := "isIpv6", desc := "()Z", sig := { parameters := [], returnType := some .boolean }, accessFlags := 1, code := some k2c1 }
def k2c2 : Code := { maxStack := 2, maxLocals := 2, code := prog_43_method_12_code, exceptionTable := #[], attributes := #[] }
def k2m2 : Method := { name := "isIpv4Mapped", desc := "([B)Z", sig := { parameters := [(.array .byte)], returnType := some .boolean }, accessFlags := 10, code := some k2c2 }
/-- com/example/flytrap/flytrap/net/IpAddress -/
def k2 : Class := { plain "com/example/flytrap/flytrap/net/IpAddress" (some 0) with
  accessFlags := 33
  interfaces := #[]
  cf := some (fileOf pool2 8 #[] #[{ accessFlags := 0, nameIndex := 5, descriptorIndex := 31, attributes := #[] }, { accessFlags := 1, nameIndex := 147, descriptorIndex := 53, attributes := #[] }, { accessFlags := 10, nameIndex := 11, descriptorIndex := 12, attributes := #[] }] 33 2 #[] #[{ accessFlags := 26, nameIndex := 132, descriptorIndex := 133, attributes := #[] }, { accessFlags := 26, nameIndex := 136, descriptorIndex := 133, attributes := #[] }, { accessFlags := 26, nameIndex := 138, descriptorIndex := 133, attributes := #[] }, { accessFlags := 18, nameIndex := 21, descriptorIndex := 22, attributes := #[] }])
  fields := #[{ name := "IPV4_GROUPS", type := .int, accessFlags := 26, slot := 0, constantValue := 0 }, { name := "IPV6_GROUPS", type := .int, accessFlags := 26, slot := 1, constantValue := 0 }, { name := "IPV4_MAPPED_PREFIX_BYTES", type := .int, accessFlags := 26, slot := 2, constantValue := 0 }, { name := "bytes", type := (.array .byte), accessFlags := 18, slot := 0, constantValue := 0 }]
  methods := #[k2m0, k2m1, k2m2]
  instanceTypes := #[(.array .byte)]
  staticTypes := #[.int, .int, .int]
  resolved := Array.replicate 172 none
  statics := none }

def pool3 : Array CpInfo := pool [(2, .class_ 4), (1, u "java/lang/Object"), (0, u "<init>"), (0, u "()V"), (7, .class_ 16), (1, u "java/util/Arrays"), (57, .class_ 76), (1, u "java/util/Arrays$NaturalOrder"), (36, .class_ 115), (1, u "java/util/Arrays$LegacyMergeSort"), (1, u "Z"), (21, u "copyOfRange"), (10, .methodref 151 152), (0, .class_ 153), (0, .nameAndType 154 155), (0, u "java/lang/System"), (0, u "arraycopy"), (0, u "(Ljava/lang/Object;ILjava/lang/Object;II)V"), (148, .methodref 305 306), (0, .class_ 307), (0, .nameAndType 308 309), (0, u "java/lang/Math"), (0, u "min"), (0, u "(II)I"), (29, .methodref 14 340), (0, .nameAndType 341 342), (0, u "copyOfRangeByte"), (0, u "([BII)[B"), (0, .methodref 14 344), (0, .nameAndType 345 346), (0, u "checkLength"), (0, u "(II)V"), (28, .class_ 376), (0, u "java/util/Arrays$ArrayList"), (68, u "$assertionsDisabled"), (269, u "MIN_ARRAY_SORT_GRAN"), (0, u "I"), (2, u "INSERTIONSORT_THRESHOLD"), (255, .class_ 976), (0, u "java/util/Arrays$ArrayItr")] 52

def k3m0 : Method := { name := "<init>", desc := "()V", sig := { parameters := [], returnType := none }, accessFlags := 2, code := none }
def k3c1 : Code := { maxStack := 4, maxLocals := 2, code := jdk_65_method_131_code, exceptionTable := #[], attributes := #[] }
def k3m1 : Method := { name := "checkLength", desc := "(II)V", sig := { parameters := [.int, .int], returnType := none }, accessFlags := 10, code := some k3c1 }
def k3c2 : Code := { maxStack := 3, maxLocals := 3, code := jdk_65_method_132_code, exceptionTable := #[], attributes := #[] }
def k3m2 : Method := { name := "copyOfRange", desc := "([BII)[B", sig := { parameters := [(.array .byte), .int, .int], returnType := some (.array .byte) }, accessFlags := 9, code := some k3c2 }
def k3c3 : Code := { maxStack := 6, maxLocals := 5, code := jdk_65_method_133_code, exceptionTable := #[], attributes := #[] }
def k3m3 : Method := { name := "copyOfRangeByte", desc := "([BII)[B", sig := { parameters := [(.array .byte), .int, .int], returnType := some (.array .byte) }, accessFlags := 10, code := some k3c3 }
/-- java/util/Arrays -/
def k3 : Class := { plain "java/util/Arrays" (some 0) with
  accessFlags := 49
  interfaces := #[]
  cf := some (fileOf pool3 14 #[.nestMembers #[975, 375, 113, 74]] #[{ accessFlags := 2, nameIndex := 5, descriptorIndex := 6, attributes := #[] }, { accessFlags := 10, nameIndex := 345, descriptorIndex := 346, attributes := #[] }, { accessFlags := 9, nameIndex := 139, descriptorIndex := 342, attributes := #[] }, { accessFlags := 10, nameIndex := 341, descriptorIndex := 342, attributes := #[] }] 49 2 #[] #[{ accessFlags := 26, nameIndex := 715, descriptorIndex := 716, attributes := #[] }, { accessFlags := 26, nameIndex := 719, descriptorIndex := 716, attributes := #[] }, { accessFlags := 4120, nameIndex := 445, descriptorIndex := 117, attributes := #[] }])
  fields := #[{ name := "MIN_ARRAY_SORT_GRAN", type := .int, accessFlags := 26, slot := 0, constantValue := 0 }, { name := "INSERTIONSORT_THRESHOLD", type := .int, accessFlags := 26, slot := 1, constantValue := 0 }, { name := "$assertionsDisabled", type := .boolean, accessFlags := 4120, slot := 2, constantValue := 0 }]
  methods := #[k3m0, k3m1, k3m2, k3m3]
  instanceTypes := #[]
  staticTypes := #[.int, .int, .boolean]
  resolved := Array.replicate 1029 none
  statics := none }

def pool4 : Array CpInfo := pool [(1, .class_ 2), (0, u "java/lang/Math"), (1, .class_ 6), (1, u "java/lang/Object"), (0, u "<init>"), (0, u "()V"), (89, .class_ 100), (1, u "java/lang/Math$RandomNumberGeneratorHolder"), (71, u "negativeZeroFloatBits"), (0, u "J"), (2, u "negativeZeroDoubleBits"), (24, u "min"), (43, u "$assertionsDisabled"), (0, u "Z"), (88, u "(II)I"), (2, u "twoToTheDoubleScaleDown"), (0, u "D"), (4, u "twoToTheDoubleScaleUp"), (9, u "E"), (3, u "PI"), (2, u "TAU"), (2, u "DEGREES_TO_RADIANS"), (0, u "RADIANS_TO_DEGREES")] 94

def k4m0 : Method := { name := "<init>", desc := "()V", sig := { parameters := [], returnType := none }, accessFlags := 2, code := none }
def k4c1 : Code := { maxStack := 2, maxLocals := 2, code := jdk_29_method_69_code, exceptionTable := #[], attributes := #[] }
def k4m1 : Method := { name := "min", desc := "(II)I", sig := { parameters := [.int, .int], returnType := some .int }, accessFlags := 9, code := some k4c1 }
/-- java/lang/Math -/
def k4 : Class := { plain "java/lang/Math" (some 0) with
  accessFlags := 49
  interfaces := #[]
  cf := some (fileOf pool4 1 #[.nestMembers #[98]] #[{ accessFlags := 2, nameIndex := 7, descriptorIndex := 8, attributes := #[] }, { accessFlags := 9, nameIndex := 201, descriptorIndex := 335, attributes := #[] }] 49 4 #[] #[{ accessFlags := 25, nameIndex := 354, descriptorIndex := 339, attributes := #[] }, { accessFlags := 25, nameIndex := 358, descriptorIndex := 339, attributes := #[] }, { accessFlags := 25, nameIndex := 361, descriptorIndex := 339, attributes := #[] }, { accessFlags := 26, nameIndex := 364, descriptorIndex := 339, attributes := #[] }, { accessFlags := 26, nameIndex := 365, descriptorIndex := 339, attributes := #[] }, { accessFlags := 26, nameIndex := 172, descriptorIndex := 173, attributes := #[] }, { accessFlags := 26, nameIndex := 176, descriptorIndex := 173, attributes := #[] }, { accessFlags := 8, nameIndex := 344, descriptorIndex := 339, attributes := #[] }, { accessFlags := 8, nameIndex := 338, descriptorIndex := 339, attributes := #[] }, { accessFlags := 4120, nameIndex := 245, descriptorIndex := 246, attributes := #[] }])
  fields := #[{ name := "E", type := .double, accessFlags := 25, slot := 0, constantValue := 0 }, { name := "PI", type := .double, accessFlags := 25, slot := 1, constantValue := 0 }, { name := "TAU", type := .double, accessFlags := 25, slot := 2, constantValue := 0 }, { name := "DEGREES_TO_RADIANS", type := .double, accessFlags := 26, slot := 3, constantValue := 0 }, { name := "RADIANS_TO_DEGREES", type := .double, accessFlags := 26, slot := 4, constantValue := 0 }, { name := "negativeZeroFloatBits", type := .long, accessFlags := 26, slot := 5, constantValue := 0 }, { name := "negativeZeroDoubleBits", type := .long, accessFlags := 26, slot := 6, constantValue := 0 }, { name := "twoToTheDoubleScaleUp", type := .double, accessFlags := 8, slot := 7, constantValue := 0 }, { name := "twoToTheDoubleScaleDown", type := .double, accessFlags := 8, slot := 8, constantValue := 0 }, { name := "$assertionsDisabled", type := .boolean, accessFlags := 4120, slot := 9, constantValue := 0 }]
  methods := #[k4m0, k4m1]
  instanceTypes := #[]
  staticTypes := #[.double, .double, .double, .double, .double, .long, .long, .double, .double, .boolean]
  resolved := Array.replicate 460 none
  statics := none }

def pool5 : Array CpInfo := pool [(2, .class_ 4), (1, u "java/lang/Object"), (0, u "<init>"), (0, u "()V"), (1, .class_ 10), (1, u "java/lang/System"), (0, u "allowSecurityManager"), (0, u "I"), (16, u "cons"), (0, u "Ljava/io/Console;"), (77, .class_ 110), (1, u "java/lang/System$CallersHolder"), (43, u "initialErrStream"), (0, u "Ljava/io/PrintStream;"), (19, u "security"), (0, u "Ljava/lang/SecurityManager;"), (31, .class_ 209), (0, u "java/lang/System$1"), (7, u "props"), (0, u "Ljava/util/Properties;"), (2, u "lineSeparator"), (0, u "Ljava/lang/String;"), (96, .class_ 321), (1, u "java/lang/System$LoggerFinder"), (5, .class_ 328), (0, u "java/lang/System$Logger"), (67, u "err"), (2, u "out"), (91, u "notSupportedJnuEncoding"), (15, u "in"), (17, u "initialIn"), (0, u "Ljava/io/InputStream;"), (35, u "bootLayer"), (0, u "Ljava/lang/ModuleLayer;"), (99, .class_ 664), (0, u "java/lang/System$2"), (9, u "NEVER"), (2, u "MAYBE"), (49, u "arraycopy"), (0, u "(Ljava/lang/Object;ILjava/lang/Object;II)V"), (72, .class_ 802), (0, u "java/lang/System$Logger$Level")] 31

def k5m0 : Method := { name := "<init>", desc := "()V", sig := { parameters := [], returnType := none }, accessFlags := 2, code := none }
def k5m1 : Method := { name := "arraycopy", desc := "(Ljava/lang/Object;ILjava/lang/Object;II)V", sig := { parameters := [(.object "java/lang/Object"), .int, (.object "java/lang/Object"), .int, .int], returnType := none }, accessFlags := 265, code := none }
/-- java/lang/System -/
def k5 : Class := { plain "java/lang/System" (some 0) with
  accessFlags := 49
  interfaces := #[]
  cf := some (fileOf pool5 8 #[.nestMembers #[319, 327, 801, 108, 663, 208]] #[{ accessFlags := 2, nameIndex := 5, descriptorIndex := 6, attributes := #[] }, { accessFlags := 265, nameIndex := 727, descriptorIndex := 728, attributes := #[] }] 49 2 #[] #[{ accessFlags := 25, nameIndex := 507, descriptorIndex := 526, attributes := #[] }, { accessFlags := 25, nameIndex := 399, descriptorIndex := 155, attributes := #[] }, { accessFlags := 25, nameIndex := 396, descriptorIndex := 155, attributes := #[] }, { accessFlags := 10, nameIndex := 525, descriptorIndex := 526, attributes := #[] }, { accessFlags := 26, nameIndex := 674, descriptorIndex := 12, attributes := #[] }, { accessFlags := 26, nameIndex := 677, descriptorIndex := 12, attributes := #[] }, { accessFlags := 10, nameIndex := 11, descriptorIndex := 12, attributes := #[] }, { accessFlags := 74, nameIndex := 175, descriptorIndex := 176, attributes := #[] }, { accessFlags := 10, nameIndex := 491, descriptorIndex := 222, attributes := #[] }, { accessFlags := 74, nameIndex := 29, descriptorIndex := 30, attributes := #[] }, { accessFlags := 74, nameIndex := 154, descriptorIndex := 155, attributes := #[] }, { accessFlags := 10, nameIndex := 217, descriptorIndex := 218, attributes := #[] }, { accessFlags := 10, nameIndex := 221, descriptorIndex := 222, attributes := #[] }, { accessFlags := 8, nameIndex := 562, descriptorIndex := 563, attributes := #[] }])
  fields := #[{ name := "in", type := (.object "java/io/InputStream"), accessFlags := 25, slot := 0, constantValue := 0 }, { name := "out", type := (.object "java/io/PrintStream"), accessFlags := 25, slot := 1, constantValue := 0 }, { name := "err", type := (.object "java/io/PrintStream"), accessFlags := 25, slot := 2, constantValue := 0 }, { name := "initialIn", type := (.object "java/io/InputStream"), accessFlags := 10, slot := 3, constantValue := 0 }, { name := "NEVER", type := .int, accessFlags := 26, slot := 4, constantValue := 0 }, { name := "MAYBE", type := .int, accessFlags := 26, slot := 5, constantValue := 0 }, { name := "allowSecurityManager", type := .int, accessFlags := 10, slot := 6, constantValue := 0 }, { name := "security", type := (.object "java/lang/SecurityManager"), accessFlags := 74, slot := 7, constantValue := 0 }, { name := "notSupportedJnuEncoding", type := (.object "java/lang/String"), accessFlags := 10, slot := 8, constantValue := 0 }, { name := "cons", type := (.object "java/io/Console"), accessFlags := 74, slot := 9, constantValue := 0 }, { name := "initialErrStream", type := (.object "java/io/PrintStream"), accessFlags := 74, slot := 10, constantValue := 0 }, { name := "props", type := (.object "java/util/Properties"), accessFlags := 10, slot := 11, constantValue := 0 }, { name := "lineSeparator", type := (.object "java/lang/String"), accessFlags := 10, slot := 12, constantValue := 0 }, { name := "bootLayer", type := (.object "java/lang/ModuleLayer"), accessFlags := 8, slot := 13, constantValue := 0 }]
  methods := #[k5m0, k5m1]
  instanceTypes := #[]
  staticTypes := #[(.object "java/io/InputStream"), (.object "java/io/PrintStream"), (.object "java/io/PrintStream"), (.object "java/io/InputStream"), .int, .int, .int, (.object "java/lang/SecurityManager"), (.object "java/lang/String"), (.object "java/io/Console"), (.object "java/io/PrintStream"), (.object "java/util/Properties"), (.object "java/lang/String"), (.object "java/lang/ModuleLayer")]
  resolved := Array.replicate 834 none
  statics := none }

def pool6 : Array CpInfo := pool [(1, u "java/lang/Cloneable"), (0, .class_ 1), (0, u "java/lang/Object"), (0, .class_ 3)] 3

/-- java/lang/Cloneable -/
def k6 : Class := { plain "java/lang/Cloneable" (some 0) with
  accessFlags := 1537
  interfaces := #[]
  cf := some (fileOf pool6 2 #[] #[] 1537 4 #[] #[])
  fields := #[]
  methods := #[]
  instanceTypes := #[]
  staticTypes := #[]
  resolved := Array.replicate 8 none
  statics := none }

def pool7 : Array CpInfo := pool [(1, u "java/io/Serializable"), (0, .class_ 1), (0, u "java/lang/Object"), (0, .class_ 3)] 3

/-- java/io/Serializable -/
def k7 : Class := { plain "java/io/Serializable" (some 0) with
  accessFlags := 1537
  interfaces := #[]
  cf := some (fileOf pool7 2 #[] #[] 1537 4 #[] #[])
  fields := #[]
  methods := #[]
  instanceTypes := #[]
  staticTypes := #[]
  resolved := Array.replicate 8 none
  statics := none }

/-- the primitive byte -/
def k8 : Class := { plain "byte" none with kind := .primitive 'B', accessFlags := 0x411 }
/-- [B -/
def k9 : Class := { plain "[B" (some 0) with kind := .array 8 .byte, interfaces := #[6, 7], accessFlags := 1041 }

/-- the primitive int -/
def k10 : Class := { plain "int" none with kind := .primitive 'I', accessFlags := 0x411 }
/-- [I -/
def k11 : Class := { plain "[I" (some 0) with kind := .array 10 .int, interfaces := #[6, 7], accessFlags := 1041 }

def heap : Heap := #[]
def classes : Array Class := #[k0, k1, k2, k3, k4, k5, k6, k7, k8, k9, k10, k11]
def interned : List (Array UInt16 × Addr) := []
def slotsUsed : Nat := 0
def theMethod : MethodId := ⟨1, 1⟩
def args0 : Array Value := #[.int 1, .int 1, .int 1, .int 1, .int 1]
def aboutOver (below : List Frame) : State where
  vm := { classes := classes, interned := interned.toArray }
  heap := heap
  slotsUsed := slotsUsed
  threads := #[{ frames := .invoking theMethod args0 :: below }]
def below0 : List Frame := [.native { method := ⟨0, 0⟩, args := #[] }]
def about1 : State := aboutOver below0
def p0 : Program := .bare "" "" ""
def e0 : Env := launch0.env 0 0 0
theorem w_frames : about1.frames = Frame.invoking theMethod args0 :: below0 := rfl
set_option maxRecDepth 65536 in
theorem w_args : argsFit about1.vm theMethod args0 = true := by decide +kernel
set_option maxRecDepth 65536 in
theorem w_heap : heapFits about1 = true := by decide +kernel
set_option maxRecDepth 65536 in
theorem w_runnable : about1.curStatus? = some .runnable := by decide +kernel
set_option maxRecDepth 65536 in
theorem w_alone : about1.alone = true := by decide +kernel
set_option maxRecDepth 65536 in
theorem w_named : about1.methodNamed? x = some theMethod := by decide +kernel
set_option maxRecDepth 65536 in
theorem w_hears : about1.hears theMethod below0 = true := by decide +kernel
set_option maxRecDepth 65536 in
theorem w_ripe : about1.ripe theMethod args0 below0 = true := by decide +kernel
theorem w_running : about1.status = .running := rfl
set_option maxRecDepth 65536 in
theorem w_room : about1.hasRoom e0.platform room_1 = true :=
  launch0.hasRoom_least _ room_1 (by decide +kernel) (by decide +kernel) (by decide +kernel) (by decide +kernel) (by decide +kernel) (by decide +kernel)
theorem allAtoms_all (ts : List Jvm.Cond) (a : Array Jvm.Value) (st : Jvm.State) : (allAtoms ts).before a st = ts.all (fun c => c.before a st) := by
  induction ts with
  | nil => rfl
  | cons c t ih =>
    show (Jvm.Cond.and c (allAtoms t)).before a st = _
    rw [Jvm.Cond.before_and, ih, List.all_cons]
def words1 : List Jvm.Cond := Jvm.Cond.code x code maxLocals ret :: tables_1
/-- a 'code' word, met by the world's own term for the bytes: nothing is compared byte by byte -/
theorem code_word {y : MethodName} {bytes : ByteArray} {mx : Nat} {rt : Option FieldType} {a : Array Value} {s : State} {m : MethodId} {meth : Method} {c : Code} (h1 : s.methodNamed? y = some m) (h2 : s.vm.method? m = some meth) (h3 : meth.code = some c) (h4 : c.code = bytes)
    (h5 : (c.maxLocals == mx && c.exceptionTable.isEmpty && decide (c.maxStack ≤ mostOperands) && decide (meth.sig.returnType = rt) && !meth.locks && decide (parseMethodDescriptor y.desc = some meth.sig)) = true) : (Jvm.Cond.code y bytes mx rt).before a s = true := by
  simp only [Bool.and_eq_true, beq_iff_eq, Bool.not_eq_true', decide_eq_true_eq] at h5
  obtain ⟨⟨⟨⟨⟨g1, g2⟩, g3⟩, g4⟩, g5⟩, g6⟩ := h5
  simp [Cond.before, Cond.holds, Cond.value, h1, h2, h3, h4, g1, g2, g3, g4, g5, g6]
def isCode : Jvm.Cond → Bool
  | .code _ _ _ _ => true
  | _ => false
theorem all_split {L : List Jvm.Cond} {P : Jvm.Cond → Bool} (h1 : L.all (fun c => isCode c || P c) = true) (h2 : ∀ c ∈ L.filter isCode, P c = true) : L.all P = true := by
  refine List.all_eq_true.mpr fun c hc => ?_
  have h := List.all_eq_true.mp h1 c hc
  rcases Bool.eq_false_or_eq_true (isCode c) with hi | hi
  · exact h2 c (List.mem_filter.mpr ⟨hc, hi⟩)
  · simpa [hi] using h
set_option maxRecDepth 65536 in
theorem w_c0 : (Jvm.Cond.code x code maxLocals ret).before args0 about1 = true := code_word (m := ⟨1, 1⟩) (meth := k1m1) (c := k1c1) (by decide +kernel) rfl rfl rfl (by decide +kernel)
set_option maxRecDepth 65536 in
theorem w_c1 : (Jvm.Cond.code ({ cls := "com/example/flytrap/flytrap/net/IpAddressIsIpv6PinLaw", name := "put", desc := "([BII)V" } : Jvm.MethodName) method_3_code (3 : Nat) (Option.none : Option Jvm.ClassFile.FieldType)).before args0 about1 = true := code_word (m := ⟨1, 2⟩) (meth := k1m2) (c := k1c2) (by decide +kernel) rfl rfl rfl (by decide +kernel)
set_option maxRecDepth 65536 in
theorem w_c2 : (Jvm.Cond.code ({ cls := "com/example/flytrap/flytrap/net/IpAddress", name := "<init>", desc := "([B)V" } : Jvm.MethodName) prog_43_method_1_code (2 : Nat) (Option.none : Option Jvm.ClassFile.FieldType)).before args0 about1 = true := code_word (m := ⟨2, 0⟩) (meth := k2m0) (c := k2c0) (by decide +kernel) rfl rfl rfl (by decide +kernel)
set_option maxRecDepth 65536 in
theorem w_c3 : (Jvm.Cond.code ({ cls := "java/lang/Object", name := "<init>", desc := "()V" } : Jvm.MethodName) object_method_1_code (1 : Nat) (Option.none : Option Jvm.ClassFile.FieldType)).before args0 about1 = true := code_word (m := ⟨0, 0⟩) (meth := k0m0) (c := k0c0) (by decide +kernel) rfl rfl rfl (by decide +kernel)
set_option maxRecDepth 65536 in
theorem w_c4 : (Jvm.Cond.code ({ cls := "com/example/flytrap/flytrap/net/IpAddress", name := "isIpv4Mapped", desc := "([B)Z" } : Jvm.MethodName) prog_43_method_12_code (2 : Nat) (Option.some Jvm.ClassFile.FieldType.boolean)).before args0 about1 = true := code_word (m := ⟨2, 2⟩) (meth := k2m2) (c := k2c2) (by decide +kernel) rfl rfl rfl (by decide +kernel)
set_option maxRecDepth 65536 in
theorem w_c5 : (Jvm.Cond.code ({ cls := "com/example/flytrap/flytrap/net/IpAddress", name := "isIpv6", desc := "()Z" } : Jvm.MethodName) prog_43_method_5_code (1 : Nat) (Option.some Jvm.ClassFile.FieldType.boolean)).before args0 about1 = true := code_word (m := ⟨2, 1⟩) (meth := k2m1) (c := k2c1) (by decide +kernel) rfl rfl rfl (by decide +kernel)
set_option maxRecDepth 65536 in
theorem w_c6 : (Jvm.Cond.code ({ cls := "java/util/Arrays", name := "copyOfRange", desc := "([BII)[B" } : Jvm.MethodName) jdk_65_method_132_code (3 : Nat) (Option.some (Jvm.ClassFile.FieldType.array Jvm.ClassFile.FieldType.byte))).before args0 about1 = true := code_word (m := ⟨3, 2⟩) (meth := k3m2) (c := k3c2) (by decide +kernel) rfl rfl rfl (by decide +kernel)
set_option maxRecDepth 65536 in
theorem w_c7 : (Jvm.Cond.code ({ cls := "java/util/Arrays", name := "copyOfRangeByte", desc := "([BII)[B" } : Jvm.MethodName) jdk_65_method_133_code (5 : Nat) (Option.some (Jvm.ClassFile.FieldType.array Jvm.ClassFile.FieldType.byte))).before args0 about1 = true := code_word (m := ⟨3, 3⟩) (meth := k3m3) (c := k3c3) (by decide +kernel) rfl rfl rfl (by decide +kernel)
set_option maxRecDepth 65536 in
theorem w_c8 : (Jvm.Cond.code ({ cls := "java/util/Arrays", name := "checkLength", desc := "(II)V" } : Jvm.MethodName) jdk_65_method_131_code (2 : Nat) (Option.none : Option Jvm.ClassFile.FieldType)).before args0 about1 = true := code_word (m := ⟨3, 1⟩) (meth := k3m1) (c := k3c1) (by decide +kernel) rfl rfl rfl (by decide +kernel)
set_option maxRecDepth 65536 in
theorem w_c9 : (Jvm.Cond.code ({ cls := "java/lang/Math", name := "min", desc := "(II)I" } : Jvm.MethodName) jdk_29_method_69_code (2 : Nat) (Option.some Jvm.ClassFile.FieldType.int)).before args0 about1 = true := code_word (m := ⟨4, 1⟩) (meth := k4m1) (c := k4c1) (by decide +kernel) rfl rfl rfl (by decide +kernel)
def codes1 : List Jvm.Cond := [Jvm.Cond.code x code maxLocals ret, Jvm.Cond.code ({ cls := "com/example/flytrap/flytrap/net/IpAddressIsIpv6PinLaw", name := "put", desc := "([BII)V" } : Jvm.MethodName) method_3_code (3 : Nat) (Option.none : Option Jvm.ClassFile.FieldType), Jvm.Cond.code ({ cls := "com/example/flytrap/flytrap/net/IpAddress", name := "<init>", desc := "([B)V" } : Jvm.MethodName) prog_43_method_1_code (2 : Nat) (Option.none : Option Jvm.ClassFile.FieldType), Jvm.Cond.code ({ cls := "java/lang/Object", name := "<init>", desc := "()V" } : Jvm.MethodName) object_method_1_code (1 : Nat) (Option.none : Option Jvm.ClassFile.FieldType), Jvm.Cond.code ({ cls := "com/example/flytrap/flytrap/net/IpAddress", name := "isIpv4Mapped", desc := "([B)Z" } : Jvm.MethodName) prog_43_method_12_code (2 : Nat) (Option.some Jvm.ClassFile.FieldType.boolean), Jvm.Cond.code ({ cls := "com/example/flytrap/flytrap/net/IpAddress", name := "isIpv6", desc := "()Z" } : Jvm.MethodName) prog_43_method_5_code (1 : Nat) (Option.some Jvm.ClassFile.FieldType.boolean), Jvm.Cond.code ({ cls := "java/util/Arrays", name := "copyOfRange", desc := "([BII)[B" } : Jvm.MethodName) jdk_65_method_132_code (3 : Nat) (Option.some (Jvm.ClassFile.FieldType.array Jvm.ClassFile.FieldType.byte)), Jvm.Cond.code ({ cls := "java/util/Arrays", name := "copyOfRangeByte", desc := "([BII)[B" } : Jvm.MethodName) jdk_65_method_133_code (5 : Nat) (Option.some (Jvm.ClassFile.FieldType.array Jvm.ClassFile.FieldType.byte)), Jvm.Cond.code ({ cls := "java/util/Arrays", name := "checkLength", desc := "(II)V" } : Jvm.MethodName) jdk_65_method_131_code (2 : Nat) (Option.none : Option Jvm.ClassFile.FieldType), Jvm.Cond.code ({ cls := "java/lang/Math", name := "min", desc := "(II)I" } : Jvm.MethodName) jdk_29_method_69_code (2 : Nat) (Option.some Jvm.ClassFile.FieldType.int)]
set_option maxRecDepth 65536 in
theorem codes_eq : words1.filter isCode = codes1 := rfl
theorem w_codes : ∀ c ∈ words1.filter isCode, c.before args0 about1 = true := by
  rw [codes_eq]
  intro c hc
  simp only [codes1, List.mem_cons, List.not_mem_nil, or_false] at hc
  rcases hc with rfl | rfl | rfl | rfl | rfl | rfl | rfl | rfl | rfl | rfl
  · exact w_c0
  · exact w_c1
  · exact w_c2
  · exact w_c3
  · exact w_c4
  · exact w_c5
  · exact w_c6
  · exact w_c7
  · exact w_c8
  · exact w_c9
set_option maxRecDepth 65536 in
theorem w_t1 : (words1.take 24).all (fun c => isCode c || c.before args0 about1) = true := by decide +kernel
set_option maxRecDepth 65536 in
theorem w_t2 : (words1.drop 24).all (fun c => isCode c || c.before args0 about1) = true := by decide +kernel
theorem w_tables : (allAtoms (Jvm.Cond.code x code maxLocals ret :: tables_1)).before args0 about1 = true := by
  rw [allAtoms_all]
  show words1.all (fun c => c.before args0 about1) = true
  refine all_split ?_ w_codes
  rw [← List.take_append_drop 24 words1, List.all_append, w_t1, w_t2]
  rfl
set_option maxRecDepth 65536 in
theorem w_case : (Jvm.Cond.and given_1 narrow_1).before args0 about1 = true := by decide +kernel
theorem w_applies : (headSpec (Jvm.Cond.code x code maxLocals ret :: tables_1) room_1).applies x e0.platform about1 = true :=
  (Spec.applies_iff w_frames).mpr ⟨w_running, w_runnable, w_alone, w_named, w_hears, w_ripe, w_room, w_tables⟩
theorem atStart : AtStart classFile x code maxLocals ret World_1 tables_1 room_1 Calls_1 rest_1 Pre_1 launch0 p0 e0 about1 theMethod args0 below0 :=
  ⟨lists_1, trivial, launch0.admits_env _ _ _, launch0.least_env, fairChoices_fair.cas, fairChoices_fair.clock, w_frames, w_args, w_heap, w_applies, trivial, trivial, w_case⟩
end start1
theorem witness_1 : WitnessClaimed_1 := ⟨start1.p0, start1.e0, start1.about1, start1.theMethod, start1.args0, start1.below0, start1.atStart⟩
end Jvm.Pilot.@@N@@
