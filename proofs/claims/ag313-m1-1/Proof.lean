import JvmDerived
import JvmDerived.Pilot.@@N@@Statement
import JvmDerived.Pilot.@@N@@Code
set_option linter.unusedVariables false
set_option linter.unusedSimpArgs false
@@BLOCK:NumsL.lean.txt@@
namespace Jvm.Pilot.@@N@@
open Jvm Jvm.ClassFile Sem Op Lib Jvm.Free Jvm.Stand Jvm.LawKit Jvm.RoadKit Bundle Jvm.Pilot.@@N@@.Jvm.D
theorem own_sta {Z : State} {h h' : Heap} {C n d C' : String} {w : Value} {o : Addr} (F : Sta Z h C n d w) (K : Keep h h' [o]) (E : Exa Z h o C') : Sta Z h' C n d w := by
  obtain ⟨cf, i, k, f, st, cell, h1, h2, h3, h4, h5, h6, h7⟩ := F
  obtain ⟨ce, ke, e1, e2, e3, e4, e5⟩ := E
  refine ⟨cf, i, k, f, st, cell, h1, h2, h3, h4, K.2.1 st cell h5 (fun hm => ?_), h6, h7⟩
  cases List.mem_singleton.mp hm
  rw [e1] at h5; cases h5; rw [h6] at e4; cases e4
theorem own_fint {s : State} {args : Array Value} {t : Term} {C n d : String} {k : Int32} {w : Addr} (ht : t.eval args s none [] s = some (.ref w)) (h : (Jvm.Cond.eq (.field t C n d) (.int k)).value args s none s [] = some true) : Fld s s.heap w C n d (.int k) := by
  refine Fld.start ?_
  have e := fld_at (args := args) (first := s) (o := none) (idx := []) (s := s) (C := C) (n := n) (dd := d) ht
  obtain ⟨x, y, hx, hy, -, -⟩ := cmp_v (Or.inl h)
  rw [← e, hx]
  cases (Term.int_eval k).symm.trans hy
  cases x <;> simp [Jvm.Cond.value, hx, hy] at h
  rw [h]
theorem own_rem32 (x m : Int32) (hx : 0 ≤ x.toInt) : (x % m).toInt = x.toInt % m.toInt := by rw [Int32.toInt_mod, Int.tmod_eq_emod_of_nonneg hx]
theorem own_lc0 (x y : Int64) : (lcmpW x y < 0 ↔ x < y) ∧ (0 < lcmpW x y ↔ y < x) ∧ (lcmpW x y = 0 ↔ x = y) := by rw [lcW]; exact ⟨lc_lt x y, lc_gt x y, lc_eq x y⟩
theorem lcY_lt {x y : Int64} (h : x < y) : ifCond.holds .lt (lcmpW x y) = true := (if0 _ _).trans (tlt ((own_lc0 x y).1.mpr h)).1
theorem lcN_lt {x y : Int64} (h : ¬ x < y) : ifCond.holds .lt (lcmpW x y) = false := (if0 _ _).trans (flt fun q => h ((own_lc0 x y).1.mp q)).1
theorem lcN_ge {x y : Int64} (h : x < y) : ifCond.holds .ge (lcmpW x y) = false := (if0 _ _).trans (tlt ((own_lc0 x y).1.mpr h)).2.1
theorem lcY_ge {x y : Int64} (h : ¬ x < y) : ifCond.holds .ge (lcmpW x y) = true := (if0 _ _).trans (flt fun q => h ((own_lc0 x y).1.mp q)).2.1
theorem lcY_gt {x y : Int64} (h : y < x) : ifCond.holds .gt (lcmpW x y) = true := (if0 _ _).trans (tlt ((own_lc0 x y).2.1.mpr h)).2.2.1
theorem lcN_gt {x y : Int64} (h : ¬ y < x) : ifCond.holds .gt (lcmpW x y) = false := (if0 _ _).trans (flt fun q => h ((own_lc0 x y).2.1.mp q)).2.2.1
theorem lcN_le {x y : Int64} (h : y < x) : ifCond.holds .le (lcmpW x y) = false := (if0 _ _).trans (tlt ((own_lc0 x y).2.1.mpr h)).2.2.2
theorem lcY_le {x y : Int64} (h : ¬ y < x) : ifCond.holds .le (lcmpW x y) = true := (if0 _ _).trans (flt fun q => h ((own_lc0 x y).2.1.mp q)).2.2.2
theorem lcY_eq {x y : Int64} (h : x = y) : ifCond.holds .eq (lcmpW x y) = true := (if0 _ _).trans (teq ((own_lc0 x y).2.2.mpr h)).1
theorem lcN_eq {x y : Int64} (h : ¬ x = y) : ifCond.holds .eq (lcmpW x y) = false := (if0 _ _).trans (feq fun q => h ((own_lc0 x y).2.2.mp q)).1
theorem lcN_ne {x y : Int64} (h : x = y) : ifCond.holds .ne (lcmpW x y) = false := (if0 _ _).trans (teq ((own_lc0 x y).2.2.mpr h)).2
theorem lcY_ne {x y : Int64} (h : ¬ x = y) : ifCond.holds .ne (lcmpW x y) = true := (if0 _ _).trans (feq fun q => h ((own_lc0 x y).2.2.mp q)).2
theorem own_cs {s : State} {args : Array Value} {t : Term} {w : Int32} (e : t.eval args s none [] s = some (.int w)) (h : (Jvm.Cond.not (Jvm.Cond.eq t (.int 0))).before args s = true) : ¬ (w = (0 : Int32)) := by
  have q := not_v (Cond.before_iff.mp h)
  intro z
  subst z
  simp [Jvm.Cond.value, e, Term.eval] at q
theorem own_dec (p : Int32) : ((p.toInt64) - (1 : Int64)).toInt = p.toInt - 1 := by
  have e : (1 : Int64).toInt = 1 := by decide
  have a := p.le_toInt; have b := p.toInt_lt
  rw [Jvm.Kit.i64_sub, Jvm.Kit.i64_of_i32, e] <;> rw [Jvm.Kit.i64_of_i32, e] <;> omega
theorem own_inc (p : Int32) : ((p.toInt64) + (1 : Int64)).toInt = p.toInt + 1 := by
  have e : (1 : Int64).toInt = 1 := by decide
  have a := p.le_toInt; have b := p.toInt_lt
  rw [Jvm.Kit.i64_add, Jvm.Kit.i64_of_i32, e] <;> rw [Jvm.Kit.i64_of_i32, e] <;> omega
def F2 (p0 : Int32) : Int32 :=
  if (255 : Int32) < p0 then (0 : Int32) else (1 : Int32)
theorem own_chr : ∀ k : Fin 256, ¬ ((255 : Int32) < ((Int32.ofNat k.val).toUInt32.toUInt16.toUInt32.toInt32)) := by decide +kernel
theorem own_enc (p : Int32) : ¬ ((F2 ((p &&& (255 : Int32)).toUInt32.toUInt16.toUInt32.toInt32)) = (0 : Int32)) := by
  have h : (p &&& (255 : Int32)).toInt = p.toInt % 2 ^ 8 := Jvm.Kit.i32_mask p (255 : Int32) (k := 8) (by decide) (by decide)
  have q : (p &&& (255 : Int32)) = Int32.ofNat (p.toInt % 2 ^ 8).toNat := by
    apply Int32.toInt_inj.mp
    rw [Int32.toInt_ofNat_small (by omega), h]; omega
  have t := own_chr ⟨(p.toInt % 2 ^ 8).toNat, by omega⟩
  rw [← q] at t
  rw [F2, if_neg t]; decide
theorem d2_0 : decode jdk_43_method_3_code 0 = .ok (.iload_n 0, 1) := by decide +kernel
theorem d2_1 : decode jdk_43_method_3_code 1 = .ok (.sipush 255, 3) := by decide +kernel
theorem d2_4 : decode jdk_43_method_3_code 4 = .ok (.if_icmp .gt 7, 3) := by decide +kernel
theorem d2_7 : decode jdk_43_method_3_code 7 = .ok (.iconst 1, 1) := by decide +kernel
theorem d2_8 : decode jdk_43_method_3_code 8 = .ok (.goto 4, 3) := by decide +kernel
theorem d2_11 : decode jdk_43_method_3_code 11 = .ok (.iconst 0, 1) := by decide +kernel
theorem d2_12 : decode jdk_43_method_3_code 12 = .ok (.ireturn, 1) := by decide +kernel
theorem pn_2 : plainName "java/lang/StringLatin1" = true := by first | (simp [plainName, overriddenIn]; done) | decide +kernel
theorem ef_2 (m : MethodId) (p0 : Int32) : entryFrame m #[(.int p0)] 1 = mkF m 0 #[.val (.int p0)] [] := by first | (simp [entryFrame, mkF, argsToLocals, Value.category]; done) | rfl
def Q2 (Z : State) (p0 : Int32) (h0 : Heap) (n0 : Nat) (v : Option Value) (h : Heap) (L : List Loc) : Prop := v = some (.int (F2 p0)) ∧ Fr n0 L ∧ h = h0
set_option maxRecDepth 65536 in
set_option maxHeartbeats 40000000 in
theorem rm2 (l : Launch) (Z : State) (a0 : Array Value) (hw : ∀ d ∈ tables_1, d.before a0 Z = true) (ws : List Jvm.Cond) (p0 : Int32) (h0 : Heap) (n0 : Nat) (Z0 : n0 ≤ h0.size) :
    MetFree l (⟨"java/lang/StringLatin1", "canEncode", "(C)Z"⟩ : MethodName) (head1 (Jvm.Cond.code (⟨"java/lang/StringLatin1", "canEncode", "(C)Z"⟩ : MethodName) jdk_43_method_3_code 1 (some .boolean) :: ws) ({ frames := 0, cells := 0, slots := 0, locals := 0 } : Room)) (fun a U => a = #[(.int p0)] ∧ Z.Warmed39 U.vm ∧ U.heap = h0) (fun _ _ _ _ _ => True) (fun _ U o U' => ∃ v L, o = .returned v ∧ Q2 Z p0 h0 n0 v U'.heap L ∧ FrameEnd U o U' L ({ frames := 0, cells := 0, slots := 0, locals := 0 } : Room).cells ({ frames := 0, cells := 0, slots := 0, locals := 0 } : Room).slots) := by
  refine MetFree.of_bodySF (plainFor_of_name pn_2) hisR ?_
  intro p e s m args below meth c s₁ Bd hml0 hP hK
  obtain ⟨rfl, hZ, hh⟩ := hP
  have hx := Bd.exec
  have hby := Bd.bytes
  have hml : c.maxLocals = 1 := hml0
  have hown : s.vm.findClass "java/lang/StringLatin1" = some m.cls := findClass_of_methodNamed Bd.named
  have hnm := (name_of_methodNamed Bd.named Bd.method).1
  have X0 : Stand p l e ({ frames := 0, cells := 0, slots := 0, locals := 0 } : Room) s m #[(.int p0)] below meth c s₁ [] 0 0 := Stand.of_body Bd
  have e0 : s₁.heap = h0 := by rw [← hh, Bd.state]; rfl
  have N0 := Fr.nil n0
  have pre0 : ∀ t, Steps p.tables e below (s₁.setTop (mkF m 0 #[.val (.int p0)] [])) t → Steps p.tables e below (s₁.setTop (entryFrame m #[(.int p0)] 1)) t := fun t k => castTop (ef_2 m p0) k
  have pre1 : ∀ t, Steps p.tables e below (s₁.setTop (mkF m 4 #[.val (.int p0)] [(.int (255 : Int32)), (.int p0)])) t → Steps p.tables e below (s₁.setTop (entryFrame m #[(.int p0)] 1)) t := fun t k => by
    refine pre0 t ?_
    show Steps p.tables e below (s₁.setTop (mkF m 0 #[.val (.int p0)] [])) _
    refine XS.iloadN X0.here hx rfl (hb hby d2_0) rfl ?_
    show Steps p.tables e below (s₁.setTop (mkF m 1 #[.val (.int p0)] [(.int p0)])) _
    refine XS.sipush X0.here hx rfl (hb hby d2_1) ?_
    exact k
  by_cases hc4 : (255 : Int32) < p0
  · obtain ⟨fs, hr, hrun, hended, hW, hsame⟩ := X0.leave (v := some (.int (0 : Int32))) (fun h => by rw [Bd.returns] at h; cases h) (BodyLoose.notSynchronized Bd)
    refine ⟨_, _, pre1 _ ?_, hrun, hended, _, _, rfl, ?_, ⟨_, rfl⟩, hW, hsame.mono (by decide) (by decide)⟩
    · show Steps p.tables e below (s₁.setTop (mkF m 4 #[.val (.int p0)] [(.int (255 : Int32)), (.int p0)])) _
      refine XS.icmpYes X0.here hx rfl (pc0 := 4) (pc' := 11) rfl (hb hby d2_4) rfl (tlt hc4).2.2.1 (by decide) (by decide) ?_
      show Steps p.tables e below (s₁.setTop (mkF m 11 #[.val (.int p0)] [])) _
      refine XS.iconst X0.here hx rfl (hb hby d2_11) ?_
      show Steps p.tables e below (s₁.setTop (mkF m 12 #[.val (.int p0)] [(.int (0 : Int32))])) _
      exact retN X0 hx (t := .boolean) Bd.returns (by simp) (hb hby d2_12) hr
    · show Q2 Z p0 h0 n0 _ s₁.heap _
      rw [e0]
      exact ⟨(by rw [F2, if_pos hc4]), N0, rfl⟩
  · obtain ⟨fs, hr, hrun, hended, hW, hsame⟩ := X0.leave (v := some (.int (1 : Int32))) (fun h => by rw [Bd.returns] at h; cases h) (BodyLoose.notSynchronized Bd)
    refine ⟨_, _, pre1 _ ?_, hrun, hended, _, _, rfl, ?_, ⟨_, rfl⟩, hW, hsame.mono (by decide) (by decide)⟩
    · show Steps p.tables e below (s₁.setTop (mkF m 4 #[.val (.int p0)] [(.int (255 : Int32)), (.int p0)])) _
      refine XS.icmpNo X0.here hx rfl (hb hby d2_4) rfl (flt hc4).2.2.1 ?_
      show Steps p.tables e below (s₁.setTop (mkF m 7 #[.val (.int p0)] [])) _
      refine XS.iconst X0.here hx rfl (hb hby d2_7) ?_
      show Steps p.tables e below (s₁.setTop (mkF m 8 #[.val (.int p0)] [(.int (1 : Int32))])) _
      refine XS.goto X0.here hx rfl (pc0 := 8) (pc' := 12) rfl (hb hby d2_8) (by decide) (by decide) ?_
      show Steps p.tables e below (s₁.setTop (mkF m 12 #[.val (.int p0)] [(.int (1 : Int32))])) _
      exact retN X0 hx (t := .boolean) Bd.returns (by simp) (hb hby d2_12) hr
    · show Q2 Z p0 h0 n0 _ s₁.heap _
      rw [e0]
      exact ⟨(by rw [F2, if_neg hc4]), N0, rfl⟩
theorem pd_0 : parseMethodDescriptor "(C)Z" = some ⟨[.char], some .boolean⟩ := by decide +kernel
theorem d3_0 : decode jdk_43_method_46_code 0 = .ok (.iconst 1, 1) := by decide +kernel
theorem d3_1 : decode jdk_43_method_46_code 1 = .ok (.newarray .byte, 2) := by decide +kernel
theorem d3_3 : decode jdk_43_method_46_code 3 = .ok (.dup, 1) := by decide +kernel
theorem d3_4 : decode jdk_43_method_46_code 4 = .ok (.iconst 0, 1) := by decide +kernel
theorem d3_5 : decode jdk_43_method_46_code 5 = .ok (.iload_n 0, 1) := by decide +kernel
theorem d3_6 : decode jdk_43_method_46_code 6 = .ok (.i2b, 1) := by decide +kernel
theorem d3_7 : decode jdk_43_method_46_code 7 = .ok (.bastore, 1) := by decide +kernel
theorem d3_8 : decode jdk_43_method_46_code 8 = .ok (.areturn, 1) := by decide +kernel
theorem pn_3 : plainName "java/lang/StringLatin1" = true := by first | (simp [plainName, overriddenIn]; done) | decide +kernel
theorem ef_3 (m : MethodId) (p0 : Int32) : entryFrame m #[(.int p0)] 1 = mkF m 0 #[.val (.int p0)] [] := by first | (simp [entryFrame, mkF, argsToLocals, Value.category]; done) | rfl
def Q3 (Z : State) (p0 : Int32) (h0 : Heap) (n0 : Nat) (v : Option Value) (h : Heap) (L : List Loc) : Prop := ∃ b : Addr, v = some (.ref b) ∧ Fr n0 L ∧ Keep h0 h [] ∧ h0.size ≤ b ∧ b < h.size
set_option maxRecDepth 65536 in
set_option maxHeartbeats 40000000 in
theorem rm3 (l : Launch) (Z : State) (a0 : Array Value) (hw : ∀ d ∈ tables_1, d.before a0 Z = true) (ws : List Jvm.Cond) (p0 : Int32) (h0 : Heap) (n0 : Nat) (Z0 : n0 ≤ h0.size) :
    MetFree l (⟨"java/lang/StringLatin1", "toBytes", "(C)[B"⟩ : MethodName) (head1 (Jvm.Cond.code (⟨"java/lang/StringLatin1", "toBytes", "(C)[B"⟩ : MethodName) jdk_43_method_46_code 1 (some (.array .byte)) :: ws) ({ frames := 0, cells := 1, slots := 1, locals := 0 } : Room)) (fun a U => a = #[(.int p0)] ∧ Z.Warmed39 U.vm ∧ U.heap = h0) (fun _ _ _ _ _ => True) (fun _ U o U' => ∃ v L, o = .returned v ∧ Q3 Z p0 h0 n0 v U'.heap L ∧ FrameEnd U o U' L ({ frames := 0, cells := 1, slots := 1, locals := 0 } : Room).cells ({ frames := 0, cells := 1, slots := 1, locals := 0 } : Room).slots) := by
  refine MetFree.of_bodySF (plainFor_of_name pn_3) hisR ?_
  intro p e s m args below meth c s₁ Bd hml0 hP hK
  obtain ⟨rfl, hZ, hh⟩ := hP
  have hx := Bd.exec
  have hby := Bd.bytes
  have hml : c.maxLocals = 1 := hml0
  have hown : s.vm.findClass "java/lang/StringLatin1" = some m.cls := findClass_of_methodNamed Bd.named
  have hnm := (name_of_methodNamed Bd.named Bd.method).1
  have X0 : Stand p l e ({ frames := 0, cells := 1, slots := 1, locals := 0 } : Room) s m #[(.int p0)] below meth c s₁ [] 0 0 := Stand.of_body Bd
  have e0 : s₁.heap = h0 := by rw [← hh, Bd.state]; rfl
  have N0 := Fr.nil n0
  have pre0 : ∀ t, Steps p.tables e below (s₁.setTop (mkF m 0 #[.val (.int p0)] [])) t → Steps p.tables e below (s₁.setTop (entryFrame m #[(.int p0)] 1)) t := fun t k => castTop (ef_3 m p0) k
  obtain ⟨T1, h1, k1, X1, e1, E1, A1, st1⟩ := newP X0 hx hZ (hw _ (List.mem_of_getElem? (i := 17) rfl)) e0 (g := (mkF m 1 #[.val (.int p0)] [(.int (1 : Int32))])) rfl (hb hby d3_1) rfl (by decide) (cap := 1) (by decide) (by decide) (by decide) (by decide)
  obtain ⟨b1, g1⟩ : ∃ z, z = h0.size := ⟨_, rfl⟩
  rw [← g1] at A1 st1
  have g_b1 : n0 ≤ b1 := Nat.le_trans Z0 (Nat.le_of_eq g1.symm)
  have sz_b1 : h0.size ≤ b1 := Nat.le_trans (Keep.refl h0 []).1 (Nat.le_of_eq g1.symm)
  have K1 := (Keep.refl h0 []).ext E1
  have Z1 := Nat.le_trans Z0 E1.1
  have vV1 : Arv Z h1 b1 k1 .byte (1 : Int32) [(.int (0 : Int32))] (.int (0 : Int32)) := (Arv.new A1 (by decide)).pad (pad_rep [] (.int (0 : Int32)) 1)
  obtain ⟨cl2, Ar2, qq2, Sz2, Ng2, Hs2, Gs2⟩ := id vV1
  have hin2 : ¬ ((0 : Int32) < 0 ∨ cl2.slots.size ≤ ((0 : Int32)).toNatClampNeg) := inb_of Sz2 ⟨by decide, by decide⟩
  obtain ⟨T3, h3, X3, e3, W3, st3⟩ := stB X1 hx hZ e1 Ar2 (j := (0 : Int32)) hin2 (g := (mkF m 7 #[.val (.int p0)] [(.int (p0.toInt8.toInt32)), (.int (0 : Int32)), (.ref b1), (.ref b1)])) rfl rfl (hb hby d3_7)
  have vV3 : Arv Z h3 b1 _ .byte (1 : Int32) [(.int (nar .byte (p0.toInt8.toInt32)))] (.int (0 : Int32)) := Arv.set Ar2 qq2 Sz2 Ng2 Hs2 Gs2 (fits_nar_byte _) W3 0 rfl (Nat.le_of_ble_eq_true rfl)
  have N3 := Fr.snoc X3 N0 g_b1
  have Z3 := Nat.le_trans Z1 (Keep.of_wr W3).1
  have K3 := K1.wr W3 (Or.inr sz_b1)
  obtain ⟨fs, hr, hrun, hended, hW, hsame⟩ := X3.leave (v := some (.ref b1)) (fun h => by rw [Bd.returns] at h; cases h) (BodyLoose.notSynchronized Bd)
  refine ⟨_, _, pre0 _ ?_, hrun, hended, _, _, rfl, ?_, ⟨_, rfl⟩, hW, hsame.mono (by decide) (by decide)⟩
  · show Steps p.tables e below (s₁.setTop (mkF m 0 #[.val (.int p0)] [])) _
    refine XS.iconst X0.here hx rfl (hb hby d3_0) ?_
    show Steps p.tables e below (s₁.setTop (mkF m 1 #[.val (.int p0)] [(.int (1 : Int32))])) _
    refine st1 _ ?_
    show Steps p.tables e below (T1.setTop (mkF m 3 #[.val (.int p0)] [(.ref b1)])) _
    refine XS.dup X1.here hx rfl (hb hby d3_3) rfl rfl ?_
    show Steps p.tables e below (T1.setTop (mkF m 4 #[.val (.int p0)] [(.ref b1), (.ref b1)])) _
    refine XS.iconst X1.here hx rfl (hb hby d3_4) ?_
    show Steps p.tables e below (T1.setTop (mkF m 5 #[.val (.int p0)] [(.int (0 : Int32)), (.ref b1), (.ref b1)])) _
    refine XS.iloadN X1.here hx rfl (hb hby d3_5) rfl ?_
    show Steps p.tables e below (T1.setTop (mkF m 6 #[.val (.int p0)] [(.int p0), (.int (0 : Int32)), (.ref b1), (.ref b1)])) _
    refine XS.i2b X1.here hx rfl (hb hby d3_6) rfl ?_
    show Steps p.tables e below (T1.setTop (mkF m 7 #[.val (.int p0)] [(.int (p0.toInt8.toInt32)), (.int (0 : Int32)), (.ref b1), (.ref b1)])) _
    refine st3 _ ?_
    show Steps p.tables e below (T3.setTop (mkF m 8 #[.val (.int p0)] [(.ref b1)])) _
    exact retOut X3 hx Bd.returns rfl (Or.inr (Or.inr (Or.inr (Or.inr ⟨rfl, rfl, rfl⟩)))) (hb hby d3_8) hr
  · show Q3 Z p0 h0 n0 _ T3.heap _
    rw [e3]
    exact ⟨b1, rfl, N3, K3, sz_b1, vV3.lt⟩
theorem pd_1 : parseMethodDescriptor "(C)[B" = some ⟨[.char], some (.array .byte)⟩ := by decide +kernel
theorem d4_0 : decode jdk_42_method_151_code 0 = .ok (.aload_n 0, 1) := by decide +kernel
theorem d4_1 : decode jdk_42_method_151_code 1 = .ok (.invokespecial 1, 3) := by decide +kernel
theorem d4_4 : decode jdk_42_method_151_code 4 = .ok (.aload_n 0, 1) := by decide +kernel
theorem d4_5 : decode jdk_42_method_151_code 5 = .ok (.aload_n 1, 1) := by decide +kernel
theorem d4_6 : decode jdk_42_method_151_code 6 = .ok (.putfield 9, 3) := by decide +kernel
theorem d4_9 : decode jdk_42_method_151_code 9 = .ok (.aload_n 0, 1) := by decide +kernel
theorem d4_10 : decode jdk_42_method_151_code 10 = .ok (.iload_n 2, 1) := by decide +kernel
theorem d4_11 : decode jdk_42_method_151_code 11 = .ok (.putfield 15, 3) := by decide +kernel
theorem d4_14 : decode jdk_42_method_151_code 14 = .ok (.return_, 1) := by decide +kernel
theorem pn_4 : plainName "java/lang/String" = true := by first | (simp [plainName, overriddenIn]; done) | decide +kernel
theorem ef_4 (m : MethodId) (ob0 : Addr) (ob1 : Addr) (p2 : Int32) : entryFrame m #[(.ref ob0), (.ref ob1), (.int p2)] 3 = mkF m 0 #[.val (.ref ob0), .val (.ref ob1), .val (.int p2)] [] := by first | (simp [entryFrame, mkF, argsToLocals, Value.category]; done) | rfl
def Q4 (Z : State) (ob0 : Addr) (ob1 : Addr) (p2 : Int32) (u_value : Value) (u_coder : Value) (h0 : Heap) (n0 : Nat) (v : Option Value) (h : Heap) (L : List Loc) : Prop := v = none ∧ Fr n0 L ∧ Keep h0 h [ob0] ∧ Exa Z h ob0 "java/lang/String" ∧ Fld Z h ob0 "java/lang/String" "value" "[B" (.ref ob1) ∧ Fld Z h ob0 "java/lang/String" "coder" "B" (.int (nar .byte p2))
set_option maxRecDepth 65536 in
set_option maxHeartbeats 40000000 in
theorem rm4 (l : Launch) (Z : State) (a0 : Array Value) (hw : ∀ d ∈ tables_1, d.before a0 Z = true) (ws : List Jvm.Cond) (ob0 : Addr) (ob1 : Addr) (p2 : Int32) (u_value : Value) (u_coder : Value) (h0 : Heap) (n0 : Nat) (Z0 : n0 ≤ h0.size) (F_value_ob0 : Fld Z h0 ob0 "java/lang/String" "value" "[B" u_value) (F_coder_ob0 : Fld Z h0 ob0 "java/lang/String" "coder" "B" u_coder) (E_ob0 : Exa Z h0 ob0 "java/lang/String") (g_ob0 : n0 ≤ ob0) :
    MetFree l (⟨"java/lang/String", "<init>", "([BB)V"⟩ : MethodName) (head1 (Jvm.Cond.code (⟨"java/lang/String", "<init>", "([BB)V"⟩ : MethodName) jdk_42_method_151_code 3 none :: ws) ({ frames := 1, cells := 0, slots := 0, locals := 12 } : Room)) (fun a U => a = #[(.ref ob0), (.ref ob1), (.int p2)] ∧ Z.Warmed39 U.vm ∧ U.heap = h0) (fun _ _ _ _ _ => True) (fun _ U o U' => ∃ v L, o = .returned v ∧ Q4 Z ob0 ob1 p2 u_value u_coder h0 n0 v U'.heap L ∧ FrameEnd U o U' L ({ frames := 1, cells := 0, slots := 0, locals := 12 } : Room).cells ({ frames := 1, cells := 0, slots := 0, locals := 12 } : Room).slots) := by
  refine MetFree.of_bodySF (plainFor_of_name pn_4) hisR ?_
  intro p e s m args below meth c s₁ Bd hml0 hP hK
  obtain ⟨rfl, hZ, hh⟩ := hP
  have hx := Bd.exec
  have hby := Bd.bytes
  have hml : c.maxLocals = 3 := hml0
  have hown : s.vm.findClass "java/lang/String" = some m.cls := findClass_of_methodNamed Bd.named
  have hnm := (name_of_methodNamed Bd.named Bd.method).1
  have X0 : Stand p l e ({ frames := 1, cells := 0, slots := 0, locals := 12 } : Room) s m #[(.ref ob0), (.ref ob1), (.int p2)] below meth c s₁ [] 0 0 := Stand.of_body Bd
  have e0 : s₁.heap = h0 := by rw [← hh, Bd.state]; rfl
  have N0 := Fr.nil n0
  have pre0 : ∀ t, Steps p.tables e below (s₁.setTop (mkF m 0 #[.val (.ref ob0), .val (.ref ob1), .val (.int p2)] [])) t → Steps p.tables e below (s₁.setTop (entryFrame m #[(.ref ob0), (.ref ob1), (.int p2)] 3)) t := fun t k => castTop (ef_4 m ob0 ob1 p2) k
  obtain ⟨T1, X1, e1, st1⟩ := initO X0 hx hZ hown (hw _ (List.mem_of_getElem? (i := 22) rfl)) (hw _ (List.mem_of_getElem? (i := 23) rfl)) (hw _ (List.mem_of_getElem? (i := 24) rfl)) e0 (g := (mkF m 1 #[.val (.ref ob0), .val (.ref ob1), .val (.int p2)] [(.ref ob0)])) rfl (by rw [hml]; rfl) rfl (hb hby d4_1) (by decide) (W := 0) (by show 2 * 0 + _ ≤ _; exact Nat.le_of_eq rfl) (by decide)
  obtain ⟨T2, h2, X2, e2, W2, st2⟩ := putF X1 hx hZ hown (host := "") (Or.inl (hw _ (List.mem_of_getElem? (i := 25) rfl))) Via.refl e1 F_value_ob0 E_ob0 (Or.inr ⟨(hw _ (List.mem_of_getElem? (i := 26) rfl)), rfl, hnm⟩) (hw _ (List.mem_of_getElem? (i := 13) rfl)) (ty := (.array .byte)) (by decide) rfl rfl (g := (mkF m 6 #[.val (.ref ob0), .val (.ref ob1), .val (.int p2)] [(.ref ob1), (.ref ob0)])) rfl rfl (hb hby d4_6)
  have fF3 := F_value_ob0.same W2
  have fF4 := F_coder_ob0.other W2 (Or.inr (slot_ne (Or.inr (hw _ (List.mem_of_getElem? (i := 28) rfl))) (Or.inr (hw _ (List.mem_of_getElem? (i := 26) rfl))) (by decide) (t := .byte) (t' := (.array .byte)) (by decide) (by decide)))
  have eE5 := E_ob0.wr W2
  have N2 := Fr.snoc X2 N0 g_ob0
  have Z2 := Nat.le_trans Z0 (Keep.of_wr W2).1
  have K2 := (Keep.refl h0 [ob0]).wr W2 (Or.inl (List.mem_of_getElem? (i := 0) rfl))
  obtain ⟨T6, h6, X6, e6, W6, st6⟩ := putFN X2 hx hZ hown (hw _ (List.mem_of_getElem? (i := 27) rfl)) Via.refl e2 fF4 eE5 (Or.inr ⟨(hw _ (List.mem_of_getElem? (i := 28) rfl)), rfl, hnm⟩) (hw _ (List.mem_of_getElem? (i := 13) rfl)) (ty := .byte) (v' := (.int (nar .byte p2))) (by decide) rfl (fits_nar_byte _) (g := (mkF m 11 #[.val (.ref ob0), .val (.ref ob1), .val (.int p2)] [(.int p2), (.ref ob0)])) rfl rfl (hb hby d4_11)
  have fF7 := fF3.other W6 (Or.inr (slot_ne (Or.inr (hw _ (List.mem_of_getElem? (i := 26) rfl))) (Or.inr (hw _ (List.mem_of_getElem? (i := 28) rfl))) (by decide) (t := (.array .byte)) (t' := .byte) (by decide) (by decide)))
  have fF8 := fF4.same W6
  have eE9 := eE5.wr W6
  have N6 := Fr.snoc X6 N2 g_ob0
  have Z6 := Nat.le_trans Z2 (Keep.of_wr W6).1
  have K6 := K2.wr W6 (Or.inl (List.mem_of_getElem? (i := 0) rfl))
  obtain ⟨fs, hr, hrun, hended, hW, hsame⟩ := X6.leave (v := none) (fun _ => rfl) (BodyLoose.notSynchronized Bd)
  refine ⟨_, _, pre0 _ ?_, hrun, hended, _, _, rfl, ?_, ⟨_, rfl⟩, hW, hsame.mono (by decide) (by decide)⟩
  · show Steps p.tables e below (s₁.setTop (mkF m 0 #[.val (.ref ob0), .val (.ref ob1), .val (.int p2)] [])) _
    refine XS.aloadN X0.here hx rfl (hb hby d4_0) rfl rfl ?_
    show Steps p.tables e below (s₁.setTop (mkF m 1 #[.val (.ref ob0), .val (.ref ob1), .val (.int p2)] [(.ref ob0)])) _
    refine st1 _ ?_
    show Steps p.tables e below (T1.setTop (mkF m 4 #[.val (.ref ob0), .val (.ref ob1), .val (.int p2)] [])) _
    refine XS.aloadN X1.here hx rfl (hb hby d4_4) rfl rfl ?_
    show Steps p.tables e below (T1.setTop (mkF m 5 #[.val (.ref ob0), .val (.ref ob1), .val (.int p2)] [(.ref ob0)])) _
    refine XS.aloadN X1.here hx rfl (hb hby d4_5) rfl rfl ?_
    show Steps p.tables e below (T1.setTop (mkF m 6 #[.val (.ref ob0), .val (.ref ob1), .val (.int p2)] [(.ref ob1), (.ref ob0)])) _
    refine st2 _ ?_
    show Steps p.tables e below (T2.setTop (mkF m 9 #[.val (.ref ob0), .val (.ref ob1), .val (.int p2)] [])) _
    refine XS.aloadN X2.here hx rfl (hb hby d4_9) rfl rfl ?_
    show Steps p.tables e below (T2.setTop (mkF m 10 #[.val (.ref ob0), .val (.ref ob1), .val (.int p2)] [(.ref ob0)])) _
    refine XS.iloadN X2.here hx rfl (hb hby d4_10) rfl ?_
    show Steps p.tables e below (T2.setTop (mkF m 11 #[.val (.ref ob0), .val (.ref ob1), .val (.int p2)] [(.int p2), (.ref ob0)])) _
    refine st6 _ ?_
    show Steps p.tables e below (T6.setTop (mkF m 14 #[.val (.ref ob0), .val (.ref ob1), .val (.int p2)] [])) _
    exact X6.returnOut hx Bd.returns (hb hby d4_14) hr
  · show Q4 Z ob0 ob1 p2 u_value u_coder h0 n0 _ T6.heap _
    rw [e6]
    exact ⟨rfl, N6, K6, eE9, fF7, fF8⟩
theorem pd_2 : parseMethodDescriptor "([BB)V" = some ⟨[(.array .byte), .byte], none⟩ := by decide +kernel
theorem d1_0 : decode jdk_42_method_139_code 0 = .ok (.getstatic 38, 3) := by decide +kernel
theorem d1_3 : decode jdk_42_method_139_code 3 = .ok (.ifCond .eq 23, 3) := by decide +kernel
theorem d1_6 : decode jdk_42_method_139_code 6 = .ok (.iload_n 0, 1) := by decide +kernel
theorem d1_7 : decode jdk_42_method_139_code 7 = .ok (.invokestatic 1015, 3) := by decide +kernel
theorem d1_10 : decode jdk_42_method_139_code 10 = .ok (.ifCond .eq 16, 3) := by decide +kernel
theorem d1_13 : decode jdk_42_method_139_code 13 = .ok (.new 10, 3) := by decide +kernel
theorem d1_16 : decode jdk_42_method_139_code 16 = .ok (.dup, 1) := by decide +kernel
theorem d1_17 : decode jdk_42_method_139_code 17 = .ok (.iload_n 0, 1) := by decide +kernel
theorem d1_18 : decode jdk_42_method_139_code 18 = .ok (.invokestatic 1018, 3) := by decide +kernel
theorem d1_21 : decode jdk_42_method_139_code 21 = .ok (.iconst 0, 1) := by decide +kernel
theorem d1_22 : decode jdk_42_method_139_code 22 = .ok (.invokespecial 209, 3) := by decide +kernel
theorem d1_25 : decode jdk_42_method_139_code 25 = .ok (.areturn, 1) := by decide +kernel
theorem pn_1 : plainName "java/lang/String" = true := by first | (simp [plainName, overriddenIn]; done) | decide +kernel
theorem ef_1 (m : MethodId) (p0 : Int32) : entryFrame m #[(.int p0)] 1 = mkF m 0 #[.val (.int p0)] [] := by first | (simp [entryFrame, mkF, argsToLocals, Value.category]; done) | rfl
def Q1 (Z : State) (p0 : Int32) (w_COMPACT_STRINGS : Int32) (h0 : Heap) (n0 : Nat) (v : Option Value) (h : Heap) (L : List Loc) : Prop := ∃ b : Addr, v = some (.ref b) ∧ Fr n0 L ∧ Keep h0 h [] ∧ h0.size ≤ b ∧ b < h.size
set_option maxRecDepth 65536 in
set_option maxHeartbeats 40000000 in
theorem rm1 (l : Launch) (Z : State) (a0 : Array Value) (hw : ∀ d ∈ tables_1, d.before a0 Z = true) (ws : List Jvm.Cond) (p0 : Int32) (w_COMPACT_STRINGS : Int32) (h0 : Heap) (n0 : Nat) (Z0 : n0 ≤ h0.size) (S_COMPACT_STRINGS : Sta Z h0 "java/lang/String" "COMPACT_STRINGS" "Z" (.int w_COMPACT_STRINGS)) (hc3 : ¬ (w_COMPACT_STRINGS = (0 : Int32))) (hc10 : ¬ ((F2 p0) = (0 : Int32))) :
    MetFree l (⟨"java/lang/String", "valueOf", "(C)Ljava/lang/String;"⟩ : MethodName) (head1 (Jvm.Cond.code (⟨"java/lang/String", "valueOf", "(C)Ljava/lang/String;"⟩ : MethodName) jdk_42_method_139_code 1 (some (.object "java/lang/String")) :: ws) ({ frames := 2, cells := 2, slots := 5, locals := 27 } : Room)) (fun a U => a = #[(.int p0)] ∧ Z.Warmed39 U.vm ∧ U.heap = h0) (fun _ _ _ _ _ => True) (fun _ U o U' => ∃ v L, o = .returned v ∧ Q1 Z p0 w_COMPACT_STRINGS h0 n0 v U'.heap L ∧ FrameEnd U o U' L ({ frames := 2, cells := 2, slots := 5, locals := 27 } : Room).cells ({ frames := 2, cells := 2, slots := 5, locals := 27 } : Room).slots) := by
  refine MetFree.of_bodySF (plainFor_of_name pn_1) hisR ?_
  intro p e s m args below meth c s₁ Bd hml0 hP hK
  obtain ⟨rfl, hZ, hh⟩ := hP
  have hx := Bd.exec
  have hby := Bd.bytes
  have hml : c.maxLocals = 1 := hml0
  have hown : s.vm.findClass "java/lang/String" = some m.cls := findClass_of_methodNamed Bd.named
  have hnm := (name_of_methodNamed Bd.named Bd.method).1
  have X0 : Stand p l e ({ frames := 2, cells := 2, slots := 5, locals := 27 } : Room) s m #[(.int p0)] below meth c s₁ [] 0 0 := Stand.of_body Bd
  have e0 : s₁.heap = h0 := by rw [← hh, Bd.state]; rfl
  have N0 := Fr.nil n0
  have pre0 : ∀ t, Steps p.tables e below (s₁.setTop (mkF m 0 #[.val (.int p0)] [])) t → Steps p.tables e below (s₁.setTop (entryFrame m #[(.int p0)] 1)) t := fun t k => castTop (ef_1 m p0) k
  obtain ⟨T1, X1, e1, st1⟩ := getS2 X0 hx hZ hown (host := "") (Or.inl (hw _ (List.mem_of_getElem? (i := 7) rfl))) Via.refl e0 S_COMPACT_STRINGS (g := (mkF m 0 #[.val (.int p0)] [])) rfl (hb hby d1_0)
  obtain ⟨_, _, ⟨T2, L2, k2, n2⟩, -, X2, ⟨Lc2, hQ2, l2, y2, z2⟩, st2⟩ := Jvm.LawKit.callS X1 hx (y := (⟨"java/lang/StringLatin1", "canEncode", "(C)Z"⟩ : MethodName)) hown (mvT hZ (hw _ (List.mem_of_getElem? (i := 8) rfl))) (mvT hZ (hw _ (List.mem_of_getElem? (i := 9) rfl))) (mvT hZ (hw _ (List.mem_of_getElem? (i := 10) rfl))) (mvT hZ (hw _ (List.mem_of_getElem? (i := 11) rfl))) (by decide) (backOf (W := 0) (rm2 l Z a0 hw [] p0 h0 n0 Z0) hZ (hw _ (List.mem_of_getElem? (i := 11) rfl)) (hw _ (List.mem_of_getElem? (i := 10) rfl)) (by decide) (by decide)) (g := (mkF m 7 #[.val (.int p0)] [(.int p0)])) rfl (by rw [hml]; rfl) (argsL := [(.int p0)]) (rest := []) (lenOf pd_0 rfl) rfl (by show 2 * 0 + _ ≤ _; exact Nat.le_of_eq rfl) (hb hby d1_7) (fun _ _ => ⟨rfl, e1, (by decide : 0 + 0 ≤ _), (by decide : 0 + 0 ≤ _)⟩)
  dsimp only [Pt.U, Pt.locs, Pt.cells, Pt.slots] at X2 l2 y2 z2 st2 hQ2
  subst l2 y2 z2
  obtain ⟨rfl, N2q, e2⟩ := hQ2
  have N2 := Fr.app N0 N2q
  obtain ⟨T3, h3, X3, e3, E3, A3, D3, -, st3⟩ := newO X2 hx hZ hown (hw _ (List.mem_of_getElem? (i := 12) rfl)) (hw _ (List.mem_of_getElem? (i := 13) rfl)) (hw _ (List.mem_of_getElem? (i := 5) rfl)) e2 (g := (mkF m 13 #[.val (.int p0)] [])) rfl (hb hby d1_13) (by decide) (by decide)
  obtain ⟨b3, g3⟩ : ∃ z, z = h0.size := ⟨_, rfl⟩
  rw [← g3] at A3 D3 st3
  have sS4 := S_COMPACT_STRINGS.ext E3
  have g_b3 : n0 ≤ b3 := Nat.le_trans Z0 (Nat.le_of_eq g3.symm)
  have sz_b3 : h0.size ≤ b3 := Nat.le_trans (Keep.refl h0 []).1 (Nat.le_of_eq g3.symm)
  have K3 := (Keep.refl h0 []).ext E3
  have Z3 := Nat.le_trans Z0 E3.1
  have fF5 : Fld Z h3 b3 "java/lang/String" "value" "[B" .null := D3 (Or.inr (hw _ (List.mem_of_getElem? (i := 26) rfl))) (ty := (.array .byte)) (by decide)
  have fF6 : Fld Z h3 b3 "java/lang/String" "coder" "B" (.int (0 : Int32)) := D3 (Or.inr (hw _ (List.mem_of_getElem? (i := 28) rfl))) (ty := .byte) (by decide)
  obtain ⟨_, _, ⟨T7, L7, k7, n7⟩, -, X7, ⟨Lc7, hQ7, l7, y7, z7⟩, st7⟩ := Jvm.LawKit.callS X3 hx (y := (⟨"java/lang/StringLatin1", "toBytes", "(C)[B"⟩ : MethodName)) hown (mvT hZ (hw _ (List.mem_of_getElem? (i := 14) rfl))) (mvT hZ (hw _ (List.mem_of_getElem? (i := 15) rfl))) (mvT hZ (hw _ (List.mem_of_getElem? (i := 10) rfl))) (mvT hZ (hw _ (List.mem_of_getElem? (i := 16) rfl))) (by decide) (backOf (W := 2) (rm3 l Z a0 hw [] p0 h3 n0 Z3) hZ (hw _ (List.mem_of_getElem? (i := 16) rfl)) (hw _ (List.mem_of_getElem? (i := 10) rfl)) (by decide) (by decide)) (g := (mkF m 18 #[.val (.int p0)] [(.int p0), (.ref b3), (.ref b3)])) rfl (by rw [hml]; rfl) (argsL := [(.int p0)]) (rest := [(.ref b3), (.ref b3)]) (lenOf pd_1 rfl) rfl (by show 2 * 0 + _ ≤ _; exact Nat.le_of_eq rfl) (hb hby d1_18) (fun _ _ => ⟨rfl, e3, (by decide : 1 + 1 ≤ _), (by decide : 4 + 1 ≤ _)⟩)
  dsimp only [Pt.U, Pt.locs, Pt.cells, Pt.slots] at X7 l7 y7 z7 st7 hQ7
  subst l7 y7 z7
  obtain ⟨b7, rfl, N7q, K7, sz7, lt7⟩ := hQ7
  have E7 : Ext h3 T7.heap := ⟨K7.1, fun a c q => K7.2.1 a c q nin0⟩
  have ne_b3_b7 : b3 ≠ b7 := Nat.ne_of_lt (Nat.lt_of_lt_of_le A3.lt sz7)
  have sS8 := sS4.ext E7
  have eE9 := A3.ext E7
  have fF10 := fF5.ext E7
  have fF11 := fF6.ext E7
  have g_b7 : n0 ≤ b7 := Nat.le_trans Z3 sz7
  have sz_b7 : h0.size ≤ b7 := Nat.le_trans K3.1 sz7
  have KK7 := K3.ext E7
  have Z7 := Nat.le_trans Z3 E7.1
  have N7 := Fr.app N2 N7q
  obtain ⟨_, _, ⟨T12, L12, k12, n12⟩, -, X12, ⟨Lc12, hQ12, l12, y12, z12⟩, st12⟩ := X7.specialBack hx (y := (⟨"java/lang/String", "<init>", "([BB)V"⟩ : MethodName)) rfl hown (mvT hZ (hw _ (List.mem_of_getElem? (i := 18) rfl))) (mvT hZ (hw _ (List.mem_of_getElem? (i := 19) rfl))) (mvT hZ (hw _ (List.mem_of_getElem? (i := 21) rfl))) (by decide) (backOf (W := 1) (rm4 l Z a0 hw [] b3 b7 (0 : Int32) .null (.int (0 : Int32)) T7.heap n0 Z7 fF10 fF11 eE9 g_b3) hZ (hw _ (List.mem_of_getElem? (i := 21) rfl)) (hw _ (List.mem_of_getElem? (i := 5) rfl)) (by decide) (by decide)) (g := (mkF m 22 #[.val (.int p0)] [(.int (0 : Int32)), (.ref b7), (.ref b3), (.ref b3)])) rfl (by rw [hml]; rfl) (Steps.refl _) (a := b3) (argsL := [(.ref b7), (.int (0 : Int32))]) (rest := [(.ref b3)]) (lenOf pd_2 rfl) rfl (by show 2 * 0 + _ ≤ _; exact Nat.le_of_eq rfl) (hb hby d1_22) (fun _ _ => ⟨rfl, rfl, (by decide : 2 + 0 ≤ _), (by decide : 5 + 0 ≤ _)⟩)
  dsimp only [Pt.U, Pt.locs, Pt.cells, Pt.slots] at X12 l12 y12 z12 st12 hQ12
  subst l12 y12 z12
  obtain ⟨rfl, N12q, K12, G13, G14, G15⟩ := hQ12
  have sS16 := own_sta sS8 K12 eE9
  have Z12 := Nat.le_trans Z7 K12.1
  have KK12 := KK7.trans K12 (allS (Or.inr sz_b3) all0)
  have N12 := Fr.app N7 N12q
  obtain ⟨fs, hr, hrun, hended, hW, hsame⟩ := X12.leave (v := some (.ref b3)) (fun h => by rw [Bd.returns] at h; cases h) (BodyLoose.notSynchronized Bd)
  refine ⟨_, _, pre0 _ ?_, hrun, hended, _, _, rfl, ?_, ⟨_, rfl⟩, hW, hsame.mono (by decide) (by decide)⟩
  · show Steps p.tables e below (s₁.setTop (mkF m 0 #[.val (.int p0)] [])) _
    refine st1 _ ?_
    show Steps p.tables e below (T1.setTop (mkF m 3 #[.val (.int p0)] [(.int w_COMPACT_STRINGS)])) _
    refine XS.ifNo X1.here hx rfl (hb hby d1_3) rfl ((if0 _ _).trans (feq hc3).1) ?_
    show Steps p.tables e below (T1.setTop (mkF m 6 #[.val (.int p0)] [])) _
    refine XS.iloadN X1.here hx rfl (hb hby d1_6) rfl ?_
    show Steps p.tables e below (T1.setTop (mkF m 7 #[.val (.int p0)] [(.int p0)])) _
    refine st2 _ ?_
    show Steps p.tables e below (T2.setTop (mkF m 10 #[.val (.int p0)] [(.int (F2 p0))])) _
    refine XS.ifNo X2.here hx rfl (hb hby d1_10) rfl ((if0 _ _).trans (feq hc10).1) ?_
    show Steps p.tables e below (T2.setTop (mkF m 13 #[.val (.int p0)] [])) _
    refine st3 _ ?_
    show Steps p.tables e below (T3.setTop (mkF m 16 #[.val (.int p0)] [(.ref b3)])) _
    refine XS.dup X3.here hx rfl (hb hby d1_16) rfl rfl ?_
    show Steps p.tables e below (T3.setTop (mkF m 17 #[.val (.int p0)] [(.ref b3), (.ref b3)])) _
    refine XS.iloadN X3.here hx rfl (hb hby d1_17) rfl ?_
    show Steps p.tables e below (T3.setTop (mkF m 18 #[.val (.int p0)] [(.int p0), (.ref b3), (.ref b3)])) _
    refine st7 _ ?_
    show Steps p.tables e below (T7.setTop (mkF m 21 #[.val (.int p0)] [(.ref b7), (.ref b3), (.ref b3)])) _
    refine XS.iconst X7.here hx rfl (hb hby d1_21) ?_
    show Steps p.tables e below (T7.setTop (mkF m 22 #[.val (.int p0)] [(.int (0 : Int32)), (.ref b7), (.ref b3), (.ref b3)])) _
    refine st12.trans ?_
    show Steps p.tables e below (T12.setTop (mkF m 25 #[.val (.int p0)] [(.ref b3)])) _
    exact retOut X12 hx Bd.returns rfl (Or.inr (Or.inr (Or.inr (Or.inr ⟨rfl, rfl, rfl⟩)))) (hb hby d1_25) hr
  · show Q1 Z p0 w_COMPACT_STRINGS h0 n0 _ T12.heap _
    exact ⟨b3, rfl, N12, KK12, sz_b3, G13.lt⟩
theorem pd_3 : parseMethodDescriptor "(C)Ljava/lang/String;" = some ⟨[.char], some (.object "java/lang/String")⟩ := by decide +kernel
theorem d7_0 : decode jdk_30_method_1_code 0 = .ok (.aload_n 0, 1) := by decide +kernel
theorem d7_1 : decode jdk_30_method_1_code 1 = .ok (.invokespecial 1, 3) := by decide +kernel
theorem d7_4 : decode jdk_30_method_1_code 4 = .ok (.return_, 1) := by decide +kernel
theorem pn_7 : plainName "java/lang/Record" = true := by first | (simp [plainName, overriddenIn]; done) | decide +kernel
theorem ef_7 (m : MethodId) (ob0 : Addr) : entryFrame m #[(.ref ob0)] 1 = mkF m 0 #[.val (.ref ob0)] [] := by first | (simp [entryFrame, mkF, argsToLocals, Value.category]; done) | rfl
def Q7 (Z : State) (ob0 : Addr) (h0 : Heap) (n0 : Nat) (v : Option Value) (h : Heap) (L : List Loc) : Prop := v = none ∧ Fr n0 L ∧ h = h0
set_option maxRecDepth 65536 in
set_option maxHeartbeats 40000000 in
theorem rm7 (l : Launch) (Z : State) (a0 : Array Value) (hw : ∀ d ∈ tables_1, d.before a0 Z = true) (ws : List Jvm.Cond) (ob0 : Addr) (h0 : Heap) (n0 : Nat) (Z0 : n0 ≤ h0.size) :
    MetFree l (⟨"java/lang/Record", "<init>", "()V"⟩ : MethodName) (head1 (Jvm.Cond.code (⟨"java/lang/Record", "<init>", "()V"⟩ : MethodName) jdk_30_method_1_code 1 none :: ws) ({ frames := 1, cells := 0, slots := 0, locals := 12 } : Room)) (fun a U => a = #[(.ref ob0)] ∧ Z.Warmed39 U.vm ∧ U.heap = h0) (fun _ _ _ _ _ => True) (fun _ U o U' => ∃ v L, o = .returned v ∧ Q7 Z ob0 h0 n0 v U'.heap L ∧ FrameEnd U o U' L ({ frames := 1, cells := 0, slots := 0, locals := 12 } : Room).cells ({ frames := 1, cells := 0, slots := 0, locals := 12 } : Room).slots) := by
  refine MetFree.of_bodySF (plainFor_of_name pn_7) hisR ?_
  intro p e s m args below meth c s₁ Bd hml0 hP hK
  obtain ⟨rfl, hZ, hh⟩ := hP
  have hx := Bd.exec
  have hby := Bd.bytes
  have hml : c.maxLocals = 1 := hml0
  have hown : s.vm.findClass "java/lang/Record" = some m.cls := findClass_of_methodNamed Bd.named
  have hnm := (name_of_methodNamed Bd.named Bd.method).1
  have X0 : Stand p l e ({ frames := 1, cells := 0, slots := 0, locals := 12 } : Room) s m #[(.ref ob0)] below meth c s₁ [] 0 0 := Stand.of_body Bd
  have e0 : s₁.heap = h0 := by rw [← hh, Bd.state]; rfl
  have N0 := Fr.nil n0
  have pre0 : ∀ t, Steps p.tables e below (s₁.setTop (mkF m 0 #[.val (.ref ob0)] [])) t → Steps p.tables e below (s₁.setTop (entryFrame m #[(.ref ob0)] 1)) t := fun t k => castTop (ef_7 m ob0) k
  obtain ⟨T1, X1, e1, st1⟩ := initO X0 hx hZ hown (hw _ (List.mem_of_getElem? (i := 37) rfl)) (hw _ (List.mem_of_getElem? (i := 23) rfl)) (hw _ (List.mem_of_getElem? (i := 24) rfl)) e0 (g := (mkF m 1 #[.val (.ref ob0)] [(.ref ob0)])) rfl (by rw [hml]; rfl) rfl (hb hby d7_1) (by decide) (W := 0) (by show 2 * 0 + _ ≤ _; exact Nat.le_of_eq rfl) (by decide)
  obtain ⟨fs, hr, hrun, hended, hW, hsame⟩ := X1.leave (v := none) (fun _ => rfl) (BodyLoose.notSynchronized Bd)
  refine ⟨_, _, pre0 _ ?_, hrun, hended, _, _, rfl, ?_, ⟨_, rfl⟩, hW, hsame.mono (by decide) (by decide)⟩
  · show Steps p.tables e below (s₁.setTop (mkF m 0 #[.val (.ref ob0)] [])) _
    refine XS.aloadN X0.here hx rfl (hb hby d7_0) rfl rfl ?_
    show Steps p.tables e below (s₁.setTop (mkF m 1 #[.val (.ref ob0)] [(.ref ob0)])) _
    refine st1 _ ?_
    show Steps p.tables e below (T1.setTop (mkF m 4 #[.val (.ref ob0)] [])) _
    exact X1.returnOut hx Bd.returns (hb hby d7_4) hr
  · show Q7 Z ob0 h0 n0 _ T1.heap _
    rw [e1]
    exact ⟨rfl, N0, rfl⟩
theorem pd_4 : parseMethodDescriptor "()V" = some ⟨[], none⟩ := by decide +kernel
theorem d6_0 : decode prog_66_method_1_code 0 = .ok (.aload_n 0, 1) := by decide +kernel
theorem d6_1 : decode prog_66_method_1_code 1 = .ok (.invokespecial 1, 3) := by decide +kernel
theorem d6_4 : decode prog_66_method_1_code 4 = .ok (.aload_n 0, 1) := by decide +kernel
theorem d6_5 : decode prog_66_method_1_code 5 = .ok (.iload_n 1, 1) := by decide +kernel
theorem d6_6 : decode prog_66_method_1_code 6 = .ok (.putfield 7, 3) := by decide +kernel
theorem d6_9 : decode prog_66_method_1_code 9 = .ok (.aload_n 0, 1) := by decide +kernel
theorem d6_10 : decode prog_66_method_1_code 10 = .ok (.iload_n 2, 1) := by decide +kernel
theorem d6_11 : decode prog_66_method_1_code 11 = .ok (.putfield 13, 3) := by decide +kernel
theorem d6_14 : decode prog_66_method_1_code 14 = .ok (.aload_n 0, 1) := by decide +kernel
theorem d6_15 : decode prog_66_method_1_code 15 = .ok (.aload_n 3, 1) := by decide +kernel
theorem d6_16 : decode prog_66_method_1_code 16 = .ok (.putfield 16, 3) := by decide +kernel
theorem d6_19 : decode prog_66_method_1_code 19 = .ok (.return_, 1) := by decide +kernel
theorem pn_6 : plainName "com/example/hawser/hawser/text/Range" = true := by first | (simp [plainName, overriddenIn]; done) | decide +kernel
theorem ef_6 (m : MethodId) (ob0 : Addr) (p1 : Int32) (p2 : Int32) (ob3 : Addr) : entryFrame m #[(.ref ob0), (.int p1), (.int p2), (.ref ob3)] 4 = mkF m 0 #[.val (.ref ob0), .val (.int p1), .val (.int p2), .val (.ref ob3)] [] := by first | (simp [entryFrame, mkF, argsToLocals, Value.category]; done) | rfl
def Q6 (Z : State) (ob0 : Addr) (p1 : Int32) (p2 : Int32) (ob3 : Addr) (u_min : Value) (u_max : Value) (u_unit : Value) (h0 : Heap) (n0 : Nat) (v : Option Value) (h : Heap) (L : List Loc) : Prop := v = none ∧ Fr n0 L ∧ Keep h0 h [ob0] ∧ Exa Z h ob0 "com/example/hawser/hawser/text/Range" ∧ Fld Z h ob0 "com/example/hawser/hawser/text/Range" "min" "I" (.int p1) ∧ Fld Z h ob0 "com/example/hawser/hawser/text/Range" "max" "I" (.int p2) ∧ Fld Z h ob0 "com/example/hawser/hawser/text/Range" "unit" "Ljava/lang/String;" (.ref ob3)
set_option maxRecDepth 65536 in
set_option maxHeartbeats 40000000 in
theorem rm6 (l : Launch) (Z : State) (a0 : Array Value) (hw : ∀ d ∈ tables_1, d.before a0 Z = true) (ws : List Jvm.Cond) (ob0 : Addr) (p1 : Int32) (p2 : Int32) (ob3 : Addr) (u_min : Value) (u_max : Value) (u_unit : Value) (h0 : Heap) (n0 : Nat) (Z0 : n0 ≤ h0.size) (F_min_ob0 : Fld Z h0 ob0 "com/example/hawser/hawser/text/Range" "min" "I" u_min) (F_max_ob0 : Fld Z h0 ob0 "com/example/hawser/hawser/text/Range" "max" "I" u_max) (F_unit_ob0 : Fld Z h0 ob0 "com/example/hawser/hawser/text/Range" "unit" "Ljava/lang/String;" u_unit) (E_ob0 : Exa Z h0 ob0 "com/example/hawser/hawser/text/Range") (g_ob0 : n0 ≤ ob0) :
    MetFree l (⟨"com/example/hawser/hawser/text/Range", "<init>", "(IILjava/lang/String;)V"⟩ : MethodName) (head1 (Jvm.Cond.code (⟨"com/example/hawser/hawser/text/Range", "<init>", "(IILjava/lang/String;)V"⟩ : MethodName) prog_66_method_1_code 4 none :: ws) ({ frames := 2, cells := 0, slots := 0, locals := 24 } : Room)) (fun a U => a = #[(.ref ob0), (.int p1), (.int p2), (.ref ob3)] ∧ Z.Warmed39 U.vm ∧ U.heap = h0) (fun _ _ _ _ _ => True) (fun _ U o U' => ∃ v L, o = .returned v ∧ Q6 Z ob0 p1 p2 ob3 u_min u_max u_unit h0 n0 v U'.heap L ∧ FrameEnd U o U' L ({ frames := 2, cells := 0, slots := 0, locals := 24 } : Room).cells ({ frames := 2, cells := 0, slots := 0, locals := 24 } : Room).slots) := by
  refine MetFree.of_bodySF (plainFor_of_name pn_6) hisR ?_
  intro p e s m args below meth c s₁ Bd hml0 hP hK
  obtain ⟨rfl, hZ, hh⟩ := hP
  have hx := Bd.exec
  have hby := Bd.bytes
  have hml : c.maxLocals = 4 := hml0
  have hown : s.vm.findClass "com/example/hawser/hawser/text/Range" = some m.cls := findClass_of_methodNamed Bd.named
  have hnm := (name_of_methodNamed Bd.named Bd.method).1
  have X0 : Stand p l e ({ frames := 2, cells := 0, slots := 0, locals := 24 } : Room) s m #[(.ref ob0), (.int p1), (.int p2), (.ref ob3)] below meth c s₁ [] 0 0 := Stand.of_body Bd
  have e0 : s₁.heap = h0 := by rw [← hh, Bd.state]; rfl
  have N0 := Fr.nil n0
  have pre0 : ∀ t, Steps p.tables e below (s₁.setTop (mkF m 0 #[.val (.ref ob0), .val (.int p1), .val (.int p2), .val (.ref ob3)] [])) t → Steps p.tables e below (s₁.setTop (entryFrame m #[(.ref ob0), (.int p1), (.int p2), (.ref ob3)] 4)) t := fun t k => castTop (ef_6 m ob0 p1 p2 ob3) k
  obtain ⟨_, _, ⟨T1, L1, k1, n1⟩, -, X1, ⟨Lc1, hQ1, l1, y1, z1⟩, st1⟩ := X0.specialBack hx (y := (⟨"java/lang/Record", "<init>", "()V"⟩ : MethodName)) rfl hown (mvT hZ (hw _ (List.mem_of_getElem? (i := 32) rfl))) (mvT hZ (hw _ (List.mem_of_getElem? (i := 33) rfl))) (mvT hZ (hw _ (List.mem_of_getElem? (i := 36) rfl))) (by decide) (backOf (W := 0) (rm7 l Z a0 hw [] ob0 h0 n0 Z0) hZ (hw _ (List.mem_of_getElem? (i := 36) rfl)) (hw _ (List.mem_of_getElem? (i := 35) rfl)) (by decide) (by decide)) (g := (mkF m 1 #[.val (.ref ob0), .val (.int p1), .val (.int p2), .val (.ref ob3)] [(.ref ob0)])) rfl (by rw [hml]; rfl) (Steps.refl _) (a := ob0) (argsL := []) (rest := []) (lenOf pd_4 rfl) rfl (by show 2 * 0 + _ ≤ _; exact Nat.le_of_eq rfl) (hb hby d6_1) (fun _ _ => ⟨rfl, e0, (by decide : 0 + 0 ≤ _), (by decide : 0 + 0 ≤ _)⟩)
  dsimp only [Pt.U, Pt.locs, Pt.cells, Pt.slots] at X1 l1 y1 z1 st1 hQ1
  subst l1 y1 z1
  obtain ⟨rfl, N1q, e1⟩ := hQ1
  have N1 := Fr.app N0 N1q
  obtain ⟨T2, h2, X2, e2, W2, st2⟩ := putF X1 hx hZ hown (host := "") (Or.inl (hw _ (List.mem_of_getElem? (i := 38) rfl))) Via.refl e1 F_min_ob0 E_ob0 (Or.inr ⟨(hw _ (List.mem_of_getElem? (i := 39) rfl)), rfl, hnm⟩) (hw _ (List.mem_of_getElem? (i := 1) rfl)) (ty := .int) (by decide) rfl rfl (g := (mkF m 6 #[.val (.ref ob0), .val (.int p1), .val (.int p2), .val (.ref ob3)] [(.int p1), (.ref ob0)])) rfl rfl (hb hby d6_6)
  have fF3 := F_min_ob0.same W2
  have fF4 := F_max_ob0.other W2 (Or.inr (slot_ne (Or.inr (hw _ (List.mem_of_getElem? (i := 41) rfl))) (Or.inr (hw _ (List.mem_of_getElem? (i := 39) rfl))) (by decide) (t := .int) (t' := .int) (by decide) (by decide)))
  have fF5 := F_unit_ob0.other W2 (Or.inr (slot_ne (Or.inr (hw _ (List.mem_of_getElem? (i := 43) rfl))) (Or.inr (hw _ (List.mem_of_getElem? (i := 39) rfl))) (by decide) (t := (.object "java/lang/String")) (t' := .int) (by decide) (by decide)))
  have eE6 := E_ob0.wr W2
  have N2 := Fr.snoc X2 N1 g_ob0
  have Z2 := Nat.le_trans Z0 (Keep.of_wr W2).1
  have K2 := (Keep.refl h0 [ob0]).wr W2 (Or.inl (List.mem_of_getElem? (i := 0) rfl))
  obtain ⟨T7, h7, X7, e7, W7, st7⟩ := putF X2 hx hZ hown (host := "") (Or.inl (hw _ (List.mem_of_getElem? (i := 40) rfl))) Via.refl e2 fF4 eE6 (Or.inr ⟨(hw _ (List.mem_of_getElem? (i := 41) rfl)), rfl, hnm⟩) (hw _ (List.mem_of_getElem? (i := 1) rfl)) (ty := .int) (by decide) rfl rfl (g := (mkF m 11 #[.val (.ref ob0), .val (.int p1), .val (.int p2), .val (.ref ob3)] [(.int p2), (.ref ob0)])) rfl rfl (hb hby d6_11)
  have fF8 := fF3.other W7 (Or.inr (slot_ne (Or.inr (hw _ (List.mem_of_getElem? (i := 39) rfl))) (Or.inr (hw _ (List.mem_of_getElem? (i := 41) rfl))) (by decide) (t := .int) (t' := .int) (by decide) (by decide)))
  have fF9 := fF4.same W7
  have fF10 := fF5.other W7 (Or.inr (slot_ne (Or.inr (hw _ (List.mem_of_getElem? (i := 43) rfl))) (Or.inr (hw _ (List.mem_of_getElem? (i := 41) rfl))) (by decide) (t := (.object "java/lang/String")) (t' := .int) (by decide) (by decide)))
  have eE11 := eE6.wr W7
  have N7 := Fr.snoc X7 N2 g_ob0
  have Z7 := Nat.le_trans Z2 (Keep.of_wr W7).1
  have K7 := K2.wr W7 (Or.inl (List.mem_of_getElem? (i := 0) rfl))
  obtain ⟨T12, h12, X12, e12, W12, st12⟩ := putF X7 hx hZ hown (host := "") (Or.inl (hw _ (List.mem_of_getElem? (i := 42) rfl))) Via.refl e7 fF10 eE11 (Or.inr ⟨(hw _ (List.mem_of_getElem? (i := 43) rfl)), rfl, hnm⟩) (hw _ (List.mem_of_getElem? (i := 1) rfl)) (ty := (.object "java/lang/String")) (by decide) rfl rfl (g := (mkF m 16 #[.val (.ref ob0), .val (.int p1), .val (.int p2), .val (.ref ob3)] [(.ref ob3), (.ref ob0)])) rfl rfl (hb hby d6_16)
  have fF13 := fF8.other W12 (Or.inr (slot_ne (Or.inr (hw _ (List.mem_of_getElem? (i := 39) rfl))) (Or.inr (hw _ (List.mem_of_getElem? (i := 43) rfl))) (by decide) (t := .int) (t' := (.object "java/lang/String")) (by decide) (by decide)))
  have fF14 := fF9.other W12 (Or.inr (slot_ne (Or.inr (hw _ (List.mem_of_getElem? (i := 41) rfl))) (Or.inr (hw _ (List.mem_of_getElem? (i := 43) rfl))) (by decide) (t := .int) (t' := (.object "java/lang/String")) (by decide) (by decide)))
  have fF15 := fF10.same W12
  have eE16 := eE11.wr W12
  have N12 := Fr.snoc X12 N7 g_ob0
  have Z12 := Nat.le_trans Z7 (Keep.of_wr W12).1
  have K12 := K7.wr W12 (Or.inl (List.mem_of_getElem? (i := 0) rfl))
  obtain ⟨fs, hr, hrun, hended, hW, hsame⟩ := X12.leave (v := none) (fun _ => rfl) (BodyLoose.notSynchronized Bd)
  refine ⟨_, _, pre0 _ ?_, hrun, hended, _, _, rfl, ?_, ⟨_, rfl⟩, hW, hsame.mono (by decide) (by decide)⟩
  · show Steps p.tables e below (s₁.setTop (mkF m 0 #[.val (.ref ob0), .val (.int p1), .val (.int p2), .val (.ref ob3)] [])) _
    refine XS.aloadN X0.here hx rfl (hb hby d6_0) rfl rfl ?_
    show Steps p.tables e below (s₁.setTop (mkF m 1 #[.val (.ref ob0), .val (.int p1), .val (.int p2), .val (.ref ob3)] [(.ref ob0)])) _
    refine st1.trans ?_
    show Steps p.tables e below (T1.setTop (mkF m 4 #[.val (.ref ob0), .val (.int p1), .val (.int p2), .val (.ref ob3)] [])) _
    refine XS.aloadN X1.here hx rfl (hb hby d6_4) rfl rfl ?_
    show Steps p.tables e below (T1.setTop (mkF m 5 #[.val (.ref ob0), .val (.int p1), .val (.int p2), .val (.ref ob3)] [(.ref ob0)])) _
    refine XS.iloadN X1.here hx rfl (hb hby d6_5) rfl ?_
    show Steps p.tables e below (T1.setTop (mkF m 6 #[.val (.ref ob0), .val (.int p1), .val (.int p2), .val (.ref ob3)] [(.int p1), (.ref ob0)])) _
    refine st2 _ ?_
    show Steps p.tables e below (T2.setTop (mkF m 9 #[.val (.ref ob0), .val (.int p1), .val (.int p2), .val (.ref ob3)] [])) _
    refine XS.aloadN X2.here hx rfl (hb hby d6_9) rfl rfl ?_
    show Steps p.tables e below (T2.setTop (mkF m 10 #[.val (.ref ob0), .val (.int p1), .val (.int p2), .val (.ref ob3)] [(.ref ob0)])) _
    refine XS.iloadN X2.here hx rfl (hb hby d6_10) rfl ?_
    show Steps p.tables e below (T2.setTop (mkF m 11 #[.val (.ref ob0), .val (.int p1), .val (.int p2), .val (.ref ob3)] [(.int p2), (.ref ob0)])) _
    refine st7 _ ?_
    show Steps p.tables e below (T7.setTop (mkF m 14 #[.val (.ref ob0), .val (.int p1), .val (.int p2), .val (.ref ob3)] [])) _
    refine XS.aloadN X7.here hx rfl (hb hby d6_14) rfl rfl ?_
    show Steps p.tables e below (T7.setTop (mkF m 15 #[.val (.ref ob0), .val (.int p1), .val (.int p2), .val (.ref ob3)] [(.ref ob0)])) _
    refine XS.aloadN X7.here hx rfl (hb hby d6_15) rfl rfl ?_
    show Steps p.tables e below (T7.setTop (mkF m 16 #[.val (.ref ob0), .val (.int p1), .val (.int p2), .val (.ref ob3)] [(.ref ob3), (.ref ob0)])) _
    refine st12 _ ?_
    show Steps p.tables e below (T12.setTop (mkF m 19 #[.val (.ref ob0), .val (.int p1), .val (.int p2), .val (.ref ob3)] [])) _
    exact X12.returnOut hx Bd.returns (hb hby d6_19) hr
  · show Q6 Z ob0 p1 p2 ob3 u_min u_max u_unit h0 n0 _ T12.heap _
    rw [e12]
    exact ⟨rfl, N12, K12, eE16, fF13, fF14, fF15⟩
theorem pd_5 : parseMethodDescriptor "(IILjava/lang/String;)V" = some ⟨[.int, .int, (.object "java/lang/String")], none⟩ := by decide +kernel
def F8 (q1 : Int64) (w_ob0_min : Int32) (w_ob0_max : Int32) : Int32 :=
  if q1 < (w_ob0_min.toInt64) then (0 : Int32) else if (w_ob0_max.toInt64) < q1 then (0 : Int32) else (1 : Int32)
theorem own_in {x : Int64} {mn mx : Int32} (h : mn.toInt ≤ x.toInt ∧ x.toInt ≤ mx.toInt) : F8 x mn mx = 1 := by
  rw [F8, if_neg, if_neg]
  · rw [Int64.lt_iff_toInt_lt, Jvm.Kit.i64_of_i32]; omega
  · rw [Int64.lt_iff_toInt_lt, Jvm.Kit.i64_of_i32]; omega
theorem own_out {x : Int64} {mn mx : Int32} (h : ¬ (mn.toInt ≤ x.toInt ∧ x.toInt ≤ mx.toInt)) : F8 x mn mx = 0 := by
  rw [F8]
  by_cases c : x < mn.toInt64
  · rw [if_pos c]
  · rw [if_neg c, if_pos]
    rw [Int64.lt_iff_toInt_lt, Jvm.Kit.i64_of_i32] at *; omega
theorem own_get {x : Int64} {mn mx : Int32} (h : ¬ F8 x mn mx = 0) : mn.toInt ≤ x.toInt ∧ x.toInt ≤ mx.toInt :=
  Classical.byContradiction fun q => h (own_out q)
theorem d8_0 : decode prog_66_method_2_code 0 = .ok (.lload_n 1, 1) := by decide +kernel
theorem d8_1 : decode prog_66_method_2_code 1 = .ok (.aload_n 0, 1) := by decide +kernel
theorem d8_2 : decode prog_66_method_2_code 2 = .ok (.getfield 7, 3) := by decide +kernel
theorem d8_5 : decode prog_66_method_2_code 5 = .ok (.i2l, 1) := by decide +kernel
theorem d8_6 : decode prog_66_method_2_code 6 = .ok (.lcmp, 1) := by decide +kernel
theorem d8_7 : decode prog_66_method_2_code 7 = .ok (.ifCond .lt 17, 3) := by decide +kernel
theorem d8_10 : decode prog_66_method_2_code 10 = .ok (.lload_n 1, 1) := by decide +kernel
theorem d8_11 : decode prog_66_method_2_code 11 = .ok (.aload_n 0, 1) := by decide +kernel
theorem d8_12 : decode prog_66_method_2_code 12 = .ok (.getfield 13, 3) := by decide +kernel
theorem d8_15 : decode prog_66_method_2_code 15 = .ok (.i2l, 1) := by decide +kernel
theorem d8_16 : decode prog_66_method_2_code 16 = .ok (.lcmp, 1) := by decide +kernel
theorem d8_17 : decode prog_66_method_2_code 17 = .ok (.ifCond .gt 7, 3) := by decide +kernel
theorem d8_20 : decode prog_66_method_2_code 20 = .ok (.iconst 1, 1) := by decide +kernel
theorem d8_21 : decode prog_66_method_2_code 21 = .ok (.goto 4, 3) := by decide +kernel
theorem d8_24 : decode prog_66_method_2_code 24 = .ok (.iconst 0, 1) := by decide +kernel
theorem d8_25 : decode prog_66_method_2_code 25 = .ok (.ireturn, 1) := by decide +kernel
theorem pn_8 : plainName "com/example/hawser/hawser/text/Range" = true := by first | (simp [plainName, overriddenIn]; done) | decide +kernel
theorem ef_8 (m : MethodId) (ob0 : Addr) (q1 : Int64) : entryFrame m #[(.ref ob0), (.long q1)] 3 = mkF m 0 #[.val (.ref ob0), .val (.long q1), .second] [] := by first | (simp [entryFrame, mkF, argsToLocals, Value.category]; done) | rfl
def Q8 (Z : State) (ob0 : Addr) (q1 : Int64) (w_ob0_min : Int32) (w_ob0_max : Int32) (h0 : Heap) (n0 : Nat) (v : Option Value) (h : Heap) (L : List Loc) : Prop := v = some (.int (F8 q1 w_ob0_min w_ob0_max)) ∧ Fr n0 L ∧ h = h0
set_option maxRecDepth 65536 in
set_option maxHeartbeats 40000000 in
theorem rm8 (l : Launch) (Z : State) (a0 : Array Value) (hw : ∀ d ∈ tables_1, d.before a0 Z = true) (ws : List Jvm.Cond) (ob0 : Addr) (q1 : Int64) (w_ob0_min : Int32) (w_ob0_max : Int32) (h0 : Heap) (n0 : Nat) (Z0 : n0 ≤ h0.size) (F_min_ob0 : Fld Z h0 ob0 "com/example/hawser/hawser/text/Range" "min" "I" (.int w_ob0_min)) (F_max_ob0 : Fld Z h0 ob0 "com/example/hawser/hawser/text/Range" "max" "I" (.int w_ob0_max)) :
    MetFree l (⟨"com/example/hawser/hawser/text/Range", "contains", "(J)Z"⟩ : MethodName) (head1 (Jvm.Cond.code (⟨"com/example/hawser/hawser/text/Range", "contains", "(J)Z"⟩ : MethodName) prog_66_method_2_code 3 (some .boolean) :: ws) ({ frames := 0, cells := 0, slots := 0, locals := 0 } : Room)) (fun a U => a = #[(.ref ob0), (.long q1)] ∧ Z.Warmed39 U.vm ∧ U.heap = h0) (fun _ _ _ _ _ => True) (fun _ U o U' => ∃ v L, o = .returned v ∧ Q8 Z ob0 q1 w_ob0_min w_ob0_max h0 n0 v U'.heap L ∧ FrameEnd U o U' L ({ frames := 0, cells := 0, slots := 0, locals := 0 } : Room).cells ({ frames := 0, cells := 0, slots := 0, locals := 0 } : Room).slots) := by
  refine MetFree.of_bodySF (plainFor_of_name pn_8) hisR ?_
  intro p e s m args below meth c s₁ Bd hml0 hP hK
  obtain ⟨rfl, hZ, hh⟩ := hP
  have hx := Bd.exec
  have hby := Bd.bytes
  have hml : c.maxLocals = 3 := hml0
  have hown : s.vm.findClass "com/example/hawser/hawser/text/Range" = some m.cls := findClass_of_methodNamed Bd.named
  have hnm := (name_of_methodNamed Bd.named Bd.method).1
  have X0 : Stand p l e ({ frames := 0, cells := 0, slots := 0, locals := 0 } : Room) s m #[(.ref ob0), (.long q1)] below meth c s₁ [] 0 0 := Stand.of_body Bd
  have e0 : s₁.heap = h0 := by rw [← hh, Bd.state]; rfl
  have N0 := Fr.nil n0
  have pre0 : ∀ t, Steps p.tables e below (s₁.setTop (mkF m 0 #[.val (.ref ob0), .val (.long q1), .second] [])) t → Steps p.tables e below (s₁.setTop (entryFrame m #[(.ref ob0), (.long q1)] 3)) t := fun t k => castTop (ef_8 m ob0 q1) k
  obtain ⟨T1, X1, e1, st1⟩ := getF X0 hx hZ hown (host := "") (Or.inl (hw _ (List.mem_of_getElem? (i := 38) rfl))) Via.refl e0 F_min_ob0 (g := (mkF m 2 #[.val (.ref ob0), .val (.long q1), .second] [(.ref ob0), (.long q1)])) rfl rfl (hb hby d8_2)
  have pre2 : ∀ t, Steps p.tables e below (T1.setTop (mkF m 7 #[.val (.ref ob0), .val (.long q1), .second] [(.int (lcmpW q1 (w_ob0_min.toInt64)))])) t → Steps p.tables e below (s₁.setTop (entryFrame m #[(.ref ob0), (.long q1)] 3)) t := fun t k => by
    refine pre0 t ?_
    show Steps p.tables e below (s₁.setTop (mkF m 0 #[.val (.ref ob0), .val (.long q1), .second] [])) _
    refine XS.lloadN X0.here hx rfl (hb hby d8_0) rfl ?_
    show Steps p.tables e below (s₁.setTop (mkF m 1 #[.val (.ref ob0), .val (.long q1), .second] [(.long q1)])) _
    refine XS.aloadN X0.here hx rfl (hb hby d8_1) rfl rfl ?_
    show Steps p.tables e below (s₁.setTop (mkF m 2 #[.val (.ref ob0), .val (.long q1), .second] [(.ref ob0), (.long q1)])) _
    refine st1 _ ?_
    show Steps p.tables e below (T1.setTop (mkF m 5 #[.val (.ref ob0), .val (.long q1), .second] [(.int w_ob0_min), (.long q1)])) _
    refine XS.i2l X1.here hx rfl (hb hby d8_5) rfl ?_
    show Steps p.tables e below (T1.setTop (mkF m 6 #[.val (.ref ob0), .val (.long q1), .second] [(.long (w_ob0_min.toInt64)), (.long q1)])) _
    refine XS.lcmp X1.here hx rfl (hb hby d8_6) rfl ?_
    exact k
  by_cases hc7 : q1 < (w_ob0_min.toInt64)
  · obtain ⟨fs, hr, hrun, hended, hW, hsame⟩ := X1.leave (v := some (.int (0 : Int32))) (fun h => by rw [Bd.returns] at h; cases h) (BodyLoose.notSynchronized Bd)
    refine ⟨_, _, pre2 _ ?_, hrun, hended, _, _, rfl, ?_, ⟨_, rfl⟩, hW, hsame.mono (by decide) (by decide)⟩
    · show Steps p.tables e below (T1.setTop (mkF m 7 #[.val (.ref ob0), .val (.long q1), .second] [(.int (lcmpW q1 (w_ob0_min.toInt64)))])) _
      refine XS.ifYes X1.here hx rfl (pc0 := 7) (pc' := 24) rfl (hb hby d8_7) rfl (lcY_lt hc7) (by decide) (by decide) ?_
      show Steps p.tables e below (T1.setTop (mkF m 24 #[.val (.ref ob0), .val (.long q1), .second] [])) _
      refine XS.iconst X1.here hx rfl (hb hby d8_24) ?_
      show Steps p.tables e below (T1.setTop (mkF m 25 #[.val (.ref ob0), .val (.long q1), .second] [(.int (0 : Int32))])) _
      exact retN X1 hx (t := .boolean) Bd.returns (by simp) (hb hby d8_25) hr
    · show Q8 Z ob0 q1 w_ob0_min w_ob0_max h0 n0 _ T1.heap _
      rw [e1]
      exact ⟨(by rw [F8, if_pos hc7]), N0, rfl⟩
  · obtain ⟨T3, X3, e3, st3⟩ := getF X1 hx hZ hown (host := "") (Or.inl (hw _ (List.mem_of_getElem? (i := 40) rfl))) Via.refl e1 F_max_ob0 (g := (mkF m 12 #[.val (.ref ob0), .val (.long q1), .second] [(.ref ob0), (.long q1)])) rfl rfl (hb hby d8_12)
    have pre4 : ∀ t, Steps p.tables e below (T3.setTop (mkF m 17 #[.val (.ref ob0), .val (.long q1), .second] [(.int (lcmpW q1 (w_ob0_max.toInt64)))])) t → Steps p.tables e below (s₁.setTop (entryFrame m #[(.ref ob0), (.long q1)] 3)) t := fun t k => by
      refine pre2 t ?_
      show Steps p.tables e below (T1.setTop (mkF m 7 #[.val (.ref ob0), .val (.long q1), .second] [(.int (lcmpW q1 (w_ob0_min.toInt64)))])) _
      refine XS.ifNo X1.here hx rfl (hb hby d8_7) rfl (lcN_lt hc7) ?_
      show Steps p.tables e below (T1.setTop (mkF m 10 #[.val (.ref ob0), .val (.long q1), .second] [])) _
      refine XS.lloadN X1.here hx rfl (hb hby d8_10) rfl ?_
      show Steps p.tables e below (T1.setTop (mkF m 11 #[.val (.ref ob0), .val (.long q1), .second] [(.long q1)])) _
      refine XS.aloadN X1.here hx rfl (hb hby d8_11) rfl rfl ?_
      show Steps p.tables e below (T1.setTop (mkF m 12 #[.val (.ref ob0), .val (.long q1), .second] [(.ref ob0), (.long q1)])) _
      refine st3 _ ?_
      show Steps p.tables e below (T3.setTop (mkF m 15 #[.val (.ref ob0), .val (.long q1), .second] [(.int w_ob0_max), (.long q1)])) _
      refine XS.i2l X3.here hx rfl (hb hby d8_15) rfl ?_
      show Steps p.tables e below (T3.setTop (mkF m 16 #[.val (.ref ob0), .val (.long q1), .second] [(.long (w_ob0_max.toInt64)), (.long q1)])) _
      refine XS.lcmp X3.here hx rfl (hb hby d8_16) rfl ?_
      exact k
    by_cases hc17 : (w_ob0_max.toInt64) < q1
    · obtain ⟨fs, hr, hrun, hended, hW, hsame⟩ := X3.leave (v := some (.int (0 : Int32))) (fun h => by rw [Bd.returns] at h; cases h) (BodyLoose.notSynchronized Bd)
      refine ⟨_, _, pre4 _ ?_, hrun, hended, _, _, rfl, ?_, ⟨_, rfl⟩, hW, hsame.mono (by decide) (by decide)⟩
      · show Steps p.tables e below (T3.setTop (mkF m 17 #[.val (.ref ob0), .val (.long q1), .second] [(.int (lcmpW q1 (w_ob0_max.toInt64)))])) _
        refine XS.ifYes X3.here hx rfl (pc0 := 17) (pc' := 24) rfl (hb hby d8_17) rfl (lcY_gt hc17) (by decide) (by decide) ?_
        show Steps p.tables e below (T3.setTop (mkF m 24 #[.val (.ref ob0), .val (.long q1), .second] [])) _
        refine XS.iconst X3.here hx rfl (hb hby d8_24) ?_
        show Steps p.tables e below (T3.setTop (mkF m 25 #[.val (.ref ob0), .val (.long q1), .second] [(.int (0 : Int32))])) _
        exact retN X3 hx (t := .boolean) Bd.returns (by simp) (hb hby d8_25) hr
      · show Q8 Z ob0 q1 w_ob0_min w_ob0_max h0 n0 _ T3.heap _
        rw [e3]
        exact ⟨(by rw [F8, if_neg hc7, if_pos hc17]), N0, rfl⟩
    · obtain ⟨fs, hr, hrun, hended, hW, hsame⟩ := X3.leave (v := some (.int (1 : Int32))) (fun h => by rw [Bd.returns] at h; cases h) (BodyLoose.notSynchronized Bd)
      refine ⟨_, _, pre4 _ ?_, hrun, hended, _, _, rfl, ?_, ⟨_, rfl⟩, hW, hsame.mono (by decide) (by decide)⟩
      · show Steps p.tables e below (T3.setTop (mkF m 17 #[.val (.ref ob0), .val (.long q1), .second] [(.int (lcmpW q1 (w_ob0_max.toInt64)))])) _
        refine XS.ifNo X3.here hx rfl (hb hby d8_17) rfl (lcN_gt hc17) ?_
        show Steps p.tables e below (T3.setTop (mkF m 20 #[.val (.ref ob0), .val (.long q1), .second] [])) _
        refine XS.iconst X3.here hx rfl (hb hby d8_20) ?_
        show Steps p.tables e below (T3.setTop (mkF m 21 #[.val (.ref ob0), .val (.long q1), .second] [(.int (1 : Int32))])) _
        refine XS.goto X3.here hx rfl (pc0 := 21) (pc' := 25) rfl (hb hby d8_21) (by decide) (by decide) ?_
        show Steps p.tables e below (T3.setTop (mkF m 25 #[.val (.ref ob0), .val (.long q1), .second] [(.int (1 : Int32))])) _
        exact retN X3 hx (t := .boolean) Bd.returns (by simp) (hb hby d8_25) hr
      · show Q8 Z ob0 q1 w_ob0_min w_ob0_max h0 n0 _ T3.heap _
        rw [e3]
        exact ⟨(by rw [F8, if_neg hc7, if_neg hc17]), N0, rfl⟩
theorem pd_6 : parseMethodDescriptor "(J)Z" = some ⟨[.long], some .boolean⟩ := by decide +kernel
def F9 (q0 : Int64) (q1 : Int64) (q2 : Int64) : Int32 :=
  if q0 < q1 then (if q0 < q2 then (0 : Int32) else if q1 < q0 then (0 : Int32) else (1 : Int32)) else if q2 < q0 then (if q0 < q2 then (0 : Int32) else if q1 < q0 then (0 : Int32) else (1 : Int32)) else (1 : Int32)
theorem own_btw {x p q : Int64} (h : ¬ F9 x p q = 0) : (p.toInt ≤ x.toInt ∧ x.toInt ≤ q.toInt) ∨ (q.toInt ≤ x.toInt ∧ x.toInt ≤ p.toInt) := by
  apply Classical.byContradiction
  intro n
  apply h
  rw [F9]
  simp only [Int64.lt_iff_toInt_lt]
  repeat' split
  all_goals first | rfl | (exfalso; omega)
theorem own_conv {a b c : Int64} {mn mx : Int32} (ha : ¬ F8 a mn mx = 0) (hc : ¬ F8 c mn mx = 0) (hb : ¬ F9 b a c = 0) : ¬ (F8 b mn mx = 0) := by
  have h1 := own_get ha; have h2 := own_get hc
  have h3 := own_btw hb
  rw [own_in (by omega)]; decide
theorem d9_0 : decode method_2_code 0 = .ok (.lload_n 2, 1) := by decide +kernel
theorem d9_1 : decode method_2_code 1 = .ok (.lload_n 0, 1) := by decide +kernel
theorem d9_2 : decode method_2_code 2 = .ok (.lcmp, 1) := by decide +kernel
theorem d9_3 : decode method_2_code 3 = .ok (.ifCond .gt 10, 3) := by decide +kernel
theorem d9_6 : decode method_2_code 6 = .ok (.lload_n 0, 1) := by decide +kernel
theorem d9_7 : decode method_2_code 7 = .ok (.lload 4, 2) := by decide +kernel
theorem d9_9 : decode method_2_code 9 = .ok (.lcmp, 1) := by decide +kernel
theorem d9_10 : decode method_2_code 10 = .ok (.ifCond .le 16, 3) := by decide +kernel
theorem d9_13 : decode method_2_code 13 = .ok (.lload 4, 2) := by decide +kernel
theorem d9_15 : decode method_2_code 15 = .ok (.lload_n 0, 1) := by decide +kernel
theorem d9_16 : decode method_2_code 16 = .ok (.lcmp, 1) := by decide +kernel
theorem d9_17 : decode method_2_code 17 = .ok (.ifCond .gt 13, 3) := by decide +kernel
theorem d9_20 : decode method_2_code 20 = .ok (.lload_n 0, 1) := by decide +kernel
theorem d9_21 : decode method_2_code 21 = .ok (.lload_n 2, 1) := by decide +kernel
theorem d9_22 : decode method_2_code 22 = .ok (.lcmp, 1) := by decide +kernel
theorem d9_23 : decode method_2_code 23 = .ok (.ifCond .gt 7, 3) := by decide +kernel
theorem d9_26 : decode method_2_code 26 = .ok (.iconst 1, 1) := by decide +kernel
theorem d9_27 : decode method_2_code 27 = .ok (.goto 4, 3) := by decide +kernel
theorem d9_30 : decode method_2_code 30 = .ok (.iconst 0, 1) := by decide +kernel
theorem d9_31 : decode method_2_code 31 = .ok (.ireturn, 1) := by decide +kernel
theorem pn_9 : plainName "com/example/hawser/hawser/text/RangeContainsPinLaw" = true := by first | (simp [plainName, overriddenIn]; done) | decide +kernel
theorem ef_9 (m : MethodId) (q0 : Int64) (q1 : Int64) (q2 : Int64) : entryFrame m #[(.long q0), (.long q1), (.long q2)] 6 = mkF m 0 #[.val (.long q0), .second, .val (.long q1), .second, .val (.long q2), .second] [] := by first | (simp [entryFrame, mkF, argsToLocals, Value.category]; done) | rfl
def Q9 (Z : State) (q0 : Int64) (q1 : Int64) (q2 : Int64) (h0 : Heap) (n0 : Nat) (v : Option Value) (h : Heap) (L : List Loc) : Prop := v = some (.int (F9 q0 q1 q2)) ∧ Fr n0 L ∧ h = h0
set_option maxRecDepth 65536 in
set_option maxHeartbeats 40000000 in
theorem rm9 (l : Launch) (Z : State) (a0 : Array Value) (hw : ∀ d ∈ tables_1, d.before a0 Z = true) (ws : List Jvm.Cond) (q0 : Int64) (q1 : Int64) (q2 : Int64) (h0 : Heap) (n0 : Nat) (Z0 : n0 ≤ h0.size) :
    MetFree l (⟨"com/example/hawser/hawser/text/RangeContainsPinLaw", "between", "(JJJ)Z"⟩ : MethodName) (head1 (Jvm.Cond.code (⟨"com/example/hawser/hawser/text/RangeContainsPinLaw", "between", "(JJJ)Z"⟩ : MethodName) method_2_code 6 (some .boolean) :: ws) ({ frames := 0, cells := 0, slots := 0, locals := 0 } : Room)) (fun a U => a = #[(.long q0), (.long q1), (.long q2)] ∧ Z.Warmed39 U.vm ∧ U.heap = h0) (fun _ _ _ _ _ => True) (fun _ U o U' => ∃ v L, o = .returned v ∧ Q9 Z q0 q1 q2 h0 n0 v U'.heap L ∧ FrameEnd U o U' L ({ frames := 0, cells := 0, slots := 0, locals := 0 } : Room).cells ({ frames := 0, cells := 0, slots := 0, locals := 0 } : Room).slots) := by
  refine MetFree.of_bodySF (plainFor_of_name pn_9) hisR ?_
  intro p e s m args below meth c s₁ Bd hml0 hP hK
  obtain ⟨rfl, hZ, hh⟩ := hP
  have hx := Bd.exec
  have hby := Bd.bytes
  have hml : c.maxLocals = 6 := hml0
  have hown : s.vm.findClass "com/example/hawser/hawser/text/RangeContainsPinLaw" = some m.cls := findClass_of_methodNamed Bd.named
  have hnm := (name_of_methodNamed Bd.named Bd.method).1
  have X0 : Stand p l e ({ frames := 0, cells := 0, slots := 0, locals := 0 } : Room) s m #[(.long q0), (.long q1), (.long q2)] below meth c s₁ [] 0 0 := Stand.of_body Bd
  have e0 : s₁.heap = h0 := by rw [← hh, Bd.state]; rfl
  have N0 := Fr.nil n0
  have pre0 : ∀ t, Steps p.tables e below (s₁.setTop (mkF m 0 #[.val (.long q0), .second, .val (.long q1), .second, .val (.long q2), .second] [])) t → Steps p.tables e below (s₁.setTop (entryFrame m #[(.long q0), (.long q1), (.long q2)] 6)) t := fun t k => castTop (ef_9 m q0 q1 q2) k
  have pre1 : ∀ t, Steps p.tables e below (s₁.setTop (mkF m 3 #[.val (.long q0), .second, .val (.long q1), .second, .val (.long q2), .second] [(.int (lcmpW q1 q0))])) t → Steps p.tables e below (s₁.setTop (entryFrame m #[(.long q0), (.long q1), (.long q2)] 6)) t := fun t k => by
    refine pre0 t ?_
    show Steps p.tables e below (s₁.setTop (mkF m 0 #[.val (.long q0), .second, .val (.long q1), .second, .val (.long q2), .second] [])) _
    refine XS.lloadN X0.here hx rfl (hb hby d9_0) rfl ?_
    show Steps p.tables e below (s₁.setTop (mkF m 1 #[.val (.long q0), .second, .val (.long q1), .second, .val (.long q2), .second] [(.long q1)])) _
    refine XS.lloadN X0.here hx rfl (hb hby d9_1) rfl ?_
    show Steps p.tables e below (s₁.setTop (mkF m 2 #[.val (.long q0), .second, .val (.long q1), .second, .val (.long q2), .second] [(.long q0), (.long q1)])) _
    refine XS.lcmp X0.here hx rfl (hb hby d9_2) rfl ?_
    exact k
  by_cases hc3 : q0 < q1
  · have pre2 : ∀ t, Steps p.tables e below (s₁.setTop (mkF m 17 #[.val (.long q0), .second, .val (.long q1), .second, .val (.long q2), .second] [(.int (lcmpW q2 q0))])) t → Steps p.tables e below (s₁.setTop (entryFrame m #[(.long q0), (.long q1), (.long q2)] 6)) t := fun t k => by
      refine pre1 t ?_
      show Steps p.tables e below (s₁.setTop (mkF m 3 #[.val (.long q0), .second, .val (.long q1), .second, .val (.long q2), .second] [(.int (lcmpW q1 q0))])) _
      refine XS.ifYes X0.here hx rfl (pc0 := 3) (pc' := 13) rfl (hb hby d9_3) rfl (lcY_gt hc3) (by decide) (by decide) ?_
      show Steps p.tables e below (s₁.setTop (mkF m 13 #[.val (.long q0), .second, .val (.long q1), .second, .val (.long q2), .second] [])) _
      refine XS.lload X0.here hx rfl (hb hby d9_13) rfl ?_
      show Steps p.tables e below (s₁.setTop (mkF m 15 #[.val (.long q0), .second, .val (.long q1), .second, .val (.long q2), .second] [(.long q2)])) _
      refine XS.lloadN X0.here hx rfl (hb hby d9_15) rfl ?_
      show Steps p.tables e below (s₁.setTop (mkF m 16 #[.val (.long q0), .second, .val (.long q1), .second, .val (.long q2), .second] [(.long q0), (.long q2)])) _
      refine XS.lcmp X0.here hx rfl (hb hby d9_16) rfl ?_
      exact k
    by_cases hc17 : q0 < q2
    · obtain ⟨fs, hr, hrun, hended, hW, hsame⟩ := X0.leave (v := some (.int (0 : Int32))) (fun h => by rw [Bd.returns] at h; cases h) (BodyLoose.notSynchronized Bd)
      refine ⟨_, _, pre2 _ ?_, hrun, hended, _, _, rfl, ?_, ⟨_, rfl⟩, hW, hsame.mono (by decide) (by decide)⟩
      · show Steps p.tables e below (s₁.setTop (mkF m 17 #[.val (.long q0), .second, .val (.long q1), .second, .val (.long q2), .second] [(.int (lcmpW q2 q0))])) _
        refine XS.ifYes X0.here hx rfl (pc0 := 17) (pc' := 30) rfl (hb hby d9_17) rfl (lcY_gt hc17) (by decide) (by decide) ?_
        show Steps p.tables e below (s₁.setTop (mkF m 30 #[.val (.long q0), .second, .val (.long q1), .second, .val (.long q2), .second] [])) _
        refine XS.iconst X0.here hx rfl (hb hby d9_30) ?_
        show Steps p.tables e below (s₁.setTop (mkF m 31 #[.val (.long q0), .second, .val (.long q1), .second, .val (.long q2), .second] [(.int (0 : Int32))])) _
        exact retN X0 hx (t := .boolean) Bd.returns (by simp) (hb hby d9_31) hr
      · show Q9 Z q0 q1 q2 h0 n0 _ s₁.heap _
        rw [e0]
        exact ⟨(by rw [F9, if_pos hc3, if_pos hc17]), N0, rfl⟩
    · have pre3 : ∀ t, Steps p.tables e below (s₁.setTop (mkF m 23 #[.val (.long q0), .second, .val (.long q1), .second, .val (.long q2), .second] [(.int (lcmpW q0 q1))])) t → Steps p.tables e below (s₁.setTop (entryFrame m #[(.long q0), (.long q1), (.long q2)] 6)) t := fun t k => by
        refine pre2 t ?_
        show Steps p.tables e below (s₁.setTop (mkF m 17 #[.val (.long q0), .second, .val (.long q1), .second, .val (.long q2), .second] [(.int (lcmpW q2 q0))])) _
        refine XS.ifNo X0.here hx rfl (hb hby d9_17) rfl (lcN_gt hc17) ?_
        show Steps p.tables e below (s₁.setTop (mkF m 20 #[.val (.long q0), .second, .val (.long q1), .second, .val (.long q2), .second] [])) _
        refine XS.lloadN X0.here hx rfl (hb hby d9_20) rfl ?_
        show Steps p.tables e below (s₁.setTop (mkF m 21 #[.val (.long q0), .second, .val (.long q1), .second, .val (.long q2), .second] [(.long q0)])) _
        refine XS.lloadN X0.here hx rfl (hb hby d9_21) rfl ?_
        show Steps p.tables e below (s₁.setTop (mkF m 22 #[.val (.long q0), .second, .val (.long q1), .second, .val (.long q2), .second] [(.long q1), (.long q0)])) _
        refine XS.lcmp X0.here hx rfl (hb hby d9_22) rfl ?_
        exact k
      by_cases hc23 : q1 < q0
      · obtain ⟨fs, hr, hrun, hended, hW, hsame⟩ := X0.leave (v := some (.int (0 : Int32))) (fun h => by rw [Bd.returns] at h; cases h) (BodyLoose.notSynchronized Bd)
        refine ⟨_, _, pre3 _ ?_, hrun, hended, _, _, rfl, ?_, ⟨_, rfl⟩, hW, hsame.mono (by decide) (by decide)⟩
        · show Steps p.tables e below (s₁.setTop (mkF m 23 #[.val (.long q0), .second, .val (.long q1), .second, .val (.long q2), .second] [(.int (lcmpW q0 q1))])) _
          refine XS.ifYes X0.here hx rfl (pc0 := 23) (pc' := 30) rfl (hb hby d9_23) rfl (lcY_gt hc23) (by decide) (by decide) ?_
          show Steps p.tables e below (s₁.setTop (mkF m 30 #[.val (.long q0), .second, .val (.long q1), .second, .val (.long q2), .second] [])) _
          refine XS.iconst X0.here hx rfl (hb hby d9_30) ?_
          show Steps p.tables e below (s₁.setTop (mkF m 31 #[.val (.long q0), .second, .val (.long q1), .second, .val (.long q2), .second] [(.int (0 : Int32))])) _
          exact retN X0 hx (t := .boolean) Bd.returns (by simp) (hb hby d9_31) hr
        · show Q9 Z q0 q1 q2 h0 n0 _ s₁.heap _
          rw [e0]
          exact ⟨(by rw [F9, if_pos hc3, if_neg hc17, if_pos hc23]), N0, rfl⟩
      · obtain ⟨fs, hr, hrun, hended, hW, hsame⟩ := X0.leave (v := some (.int (1 : Int32))) (fun h => by rw [Bd.returns] at h; cases h) (BodyLoose.notSynchronized Bd)
        refine ⟨_, _, pre3 _ ?_, hrun, hended, _, _, rfl, ?_, ⟨_, rfl⟩, hW, hsame.mono (by decide) (by decide)⟩
        · show Steps p.tables e below (s₁.setTop (mkF m 23 #[.val (.long q0), .second, .val (.long q1), .second, .val (.long q2), .second] [(.int (lcmpW q0 q1))])) _
          refine XS.ifNo X0.here hx rfl (hb hby d9_23) rfl (lcN_gt hc23) ?_
          show Steps p.tables e below (s₁.setTop (mkF m 26 #[.val (.long q0), .second, .val (.long q1), .second, .val (.long q2), .second] [])) _
          refine XS.iconst X0.here hx rfl (hb hby d9_26) ?_
          show Steps p.tables e below (s₁.setTop (mkF m 27 #[.val (.long q0), .second, .val (.long q1), .second, .val (.long q2), .second] [(.int (1 : Int32))])) _
          refine XS.goto X0.here hx rfl (pc0 := 27) (pc' := 31) rfl (hb hby d9_27) (by decide) (by decide) ?_
          show Steps p.tables e below (s₁.setTop (mkF m 31 #[.val (.long q0), .second, .val (.long q1), .second, .val (.long q2), .second] [(.int (1 : Int32))])) _
          exact retN X0 hx (t := .boolean) Bd.returns (by simp) (hb hby d9_31) hr
        · show Q9 Z q0 q1 q2 h0 n0 _ s₁.heap _
          rw [e0]
          exact ⟨(by rw [F9, if_pos hc3, if_neg hc17, if_neg hc23]), N0, rfl⟩
  · have pre4 : ∀ t, Steps p.tables e below (s₁.setTop (mkF m 10 #[.val (.long q0), .second, .val (.long q1), .second, .val (.long q2), .second] [(.int (lcmpW q0 q2))])) t → Steps p.tables e below (s₁.setTop (entryFrame m #[(.long q0), (.long q1), (.long q2)] 6)) t := fun t k => by
      refine pre1 t ?_
      show Steps p.tables e below (s₁.setTop (mkF m 3 #[.val (.long q0), .second, .val (.long q1), .second, .val (.long q2), .second] [(.int (lcmpW q1 q0))])) _
      refine XS.ifNo X0.here hx rfl (hb hby d9_3) rfl (lcN_gt hc3) ?_
      show Steps p.tables e below (s₁.setTop (mkF m 6 #[.val (.long q0), .second, .val (.long q1), .second, .val (.long q2), .second] [])) _
      refine XS.lloadN X0.here hx rfl (hb hby d9_6) rfl ?_
      show Steps p.tables e below (s₁.setTop (mkF m 7 #[.val (.long q0), .second, .val (.long q1), .second, .val (.long q2), .second] [(.long q0)])) _
      refine XS.lload X0.here hx rfl (hb hby d9_7) rfl ?_
      show Steps p.tables e below (s₁.setTop (mkF m 9 #[.val (.long q0), .second, .val (.long q1), .second, .val (.long q2), .second] [(.long q2), (.long q0)])) _
      refine XS.lcmp X0.here hx rfl (hb hby d9_9) rfl ?_
      exact k
    by_cases hc10 : q2 < q0
    · have pre5 : ∀ t, Steps p.tables e below (s₁.setTop (mkF m 17 #[.val (.long q0), .second, .val (.long q1), .second, .val (.long q2), .second] [(.int (lcmpW q2 q0))])) t → Steps p.tables e below (s₁.setTop (entryFrame m #[(.long q0), (.long q1), (.long q2)] 6)) t := fun t k => by
        refine pre4 t ?_
        show Steps p.tables e below (s₁.setTop (mkF m 10 #[.val (.long q0), .second, .val (.long q1), .second, .val (.long q2), .second] [(.int (lcmpW q0 q2))])) _
        refine XS.ifNo X0.here hx rfl (hb hby d9_10) rfl (lcN_le hc10) ?_
        show Steps p.tables e below (s₁.setTop (mkF m 13 #[.val (.long q0), .second, .val (.long q1), .second, .val (.long q2), .second] [])) _
        refine XS.lload X0.here hx rfl (hb hby d9_13) rfl ?_
        show Steps p.tables e below (s₁.setTop (mkF m 15 #[.val (.long q0), .second, .val (.long q1), .second, .val (.long q2), .second] [(.long q2)])) _
        refine XS.lloadN X0.here hx rfl (hb hby d9_15) rfl ?_
        show Steps p.tables e below (s₁.setTop (mkF m 16 #[.val (.long q0), .second, .val (.long q1), .second, .val (.long q2), .second] [(.long q0), (.long q2)])) _
        refine XS.lcmp X0.here hx rfl (hb hby d9_16) rfl ?_
        exact k
      by_cases hc17 : q0 < q2
      · obtain ⟨fs, hr, hrun, hended, hW, hsame⟩ := X0.leave (v := some (.int (0 : Int32))) (fun h => by rw [Bd.returns] at h; cases h) (BodyLoose.notSynchronized Bd)
        refine ⟨_, _, pre5 _ ?_, hrun, hended, _, _, rfl, ?_, ⟨_, rfl⟩, hW, hsame.mono (by decide) (by decide)⟩
        · show Steps p.tables e below (s₁.setTop (mkF m 17 #[.val (.long q0), .second, .val (.long q1), .second, .val (.long q2), .second] [(.int (lcmpW q2 q0))])) _
          refine XS.ifYes X0.here hx rfl (pc0 := 17) (pc' := 30) rfl (hb hby d9_17) rfl (lcY_gt hc17) (by decide) (by decide) ?_
          show Steps p.tables e below (s₁.setTop (mkF m 30 #[.val (.long q0), .second, .val (.long q1), .second, .val (.long q2), .second] [])) _
          refine XS.iconst X0.here hx rfl (hb hby d9_30) ?_
          show Steps p.tables e below (s₁.setTop (mkF m 31 #[.val (.long q0), .second, .val (.long q1), .second, .val (.long q2), .second] [(.int (0 : Int32))])) _
          exact retN X0 hx (t := .boolean) Bd.returns (by simp) (hb hby d9_31) hr
        · show Q9 Z q0 q1 q2 h0 n0 _ s₁.heap _
          rw [e0]
          exact ⟨(by rw [F9, if_neg hc3, if_pos hc10, if_pos hc17]), N0, rfl⟩
      · have pre6 : ∀ t, Steps p.tables e below (s₁.setTop (mkF m 23 #[.val (.long q0), .second, .val (.long q1), .second, .val (.long q2), .second] [(.int (lcmpW q0 q1))])) t → Steps p.tables e below (s₁.setTop (entryFrame m #[(.long q0), (.long q1), (.long q2)] 6)) t := fun t k => by
          refine pre5 t ?_
          show Steps p.tables e below (s₁.setTop (mkF m 17 #[.val (.long q0), .second, .val (.long q1), .second, .val (.long q2), .second] [(.int (lcmpW q2 q0))])) _
          refine XS.ifNo X0.here hx rfl (hb hby d9_17) rfl (lcN_gt hc17) ?_
          show Steps p.tables e below (s₁.setTop (mkF m 20 #[.val (.long q0), .second, .val (.long q1), .second, .val (.long q2), .second] [])) _
          refine XS.lloadN X0.here hx rfl (hb hby d9_20) rfl ?_
          show Steps p.tables e below (s₁.setTop (mkF m 21 #[.val (.long q0), .second, .val (.long q1), .second, .val (.long q2), .second] [(.long q0)])) _
          refine XS.lloadN X0.here hx rfl (hb hby d9_21) rfl ?_
          show Steps p.tables e below (s₁.setTop (mkF m 22 #[.val (.long q0), .second, .val (.long q1), .second, .val (.long q2), .second] [(.long q1), (.long q0)])) _
          refine XS.lcmp X0.here hx rfl (hb hby d9_22) rfl ?_
          exact k
        by_cases hc23 : q1 < q0
        · obtain ⟨fs, hr, hrun, hended, hW, hsame⟩ := X0.leave (v := some (.int (0 : Int32))) (fun h => by rw [Bd.returns] at h; cases h) (BodyLoose.notSynchronized Bd)
          refine ⟨_, _, pre6 _ ?_, hrun, hended, _, _, rfl, ?_, ⟨_, rfl⟩, hW, hsame.mono (by decide) (by decide)⟩
          · show Steps p.tables e below (s₁.setTop (mkF m 23 #[.val (.long q0), .second, .val (.long q1), .second, .val (.long q2), .second] [(.int (lcmpW q0 q1))])) _
            refine XS.ifYes X0.here hx rfl (pc0 := 23) (pc' := 30) rfl (hb hby d9_23) rfl (lcY_gt hc23) (by decide) (by decide) ?_
            show Steps p.tables e below (s₁.setTop (mkF m 30 #[.val (.long q0), .second, .val (.long q1), .second, .val (.long q2), .second] [])) _
            refine XS.iconst X0.here hx rfl (hb hby d9_30) ?_
            show Steps p.tables e below (s₁.setTop (mkF m 31 #[.val (.long q0), .second, .val (.long q1), .second, .val (.long q2), .second] [(.int (0 : Int32))])) _
            exact retN X0 hx (t := .boolean) Bd.returns (by simp) (hb hby d9_31) hr
          · show Q9 Z q0 q1 q2 h0 n0 _ s₁.heap _
            rw [e0]
            exact ⟨(by rw [F9, if_neg hc3, if_pos hc10, if_neg hc17, if_pos hc23]), N0, rfl⟩
        · obtain ⟨fs, hr, hrun, hended, hW, hsame⟩ := X0.leave (v := some (.int (1 : Int32))) (fun h => by rw [Bd.returns] at h; cases h) (BodyLoose.notSynchronized Bd)
          refine ⟨_, _, pre6 _ ?_, hrun, hended, _, _, rfl, ?_, ⟨_, rfl⟩, hW, hsame.mono (by decide) (by decide)⟩
          · show Steps p.tables e below (s₁.setTop (mkF m 23 #[.val (.long q0), .second, .val (.long q1), .second, .val (.long q2), .second] [(.int (lcmpW q0 q1))])) _
            refine XS.ifNo X0.here hx rfl (hb hby d9_23) rfl (lcN_gt hc23) ?_
            show Steps p.tables e below (s₁.setTop (mkF m 26 #[.val (.long q0), .second, .val (.long q1), .second, .val (.long q2), .second] [])) _
            refine XS.iconst X0.here hx rfl (hb hby d9_26) ?_
            show Steps p.tables e below (s₁.setTop (mkF m 27 #[.val (.long q0), .second, .val (.long q1), .second, .val (.long q2), .second] [(.int (1 : Int32))])) _
            refine XS.goto X0.here hx rfl (pc0 := 27) (pc' := 31) rfl (hb hby d9_27) (by decide) (by decide) ?_
            show Steps p.tables e below (s₁.setTop (mkF m 31 #[.val (.long q0), .second, .val (.long q1), .second, .val (.long q2), .second] [(.int (1 : Int32))])) _
            exact retN X0 hx (t := .boolean) Bd.returns (by simp) (hb hby d9_31) hr
          · show Q9 Z q0 q1 q2 h0 n0 _ s₁.heap _
            rw [e0]
            exact ⟨(by rw [F9, if_neg hc3, if_pos hc10, if_neg hc17, if_neg hc23]), N0, rfl⟩
    · obtain ⟨fs, hr, hrun, hended, hW, hsame⟩ := X0.leave (v := some (.int (1 : Int32))) (fun h => by rw [Bd.returns] at h; cases h) (BodyLoose.notSynchronized Bd)
      refine ⟨_, _, pre4 _ ?_, hrun, hended, _, _, rfl, ?_, ⟨_, rfl⟩, hW, hsame.mono (by decide) (by decide)⟩
      · show Steps p.tables e below (s₁.setTop (mkF m 10 #[.val (.long q0), .second, .val (.long q1), .second, .val (.long q2), .second] [(.int (lcmpW q0 q2))])) _
        refine XS.ifYes X0.here hx rfl (pc0 := 10) (pc' := 26) rfl (hb hby d9_10) rfl (lcY_le hc10) (by decide) (by decide) ?_
        show Steps p.tables e below (s₁.setTop (mkF m 26 #[.val (.long q0), .second, .val (.long q1), .second, .val (.long q2), .second] [])) _
        refine XS.iconst X0.here hx rfl (hb hby d9_26) ?_
        show Steps p.tables e below (s₁.setTop (mkF m 27 #[.val (.long q0), .second, .val (.long q1), .second, .val (.long q2), .second] [(.int (1 : Int32))])) _
        refine XS.goto X0.here hx rfl (pc0 := 27) (pc' := 31) rfl (hb hby d9_27) (by decide) (by decide) ?_
        show Steps p.tables e below (s₁.setTop (mkF m 31 #[.val (.long q0), .second, .val (.long q1), .second, .val (.long q2), .second] [(.int (1 : Int32))])) _
        exact retN X0 hx (t := .boolean) Bd.returns (by simp) (hb hby d9_31) hr
      · show Q9 Z q0 q1 q2 h0 n0 _ s₁.heap _
        rw [e0]
        exact ⟨(by rw [F9, if_neg hc3, if_neg hc10]), N0, rfl⟩
theorem pd_7 : parseMethodDescriptor "(JJJ)Z" = some ⟨[.long, .long, .long], some .boolean⟩ := by decide +kernel
theorem pn_0 : plainName "com/example/hawser/hawser/text/RangeContainsPinLaw" = true := by first | (simp [plainName, overriddenIn]; done) | decide +kernel
theorem ef_0 (m : MethodId) (p0 : Int32) (p1 : Int32) (q2 : Int64) (q3 : Int64) (q4 : Int64) (p5 : Int32) : entryFrame m #[(.int p0), (.int p1), (.long q2), (.long q3), (.long q4), (.int p5)] maxLocals = mkF m 0 #[.val (.int p0), .val (.int p1), .val (.long q2), .second, .val (.long q3), .second, .val (.long q4), .second, .val (.int p5), .unset, .unset, .unset, .unset, .unset, .unset, .unset, .unset, .unset, .unset, .unset, .unset] [] := by first | (simp [entryFrame, mkF, argsToLocals, Value.category, maxLocals]; done) | rfl
def Q0 (Z : State) (p0 : Int32) (p1 : Int32) (q2 : Int64) (q3 : Int64) (q4 : Int64) (p5 : Int32) (w_COMPACT_STRINGS : Int32) (h0 : Heap) (n0 : Nat) (v : Option Value) (h : Heap) (L : List Loc) : Prop := v = some (.int 1) ∧ Fr n0 L
set_option maxRecDepth 65536 in
set_option maxHeartbeats 40000000 in
theorem rm0 (l : Launch) (Z : State) (a0 : Array Value) (hw : ∀ d ∈ tables_1, d.before a0 Z = true) (ws : List Jvm.Cond) (p0 : Int32) (p1 : Int32) (q2 : Int64) (q3 : Int64) (q4 : Int64) (p5 : Int32) (w_COMPACT_STRINGS : Int32) (h0 : Heap) (n0 : Nat) (Z0 : n0 ≤ h0.size) (S_COMPACT_STRINGS : Sta Z h0 "java/lang/String" "COMPACT_STRINGS" "Z" (.int w_COMPACT_STRINGS)) (hcs : ¬ (w_COMPACT_STRINGS = (0 : Int32))) :
    MetFree l x (head1 (Jvm.Cond.code x code maxLocals ret :: ws) room_1) (fun a U => a = #[(.int p0), (.int p1), (.long q2), (.long q3), (.long q4), (.int p5)] ∧ Z.Warmed39 U.vm ∧ U.heap = h0) (fun _ _ _ _ _ => True) (fun _ U o U' => ∃ v L, o = .returned v ∧ Q0 Z p0 p1 q2 q3 q4 p5 w_COMPACT_STRINGS h0 n0 v U'.heap L ∧ FrameEnd U o U' L room_1.cells room_1.slots) := by
  refine MetFree.of_bodySF (plainFor_of_name pn_0) hisR ?_
  intro p e s m args below meth c s₁ Bd hml0 hP hK
  obtain ⟨rfl, hZ, hh⟩ := hP
  have hx := Bd.exec
  have hby := Bd.bytes
  have hml : c.maxLocals = 21 := hml0
  have hown : s.vm.findClass "com/example/hawser/hawser/text/RangeContainsPinLaw" = some m.cls := findClass_of_methodNamed Bd.named
  have hnm := (name_of_methodNamed Bd.named Bd.method).1
  have X0 : Stand p l e room_1 s m #[(.int p0), (.int p1), (.long q2), (.long q3), (.long q4), (.int p5)] below meth c s₁ [] 0 0 := Stand.of_body Bd
  have e0 : s₁.heap = h0 := by rw [← hh, Bd.state]; rfl
  have N0 := Fr.nil n0
  have pre0 : ∀ t, Steps p.tables e below (s₁.setTop (mkF m 0 #[.val (.int p0), .val (.int p1), .val (.long q2), .second, .val (.long q3), .second, .val (.long q4), .second, .val (.int p5), .unset, .unset, .unset, .unset, .unset, .unset, .unset, .unset, .unset, .unset, .unset, .unset] [])) t → Steps p.tables e below (s₁.setTop (entryFrame m #[(.int p0), (.int p1), (.long q2), (.long q3), (.long q4), (.int p5)] maxLocals)) t := fun t k => castTop (ef_0 m p0 p1 q2 q3 q4 p5) k
  obtain ⟨T1, h1, X1, e1, E1, A1, D1, -, st1⟩ := newO X0 hx hZ hown (hw _ (List.mem_of_getElem? (i := 0) rfl)) (hw _ (List.mem_of_getElem? (i := 1) rfl)) (hw _ (List.mem_of_getElem? (i := 2) rfl)) e0 (g := (mkF m 0 #[.val (.int p0), .val (.int p1), .val (.long q2), .second, .val (.long q3), .second, .val (.long q4), .second, .val (.int p5), .unset, .unset, .unset, .unset, .unset, .unset, .unset, .unset, .unset, .unset, .unset, .unset] [])) rfl (hb hby at_0) (by decide) (by decide)
  obtain ⟨b1, g1⟩ : ∃ z, z = h0.size := ⟨_, rfl⟩
  rw [← g1] at A1 D1 st1
  have sS2 := S_COMPACT_STRINGS.ext E1
  have g_b1 : n0 ≤ b1 := Nat.le_trans Z0 (Nat.le_of_eq g1.symm)
  have Z1 := Nat.le_trans Z0 E1.1
  have fF3 : Fld Z h1 b1 "com/example/hawser/hawser/text/Range" "min" "I" (.int (0 : Int32)) := D1 (Or.inr (hw _ (List.mem_of_getElem? (i := 39) rfl))) (ty := .int) (by decide)
  have fF4 : Fld Z h1 b1 "com/example/hawser/hawser/text/Range" "max" "I" (.int (0 : Int32)) := D1 (Or.inr (hw _ (List.mem_of_getElem? (i := 41) rfl))) (ty := .int) (by decide)
  have fF5 : Fld Z h1 b1 "com/example/hawser/hawser/text/Range" "unit" "Ljava/lang/String;" .null := D1 (Or.inr (hw _ (List.mem_of_getElem? (i := 43) rfl))) (ty := (.object "java/lang/String")) (by decide)
  have hp6 : ¬ (w_COMPACT_STRINGS = (0 : Int32)) := hcs
  have hp7 : ¬ ((F2 ((p5 &&& (255 : Int32)).toUInt32.toUInt16.toUInt32.toInt32)) = (0 : Int32)) := own_enc p5
  obtain ⟨_, _, ⟨T8, L8, k8, n8⟩, -, X8, ⟨Lc8, hQ8, l8, y8, z8⟩, st8⟩ := Jvm.LawKit.callS X1 hx (y := (⟨"java/lang/String", "valueOf", "(C)Ljava/lang/String;"⟩ : MethodName)) hown (mvT hZ (hw _ (List.mem_of_getElem? (i := 3) rfl))) (mvT hZ (hw _ (List.mem_of_getElem? (i := 4) rfl))) (mvT hZ (hw _ (List.mem_of_getElem? (i := 5) rfl))) (mvT hZ (hw _ (List.mem_of_getElem? (i := 6) rfl))) (by decide) (backOf (W := 4) (rm1 l Z a0 hw [] ((p5 &&& (255 : Int32)).toUInt32.toUInt16.toUInt32.toInt32) w_COMPACT_STRINGS h1 n0 Z1 sS2 hp6 hp7) hZ (hw _ (List.mem_of_getElem? (i := 6) rfl)) (hw _ (List.mem_of_getElem? (i := 5) rfl)) (by decide) (by decide)) (g := (mkF m 13 #[.val (.int p0), .val (.int p1), .val (.long q2), .second, .val (.long q3), .second, .val (.long q4), .second, .val (.int p5), .unset, .unset, .unset, .unset, .unset, .unset, .unset, .unset, .unset, .unset, .unset, .unset] [(.int ((p5 &&& (255 : Int32)).toUInt32.toUInt16.toUInt32.toInt32)), (.int p1), (.int p0), (.ref b1), (.ref b1)])) rfl (by rw [hml]; rfl) (argsL := [(.int ((p5 &&& (255 : Int32)).toUInt32.toUInt16.toUInt32.toInt32))]) (rest := [(.int p1), (.int p0), (.ref b1), (.ref b1)]) (lenOf pd_3 rfl) rfl (by show 2 * 0 + _ ≤ _; exact Nat.le_of_eq rfl) (hb hby at_13) (fun _ _ => ⟨rfl, e1, (by decide : 1 + 2 ≤ _), (by decide : 3 + 5 ≤ _)⟩)
  dsimp only [Pt.U, Pt.locs, Pt.cells, Pt.slots] at X8 l8 y8 z8 st8 hQ8
  subst l8 y8 z8
  obtain ⟨b8, rfl, N8q, K8, sz8, lt8⟩ := hQ8
  have E8 : Ext h1 T8.heap := ⟨K8.1, fun a c q => K8.2.1 a c q nin0⟩
  have ne_b1_b8 : b1 ≠ b8 := Nat.ne_of_lt (Nat.lt_of_lt_of_le A1.lt sz8)
  have sS9 := sS2.ext E8
  have eE10 := A1.ext E8
  have fF11 := fF3.ext E8
  have fF12 := fF4.ext E8
  have fF13 := fF5.ext E8
  have g_b8 : n0 ≤ b8 := Nat.le_trans Z1 sz8
  have Z8 := Nat.le_trans Z1 E8.1
  have N8 := Fr.app N0 N8q
  obtain ⟨_, _, ⟨T14, L14, k14, n14⟩, -, X14, ⟨Lc14, hQ14, l14, y14, z14⟩, st14⟩ := X8.specialBack hx (y := (⟨"com/example/hawser/hawser/text/Range", "<init>", "(IILjava/lang/String;)V"⟩ : MethodName)) rfl hown (mvT hZ (hw _ (List.mem_of_getElem? (i := 29) rfl))) (mvT hZ (hw _ (List.mem_of_getElem? (i := 30) rfl))) (mvT hZ (hw _ (List.mem_of_getElem? (i := 31) rfl))) (by decide) (backOf (W := 1) (rm6 l Z a0 hw [] b1 p0 p1 b8 (.int (0 : Int32)) (.int (0 : Int32)) .null T8.heap n0 Z8 fF11 fF12 fF13 eE10 g_b1) hZ (hw _ (List.mem_of_getElem? (i := 31) rfl)) (hw _ (List.mem_of_getElem? (i := 2) rfl)) (by decide) (by decide)) (g := (mkF m 16 #[.val (.int p0), .val (.int p1), .val (.long q2), .second, .val (.long q3), .second, .val (.long q4), .second, .val (.int p5), .unset, .unset, .unset, .unset, .unset, .unset, .unset, .unset, .unset, .unset, .unset, .unset] [(.ref b8), (.int p1), (.int p0), (.ref b1), (.ref b1)])) rfl (by rw [hml]; rfl) (Steps.refl _) (a := b1) (argsL := [(.int p0), (.int p1), (.ref b8)]) (rest := [(.ref b1)]) (lenOf pd_5 rfl) rfl (by show 2 * 0 + _ ≤ _; exact Nat.le_of_eq rfl) (hb hby at_16) (fun _ _ => ⟨rfl, rfl, (by decide : 3 + 0 ≤ _), (by decide : 8 + 0 ≤ _)⟩)
  dsimp only [Pt.U, Pt.locs, Pt.cells, Pt.slots] at X14 l14 y14 z14 st14 hQ14
  subst l14 y14 z14
  obtain ⟨rfl, N14q, K14, G15, G16, G17, G18⟩ := hQ14
  have sS19 := own_sta sS9 K14 eE10
  have Z14 := Nat.le_trans Z8 K14.1
  have N14 := Fr.app N8 N14q
  have pre20 : ∀ t, Steps p.tables e below (T14.setTop (mkF m 23 #[.val (.int p0), .val (.int p1), .val (.long q2), .second, .val (.long q3), .second, .val (.long q4), .second, .val (.int p5), .val (.ref b1), .unset, .unset, .unset, .unset, .unset, .unset, .unset, .unset, .unset, .unset, .unset] [(.int p1), (.int p0)])) t → Steps p.tables e below (s₁.setTop (entryFrame m #[(.int p0), (.int p1), (.long q2), (.long q3), (.long q4), (.int p5)] maxLocals)) t := fun t k => by
    refine pre0 t ?_
    show Steps p.tables e below (s₁.setTop (mkF m 0 #[.val (.int p0), .val (.int p1), .val (.long q2), .second, .val (.long q3), .second, .val (.long q4), .second, .val (.int p5), .unset, .unset, .unset, .unset, .unset, .unset, .unset, .unset, .unset, .unset, .unset, .unset] [])) _
    refine st1 _ ?_
    show Steps p.tables e below (T1.setTop (mkF m 3 #[.val (.int p0), .val (.int p1), .val (.long q2), .second, .val (.long q3), .second, .val (.long q4), .second, .val (.int p5), .unset, .unset, .unset, .unset, .unset, .unset, .unset, .unset, .unset, .unset, .unset, .unset] [(.ref b1)])) _
    refine XS.dup X1.here hx rfl (hb hby at_3) rfl rfl ?_
    show Steps p.tables e below (T1.setTop (mkF m 4 #[.val (.int p0), .val (.int p1), .val (.long q2), .second, .val (.long q3), .second, .val (.long q4), .second, .val (.int p5), .unset, .unset, .unset, .unset, .unset, .unset, .unset, .unset, .unset, .unset, .unset, .unset] [(.ref b1), (.ref b1)])) _
    refine XS.iloadN X1.here hx rfl (hb hby at_4) rfl ?_
    show Steps p.tables e below (T1.setTop (mkF m 5 #[.val (.int p0), .val (.int p1), .val (.long q2), .second, .val (.long q3), .second, .val (.long q4), .second, .val (.int p5), .unset, .unset, .unset, .unset, .unset, .unset, .unset, .unset, .unset, .unset, .unset, .unset] [(.int p0), (.ref b1), (.ref b1)])) _
    refine XS.iloadN X1.here hx rfl (hb hby at_5) rfl ?_
    show Steps p.tables e below (T1.setTop (mkF m 6 #[.val (.int p0), .val (.int p1), .val (.long q2), .second, .val (.long q3), .second, .val (.long q4), .second, .val (.int p5), .unset, .unset, .unset, .unset, .unset, .unset, .unset, .unset, .unset, .unset, .unset, .unset] [(.int p1), (.int p0), (.ref b1), (.ref b1)])) _
    refine XS.iload X1.here hx rfl (hb hby at_6) rfl ?_
    show Steps p.tables e below (T1.setTop (mkF m 8 #[.val (.int p0), .val (.int p1), .val (.long q2), .second, .val (.long q3), .second, .val (.long q4), .second, .val (.int p5), .unset, .unset, .unset, .unset, .unset, .unset, .unset, .unset, .unset, .unset, .unset, .unset] [(.int p5), (.int p1), (.int p0), (.ref b1), (.ref b1)])) _
    refine XS.sipush X1.here hx rfl (hb hby at_8) ?_
    show Steps p.tables e below (T1.setTop (mkF m 11 #[.val (.int p0), .val (.int p1), .val (.long q2), .second, .val (.long q3), .second, .val (.long q4), .second, .val (.int p5), .unset, .unset, .unset, .unset, .unset, .unset, .unset, .unset, .unset, .unset, .unset, .unset] [(.int (255 : Int32)), (.int p5), (.int p1), (.int p0), (.ref b1), (.ref b1)])) _
    refine XS.iand X1.here hx rfl (hb hby at_11) rfl ?_
    show Steps p.tables e below (T1.setTop (mkF m 12 #[.val (.int p0), .val (.int p1), .val (.long q2), .second, .val (.long q3), .second, .val (.long q4), .second, .val (.int p5), .unset, .unset, .unset, .unset, .unset, .unset, .unset, .unset, .unset, .unset, .unset, .unset] [(.int (p5 &&& (255 : Int32))), (.int p1), (.int p0), (.ref b1), (.ref b1)])) _
    refine XS.i2c X1.here hx rfl (hb hby at_12) rfl ?_
    show Steps p.tables e below (T1.setTop (mkF m 13 #[.val (.int p0), .val (.int p1), .val (.long q2), .second, .val (.long q3), .second, .val (.long q4), .second, .val (.int p5), .unset, .unset, .unset, .unset, .unset, .unset, .unset, .unset, .unset, .unset, .unset, .unset] [(.int ((p5 &&& (255 : Int32)).toUInt32.toUInt16.toUInt32.toInt32)), (.int p1), (.int p0), (.ref b1), (.ref b1)])) _
    refine st8 _ ?_
    show Steps p.tables e below (T8.setTop (mkF m 16 #[.val (.int p0), .val (.int p1), .val (.long q2), .second, .val (.long q3), .second, .val (.long q4), .second, .val (.int p5), .unset, .unset, .unset, .unset, .unset, .unset, .unset, .unset, .unset, .unset, .unset, .unset] [(.ref b8), (.int p1), (.int p0), (.ref b1), (.ref b1)])) _
    refine st14.trans ?_
    show Steps p.tables e below (T14.setTop (mkF m 19 #[.val (.int p0), .val (.int p1), .val (.long q2), .second, .val (.long q3), .second, .val (.long q4), .second, .val (.int p5), .unset, .unset, .unset, .unset, .unset, .unset, .unset, .unset, .unset, .unset, .unset, .unset] [(.ref b1)])) _
    refine XS.astore X14.here hx rfl (hb hby at_19) rfl rfl (l' := #[.val (.int p0), .val (.int p1), .val (.long q2), .second, .val (.long q3), .second, .val (.long q4), .second, .val (.int p5), .val (.ref b1), .unset, .unset, .unset, .unset, .unset, .unset, .unset, .unset, .unset, .unset, .unset]) rfl ?_
    show Steps p.tables e below (T14.setTop (mkF m 21 #[.val (.int p0), .val (.int p1), .val (.long q2), .second, .val (.long q3), .second, .val (.long q4), .second, .val (.int p5), .val (.ref b1), .unset, .unset, .unset, .unset, .unset, .unset, .unset, .unset, .unset, .unset, .unset] [])) _
    refine XS.iloadN X14.here hx rfl (hb hby at_21) rfl ?_
    show Steps p.tables e below (T14.setTop (mkF m 22 #[.val (.int p0), .val (.int p1), .val (.long q2), .second, .val (.long q3), .second, .val (.long q4), .second, .val (.int p5), .val (.ref b1), .unset, .unset, .unset, .unset, .unset, .unset, .unset, .unset, .unset, .unset, .unset] [(.int p0)])) _
    refine XS.iloadN X14.here hx rfl (hb hby at_22) rfl ?_
    exact k
  by_cases hc23 : p1 < p0
  · obtain ⟨cq21, kq21, q21a, q21b, q21c⟩ := isOf hZ rfl G15
    obtain ⟨_, _, ⟨T21, L21, k21, n21⟩, -, X21, ⟨Lc21, hQ21, l21, y21, z21⟩, st21⟩ := X14.virtualBack hx (y := (⟨"com/example/hawser/hawser/text/Range", "contains", "(J)Z"⟩ : MethodName)) (z := (⟨"com/example/hawser/hawser/text/Range", "contains", "(J)Z"⟩ : MethodName)) hown (mvT hZ (hw _ (List.mem_of_getElem? (i := 44) rfl))) (mvT hZ (hw _ (List.mem_of_getElem? (i := 45) rfl))) (notFace_of_selects (args := #[]) (mvT hZ (hw _ (List.mem_of_getElem? (i := 47) rfl)))) (mvT hZ (hw _ (List.mem_of_getElem? (i := 47) rfl))) (mvT hZ (hw _ (List.mem_of_getElem? (i := 46) rfl))) (by decide) (backOf (W := 0) (rm8 l Z a0 hw [] b1 (p0.toInt64) p0 p1 T14.heap n0 Z14 G16 G17) hZ (hw _ (List.mem_of_getElem? (i := 48) rfl)) (hw _ (List.mem_of_getElem? (i := 2) rfl)) (by decide) (by decide)) q21a q21c (g := (mkF m 37 #[.val (.int p0), .val (.int p1), .val (.long q2), .second, .val (.long q3), .second, .val (.long q4), .second, .val (.int p5), .val (.ref b1), .val (.int (0 : Int32)), .unset, .unset, .unset, .unset, .unset, .unset, .unset, .unset, .unset, .unset] [(.long (p0.toInt64)), (.ref b1)])) rfl (by rw [hml]; rfl) (Steps.refl _) (argsL := [(.long (p0.toInt64))]) (rest := []) (lenOf pd_6 rfl) rfl (by show 2 * 0 + _ ≤ _; exact Nat.le_of_eq rfl) (hb hby at_37) (fun _ _ => ⟨rfl, rfl, (by decide : 3 + 0 ≤ _), (by decide : 8 + 0 ≤ _)⟩)
    dsimp only [Pt.U, Pt.locs, Pt.cells, Pt.slots] at X21 l21 y21 z21 st21 hQ21
    subst l21 y21 z21
    obtain ⟨rfl, N21q, e21⟩ := hQ21
    have N21 := Fr.app N14 N21q
    obtain ⟨cq22, kq22, q22a, q22b, q22c⟩ := isOf hZ e21 G15
    obtain ⟨_, _, ⟨T22, L22, k22, n22⟩, -, X22, ⟨Lc22, hQ22, l22, y22, z22⟩, st22⟩ := X21.virtualBack hx (y := (⟨"com/example/hawser/hawser/text/Range", "contains", "(J)Z"⟩ : MethodName)) (z := (⟨"com/example/hawser/hawser/text/Range", "contains", "(J)Z"⟩ : MethodName)) hown (mvT hZ (hw _ (List.mem_of_getElem? (i := 44) rfl))) (mvT hZ (hw _ (List.mem_of_getElem? (i := 45) rfl))) (notFace_of_selects (args := #[]) (mvT hZ (hw _ (List.mem_of_getElem? (i := 47) rfl)))) (mvT hZ (hw _ (List.mem_of_getElem? (i := 47) rfl))) (mvT hZ (hw _ (List.mem_of_getElem? (i := 46) rfl))) (by decide) (backOf (W := 0) (rm8 l Z a0 hw [] b1 (p1.toInt64) p0 p1 T14.heap n0 Z14 G16 G17) hZ (hw _ (List.mem_of_getElem? (i := 48) rfl)) (hw _ (List.mem_of_getElem? (i := 2) rfl)) (by decide) (by decide)) q22a q22c (g := (mkF m 46 #[.val (.int p0), .val (.int p1), .val (.long q2), .second, .val (.long q3), .second, .val (.long q4), .second, .val (.int p5), .val (.ref b1), .val (.int (0 : Int32)), .val (.int (F8 (p0.toInt64) p0 p1)), .unset, .unset, .unset, .unset, .unset, .unset, .unset, .unset, .unset] [(.long (p1.toInt64)), (.ref b1)])) rfl (by rw [hml]; rfl) (Steps.refl _) (argsL := [(.long (p1.toInt64))]) (rest := []) (lenOf pd_6 rfl) rfl (by show 2 * 0 + _ ≤ _; exact Nat.le_of_eq rfl) (hb hby at_46) (fun _ _ => ⟨rfl, e21, (by decide : 3 + 0 ≤ _), (by decide : 8 + 0 ≤ _)⟩)
    dsimp only [Pt.U, Pt.locs, Pt.cells, Pt.slots] at X22 l22 y22 z22 st22 hQ22
    subst l22 y22 z22
    obtain ⟨rfl, N22q, e22⟩ := hQ22
    have N22 := Fr.app N21 N22q
    obtain ⟨cq23, kq23, q23a, q23b, q23c⟩ := isOf hZ e22 G15
    obtain ⟨_, _, ⟨T23, L23, k23, n23⟩, -, X23, ⟨Lc23, hQ23, l23, y23, z23⟩, st23⟩ := X22.virtualBack hx (y := (⟨"com/example/hawser/hawser/text/Range", "contains", "(J)Z"⟩ : MethodName)) (z := (⟨"com/example/hawser/hawser/text/Range", "contains", "(J)Z"⟩ : MethodName)) hown (mvT hZ (hw _ (List.mem_of_getElem? (i := 44) rfl))) (mvT hZ (hw _ (List.mem_of_getElem? (i := 45) rfl))) (notFace_of_selects (args := #[]) (mvT hZ (hw _ (List.mem_of_getElem? (i := 47) rfl)))) (mvT hZ (hw _ (List.mem_of_getElem? (i := 47) rfl))) (mvT hZ (hw _ (List.mem_of_getElem? (i := 46) rfl))) (by decide) (backOf (W := 0) (rm8 l Z a0 hw [] b1 ((p0.toInt64) - (1 : Int64)) p0 p1 T14.heap n0 Z14 G16 G17) hZ (hw _ (List.mem_of_getElem? (i := 48) rfl)) (hw _ (List.mem_of_getElem? (i := 2) rfl)) (by decide) (by decide)) q23a q23c (g := (mkF m 57 #[.val (.int p0), .val (.int p1), .val (.long q2), .second, .val (.long q3), .second, .val (.long q4), .second, .val (.int p5), .val (.ref b1), .val (.int (0 : Int32)), .val (.int (F8 (p0.toInt64) p0 p1)), .val (.int (F8 (p1.toInt64) p0 p1)), .unset, .unset, .unset, .unset, .unset, .unset, .unset, .unset] [(.long ((p0.toInt64) - (1 : Int64))), (.ref b1)])) rfl (by rw [hml]; rfl) (Steps.refl _) (argsL := [(.long ((p0.toInt64) - (1 : Int64)))]) (rest := []) (lenOf pd_6 rfl) rfl (by show 2 * 0 + _ ≤ _; exact Nat.le_of_eq rfl) (hb hby at_57) (fun _ _ => ⟨rfl, e22, (by decide : 3 + 0 ≤ _), (by decide : 8 + 0 ≤ _)⟩)
    dsimp only [Pt.U, Pt.locs, Pt.cells, Pt.slots] at X23 l23 y23 z23 st23 hQ23
    subst l23 y23 z23
    obtain ⟨rfl, N23q, e23⟩ := hQ23
    have N23 := Fr.app N22 N23q
    obtain ⟨cq24, kq24, q24a, q24b, q24c⟩ := isOf hZ e23 G15
    obtain ⟨_, _, ⟨T24, L24, k24, n24⟩, -, X24, ⟨Lc24, hQ24, l24, y24, z24⟩, st24⟩ := X23.virtualBack hx (y := (⟨"com/example/hawser/hawser/text/Range", "contains", "(J)Z"⟩ : MethodName)) (z := (⟨"com/example/hawser/hawser/text/Range", "contains", "(J)Z"⟩ : MethodName)) hown (mvT hZ (hw _ (List.mem_of_getElem? (i := 44) rfl))) (mvT hZ (hw _ (List.mem_of_getElem? (i := 45) rfl))) (notFace_of_selects (args := #[]) (mvT hZ (hw _ (List.mem_of_getElem? (i := 47) rfl)))) (mvT hZ (hw _ (List.mem_of_getElem? (i := 47) rfl))) (mvT hZ (hw _ (List.mem_of_getElem? (i := 46) rfl))) (by decide) (backOf (W := 0) (rm8 l Z a0 hw [] b1 ((p1.toInt64) + (1 : Int64)) p0 p1 T14.heap n0 Z14 G16 G17) hZ (hw _ (List.mem_of_getElem? (i := 48) rfl)) (hw _ (List.mem_of_getElem? (i := 2) rfl)) (by decide) (by decide)) q24a q24c (g := (mkF m 68 #[.val (.int p0), .val (.int p1), .val (.long q2), .second, .val (.long q3), .second, .val (.long q4), .second, .val (.int p5), .val (.ref b1), .val (.int (0 : Int32)), .val (.int (F8 (p0.toInt64) p0 p1)), .val (.int (F8 (p1.toInt64) p0 p1)), .val (.int (F8 ((p0.toInt64) - (1 : Int64)) p0 p1)), .unset, .unset, .unset, .unset, .unset, .unset, .unset] [(.long ((p1.toInt64) + (1 : Int64))), (.ref b1)])) rfl (by rw [hml]; rfl) (Steps.refl _) (argsL := [(.long ((p1.toInt64) + (1 : Int64)))]) (rest := []) (lenOf pd_6 rfl) rfl (by show 2 * 0 + _ ≤ _; exact Nat.le_of_eq rfl) (hb hby at_68) (fun _ _ => ⟨rfl, e23, (by decide : 3 + 0 ≤ _), (by decide : 8 + 0 ≤ _)⟩)
    dsimp only [Pt.U, Pt.locs, Pt.cells, Pt.slots] at X24 l24 y24 z24 st24 hQ24
    subst l24 y24 z24
    obtain ⟨rfl, N24q, e24⟩ := hQ24
    have N24 := Fr.app N23 N24q
    obtain ⟨cq25, kq25, q25a, q25b, q25c⟩ := isOf hZ e24 G15
    obtain ⟨_, _, ⟨T25, L25, k25, n25⟩, -, X25, ⟨Lc25, hQ25, l25, y25, z25⟩, st25⟩ := X24.virtualBack hx (y := (⟨"com/example/hawser/hawser/text/Range", "contains", "(J)Z"⟩ : MethodName)) (z := (⟨"com/example/hawser/hawser/text/Range", "contains", "(J)Z"⟩ : MethodName)) hown (mvT hZ (hw _ (List.mem_of_getElem? (i := 44) rfl))) (mvT hZ (hw _ (List.mem_of_getElem? (i := 45) rfl))) (notFace_of_selects (args := #[]) (mvT hZ (hw _ (List.mem_of_getElem? (i := 47) rfl)))) (mvT hZ (hw _ (List.mem_of_getElem? (i := 47) rfl))) (mvT hZ (hw _ (List.mem_of_getElem? (i := 46) rfl))) (by decide) (backOf (W := 0) (rm8 l Z a0 hw [] b1 q2 p0 p1 T14.heap n0 Z14 G16 G17) hZ (hw _ (List.mem_of_getElem? (i := 48) rfl)) (hw _ (List.mem_of_getElem? (i := 2) rfl)) (by decide) (by decide)) q25a q25c (g := (mkF m 76 #[.val (.int p0), .val (.int p1), .val (.long q2), .second, .val (.long q3), .second, .val (.long q4), .second, .val (.int p5), .val (.ref b1), .val (.int (0 : Int32)), .val (.int (F8 (p0.toInt64) p0 p1)), .val (.int (F8 (p1.toInt64) p0 p1)), .val (.int (F8 ((p0.toInt64) - (1 : Int64)) p0 p1)), .val (.int (F8 ((p1.toInt64) + (1 : Int64)) p0 p1)), .unset, .unset, .unset, .unset, .unset, .unset] [(.long q2), (.ref b1)])) rfl (by rw [hml]; rfl) (Steps.refl _) (argsL := [(.long q2)]) (rest := []) (lenOf pd_6 rfl) rfl (by show 2 * 0 + _ ≤ _; exact Nat.le_of_eq rfl) (hb hby at_76) (fun _ _ => ⟨rfl, e24, (by decide : 3 + 0 ≤ _), (by decide : 8 + 0 ≤ _)⟩)
    dsimp only [Pt.U, Pt.locs, Pt.cells, Pt.slots] at X25 l25 y25 z25 st25 hQ25
    subst l25 y25 z25
    obtain ⟨rfl, N25q, e25⟩ := hQ25
    have N25 := Fr.app N24 N25q
    obtain ⟨cq26, kq26, q26a, q26b, q26c⟩ := isOf hZ e25 G15
    obtain ⟨_, _, ⟨T26, L26, k26, n26⟩, -, X26, ⟨Lc26, hQ26, l26, y26, z26⟩, st26⟩ := X25.virtualBack hx (y := (⟨"com/example/hawser/hawser/text/Range", "contains", "(J)Z"⟩ : MethodName)) (z := (⟨"com/example/hawser/hawser/text/Range", "contains", "(J)Z"⟩ : MethodName)) hown (mvT hZ (hw _ (List.mem_of_getElem? (i := 44) rfl))) (mvT hZ (hw _ (List.mem_of_getElem? (i := 45) rfl))) (notFace_of_selects (args := #[]) (mvT hZ (hw _ (List.mem_of_getElem? (i := 47) rfl)))) (mvT hZ (hw _ (List.mem_of_getElem? (i := 47) rfl))) (mvT hZ (hw _ (List.mem_of_getElem? (i := 46) rfl))) (by decide) (backOf (W := 0) (rm8 l Z a0 hw [] b1 q3 p0 p1 T14.heap n0 Z14 G16 G17) hZ (hw _ (List.mem_of_getElem? (i := 48) rfl)) (hw _ (List.mem_of_getElem? (i := 2) rfl)) (by decide) (by decide)) q26a q26c (g := (mkF m 85 #[.val (.int p0), .val (.int p1), .val (.long q2), .second, .val (.long q3), .second, .val (.long q4), .second, .val (.int p5), .val (.ref b1), .val (.int (0 : Int32)), .val (.int (F8 (p0.toInt64) p0 p1)), .val (.int (F8 (p1.toInt64) p0 p1)), .val (.int (F8 ((p0.toInt64) - (1 : Int64)) p0 p1)), .val (.int (F8 ((p1.toInt64) + (1 : Int64)) p0 p1)), .val (.int (F8 q2 p0 p1)), .unset, .unset, .unset, .unset, .unset] [(.long q3), (.ref b1)])) rfl (by rw [hml]; rfl) (Steps.refl _) (argsL := [(.long q3)]) (rest := []) (lenOf pd_6 rfl) rfl (by show 2 * 0 + _ ≤ _; exact Nat.le_of_eq rfl) (hb hby at_85) (fun _ _ => ⟨rfl, e25, (by decide : 3 + 0 ≤ _), (by decide : 8 + 0 ≤ _)⟩)
    dsimp only [Pt.U, Pt.locs, Pt.cells, Pt.slots] at X26 l26 y26 z26 st26 hQ26
    subst l26 y26 z26
    obtain ⟨rfl, N26q, e26⟩ := hQ26
    have N26 := Fr.app N25 N26q
    obtain ⟨cq27, kq27, q27a, q27b, q27c⟩ := isOf hZ e26 G15
    obtain ⟨_, _, ⟨T27, L27, k27, n27⟩, -, X27, ⟨Lc27, hQ27, l27, y27, z27⟩, st27⟩ := X26.virtualBack hx (y := (⟨"com/example/hawser/hawser/text/Range", "contains", "(J)Z"⟩ : MethodName)) (z := (⟨"com/example/hawser/hawser/text/Range", "contains", "(J)Z"⟩ : MethodName)) hown (mvT hZ (hw _ (List.mem_of_getElem? (i := 44) rfl))) (mvT hZ (hw _ (List.mem_of_getElem? (i := 45) rfl))) (notFace_of_selects (args := #[]) (mvT hZ (hw _ (List.mem_of_getElem? (i := 47) rfl)))) (mvT hZ (hw _ (List.mem_of_getElem? (i := 47) rfl))) (mvT hZ (hw _ (List.mem_of_getElem? (i := 46) rfl))) (by decide) (backOf (W := 0) (rm8 l Z a0 hw [] b1 q4 p0 p1 T14.heap n0 Z14 G16 G17) hZ (hw _ (List.mem_of_getElem? (i := 48) rfl)) (hw _ (List.mem_of_getElem? (i := 2) rfl)) (by decide) (by decide)) q27a q27c (g := (mkF m 94 #[.val (.int p0), .val (.int p1), .val (.long q2), .second, .val (.long q3), .second, .val (.long q4), .second, .val (.int p5), .val (.ref b1), .val (.int (0 : Int32)), .val (.int (F8 (p0.toInt64) p0 p1)), .val (.int (F8 (p1.toInt64) p0 p1)), .val (.int (F8 ((p0.toInt64) - (1 : Int64)) p0 p1)), .val (.int (F8 ((p1.toInt64) + (1 : Int64)) p0 p1)), .val (.int (F8 q2 p0 p1)), .val (.int (F8 q3 p0 p1)), .unset, .unset, .unset, .unset] [(.long q4), (.ref b1)])) rfl (by rw [hml]; rfl) (Steps.refl _) (argsL := [(.long q4)]) (rest := []) (lenOf pd_6 rfl) rfl (by show 2 * 0 + _ ≤ _; exact Nat.le_of_eq rfl) (hb hby at_94) (fun _ _ => ⟨rfl, e26, (by decide : 3 + 0 ≤ _), (by decide : 8 + 0 ≤ _)⟩)
    dsimp only [Pt.U, Pt.locs, Pt.cells, Pt.slots] at X27 l27 y27 z27 st27 hQ27
    subst l27 y27 z27
    obtain ⟨rfl, N27q, e27⟩ := hQ27
    have N27 := Fr.app N26 N27q
    have hc103 : (F8 (p0.toInt64) p0 p1) = (0 : Int32) := own_out (by rw [Jvm.Kit.i64_of_i32]; have q := hc23; rw [Int32.lt_iff_toInt_lt] at q; omega)
    have hc110 : (F8 (p1.toInt64) p0 p1) = (0 : Int32) := own_out (by rw [Jvm.Kit.i64_of_i32]; have q := hc23; rw [Int32.lt_iff_toInt_lt] at q; omega)
    have hc115 : (F8 ((p0.toInt64) - (1 : Int64)) p0 p1) = (0 : Int32) := own_out (by rw [own_dec]; omega)
    have hc120 : (F8 ((p1.toInt64) + (1 : Int64)) p0 p1) = (0 : Int32) := own_out (by rw [own_inc]; omega)
    have hc137 : (F8 q3 p0 p1) = (0 : Int32) := own_out (by have q := hc23; rw [Int32.lt_iff_toInt_lt] at q; omega)
    have pre28 : ∀ t, Steps p.tables e below (T27.setTop (mkF m 149 #[.val (.int p0), .val (.int p1), .val (.long q2), .second, .val (.long q3), .second, .val (.long q4), .second, .val (.int p5), .val (.ref b1), .val (.int (0 : Int32)), .val (.int (F8 (p0.toInt64) p0 p1)), .val (.int (F8 (p1.toInt64) p0 p1)), .val (.int (F8 ((p0.toInt64) - (1 : Int64)) p0 p1)), .val (.int (F8 ((p1.toInt64) + (1 : Int64)) p0 p1)), .val (.int (F8 q2 p0 p1)), .val (.int (F8 q3 p0 p1)), .val (.int (F8 q4 p0 p1)), .val (.int (1 : Int32)), .val (.int (1 : Int32)), .unset] [(.int (F8 q2 p0 p1))])) t → Steps p.tables e below (s₁.setTop (entryFrame m #[(.int p0), (.int p1), (.long q2), (.long q3), (.long q4), (.int p5)] maxLocals)) t := fun t k => by
      refine pre20 t ?_
      show Steps p.tables e below (T14.setTop (mkF m 23 #[.val (.int p0), .val (.int p1), .val (.long q2), .second, .val (.long q3), .second, .val (.long q4), .second, .val (.int p5), .val (.ref b1), .unset, .unset, .unset, .unset, .unset, .unset, .unset, .unset, .unset, .unset, .unset] [(.int p1), (.int p0)])) _
      refine XS.icmpYes X14.here hx rfl (pc0 := 23) (pc' := 30) rfl (hb hby at_23) rfl (tlt hc23).2.2.1 (by decide) (by decide) ?_
      show Steps p.tables e below (T14.setTop (mkF m 30 #[.val (.int p0), .val (.int p1), .val (.long q2), .second, .val (.long q3), .second, .val (.long q4), .second, .val (.int p5), .val (.ref b1), .unset, .unset, .unset, .unset, .unset, .unset, .unset, .unset, .unset, .unset, .unset] [])) _
      refine XS.iconst X14.here hx rfl (hb hby at_30) ?_
      show Steps p.tables e below (T14.setTop (mkF m 31 #[.val (.int p0), .val (.int p1), .val (.long q2), .second, .val (.long q3), .second, .val (.long q4), .second, .val (.int p5), .val (.ref b1), .unset, .unset, .unset, .unset, .unset, .unset, .unset, .unset, .unset, .unset, .unset] [(.int (0 : Int32))])) _
      refine XS.istore X14.here hx rfl (hb hby at_31) rfl (l' := #[.val (.int p0), .val (.int p1), .val (.long q2), .second, .val (.long q3), .second, .val (.long q4), .second, .val (.int p5), .val (.ref b1), .val (.int (0 : Int32)), .unset, .unset, .unset, .unset, .unset, .unset, .unset, .unset, .unset, .unset]) rfl ?_
      show Steps p.tables e below (T14.setTop (mkF m 33 #[.val (.int p0), .val (.int p1), .val (.long q2), .second, .val (.long q3), .second, .val (.long q4), .second, .val (.int p5), .val (.ref b1), .val (.int (0 : Int32)), .unset, .unset, .unset, .unset, .unset, .unset, .unset, .unset, .unset, .unset] [])) _
      refine XS.aload X14.here hx rfl (hb hby at_33) rfl rfl ?_
      show Steps p.tables e below (T14.setTop (mkF m 35 #[.val (.int p0), .val (.int p1), .val (.long q2), .second, .val (.long q3), .second, .val (.long q4), .second, .val (.int p5), .val (.ref b1), .val (.int (0 : Int32)), .unset, .unset, .unset, .unset, .unset, .unset, .unset, .unset, .unset, .unset] [(.ref b1)])) _
      refine XS.iloadN X14.here hx rfl (hb hby at_35) rfl ?_
      show Steps p.tables e below (T14.setTop (mkF m 36 #[.val (.int p0), .val (.int p1), .val (.long q2), .second, .val (.long q3), .second, .val (.long q4), .second, .val (.int p5), .val (.ref b1), .val (.int (0 : Int32)), .unset, .unset, .unset, .unset, .unset, .unset, .unset, .unset, .unset, .unset] [(.int p0), (.ref b1)])) _
      refine XS.i2l X14.here hx rfl (hb hby at_36) rfl ?_
      show Steps p.tables e below (T14.setTop (mkF m 37 #[.val (.int p0), .val (.int p1), .val (.long q2), .second, .val (.long q3), .second, .val (.long q4), .second, .val (.int p5), .val (.ref b1), .val (.int (0 : Int32)), .unset, .unset, .unset, .unset, .unset, .unset, .unset, .unset, .unset, .unset] [(.long (p0.toInt64)), (.ref b1)])) _
      refine st21.trans ?_
      show Steps p.tables e below (T21.setTop (mkF m 40 #[.val (.int p0), .val (.int p1), .val (.long q2), .second, .val (.long q3), .second, .val (.long q4), .second, .val (.int p5), .val (.ref b1), .val (.int (0 : Int32)), .unset, .unset, .unset, .unset, .unset, .unset, .unset, .unset, .unset, .unset] [(.int (F8 (p0.toInt64) p0 p1))])) _
      refine XS.istore X21.here hx rfl (hb hby at_40) rfl (l' := #[.val (.int p0), .val (.int p1), .val (.long q2), .second, .val (.long q3), .second, .val (.long q4), .second, .val (.int p5), .val (.ref b1), .val (.int (0 : Int32)), .val (.int (F8 (p0.toInt64) p0 p1)), .unset, .unset, .unset, .unset, .unset, .unset, .unset, .unset, .unset]) rfl ?_
      show Steps p.tables e below (T21.setTop (mkF m 42 #[.val (.int p0), .val (.int p1), .val (.long q2), .second, .val (.long q3), .second, .val (.long q4), .second, .val (.int p5), .val (.ref b1), .val (.int (0 : Int32)), .val (.int (F8 (p0.toInt64) p0 p1)), .unset, .unset, .unset, .unset, .unset, .unset, .unset, .unset, .unset] [])) _
      refine XS.aload X21.here hx rfl (hb hby at_42) rfl rfl ?_
      show Steps p.tables e below (T21.setTop (mkF m 44 #[.val (.int p0), .val (.int p1), .val (.long q2), .second, .val (.long q3), .second, .val (.long q4), .second, .val (.int p5), .val (.ref b1), .val (.int (0 : Int32)), .val (.int (F8 (p0.toInt64) p0 p1)), .unset, .unset, .unset, .unset, .unset, .unset, .unset, .unset, .unset] [(.ref b1)])) _
      refine XS.iloadN X21.here hx rfl (hb hby at_44) rfl ?_
      show Steps p.tables e below (T21.setTop (mkF m 45 #[.val (.int p0), .val (.int p1), .val (.long q2), .second, .val (.long q3), .second, .val (.long q4), .second, .val (.int p5), .val (.ref b1), .val (.int (0 : Int32)), .val (.int (F8 (p0.toInt64) p0 p1)), .unset, .unset, .unset, .unset, .unset, .unset, .unset, .unset, .unset] [(.int p1), (.ref b1)])) _
      refine XS.i2l X21.here hx rfl (hb hby at_45) rfl ?_
      show Steps p.tables e below (T21.setTop (mkF m 46 #[.val (.int p0), .val (.int p1), .val (.long q2), .second, .val (.long q3), .second, .val (.long q4), .second, .val (.int p5), .val (.ref b1), .val (.int (0 : Int32)), .val (.int (F8 (p0.toInt64) p0 p1)), .unset, .unset, .unset, .unset, .unset, .unset, .unset, .unset, .unset] [(.long (p1.toInt64)), (.ref b1)])) _
      refine st22.trans ?_
      show Steps p.tables e below (T22.setTop (mkF m 49 #[.val (.int p0), .val (.int p1), .val (.long q2), .second, .val (.long q3), .second, .val (.long q4), .second, .val (.int p5), .val (.ref b1), .val (.int (0 : Int32)), .val (.int (F8 (p0.toInt64) p0 p1)), .unset, .unset, .unset, .unset, .unset, .unset, .unset, .unset, .unset] [(.int (F8 (p1.toInt64) p0 p1))])) _
      refine XS.istore X22.here hx rfl (hb hby at_49) rfl (l' := #[.val (.int p0), .val (.int p1), .val (.long q2), .second, .val (.long q3), .second, .val (.long q4), .second, .val (.int p5), .val (.ref b1), .val (.int (0 : Int32)), .val (.int (F8 (p0.toInt64) p0 p1)), .val (.int (F8 (p1.toInt64) p0 p1)), .unset, .unset, .unset, .unset, .unset, .unset, .unset, .unset]) rfl ?_
      show Steps p.tables e below (T22.setTop (mkF m 51 #[.val (.int p0), .val (.int p1), .val (.long q2), .second, .val (.long q3), .second, .val (.long q4), .second, .val (.int p5), .val (.ref b1), .val (.int (0 : Int32)), .val (.int (F8 (p0.toInt64) p0 p1)), .val (.int (F8 (p1.toInt64) p0 p1)), .unset, .unset, .unset, .unset, .unset, .unset, .unset, .unset] [])) _
      refine XS.aload X22.here hx rfl (hb hby at_51) rfl rfl ?_
      show Steps p.tables e below (T22.setTop (mkF m 53 #[.val (.int p0), .val (.int p1), .val (.long q2), .second, .val (.long q3), .second, .val (.long q4), .second, .val (.int p5), .val (.ref b1), .val (.int (0 : Int32)), .val (.int (F8 (p0.toInt64) p0 p1)), .val (.int (F8 (p1.toInt64) p0 p1)), .unset, .unset, .unset, .unset, .unset, .unset, .unset, .unset] [(.ref b1)])) _
      refine XS.iloadN X22.here hx rfl (hb hby at_53) rfl ?_
      show Steps p.tables e below (T22.setTop (mkF m 54 #[.val (.int p0), .val (.int p1), .val (.long q2), .second, .val (.long q3), .second, .val (.long q4), .second, .val (.int p5), .val (.ref b1), .val (.int (0 : Int32)), .val (.int (F8 (p0.toInt64) p0 p1)), .val (.int (F8 (p1.toInt64) p0 p1)), .unset, .unset, .unset, .unset, .unset, .unset, .unset, .unset] [(.int p0), (.ref b1)])) _
      refine XS.i2l X22.here hx rfl (hb hby at_54) rfl ?_
      show Steps p.tables e below (T22.setTop (mkF m 55 #[.val (.int p0), .val (.int p1), .val (.long q2), .second, .val (.long q3), .second, .val (.long q4), .second, .val (.int p5), .val (.ref b1), .val (.int (0 : Int32)), .val (.int (F8 (p0.toInt64) p0 p1)), .val (.int (F8 (p1.toInt64) p0 p1)), .unset, .unset, .unset, .unset, .unset, .unset, .unset, .unset] [(.long (p0.toInt64)), (.ref b1)])) _
      refine XS.lconst X22.here hx rfl (hb hby at_55) ?_
      show Steps p.tables e below (T22.setTop (mkF m 56 #[.val (.int p0), .val (.int p1), .val (.long q2), .second, .val (.long q3), .second, .val (.long q4), .second, .val (.int p5), .val (.ref b1), .val (.int (0 : Int32)), .val (.int (F8 (p0.toInt64) p0 p1)), .val (.int (F8 (p1.toInt64) p0 p1)), .unset, .unset, .unset, .unset, .unset, .unset, .unset, .unset] [(.long (1 : Int64)), (.long (p0.toInt64)), (.ref b1)])) _
      refine XS.lsub X22.here hx rfl (hb hby at_56) rfl ?_
      show Steps p.tables e below (T22.setTop (mkF m 57 #[.val (.int p0), .val (.int p1), .val (.long q2), .second, .val (.long q3), .second, .val (.long q4), .second, .val (.int p5), .val (.ref b1), .val (.int (0 : Int32)), .val (.int (F8 (p0.toInt64) p0 p1)), .val (.int (F8 (p1.toInt64) p0 p1)), .unset, .unset, .unset, .unset, .unset, .unset, .unset, .unset] [(.long ((p0.toInt64) - (1 : Int64))), (.ref b1)])) _
      refine st23.trans ?_
      show Steps p.tables e below (T23.setTop (mkF m 60 #[.val (.int p0), .val (.int p1), .val (.long q2), .second, .val (.long q3), .second, .val (.long q4), .second, .val (.int p5), .val (.ref b1), .val (.int (0 : Int32)), .val (.int (F8 (p0.toInt64) p0 p1)), .val (.int (F8 (p1.toInt64) p0 p1)), .unset, .unset, .unset, .unset, .unset, .unset, .unset, .unset] [(.int (F8 ((p0.toInt64) - (1 : Int64)) p0 p1))])) _
      refine XS.istore X23.here hx rfl (hb hby at_60) rfl (l' := #[.val (.int p0), .val (.int p1), .val (.long q2), .second, .val (.long q3), .second, .val (.long q4), .second, .val (.int p5), .val (.ref b1), .val (.int (0 : Int32)), .val (.int (F8 (p0.toInt64) p0 p1)), .val (.int (F8 (p1.toInt64) p0 p1)), .val (.int (F8 ((p0.toInt64) - (1 : Int64)) p0 p1)), .unset, .unset, .unset, .unset, .unset, .unset, .unset]) rfl ?_
      show Steps p.tables e below (T23.setTop (mkF m 62 #[.val (.int p0), .val (.int p1), .val (.long q2), .second, .val (.long q3), .second, .val (.long q4), .second, .val (.int p5), .val (.ref b1), .val (.int (0 : Int32)), .val (.int (F8 (p0.toInt64) p0 p1)), .val (.int (F8 (p1.toInt64) p0 p1)), .val (.int (F8 ((p0.toInt64) - (1 : Int64)) p0 p1)), .unset, .unset, .unset, .unset, .unset, .unset, .unset] [])) _
      refine XS.aload X23.here hx rfl (hb hby at_62) rfl rfl ?_
      show Steps p.tables e below (T23.setTop (mkF m 64 #[.val (.int p0), .val (.int p1), .val (.long q2), .second, .val (.long q3), .second, .val (.long q4), .second, .val (.int p5), .val (.ref b1), .val (.int (0 : Int32)), .val (.int (F8 (p0.toInt64) p0 p1)), .val (.int (F8 (p1.toInt64) p0 p1)), .val (.int (F8 ((p0.toInt64) - (1 : Int64)) p0 p1)), .unset, .unset, .unset, .unset, .unset, .unset, .unset] [(.ref b1)])) _
      refine XS.iloadN X23.here hx rfl (hb hby at_64) rfl ?_
      show Steps p.tables e below (T23.setTop (mkF m 65 #[.val (.int p0), .val (.int p1), .val (.long q2), .second, .val (.long q3), .second, .val (.long q4), .second, .val (.int p5), .val (.ref b1), .val (.int (0 : Int32)), .val (.int (F8 (p0.toInt64) p0 p1)), .val (.int (F8 (p1.toInt64) p0 p1)), .val (.int (F8 ((p0.toInt64) - (1 : Int64)) p0 p1)), .unset, .unset, .unset, .unset, .unset, .unset, .unset] [(.int p1), (.ref b1)])) _
      refine XS.i2l X23.here hx rfl (hb hby at_65) rfl ?_
      show Steps p.tables e below (T23.setTop (mkF m 66 #[.val (.int p0), .val (.int p1), .val (.long q2), .second, .val (.long q3), .second, .val (.long q4), .second, .val (.int p5), .val (.ref b1), .val (.int (0 : Int32)), .val (.int (F8 (p0.toInt64) p0 p1)), .val (.int (F8 (p1.toInt64) p0 p1)), .val (.int (F8 ((p0.toInt64) - (1 : Int64)) p0 p1)), .unset, .unset, .unset, .unset, .unset, .unset, .unset] [(.long (p1.toInt64)), (.ref b1)])) _
      refine XS.lconst X23.here hx rfl (hb hby at_66) ?_
      show Steps p.tables e below (T23.setTop (mkF m 67 #[.val (.int p0), .val (.int p1), .val (.long q2), .second, .val (.long q3), .second, .val (.long q4), .second, .val (.int p5), .val (.ref b1), .val (.int (0 : Int32)), .val (.int (F8 (p0.toInt64) p0 p1)), .val (.int (F8 (p1.toInt64) p0 p1)), .val (.int (F8 ((p0.toInt64) - (1 : Int64)) p0 p1)), .unset, .unset, .unset, .unset, .unset, .unset, .unset] [(.long (1 : Int64)), (.long (p1.toInt64)), (.ref b1)])) _
      refine XS.ladd X23.here hx rfl (hb hby at_67) rfl ?_
      show Steps p.tables e below (T23.setTop (mkF m 68 #[.val (.int p0), .val (.int p1), .val (.long q2), .second, .val (.long q3), .second, .val (.long q4), .second, .val (.int p5), .val (.ref b1), .val (.int (0 : Int32)), .val (.int (F8 (p0.toInt64) p0 p1)), .val (.int (F8 (p1.toInt64) p0 p1)), .val (.int (F8 ((p0.toInt64) - (1 : Int64)) p0 p1)), .unset, .unset, .unset, .unset, .unset, .unset, .unset] [(.long ((p1.toInt64) + (1 : Int64))), (.ref b1)])) _
      refine st24.trans ?_
      show Steps p.tables e below (T24.setTop (mkF m 71 #[.val (.int p0), .val (.int p1), .val (.long q2), .second, .val (.long q3), .second, .val (.long q4), .second, .val (.int p5), .val (.ref b1), .val (.int (0 : Int32)), .val (.int (F8 (p0.toInt64) p0 p1)), .val (.int (F8 (p1.toInt64) p0 p1)), .val (.int (F8 ((p0.toInt64) - (1 : Int64)) p0 p1)), .unset, .unset, .unset, .unset, .unset, .unset, .unset] [(.int (F8 ((p1.toInt64) + (1 : Int64)) p0 p1))])) _
      refine XS.istore X24.here hx rfl (hb hby at_71) rfl (l' := #[.val (.int p0), .val (.int p1), .val (.long q2), .second, .val (.long q3), .second, .val (.long q4), .second, .val (.int p5), .val (.ref b1), .val (.int (0 : Int32)), .val (.int (F8 (p0.toInt64) p0 p1)), .val (.int (F8 (p1.toInt64) p0 p1)), .val (.int (F8 ((p0.toInt64) - (1 : Int64)) p0 p1)), .val (.int (F8 ((p1.toInt64) + (1 : Int64)) p0 p1)), .unset, .unset, .unset, .unset, .unset, .unset]) rfl ?_
      show Steps p.tables e below (T24.setTop (mkF m 73 #[.val (.int p0), .val (.int p1), .val (.long q2), .second, .val (.long q3), .second, .val (.long q4), .second, .val (.int p5), .val (.ref b1), .val (.int (0 : Int32)), .val (.int (F8 (p0.toInt64) p0 p1)), .val (.int (F8 (p1.toInt64) p0 p1)), .val (.int (F8 ((p0.toInt64) - (1 : Int64)) p0 p1)), .val (.int (F8 ((p1.toInt64) + (1 : Int64)) p0 p1)), .unset, .unset, .unset, .unset, .unset, .unset] [])) _
      refine XS.aload X24.here hx rfl (hb hby at_73) rfl rfl ?_
      show Steps p.tables e below (T24.setTop (mkF m 75 #[.val (.int p0), .val (.int p1), .val (.long q2), .second, .val (.long q3), .second, .val (.long q4), .second, .val (.int p5), .val (.ref b1), .val (.int (0 : Int32)), .val (.int (F8 (p0.toInt64) p0 p1)), .val (.int (F8 (p1.toInt64) p0 p1)), .val (.int (F8 ((p0.toInt64) - (1 : Int64)) p0 p1)), .val (.int (F8 ((p1.toInt64) + (1 : Int64)) p0 p1)), .unset, .unset, .unset, .unset, .unset, .unset] [(.ref b1)])) _
      refine XS.lloadN X24.here hx rfl (hb hby at_75) rfl ?_
      show Steps p.tables e below (T24.setTop (mkF m 76 #[.val (.int p0), .val (.int p1), .val (.long q2), .second, .val (.long q3), .second, .val (.long q4), .second, .val (.int p5), .val (.ref b1), .val (.int (0 : Int32)), .val (.int (F8 (p0.toInt64) p0 p1)), .val (.int (F8 (p1.toInt64) p0 p1)), .val (.int (F8 ((p0.toInt64) - (1 : Int64)) p0 p1)), .val (.int (F8 ((p1.toInt64) + (1 : Int64)) p0 p1)), .unset, .unset, .unset, .unset, .unset, .unset] [(.long q2), (.ref b1)])) _
      refine st25.trans ?_
      show Steps p.tables e below (T25.setTop (mkF m 79 #[.val (.int p0), .val (.int p1), .val (.long q2), .second, .val (.long q3), .second, .val (.long q4), .second, .val (.int p5), .val (.ref b1), .val (.int (0 : Int32)), .val (.int (F8 (p0.toInt64) p0 p1)), .val (.int (F8 (p1.toInt64) p0 p1)), .val (.int (F8 ((p0.toInt64) - (1 : Int64)) p0 p1)), .val (.int (F8 ((p1.toInt64) + (1 : Int64)) p0 p1)), .unset, .unset, .unset, .unset, .unset, .unset] [(.int (F8 q2 p0 p1))])) _
      refine XS.istore X25.here hx rfl (hb hby at_79) rfl (l' := #[.val (.int p0), .val (.int p1), .val (.long q2), .second, .val (.long q3), .second, .val (.long q4), .second, .val (.int p5), .val (.ref b1), .val (.int (0 : Int32)), .val (.int (F8 (p0.toInt64) p0 p1)), .val (.int (F8 (p1.toInt64) p0 p1)), .val (.int (F8 ((p0.toInt64) - (1 : Int64)) p0 p1)), .val (.int (F8 ((p1.toInt64) + (1 : Int64)) p0 p1)), .val (.int (F8 q2 p0 p1)), .unset, .unset, .unset, .unset, .unset]) rfl ?_
      show Steps p.tables e below (T25.setTop (mkF m 81 #[.val (.int p0), .val (.int p1), .val (.long q2), .second, .val (.long q3), .second, .val (.long q4), .second, .val (.int p5), .val (.ref b1), .val (.int (0 : Int32)), .val (.int (F8 (p0.toInt64) p0 p1)), .val (.int (F8 (p1.toInt64) p0 p1)), .val (.int (F8 ((p0.toInt64) - (1 : Int64)) p0 p1)), .val (.int (F8 ((p1.toInt64) + (1 : Int64)) p0 p1)), .val (.int (F8 q2 p0 p1)), .unset, .unset, .unset, .unset, .unset] [])) _
      refine XS.aload X25.here hx rfl (hb hby at_81) rfl rfl ?_
      show Steps p.tables e below (T25.setTop (mkF m 83 #[.val (.int p0), .val (.int p1), .val (.long q2), .second, .val (.long q3), .second, .val (.long q4), .second, .val (.int p5), .val (.ref b1), .val (.int (0 : Int32)), .val (.int (F8 (p0.toInt64) p0 p1)), .val (.int (F8 (p1.toInt64) p0 p1)), .val (.int (F8 ((p0.toInt64) - (1 : Int64)) p0 p1)), .val (.int (F8 ((p1.toInt64) + (1 : Int64)) p0 p1)), .val (.int (F8 q2 p0 p1)), .unset, .unset, .unset, .unset, .unset] [(.ref b1)])) _
      refine XS.lload X25.here hx rfl (hb hby at_83) rfl ?_
      show Steps p.tables e below (T25.setTop (mkF m 85 #[.val (.int p0), .val (.int p1), .val (.long q2), .second, .val (.long q3), .second, .val (.long q4), .second, .val (.int p5), .val (.ref b1), .val (.int (0 : Int32)), .val (.int (F8 (p0.toInt64) p0 p1)), .val (.int (F8 (p1.toInt64) p0 p1)), .val (.int (F8 ((p0.toInt64) - (1 : Int64)) p0 p1)), .val (.int (F8 ((p1.toInt64) + (1 : Int64)) p0 p1)), .val (.int (F8 q2 p0 p1)), .unset, .unset, .unset, .unset, .unset] [(.long q3), (.ref b1)])) _
      refine st26.trans ?_
      show Steps p.tables e below (T26.setTop (mkF m 88 #[.val (.int p0), .val (.int p1), .val (.long q2), .second, .val (.long q3), .second, .val (.long q4), .second, .val (.int p5), .val (.ref b1), .val (.int (0 : Int32)), .val (.int (F8 (p0.toInt64) p0 p1)), .val (.int (F8 (p1.toInt64) p0 p1)), .val (.int (F8 ((p0.toInt64) - (1 : Int64)) p0 p1)), .val (.int (F8 ((p1.toInt64) + (1 : Int64)) p0 p1)), .val (.int (F8 q2 p0 p1)), .unset, .unset, .unset, .unset, .unset] [(.int (F8 q3 p0 p1))])) _
      refine XS.istore X26.here hx rfl (hb hby at_88) rfl (l' := #[.val (.int p0), .val (.int p1), .val (.long q2), .second, .val (.long q3), .second, .val (.long q4), .second, .val (.int p5), .val (.ref b1), .val (.int (0 : Int32)), .val (.int (F8 (p0.toInt64) p0 p1)), .val (.int (F8 (p1.toInt64) p0 p1)), .val (.int (F8 ((p0.toInt64) - (1 : Int64)) p0 p1)), .val (.int (F8 ((p1.toInt64) + (1 : Int64)) p0 p1)), .val (.int (F8 q2 p0 p1)), .val (.int (F8 q3 p0 p1)), .unset, .unset, .unset, .unset]) rfl ?_
      show Steps p.tables e below (T26.setTop (mkF m 90 #[.val (.int p0), .val (.int p1), .val (.long q2), .second, .val (.long q3), .second, .val (.long q4), .second, .val (.int p5), .val (.ref b1), .val (.int (0 : Int32)), .val (.int (F8 (p0.toInt64) p0 p1)), .val (.int (F8 (p1.toInt64) p0 p1)), .val (.int (F8 ((p0.toInt64) - (1 : Int64)) p0 p1)), .val (.int (F8 ((p1.toInt64) + (1 : Int64)) p0 p1)), .val (.int (F8 q2 p0 p1)), .val (.int (F8 q3 p0 p1)), .unset, .unset, .unset, .unset] [])) _
      refine XS.aload X26.here hx rfl (hb hby at_90) rfl rfl ?_
      show Steps p.tables e below (T26.setTop (mkF m 92 #[.val (.int p0), .val (.int p1), .val (.long q2), .second, .val (.long q3), .second, .val (.long q4), .second, .val (.int p5), .val (.ref b1), .val (.int (0 : Int32)), .val (.int (F8 (p0.toInt64) p0 p1)), .val (.int (F8 (p1.toInt64) p0 p1)), .val (.int (F8 ((p0.toInt64) - (1 : Int64)) p0 p1)), .val (.int (F8 ((p1.toInt64) + (1 : Int64)) p0 p1)), .val (.int (F8 q2 p0 p1)), .val (.int (F8 q3 p0 p1)), .unset, .unset, .unset, .unset] [(.ref b1)])) _
      refine XS.lload X26.here hx rfl (hb hby at_92) rfl ?_
      show Steps p.tables e below (T26.setTop (mkF m 94 #[.val (.int p0), .val (.int p1), .val (.long q2), .second, .val (.long q3), .second, .val (.long q4), .second, .val (.int p5), .val (.ref b1), .val (.int (0 : Int32)), .val (.int (F8 (p0.toInt64) p0 p1)), .val (.int (F8 (p1.toInt64) p0 p1)), .val (.int (F8 ((p0.toInt64) - (1 : Int64)) p0 p1)), .val (.int (F8 ((p1.toInt64) + (1 : Int64)) p0 p1)), .val (.int (F8 q2 p0 p1)), .val (.int (F8 q3 p0 p1)), .unset, .unset, .unset, .unset] [(.long q4), (.ref b1)])) _
      refine st27.trans ?_
      show Steps p.tables e below (T27.setTop (mkF m 97 #[.val (.int p0), .val (.int p1), .val (.long q2), .second, .val (.long q3), .second, .val (.long q4), .second, .val (.int p5), .val (.ref b1), .val (.int (0 : Int32)), .val (.int (F8 (p0.toInt64) p0 p1)), .val (.int (F8 (p1.toInt64) p0 p1)), .val (.int (F8 ((p0.toInt64) - (1 : Int64)) p0 p1)), .val (.int (F8 ((p1.toInt64) + (1 : Int64)) p0 p1)), .val (.int (F8 q2 p0 p1)), .val (.int (F8 q3 p0 p1)), .unset, .unset, .unset, .unset] [(.int (F8 q4 p0 p1))])) _
      refine XS.istore X27.here hx rfl (hb hby at_97) rfl (l' := #[.val (.int p0), .val (.int p1), .val (.long q2), .second, .val (.long q3), .second, .val (.long q4), .second, .val (.int p5), .val (.ref b1), .val (.int (0 : Int32)), .val (.int (F8 (p0.toInt64) p0 p1)), .val (.int (F8 (p1.toInt64) p0 p1)), .val (.int (F8 ((p0.toInt64) - (1 : Int64)) p0 p1)), .val (.int (F8 ((p1.toInt64) + (1 : Int64)) p0 p1)), .val (.int (F8 q2 p0 p1)), .val (.int (F8 q3 p0 p1)), .val (.int (F8 q4 p0 p1)), .unset, .unset, .unset]) rfl ?_
      show Steps p.tables e below (T27.setTop (mkF m 99 #[.val (.int p0), .val (.int p1), .val (.long q2), .second, .val (.long q3), .second, .val (.long q4), .second, .val (.int p5), .val (.ref b1), .val (.int (0 : Int32)), .val (.int (F8 (p0.toInt64) p0 p1)), .val (.int (F8 (p1.toInt64) p0 p1)), .val (.int (F8 ((p0.toInt64) - (1 : Int64)) p0 p1)), .val (.int (F8 ((p1.toInt64) + (1 : Int64)) p0 p1)), .val (.int (F8 q2 p0 p1)), .val (.int (F8 q3 p0 p1)), .val (.int (F8 q4 p0 p1)), .unset, .unset, .unset] [])) _
      refine XS.iload X27.here hx rfl (hb hby at_99) rfl ?_
      show Steps p.tables e below (T27.setTop (mkF m 101 #[.val (.int p0), .val (.int p1), .val (.long q2), .second, .val (.long q3), .second, .val (.long q4), .second, .val (.int p5), .val (.ref b1), .val (.int (0 : Int32)), .val (.int (F8 (p0.toInt64) p0 p1)), .val (.int (F8 (p1.toInt64) p0 p1)), .val (.int (F8 ((p0.toInt64) - (1 : Int64)) p0 p1)), .val (.int (F8 ((p1.toInt64) + (1 : Int64)) p0 p1)), .val (.int (F8 q2 p0 p1)), .val (.int (F8 q3 p0 p1)), .val (.int (F8 q4 p0 p1)), .unset, .unset, .unset] [(.int (F8 (p0.toInt64) p0 p1))])) _
      refine XS.iload X27.here hx rfl (hb hby at_101) rfl ?_
      show Steps p.tables e below (T27.setTop (mkF m 103 #[.val (.int p0), .val (.int p1), .val (.long q2), .second, .val (.long q3), .second, .val (.long q4), .second, .val (.int p5), .val (.ref b1), .val (.int (0 : Int32)), .val (.int (F8 (p0.toInt64) p0 p1)), .val (.int (F8 (p1.toInt64) p0 p1)), .val (.int (F8 ((p0.toInt64) - (1 : Int64)) p0 p1)), .val (.int (F8 ((p1.toInt64) + (1 : Int64)) p0 p1)), .val (.int (F8 q2 p0 p1)), .val (.int (F8 q3 p0 p1)), .val (.int (F8 q4 p0 p1)), .unset, .unset, .unset] [(.int (0 : Int32)), (.int (F8 (p0.toInt64) p0 p1))])) _
      refine XS.icmpNo X27.here hx rfl (hb hby at_103) rfl (teq hc103).2 ?_
      show Steps p.tables e below (T27.setTop (mkF m 106 #[.val (.int p0), .val (.int p1), .val (.long q2), .second, .val (.long q3), .second, .val (.long q4), .second, .val (.int p5), .val (.ref b1), .val (.int (0 : Int32)), .val (.int (F8 (p0.toInt64) p0 p1)), .val (.int (F8 (p1.toInt64) p0 p1)), .val (.int (F8 ((p0.toInt64) - (1 : Int64)) p0 p1)), .val (.int (F8 ((p1.toInt64) + (1 : Int64)) p0 p1)), .val (.int (F8 q2 p0 p1)), .val (.int (F8 q3 p0 p1)), .val (.int (F8 q4 p0 p1)), .unset, .unset, .unset] [])) _
      refine XS.iload X27.here hx rfl (hb hby at_106) rfl ?_
      show Steps p.tables e below (T27.setTop (mkF m 108 #[.val (.int p0), .val (.int p1), .val (.long q2), .second, .val (.long q3), .second, .val (.long q4), .second, .val (.int p5), .val (.ref b1), .val (.int (0 : Int32)), .val (.int (F8 (p0.toInt64) p0 p1)), .val (.int (F8 (p1.toInt64) p0 p1)), .val (.int (F8 ((p0.toInt64) - (1 : Int64)) p0 p1)), .val (.int (F8 ((p1.toInt64) + (1 : Int64)) p0 p1)), .val (.int (F8 q2 p0 p1)), .val (.int (F8 q3 p0 p1)), .val (.int (F8 q4 p0 p1)), .unset, .unset, .unset] [(.int (F8 (p1.toInt64) p0 p1))])) _
      refine XS.iload X27.here hx rfl (hb hby at_108) rfl ?_
      show Steps p.tables e below (T27.setTop (mkF m 110 #[.val (.int p0), .val (.int p1), .val (.long q2), .second, .val (.long q3), .second, .val (.long q4), .second, .val (.int p5), .val (.ref b1), .val (.int (0 : Int32)), .val (.int (F8 (p0.toInt64) p0 p1)), .val (.int (F8 (p1.toInt64) p0 p1)), .val (.int (F8 ((p0.toInt64) - (1 : Int64)) p0 p1)), .val (.int (F8 ((p1.toInt64) + (1 : Int64)) p0 p1)), .val (.int (F8 q2 p0 p1)), .val (.int (F8 q3 p0 p1)), .val (.int (F8 q4 p0 p1)), .unset, .unset, .unset] [(.int (0 : Int32)), (.int (F8 (p1.toInt64) p0 p1))])) _
      refine XS.icmpNo X27.here hx rfl (hb hby at_110) rfl (teq hc110).2 ?_
      show Steps p.tables e below (T27.setTop (mkF m 113 #[.val (.int p0), .val (.int p1), .val (.long q2), .second, .val (.long q3), .second, .val (.long q4), .second, .val (.int p5), .val (.ref b1), .val (.int (0 : Int32)), .val (.int (F8 (p0.toInt64) p0 p1)), .val (.int (F8 (p1.toInt64) p0 p1)), .val (.int (F8 ((p0.toInt64) - (1 : Int64)) p0 p1)), .val (.int (F8 ((p1.toInt64) + (1 : Int64)) p0 p1)), .val (.int (F8 q2 p0 p1)), .val (.int (F8 q3 p0 p1)), .val (.int (F8 q4 p0 p1)), .unset, .unset, .unset] [])) _
      refine XS.iload X27.here hx rfl (hb hby at_113) rfl ?_
      show Steps p.tables e below (T27.setTop (mkF m 115 #[.val (.int p0), .val (.int p1), .val (.long q2), .second, .val (.long q3), .second, .val (.long q4), .second, .val (.int p5), .val (.ref b1), .val (.int (0 : Int32)), .val (.int (F8 (p0.toInt64) p0 p1)), .val (.int (F8 (p1.toInt64) p0 p1)), .val (.int (F8 ((p0.toInt64) - (1 : Int64)) p0 p1)), .val (.int (F8 ((p1.toInt64) + (1 : Int64)) p0 p1)), .val (.int (F8 q2 p0 p1)), .val (.int (F8 q3 p0 p1)), .val (.int (F8 q4 p0 p1)), .unset, .unset, .unset] [(.int (F8 ((p0.toInt64) - (1 : Int64)) p0 p1))])) _
      refine XS.ifNo X27.here hx rfl (hb hby at_115) rfl ((if0 _ _).trans (teq hc115).2) ?_
      show Steps p.tables e below (T27.setTop (mkF m 118 #[.val (.int p0), .val (.int p1), .val (.long q2), .second, .val (.long q3), .second, .val (.long q4), .second, .val (.int p5), .val (.ref b1), .val (.int (0 : Int32)), .val (.int (F8 (p0.toInt64) p0 p1)), .val (.int (F8 (p1.toInt64) p0 p1)), .val (.int (F8 ((p0.toInt64) - (1 : Int64)) p0 p1)), .val (.int (F8 ((p1.toInt64) + (1 : Int64)) p0 p1)), .val (.int (F8 q2 p0 p1)), .val (.int (F8 q3 p0 p1)), .val (.int (F8 q4 p0 p1)), .unset, .unset, .unset] [])) _
      refine XS.iload X27.here hx rfl (hb hby at_118) rfl ?_
      show Steps p.tables e below (T27.setTop (mkF m 120 #[.val (.int p0), .val (.int p1), .val (.long q2), .second, .val (.long q3), .second, .val (.long q4), .second, .val (.int p5), .val (.ref b1), .val (.int (0 : Int32)), .val (.int (F8 (p0.toInt64) p0 p1)), .val (.int (F8 (p1.toInt64) p0 p1)), .val (.int (F8 ((p0.toInt64) - (1 : Int64)) p0 p1)), .val (.int (F8 ((p1.toInt64) + (1 : Int64)) p0 p1)), .val (.int (F8 q2 p0 p1)), .val (.int (F8 q3 p0 p1)), .val (.int (F8 q4 p0 p1)), .unset, .unset, .unset] [(.int (F8 ((p1.toInt64) + (1 : Int64)) p0 p1))])) _
      refine XS.ifNo X27.here hx rfl (hb hby at_120) rfl ((if0 _ _).trans (teq hc120).2) ?_
      show Steps p.tables e below (T27.setTop (mkF m 123 #[.val (.int p0), .val (.int p1), .val (.long q2), .second, .val (.long q3), .second, .val (.long q4), .second, .val (.int p5), .val (.ref b1), .val (.int (0 : Int32)), .val (.int (F8 (p0.toInt64) p0 p1)), .val (.int (F8 (p1.toInt64) p0 p1)), .val (.int (F8 ((p0.toInt64) - (1 : Int64)) p0 p1)), .val (.int (F8 ((p1.toInt64) + (1 : Int64)) p0 p1)), .val (.int (F8 q2 p0 p1)), .val (.int (F8 q3 p0 p1)), .val (.int (F8 q4 p0 p1)), .unset, .unset, .unset] [])) _
      refine XS.iconst X27.here hx rfl (hb hby at_123) ?_
      show Steps p.tables e below (T27.setTop (mkF m 124 #[.val (.int p0), .val (.int p1), .val (.long q2), .second, .val (.long q3), .second, .val (.long q4), .second, .val (.int p5), .val (.ref b1), .val (.int (0 : Int32)), .val (.int (F8 (p0.toInt64) p0 p1)), .val (.int (F8 (p1.toInt64) p0 p1)), .val (.int (F8 ((p0.toInt64) - (1 : Int64)) p0 p1)), .val (.int (F8 ((p1.toInt64) + (1 : Int64)) p0 p1)), .val (.int (F8 q2 p0 p1)), .val (.int (F8 q3 p0 p1)), .val (.int (F8 q4 p0 p1)), .unset, .unset, .unset] [(.int (1 : Int32))])) _
      refine XS.goto X27.here hx rfl (pc0 := 124) (pc' := 128) rfl (hb hby at_124) (by decide) (by decide) ?_
      show Steps p.tables e below (T27.setTop (mkF m 128 #[.val (.int p0), .val (.int p1), .val (.long q2), .second, .val (.long q3), .second, .val (.long q4), .second, .val (.int p5), .val (.ref b1), .val (.int (0 : Int32)), .val (.int (F8 (p0.toInt64) p0 p1)), .val (.int (F8 (p1.toInt64) p0 p1)), .val (.int (F8 ((p0.toInt64) - (1 : Int64)) p0 p1)), .val (.int (F8 ((p1.toInt64) + (1 : Int64)) p0 p1)), .val (.int (F8 q2 p0 p1)), .val (.int (F8 q3 p0 p1)), .val (.int (F8 q4 p0 p1)), .unset, .unset, .unset] [(.int (1 : Int32))])) _
      refine XS.istore X27.here hx rfl (hb hby at_128) rfl (l' := #[.val (.int p0), .val (.int p1), .val (.long q2), .second, .val (.long q3), .second, .val (.long q4), .second, .val (.int p5), .val (.ref b1), .val (.int (0 : Int32)), .val (.int (F8 (p0.toInt64) p0 p1)), .val (.int (F8 (p1.toInt64) p0 p1)), .val (.int (F8 ((p0.toInt64) - (1 : Int64)) p0 p1)), .val (.int (F8 ((p1.toInt64) + (1 : Int64)) p0 p1)), .val (.int (F8 q2 p0 p1)), .val (.int (F8 q3 p0 p1)), .val (.int (F8 q4 p0 p1)), .val (.int (1 : Int32)), .unset, .unset]) rfl ?_
      show Steps p.tables e below (T27.setTop (mkF m 130 #[.val (.int p0), .val (.int p1), .val (.long q2), .second, .val (.long q3), .second, .val (.long q4), .second, .val (.int p5), .val (.ref b1), .val (.int (0 : Int32)), .val (.int (F8 (p0.toInt64) p0 p1)), .val (.int (F8 (p1.toInt64) p0 p1)), .val (.int (F8 ((p0.toInt64) - (1 : Int64)) p0 p1)), .val (.int (F8 ((p1.toInt64) + (1 : Int64)) p0 p1)), .val (.int (F8 q2 p0 p1)), .val (.int (F8 q3 p0 p1)), .val (.int (F8 q4 p0 p1)), .val (.int (1 : Int32)), .unset, .unset] [])) _
      refine XS.iload X27.here hx rfl (hb hby at_130) rfl ?_
      show Steps p.tables e below (T27.setTop (mkF m 132 #[.val (.int p0), .val (.int p1), .val (.long q2), .second, .val (.long q3), .second, .val (.long q4), .second, .val (.int p5), .val (.ref b1), .val (.int (0 : Int32)), .val (.int (F8 (p0.toInt64) p0 p1)), .val (.int (F8 (p1.toInt64) p0 p1)), .val (.int (F8 ((p0.toInt64) - (1 : Int64)) p0 p1)), .val (.int (F8 ((p1.toInt64) + (1 : Int64)) p0 p1)), .val (.int (F8 q2 p0 p1)), .val (.int (F8 q3 p0 p1)), .val (.int (F8 q4 p0 p1)), .val (.int (1 : Int32)), .unset, .unset] [(.int (0 : Int32))])) _
      refine XS.ifNo X27.here hx rfl (hb hby at_132) rfl ((if0 _ _).trans (teq (by decide : (0 : Int32) = (0 : Int32))).2) ?_
      show Steps p.tables e below (T27.setTop (mkF m 135 #[.val (.int p0), .val (.int p1), .val (.long q2), .second, .val (.long q3), .second, .val (.long q4), .second, .val (.int p5), .val (.ref b1), .val (.int (0 : Int32)), .val (.int (F8 (p0.toInt64) p0 p1)), .val (.int (F8 (p1.toInt64) p0 p1)), .val (.int (F8 ((p0.toInt64) - (1 : Int64)) p0 p1)), .val (.int (F8 ((p1.toInt64) + (1 : Int64)) p0 p1)), .val (.int (F8 q2 p0 p1)), .val (.int (F8 q3 p0 p1)), .val (.int (F8 q4 p0 p1)), .val (.int (1 : Int32)), .unset, .unset] [])) _
      refine XS.iload X27.here hx rfl (hb hby at_135) rfl ?_
      show Steps p.tables e below (T27.setTop (mkF m 137 #[.val (.int p0), .val (.int p1), .val (.long q2), .second, .val (.long q3), .second, .val (.long q4), .second, .val (.int p5), .val (.ref b1), .val (.int (0 : Int32)), .val (.int (F8 (p0.toInt64) p0 p1)), .val (.int (F8 (p1.toInt64) p0 p1)), .val (.int (F8 ((p0.toInt64) - (1 : Int64)) p0 p1)), .val (.int (F8 ((p1.toInt64) + (1 : Int64)) p0 p1)), .val (.int (F8 q2 p0 p1)), .val (.int (F8 q3 p0 p1)), .val (.int (F8 q4 p0 p1)), .val (.int (1 : Int32)), .unset, .unset] [(.int (F8 q3 p0 p1))])) _
      refine XS.ifNo X27.here hx rfl (hb hby at_137) rfl ((if0 _ _).trans (teq hc137).2) ?_
      show Steps p.tables e below (T27.setTop (mkF m 140 #[.val (.int p0), .val (.int p1), .val (.long q2), .second, .val (.long q3), .second, .val (.long q4), .second, .val (.int p5), .val (.ref b1), .val (.int (0 : Int32)), .val (.int (F8 (p0.toInt64) p0 p1)), .val (.int (F8 (p1.toInt64) p0 p1)), .val (.int (F8 ((p0.toInt64) - (1 : Int64)) p0 p1)), .val (.int (F8 ((p1.toInt64) + (1 : Int64)) p0 p1)), .val (.int (F8 q2 p0 p1)), .val (.int (F8 q3 p0 p1)), .val (.int (F8 q4 p0 p1)), .val (.int (1 : Int32)), .unset, .unset] [])) _
      refine XS.iconst X27.here hx rfl (hb hby at_140) ?_
      show Steps p.tables e below (T27.setTop (mkF m 141 #[.val (.int p0), .val (.int p1), .val (.long q2), .second, .val (.long q3), .second, .val (.long q4), .second, .val (.int p5), .val (.ref b1), .val (.int (0 : Int32)), .val (.int (F8 (p0.toInt64) p0 p1)), .val (.int (F8 (p1.toInt64) p0 p1)), .val (.int (F8 ((p0.toInt64) - (1 : Int64)) p0 p1)), .val (.int (F8 ((p1.toInt64) + (1 : Int64)) p0 p1)), .val (.int (F8 q2 p0 p1)), .val (.int (F8 q3 p0 p1)), .val (.int (F8 q4 p0 p1)), .val (.int (1 : Int32)), .unset, .unset] [(.int (1 : Int32))])) _
      refine XS.goto X27.here hx rfl (pc0 := 141) (pc' := 145) rfl (hb hby at_141) (by decide) (by decide) ?_
      show Steps p.tables e below (T27.setTop (mkF m 145 #[.val (.int p0), .val (.int p1), .val (.long q2), .second, .val (.long q3), .second, .val (.long q4), .second, .val (.int p5), .val (.ref b1), .val (.int (0 : Int32)), .val (.int (F8 (p0.toInt64) p0 p1)), .val (.int (F8 (p1.toInt64) p0 p1)), .val (.int (F8 ((p0.toInt64) - (1 : Int64)) p0 p1)), .val (.int (F8 ((p1.toInt64) + (1 : Int64)) p0 p1)), .val (.int (F8 q2 p0 p1)), .val (.int (F8 q3 p0 p1)), .val (.int (F8 q4 p0 p1)), .val (.int (1 : Int32)), .unset, .unset] [(.int (1 : Int32))])) _
      refine XS.istore X27.here hx rfl (hb hby at_145) rfl (l' := #[.val (.int p0), .val (.int p1), .val (.long q2), .second, .val (.long q3), .second, .val (.long q4), .second, .val (.int p5), .val (.ref b1), .val (.int (0 : Int32)), .val (.int (F8 (p0.toInt64) p0 p1)), .val (.int (F8 (p1.toInt64) p0 p1)), .val (.int (F8 ((p0.toInt64) - (1 : Int64)) p0 p1)), .val (.int (F8 ((p1.toInt64) + (1 : Int64)) p0 p1)), .val (.int (F8 q2 p0 p1)), .val (.int (F8 q3 p0 p1)), .val (.int (F8 q4 p0 p1)), .val (.int (1 : Int32)), .val (.int (1 : Int32)), .unset]) rfl ?_
      show Steps p.tables e below (T27.setTop (mkF m 147 #[.val (.int p0), .val (.int p1), .val (.long q2), .second, .val (.long q3), .second, .val (.long q4), .second, .val (.int p5), .val (.ref b1), .val (.int (0 : Int32)), .val (.int (F8 (p0.toInt64) p0 p1)), .val (.int (F8 (p1.toInt64) p0 p1)), .val (.int (F8 ((p0.toInt64) - (1 : Int64)) p0 p1)), .val (.int (F8 ((p1.toInt64) + (1 : Int64)) p0 p1)), .val (.int (F8 q2 p0 p1)), .val (.int (F8 q3 p0 p1)), .val (.int (F8 q4 p0 p1)), .val (.int (1 : Int32)), .val (.int (1 : Int32)), .unset] [])) _
      refine XS.iload X27.here hx rfl (hb hby at_147) rfl ?_
      exact k
    by_cases hc149 : (F8 q2 p0 p1) = (0 : Int32)
    · obtain ⟨fs, hr, hrun, hended, hW, hsame⟩ := X27.leave (v := some (.int (1 : Int32))) (fun h => by rw [Bd.returns] at h; cases h) (BodyLoose.notSynchronized Bd)
      refine ⟨_, _, pre28 _ ?_, hrun, hended, _, _, rfl, ?_, ⟨_, rfl⟩, hW, hsame.mono (by decide) (by decide)⟩
      · show Steps p.tables e below (T27.setTop (mkF m 149 #[.val (.int p0), .val (.int p1), .val (.long q2), .second, .val (.long q3), .second, .val (.long q4), .second, .val (.int p5), .val (.ref b1), .val (.int (0 : Int32)), .val (.int (F8 (p0.toInt64) p0 p1)), .val (.int (F8 (p1.toInt64) p0 p1)), .val (.int (F8 ((p0.toInt64) - (1 : Int64)) p0 p1)), .val (.int (F8 ((p1.toInt64) + (1 : Int64)) p0 p1)), .val (.int (F8 q2 p0 p1)), .val (.int (F8 q3 p0 p1)), .val (.int (F8 q4 p0 p1)), .val (.int (1 : Int32)), .val (.int (1 : Int32)), .unset] [(.int (F8 q2 p0 p1))])) _
        refine XS.ifYes X27.here hx rfl (pc0 := 149) (pc' := 173) rfl (hb hby at_149) rfl ((if0 _ _).trans (teq hc149).1) (by decide) (by decide) ?_
        show Steps p.tables e below (T27.setTop (mkF m 173 #[.val (.int p0), .val (.int p1), .val (.long q2), .second, .val (.long q3), .second, .val (.long q4), .second, .val (.int p5), .val (.ref b1), .val (.int (0 : Int32)), .val (.int (F8 (p0.toInt64) p0 p1)), .val (.int (F8 (p1.toInt64) p0 p1)), .val (.int (F8 ((p0.toInt64) - (1 : Int64)) p0 p1)), .val (.int (F8 ((p1.toInt64) + (1 : Int64)) p0 p1)), .val (.int (F8 q2 p0 p1)), .val (.int (F8 q3 p0 p1)), .val (.int (F8 q4 p0 p1)), .val (.int (1 : Int32)), .val (.int (1 : Int32)), .unset] [])) _
        refine XS.iconst X27.here hx rfl (hb hby at_173) ?_
        show Steps p.tables e below (T27.setTop (mkF m 174 #[.val (.int p0), .val (.int p1), .val (.long q2), .second, .val (.long q3), .second, .val (.long q4), .second, .val (.int p5), .val (.ref b1), .val (.int (0 : Int32)), .val (.int (F8 (p0.toInt64) p0 p1)), .val (.int (F8 (p1.toInt64) p0 p1)), .val (.int (F8 ((p0.toInt64) - (1 : Int64)) p0 p1)), .val (.int (F8 ((p1.toInt64) + (1 : Int64)) p0 p1)), .val (.int (F8 q2 p0 p1)), .val (.int (F8 q3 p0 p1)), .val (.int (F8 q4 p0 p1)), .val (.int (1 : Int32)), .val (.int (1 : Int32)), .unset] [(.int (1 : Int32))])) _
        refine XS.goto X27.here hx rfl (pc0 := 174) (pc' := 178) rfl (hb hby at_174) (by decide) (by decide) ?_
        show Steps p.tables e below (T27.setTop (mkF m 178 #[.val (.int p0), .val (.int p1), .val (.long q2), .second, .val (.long q3), .second, .val (.long q4), .second, .val (.int p5), .val (.ref b1), .val (.int (0 : Int32)), .val (.int (F8 (p0.toInt64) p0 p1)), .val (.int (F8 (p1.toInt64) p0 p1)), .val (.int (F8 ((p0.toInt64) - (1 : Int64)) p0 p1)), .val (.int (F8 ((p1.toInt64) + (1 : Int64)) p0 p1)), .val (.int (F8 q2 p0 p1)), .val (.int (F8 q3 p0 p1)), .val (.int (F8 q4 p0 p1)), .val (.int (1 : Int32)), .val (.int (1 : Int32)), .unset] [(.int (1 : Int32))])) _
        refine XS.istore X27.here hx rfl (hb hby at_178) rfl (l' := #[.val (.int p0), .val (.int p1), .val (.long q2), .second, .val (.long q3), .second, .val (.long q4), .second, .val (.int p5), .val (.ref b1), .val (.int (0 : Int32)), .val (.int (F8 (p0.toInt64) p0 p1)), .val (.int (F8 (p1.toInt64) p0 p1)), .val (.int (F8 ((p0.toInt64) - (1 : Int64)) p0 p1)), .val (.int (F8 ((p1.toInt64) + (1 : Int64)) p0 p1)), .val (.int (F8 q2 p0 p1)), .val (.int (F8 q3 p0 p1)), .val (.int (F8 q4 p0 p1)), .val (.int (1 : Int32)), .val (.int (1 : Int32)), .val (.int (1 : Int32))]) rfl ?_
        show Steps p.tables e below (T27.setTop (mkF m 180 #[.val (.int p0), .val (.int p1), .val (.long q2), .second, .val (.long q3), .second, .val (.long q4), .second, .val (.int p5), .val (.ref b1), .val (.int (0 : Int32)), .val (.int (F8 (p0.toInt64) p0 p1)), .val (.int (F8 (p1.toInt64) p0 p1)), .val (.int (F8 ((p0.toInt64) - (1 : Int64)) p0 p1)), .val (.int (F8 ((p1.toInt64) + (1 : Int64)) p0 p1)), .val (.int (F8 q2 p0 p1)), .val (.int (F8 q3 p0 p1)), .val (.int (F8 q4 p0 p1)), .val (.int (1 : Int32)), .val (.int (1 : Int32)), .val (.int (1 : Int32))] [])) _
        refine XS.iload X27.here hx rfl (hb hby at_180) rfl ?_
        show Steps p.tables e below (T27.setTop (mkF m 182 #[.val (.int p0), .val (.int p1), .val (.long q2), .second, .val (.long q3), .second, .val (.long q4), .second, .val (.int p5), .val (.ref b1), .val (.int (0 : Int32)), .val (.int (F8 (p0.toInt64) p0 p1)), .val (.int (F8 (p1.toInt64) p0 p1)), .val (.int (F8 ((p0.toInt64) - (1 : Int64)) p0 p1)), .val (.int (F8 ((p1.toInt64) + (1 : Int64)) p0 p1)), .val (.int (F8 q2 p0 p1)), .val (.int (F8 q3 p0 p1)), .val (.int (F8 q4 p0 p1)), .val (.int (1 : Int32)), .val (.int (1 : Int32)), .val (.int (1 : Int32))] [(.int (1 : Int32))])) _
        refine XS.ifNo X27.here hx rfl (hb hby at_182) rfl ((if0 _ _).trans (feq (by decide : ¬ ((1 : Int32) = (0 : Int32)))).1) ?_
        show Steps p.tables e below (T27.setTop (mkF m 185 #[.val (.int p0), .val (.int p1), .val (.long q2), .second, .val (.long q3), .second, .val (.long q4), .second, .val (.int p5), .val (.ref b1), .val (.int (0 : Int32)), .val (.int (F8 (p0.toInt64) p0 p1)), .val (.int (F8 (p1.toInt64) p0 p1)), .val (.int (F8 ((p0.toInt64) - (1 : Int64)) p0 p1)), .val (.int (F8 ((p1.toInt64) + (1 : Int64)) p0 p1)), .val (.int (F8 q2 p0 p1)), .val (.int (F8 q3 p0 p1)), .val (.int (F8 q4 p0 p1)), .val (.int (1 : Int32)), .val (.int (1 : Int32)), .val (.int (1 : Int32))] [])) _
        refine XS.iload X27.here hx rfl (hb hby at_185) rfl ?_
        show Steps p.tables e below (T27.setTop (mkF m 187 #[.val (.int p0), .val (.int p1), .val (.long q2), .second, .val (.long q3), .second, .val (.long q4), .second, .val (.int p5), .val (.ref b1), .val (.int (0 : Int32)), .val (.int (F8 (p0.toInt64) p0 p1)), .val (.int (F8 (p1.toInt64) p0 p1)), .val (.int (F8 ((p0.toInt64) - (1 : Int64)) p0 p1)), .val (.int (F8 ((p1.toInt64) + (1 : Int64)) p0 p1)), .val (.int (F8 q2 p0 p1)), .val (.int (F8 q3 p0 p1)), .val (.int (F8 q4 p0 p1)), .val (.int (1 : Int32)), .val (.int (1 : Int32)), .val (.int (1 : Int32))] [(.int (1 : Int32))])) _
        refine XS.ifNo X27.here hx rfl (hb hby at_187) rfl ((if0 _ _).trans (feq (by decide : ¬ ((1 : Int32) = (0 : Int32)))).1) ?_
        show Steps p.tables e below (T27.setTop (mkF m 190 #[.val (.int p0), .val (.int p1), .val (.long q2), .second, .val (.long q3), .second, .val (.long q4), .second, .val (.int p5), .val (.ref b1), .val (.int (0 : Int32)), .val (.int (F8 (p0.toInt64) p0 p1)), .val (.int (F8 (p1.toInt64) p0 p1)), .val (.int (F8 ((p0.toInt64) - (1 : Int64)) p0 p1)), .val (.int (F8 ((p1.toInt64) + (1 : Int64)) p0 p1)), .val (.int (F8 q2 p0 p1)), .val (.int (F8 q3 p0 p1)), .val (.int (F8 q4 p0 p1)), .val (.int (1 : Int32)), .val (.int (1 : Int32)), .val (.int (1 : Int32))] [])) _
        refine XS.iload X27.here hx rfl (hb hby at_190) rfl ?_
        show Steps p.tables e below (T27.setTop (mkF m 192 #[.val (.int p0), .val (.int p1), .val (.long q2), .second, .val (.long q3), .second, .val (.long q4), .second, .val (.int p5), .val (.ref b1), .val (.int (0 : Int32)), .val (.int (F8 (p0.toInt64) p0 p1)), .val (.int (F8 (p1.toInt64) p0 p1)), .val (.int (F8 ((p0.toInt64) - (1 : Int64)) p0 p1)), .val (.int (F8 ((p1.toInt64) + (1 : Int64)) p0 p1)), .val (.int (F8 q2 p0 p1)), .val (.int (F8 q3 p0 p1)), .val (.int (F8 q4 p0 p1)), .val (.int (1 : Int32)), .val (.int (1 : Int32)), .val (.int (1 : Int32))] [(.int (1 : Int32))])) _
        refine XS.ifNo X27.here hx rfl (hb hby at_192) rfl ((if0 _ _).trans (feq (by decide : ¬ ((1 : Int32) = (0 : Int32)))).1) ?_
        show Steps p.tables e below (T27.setTop (mkF m 195 #[.val (.int p0), .val (.int p1), .val (.long q2), .second, .val (.long q3), .second, .val (.long q4), .second, .val (.int p5), .val (.ref b1), .val (.int (0 : Int32)), .val (.int (F8 (p0.toInt64) p0 p1)), .val (.int (F8 (p1.toInt64) p0 p1)), .val (.int (F8 ((p0.toInt64) - (1 : Int64)) p0 p1)), .val (.int (F8 ((p1.toInt64) + (1 : Int64)) p0 p1)), .val (.int (F8 q2 p0 p1)), .val (.int (F8 q3 p0 p1)), .val (.int (F8 q4 p0 p1)), .val (.int (1 : Int32)), .val (.int (1 : Int32)), .val (.int (1 : Int32))] [])) _
        refine XS.iconst X27.here hx rfl (hb hby at_195) ?_
        show Steps p.tables e below (T27.setTop (mkF m 196 #[.val (.int p0), .val (.int p1), .val (.long q2), .second, .val (.long q3), .second, .val (.long q4), .second, .val (.int p5), .val (.ref b1), .val (.int (0 : Int32)), .val (.int (F8 (p0.toInt64) p0 p1)), .val (.int (F8 (p1.toInt64) p0 p1)), .val (.int (F8 ((p0.toInt64) - (1 : Int64)) p0 p1)), .val (.int (F8 ((p1.toInt64) + (1 : Int64)) p0 p1)), .val (.int (F8 q2 p0 p1)), .val (.int (F8 q3 p0 p1)), .val (.int (F8 q4 p0 p1)), .val (.int (1 : Int32)), .val (.int (1 : Int32)), .val (.int (1 : Int32))] [(.int (1 : Int32))])) _
        refine XS.goto X27.here hx rfl (pc0 := 196) (pc' := 200) rfl (hb hby at_196) (by decide) (by decide) ?_
        show Steps p.tables e below (T27.setTop (mkF m 200 #[.val (.int p0), .val (.int p1), .val (.long q2), .second, .val (.long q3), .second, .val (.long q4), .second, .val (.int p5), .val (.ref b1), .val (.int (0 : Int32)), .val (.int (F8 (p0.toInt64) p0 p1)), .val (.int (F8 (p1.toInt64) p0 p1)), .val (.int (F8 ((p0.toInt64) - (1 : Int64)) p0 p1)), .val (.int (F8 ((p1.toInt64) + (1 : Int64)) p0 p1)), .val (.int (F8 q2 p0 p1)), .val (.int (F8 q3 p0 p1)), .val (.int (F8 q4 p0 p1)), .val (.int (1 : Int32)), .val (.int (1 : Int32)), .val (.int (1 : Int32))] [(.int (1 : Int32))])) _
        exact retN X27 hx (t := .boolean) Bd.returns (by simp) (hb hby at_200) hr
      · show Q0 Z p0 p1 q2 q3 q4 p5 w_COMPACT_STRINGS h0 n0 _ T27.heap _
        rw [e27]
        exact ⟨rfl, N27⟩
    · have pre29 : ∀ t, Steps p.tables e below (T27.setTop (mkF m 154 #[.val (.int p0), .val (.int p1), .val (.long q2), .second, .val (.long q3), .second, .val (.long q4), .second, .val (.int p5), .val (.ref b1), .val (.int (0 : Int32)), .val (.int (F8 (p0.toInt64) p0 p1)), .val (.int (F8 (p1.toInt64) p0 p1)), .val (.int (F8 ((p0.toInt64) - (1 : Int64)) p0 p1)), .val (.int (F8 ((p1.toInt64) + (1 : Int64)) p0 p1)), .val (.int (F8 q2 p0 p1)), .val (.int (F8 q3 p0 p1)), .val (.int (F8 q4 p0 p1)), .val (.int (1 : Int32)), .val (.int (1 : Int32)), .unset] [(.int (F8 q4 p0 p1))])) t → Steps p.tables e below (s₁.setTop (entryFrame m #[(.int p0), (.int p1), (.long q2), (.long q3), (.long q4), (.int p5)] maxLocals)) t := fun t k => by
        refine pre28 t ?_
        show Steps p.tables e below (T27.setTop (mkF m 149 #[.val (.int p0), .val (.int p1), .val (.long q2), .second, .val (.long q3), .second, .val (.long q4), .second, .val (.int p5), .val (.ref b1), .val (.int (0 : Int32)), .val (.int (F8 (p0.toInt64) p0 p1)), .val (.int (F8 (p1.toInt64) p0 p1)), .val (.int (F8 ((p0.toInt64) - (1 : Int64)) p0 p1)), .val (.int (F8 ((p1.toInt64) + (1 : Int64)) p0 p1)), .val (.int (F8 q2 p0 p1)), .val (.int (F8 q3 p0 p1)), .val (.int (F8 q4 p0 p1)), .val (.int (1 : Int32)), .val (.int (1 : Int32)), .unset] [(.int (F8 q2 p0 p1))])) _
        refine XS.ifNo X27.here hx rfl (hb hby at_149) rfl ((if0 _ _).trans (feq hc149).1) ?_
        show Steps p.tables e below (T27.setTop (mkF m 152 #[.val (.int p0), .val (.int p1), .val (.long q2), .second, .val (.long q3), .second, .val (.long q4), .second, .val (.int p5), .val (.ref b1), .val (.int (0 : Int32)), .val (.int (F8 (p0.toInt64) p0 p1)), .val (.int (F8 (p1.toInt64) p0 p1)), .val (.int (F8 ((p0.toInt64) - (1 : Int64)) p0 p1)), .val (.int (F8 ((p1.toInt64) + (1 : Int64)) p0 p1)), .val (.int (F8 q2 p0 p1)), .val (.int (F8 q3 p0 p1)), .val (.int (F8 q4 p0 p1)), .val (.int (1 : Int32)), .val (.int (1 : Int32)), .unset] [])) _
        refine XS.iload X27.here hx rfl (hb hby at_152) rfl ?_
        exact k
      by_cases hc154 : (F8 q4 p0 p1) = (0 : Int32)
      · obtain ⟨fs, hr, hrun, hended, hW, hsame⟩ := X27.leave (v := some (.int (1 : Int32))) (fun h => by rw [Bd.returns] at h; cases h) (BodyLoose.notSynchronized Bd)
        refine ⟨_, _, pre29 _ ?_, hrun, hended, _, _, rfl, ?_, ⟨_, rfl⟩, hW, hsame.mono (by decide) (by decide)⟩
        · show Steps p.tables e below (T27.setTop (mkF m 154 #[.val (.int p0), .val (.int p1), .val (.long q2), .second, .val (.long q3), .second, .val (.long q4), .second, .val (.int p5), .val (.ref b1), .val (.int (0 : Int32)), .val (.int (F8 (p0.toInt64) p0 p1)), .val (.int (F8 (p1.toInt64) p0 p1)), .val (.int (F8 ((p0.toInt64) - (1 : Int64)) p0 p1)), .val (.int (F8 ((p1.toInt64) + (1 : Int64)) p0 p1)), .val (.int (F8 q2 p0 p1)), .val (.int (F8 q3 p0 p1)), .val (.int (F8 q4 p0 p1)), .val (.int (1 : Int32)), .val (.int (1 : Int32)), .unset] [(.int (F8 q4 p0 p1))])) _
          refine XS.ifYes X27.here hx rfl (pc0 := 154) (pc' := 173) rfl (hb hby at_154) rfl ((if0 _ _).trans (teq hc154).1) (by decide) (by decide) ?_
          show Steps p.tables e below (T27.setTop (mkF m 173 #[.val (.int p0), .val (.int p1), .val (.long q2), .second, .val (.long q3), .second, .val (.long q4), .second, .val (.int p5), .val (.ref b1), .val (.int (0 : Int32)), .val (.int (F8 (p0.toInt64) p0 p1)), .val (.int (F8 (p1.toInt64) p0 p1)), .val (.int (F8 ((p0.toInt64) - (1 : Int64)) p0 p1)), .val (.int (F8 ((p1.toInt64) + (1 : Int64)) p0 p1)), .val (.int (F8 q2 p0 p1)), .val (.int (F8 q3 p0 p1)), .val (.int (F8 q4 p0 p1)), .val (.int (1 : Int32)), .val (.int (1 : Int32)), .unset] [])) _
          refine XS.iconst X27.here hx rfl (hb hby at_173) ?_
          show Steps p.tables e below (T27.setTop (mkF m 174 #[.val (.int p0), .val (.int p1), .val (.long q2), .second, .val (.long q3), .second, .val (.long q4), .second, .val (.int p5), .val (.ref b1), .val (.int (0 : Int32)), .val (.int (F8 (p0.toInt64) p0 p1)), .val (.int (F8 (p1.toInt64) p0 p1)), .val (.int (F8 ((p0.toInt64) - (1 : Int64)) p0 p1)), .val (.int (F8 ((p1.toInt64) + (1 : Int64)) p0 p1)), .val (.int (F8 q2 p0 p1)), .val (.int (F8 q3 p0 p1)), .val (.int (F8 q4 p0 p1)), .val (.int (1 : Int32)), .val (.int (1 : Int32)), .unset] [(.int (1 : Int32))])) _
          refine XS.goto X27.here hx rfl (pc0 := 174) (pc' := 178) rfl (hb hby at_174) (by decide) (by decide) ?_
          show Steps p.tables e below (T27.setTop (mkF m 178 #[.val (.int p0), .val (.int p1), .val (.long q2), .second, .val (.long q3), .second, .val (.long q4), .second, .val (.int p5), .val (.ref b1), .val (.int (0 : Int32)), .val (.int (F8 (p0.toInt64) p0 p1)), .val (.int (F8 (p1.toInt64) p0 p1)), .val (.int (F8 ((p0.toInt64) - (1 : Int64)) p0 p1)), .val (.int (F8 ((p1.toInt64) + (1 : Int64)) p0 p1)), .val (.int (F8 q2 p0 p1)), .val (.int (F8 q3 p0 p1)), .val (.int (F8 q4 p0 p1)), .val (.int (1 : Int32)), .val (.int (1 : Int32)), .unset] [(.int (1 : Int32))])) _
          refine XS.istore X27.here hx rfl (hb hby at_178) rfl (l' := #[.val (.int p0), .val (.int p1), .val (.long q2), .second, .val (.long q3), .second, .val (.long q4), .second, .val (.int p5), .val (.ref b1), .val (.int (0 : Int32)), .val (.int (F8 (p0.toInt64) p0 p1)), .val (.int (F8 (p1.toInt64) p0 p1)), .val (.int (F8 ((p0.toInt64) - (1 : Int64)) p0 p1)), .val (.int (F8 ((p1.toInt64) + (1 : Int64)) p0 p1)), .val (.int (F8 q2 p0 p1)), .val (.int (F8 q3 p0 p1)), .val (.int (F8 q4 p0 p1)), .val (.int (1 : Int32)), .val (.int (1 : Int32)), .val (.int (1 : Int32))]) rfl ?_
          show Steps p.tables e below (T27.setTop (mkF m 180 #[.val (.int p0), .val (.int p1), .val (.long q2), .second, .val (.long q3), .second, .val (.long q4), .second, .val (.int p5), .val (.ref b1), .val (.int (0 : Int32)), .val (.int (F8 (p0.toInt64) p0 p1)), .val (.int (F8 (p1.toInt64) p0 p1)), .val (.int (F8 ((p0.toInt64) - (1 : Int64)) p0 p1)), .val (.int (F8 ((p1.toInt64) + (1 : Int64)) p0 p1)), .val (.int (F8 q2 p0 p1)), .val (.int (F8 q3 p0 p1)), .val (.int (F8 q4 p0 p1)), .val (.int (1 : Int32)), .val (.int (1 : Int32)), .val (.int (1 : Int32))] [])) _
          refine XS.iload X27.here hx rfl (hb hby at_180) rfl ?_
          show Steps p.tables e below (T27.setTop (mkF m 182 #[.val (.int p0), .val (.int p1), .val (.long q2), .second, .val (.long q3), .second, .val (.long q4), .second, .val (.int p5), .val (.ref b1), .val (.int (0 : Int32)), .val (.int (F8 (p0.toInt64) p0 p1)), .val (.int (F8 (p1.toInt64) p0 p1)), .val (.int (F8 ((p0.toInt64) - (1 : Int64)) p0 p1)), .val (.int (F8 ((p1.toInt64) + (1 : Int64)) p0 p1)), .val (.int (F8 q2 p0 p1)), .val (.int (F8 q3 p0 p1)), .val (.int (F8 q4 p0 p1)), .val (.int (1 : Int32)), .val (.int (1 : Int32)), .val (.int (1 : Int32))] [(.int (1 : Int32))])) _
          refine XS.ifNo X27.here hx rfl (hb hby at_182) rfl ((if0 _ _).trans (feq (by decide : ¬ ((1 : Int32) = (0 : Int32)))).1) ?_
          show Steps p.tables e below (T27.setTop (mkF m 185 #[.val (.int p0), .val (.int p1), .val (.long q2), .second, .val (.long q3), .second, .val (.long q4), .second, .val (.int p5), .val (.ref b1), .val (.int (0 : Int32)), .val (.int (F8 (p0.toInt64) p0 p1)), .val (.int (F8 (p1.toInt64) p0 p1)), .val (.int (F8 ((p0.toInt64) - (1 : Int64)) p0 p1)), .val (.int (F8 ((p1.toInt64) + (1 : Int64)) p0 p1)), .val (.int (F8 q2 p0 p1)), .val (.int (F8 q3 p0 p1)), .val (.int (F8 q4 p0 p1)), .val (.int (1 : Int32)), .val (.int (1 : Int32)), .val (.int (1 : Int32))] [])) _
          refine XS.iload X27.here hx rfl (hb hby at_185) rfl ?_
          show Steps p.tables e below (T27.setTop (mkF m 187 #[.val (.int p0), .val (.int p1), .val (.long q2), .second, .val (.long q3), .second, .val (.long q4), .second, .val (.int p5), .val (.ref b1), .val (.int (0 : Int32)), .val (.int (F8 (p0.toInt64) p0 p1)), .val (.int (F8 (p1.toInt64) p0 p1)), .val (.int (F8 ((p0.toInt64) - (1 : Int64)) p0 p1)), .val (.int (F8 ((p1.toInt64) + (1 : Int64)) p0 p1)), .val (.int (F8 q2 p0 p1)), .val (.int (F8 q3 p0 p1)), .val (.int (F8 q4 p0 p1)), .val (.int (1 : Int32)), .val (.int (1 : Int32)), .val (.int (1 : Int32))] [(.int (1 : Int32))])) _
          refine XS.ifNo X27.here hx rfl (hb hby at_187) rfl ((if0 _ _).trans (feq (by decide : ¬ ((1 : Int32) = (0 : Int32)))).1) ?_
          show Steps p.tables e below (T27.setTop (mkF m 190 #[.val (.int p0), .val (.int p1), .val (.long q2), .second, .val (.long q3), .second, .val (.long q4), .second, .val (.int p5), .val (.ref b1), .val (.int (0 : Int32)), .val (.int (F8 (p0.toInt64) p0 p1)), .val (.int (F8 (p1.toInt64) p0 p1)), .val (.int (F8 ((p0.toInt64) - (1 : Int64)) p0 p1)), .val (.int (F8 ((p1.toInt64) + (1 : Int64)) p0 p1)), .val (.int (F8 q2 p0 p1)), .val (.int (F8 q3 p0 p1)), .val (.int (F8 q4 p0 p1)), .val (.int (1 : Int32)), .val (.int (1 : Int32)), .val (.int (1 : Int32))] [])) _
          refine XS.iload X27.here hx rfl (hb hby at_190) rfl ?_
          show Steps p.tables e below (T27.setTop (mkF m 192 #[.val (.int p0), .val (.int p1), .val (.long q2), .second, .val (.long q3), .second, .val (.long q4), .second, .val (.int p5), .val (.ref b1), .val (.int (0 : Int32)), .val (.int (F8 (p0.toInt64) p0 p1)), .val (.int (F8 (p1.toInt64) p0 p1)), .val (.int (F8 ((p0.toInt64) - (1 : Int64)) p0 p1)), .val (.int (F8 ((p1.toInt64) + (1 : Int64)) p0 p1)), .val (.int (F8 q2 p0 p1)), .val (.int (F8 q3 p0 p1)), .val (.int (F8 q4 p0 p1)), .val (.int (1 : Int32)), .val (.int (1 : Int32)), .val (.int (1 : Int32))] [(.int (1 : Int32))])) _
          refine XS.ifNo X27.here hx rfl (hb hby at_192) rfl ((if0 _ _).trans (feq (by decide : ¬ ((1 : Int32) = (0 : Int32)))).1) ?_
          show Steps p.tables e below (T27.setTop (mkF m 195 #[.val (.int p0), .val (.int p1), .val (.long q2), .second, .val (.long q3), .second, .val (.long q4), .second, .val (.int p5), .val (.ref b1), .val (.int (0 : Int32)), .val (.int (F8 (p0.toInt64) p0 p1)), .val (.int (F8 (p1.toInt64) p0 p1)), .val (.int (F8 ((p0.toInt64) - (1 : Int64)) p0 p1)), .val (.int (F8 ((p1.toInt64) + (1 : Int64)) p0 p1)), .val (.int (F8 q2 p0 p1)), .val (.int (F8 q3 p0 p1)), .val (.int (F8 q4 p0 p1)), .val (.int (1 : Int32)), .val (.int (1 : Int32)), .val (.int (1 : Int32))] [])) _
          refine XS.iconst X27.here hx rfl (hb hby at_195) ?_
          show Steps p.tables e below (T27.setTop (mkF m 196 #[.val (.int p0), .val (.int p1), .val (.long q2), .second, .val (.long q3), .second, .val (.long q4), .second, .val (.int p5), .val (.ref b1), .val (.int (0 : Int32)), .val (.int (F8 (p0.toInt64) p0 p1)), .val (.int (F8 (p1.toInt64) p0 p1)), .val (.int (F8 ((p0.toInt64) - (1 : Int64)) p0 p1)), .val (.int (F8 ((p1.toInt64) + (1 : Int64)) p0 p1)), .val (.int (F8 q2 p0 p1)), .val (.int (F8 q3 p0 p1)), .val (.int (F8 q4 p0 p1)), .val (.int (1 : Int32)), .val (.int (1 : Int32)), .val (.int (1 : Int32))] [(.int (1 : Int32))])) _
          refine XS.goto X27.here hx rfl (pc0 := 196) (pc' := 200) rfl (hb hby at_196) (by decide) (by decide) ?_
          show Steps p.tables e below (T27.setTop (mkF m 200 #[.val (.int p0), .val (.int p1), .val (.long q2), .second, .val (.long q3), .second, .val (.long q4), .second, .val (.int p5), .val (.ref b1), .val (.int (0 : Int32)), .val (.int (F8 (p0.toInt64) p0 p1)), .val (.int (F8 (p1.toInt64) p0 p1)), .val (.int (F8 ((p0.toInt64) - (1 : Int64)) p0 p1)), .val (.int (F8 ((p1.toInt64) + (1 : Int64)) p0 p1)), .val (.int (F8 q2 p0 p1)), .val (.int (F8 q3 p0 p1)), .val (.int (F8 q4 p0 p1)), .val (.int (1 : Int32)), .val (.int (1 : Int32)), .val (.int (1 : Int32))] [(.int (1 : Int32))])) _
          exact retN X27 hx (t := .boolean) Bd.returns (by simp) (hb hby at_200) hr
        · show Q0 Z p0 p1 q2 q3 q4 p5 w_COMPACT_STRINGS h0 n0 _ T27.heap _
          rw [e27]
          exact ⟨rfl, N27⟩
      · obtain ⟨_, _, ⟨T30, L30, k30, n30⟩, -, X30, ⟨Lc30, hQ30, l30, y30, z30⟩, st30⟩ := Jvm.LawKit.callS X27 hx (y := (⟨"com/example/hawser/hawser/text/RangeContainsPinLaw", "between", "(JJJ)Z"⟩ : MethodName)) hown (mvT hZ (hw _ (List.mem_of_getElem? (i := 49) rfl))) (mvT hZ (hw _ (List.mem_of_getElem? (i := 50) rfl))) (mvT hZ (hw _ (List.mem_of_getElem? (i := 51) rfl))) (mvT hZ (hw _ (List.mem_of_getElem? (i := 52) rfl))) (by decide) (backOf (W := 0) (rm9 l Z a0 hw [] q3 q2 q4 T14.heap n0 Z14) hZ (hw _ (List.mem_of_getElem? (i := 52) rfl)) (hw _ (List.mem_of_getElem? (i := 51) rfl)) (by decide) (by decide)) (g := (mkF m 162 #[.val (.int p0), .val (.int p1), .val (.long q2), .second, .val (.long q3), .second, .val (.long q4), .second, .val (.int p5), .val (.ref b1), .val (.int (0 : Int32)), .val (.int (F8 (p0.toInt64) p0 p1)), .val (.int (F8 (p1.toInt64) p0 p1)), .val (.int (F8 ((p0.toInt64) - (1 : Int64)) p0 p1)), .val (.int (F8 ((p1.toInt64) + (1 : Int64)) p0 p1)), .val (.int (F8 q2 p0 p1)), .val (.int (F8 q3 p0 p1)), .val (.int (F8 q4 p0 p1)), .val (.int (1 : Int32)), .val (.int (1 : Int32)), .unset] [(.long q4), (.long q2), (.long q3)])) rfl (by rw [hml]; rfl) (argsL := [(.long q3), (.long q2), (.long q4)]) (rest := []) (lenOf pd_7 rfl) rfl (by show 2 * 0 + _ ≤ _; exact Nat.le_of_eq rfl) (hb hby at_162) (fun _ _ => ⟨rfl, e27, (by decide : 3 + 0 ≤ _), (by decide : 8 + 0 ≤ _)⟩)
        dsimp only [Pt.U, Pt.locs, Pt.cells, Pt.slots] at X30 l30 y30 z30 st30 hQ30
        subst l30 y30 z30
        obtain ⟨rfl, N30q, e30⟩ := hQ30
        have N30 := Fr.app N27 N30q
        have pre31 : ∀ t, Steps p.tables e below (T30.setTop (mkF m 165 #[.val (.int p0), .val (.int p1), .val (.long q2), .second, .val (.long q3), .second, .val (.long q4), .second, .val (.int p5), .val (.ref b1), .val (.int (0 : Int32)), .val (.int (F8 (p0.toInt64) p0 p1)), .val (.int (F8 (p1.toInt64) p0 p1)), .val (.int (F8 ((p0.toInt64) - (1 : Int64)) p0 p1)), .val (.int (F8 ((p1.toInt64) + (1 : Int64)) p0 p1)), .val (.int (F8 q2 p0 p1)), .val (.int (F8 q3 p0 p1)), .val (.int (F8 q4 p0 p1)), .val (.int (1 : Int32)), .val (.int (1 : Int32)), .unset] [(.int (F9 q3 q2 q4))])) t → Steps p.tables e below (s₁.setTop (entryFrame m #[(.int p0), (.int p1), (.long q2), (.long q3), (.long q4), (.int p5)] maxLocals)) t := fun t k => by
          refine pre29 t ?_
          show Steps p.tables e below (T27.setTop (mkF m 154 #[.val (.int p0), .val (.int p1), .val (.long q2), .second, .val (.long q3), .second, .val (.long q4), .second, .val (.int p5), .val (.ref b1), .val (.int (0 : Int32)), .val (.int (F8 (p0.toInt64) p0 p1)), .val (.int (F8 (p1.toInt64) p0 p1)), .val (.int (F8 ((p0.toInt64) - (1 : Int64)) p0 p1)), .val (.int (F8 ((p1.toInt64) + (1 : Int64)) p0 p1)), .val (.int (F8 q2 p0 p1)), .val (.int (F8 q3 p0 p1)), .val (.int (F8 q4 p0 p1)), .val (.int (1 : Int32)), .val (.int (1 : Int32)), .unset] [(.int (F8 q4 p0 p1))])) _
          refine XS.ifNo X27.here hx rfl (hb hby at_154) rfl ((if0 _ _).trans (feq hc154).1) ?_
          show Steps p.tables e below (T27.setTop (mkF m 157 #[.val (.int p0), .val (.int p1), .val (.long q2), .second, .val (.long q3), .second, .val (.long q4), .second, .val (.int p5), .val (.ref b1), .val (.int (0 : Int32)), .val (.int (F8 (p0.toInt64) p0 p1)), .val (.int (F8 (p1.toInt64) p0 p1)), .val (.int (F8 ((p0.toInt64) - (1 : Int64)) p0 p1)), .val (.int (F8 ((p1.toInt64) + (1 : Int64)) p0 p1)), .val (.int (F8 q2 p0 p1)), .val (.int (F8 q3 p0 p1)), .val (.int (F8 q4 p0 p1)), .val (.int (1 : Int32)), .val (.int (1 : Int32)), .unset] [])) _
          refine XS.lload X27.here hx rfl (hb hby at_157) rfl ?_
          show Steps p.tables e below (T27.setTop (mkF m 159 #[.val (.int p0), .val (.int p1), .val (.long q2), .second, .val (.long q3), .second, .val (.long q4), .second, .val (.int p5), .val (.ref b1), .val (.int (0 : Int32)), .val (.int (F8 (p0.toInt64) p0 p1)), .val (.int (F8 (p1.toInt64) p0 p1)), .val (.int (F8 ((p0.toInt64) - (1 : Int64)) p0 p1)), .val (.int (F8 ((p1.toInt64) + (1 : Int64)) p0 p1)), .val (.int (F8 q2 p0 p1)), .val (.int (F8 q3 p0 p1)), .val (.int (F8 q4 p0 p1)), .val (.int (1 : Int32)), .val (.int (1 : Int32)), .unset] [(.long q3)])) _
          refine XS.lloadN X27.here hx rfl (hb hby at_159) rfl ?_
          show Steps p.tables e below (T27.setTop (mkF m 160 #[.val (.int p0), .val (.int p1), .val (.long q2), .second, .val (.long q3), .second, .val (.long q4), .second, .val (.int p5), .val (.ref b1), .val (.int (0 : Int32)), .val (.int (F8 (p0.toInt64) p0 p1)), .val (.int (F8 (p1.toInt64) p0 p1)), .val (.int (F8 ((p0.toInt64) - (1 : Int64)) p0 p1)), .val (.int (F8 ((p1.toInt64) + (1 : Int64)) p0 p1)), .val (.int (F8 q2 p0 p1)), .val (.int (F8 q3 p0 p1)), .val (.int (F8 q4 p0 p1)), .val (.int (1 : Int32)), .val (.int (1 : Int32)), .unset] [(.long q2), (.long q3)])) _
          refine XS.lload X27.here hx rfl (hb hby at_160) rfl ?_
          show Steps p.tables e below (T27.setTop (mkF m 162 #[.val (.int p0), .val (.int p1), .val (.long q2), .second, .val (.long q3), .second, .val (.long q4), .second, .val (.int p5), .val (.ref b1), .val (.int (0 : Int32)), .val (.int (F8 (p0.toInt64) p0 p1)), .val (.int (F8 (p1.toInt64) p0 p1)), .val (.int (F8 ((p0.toInt64) - (1 : Int64)) p0 p1)), .val (.int (F8 ((p1.toInt64) + (1 : Int64)) p0 p1)), .val (.int (F8 q2 p0 p1)), .val (.int (F8 q3 p0 p1)), .val (.int (F8 q4 p0 p1)), .val (.int (1 : Int32)), .val (.int (1 : Int32)), .unset] [(.long q4), (.long q2), (.long q3)])) _
          refine st30 _ ?_
          exact k
        by_cases hc165 : (F9 q3 q2 q4) = (0 : Int32)
        · obtain ⟨fs, hr, hrun, hended, hW, hsame⟩ := X30.leave (v := some (.int (1 : Int32))) (fun h => by rw [Bd.returns] at h; cases h) (BodyLoose.notSynchronized Bd)
          refine ⟨_, _, pre31 _ ?_, hrun, hended, _, _, rfl, ?_, ⟨_, rfl⟩, hW, hsame.mono (by decide) (by decide)⟩
          · show Steps p.tables e below (T30.setTop (mkF m 165 #[.val (.int p0), .val (.int p1), .val (.long q2), .second, .val (.long q3), .second, .val (.long q4), .second, .val (.int p5), .val (.ref b1), .val (.int (0 : Int32)), .val (.int (F8 (p0.toInt64) p0 p1)), .val (.int (F8 (p1.toInt64) p0 p1)), .val (.int (F8 ((p0.toInt64) - (1 : Int64)) p0 p1)), .val (.int (F8 ((p1.toInt64) + (1 : Int64)) p0 p1)), .val (.int (F8 q2 p0 p1)), .val (.int (F8 q3 p0 p1)), .val (.int (F8 q4 p0 p1)), .val (.int (1 : Int32)), .val (.int (1 : Int32)), .unset] [(.int (F9 q3 q2 q4))])) _
            refine XS.ifYes X30.here hx rfl (pc0 := 165) (pc' := 173) rfl (hb hby at_165) rfl ((if0 _ _).trans (teq hc165).1) (by decide) (by decide) ?_
            show Steps p.tables e below (T30.setTop (mkF m 173 #[.val (.int p0), .val (.int p1), .val (.long q2), .second, .val (.long q3), .second, .val (.long q4), .second, .val (.int p5), .val (.ref b1), .val (.int (0 : Int32)), .val (.int (F8 (p0.toInt64) p0 p1)), .val (.int (F8 (p1.toInt64) p0 p1)), .val (.int (F8 ((p0.toInt64) - (1 : Int64)) p0 p1)), .val (.int (F8 ((p1.toInt64) + (1 : Int64)) p0 p1)), .val (.int (F8 q2 p0 p1)), .val (.int (F8 q3 p0 p1)), .val (.int (F8 q4 p0 p1)), .val (.int (1 : Int32)), .val (.int (1 : Int32)), .unset] [])) _
            refine XS.iconst X30.here hx rfl (hb hby at_173) ?_
            show Steps p.tables e below (T30.setTop (mkF m 174 #[.val (.int p0), .val (.int p1), .val (.long q2), .second, .val (.long q3), .second, .val (.long q4), .second, .val (.int p5), .val (.ref b1), .val (.int (0 : Int32)), .val (.int (F8 (p0.toInt64) p0 p1)), .val (.int (F8 (p1.toInt64) p0 p1)), .val (.int (F8 ((p0.toInt64) - (1 : Int64)) p0 p1)), .val (.int (F8 ((p1.toInt64) + (1 : Int64)) p0 p1)), .val (.int (F8 q2 p0 p1)), .val (.int (F8 q3 p0 p1)), .val (.int (F8 q4 p0 p1)), .val (.int (1 : Int32)), .val (.int (1 : Int32)), .unset] [(.int (1 : Int32))])) _
            refine XS.goto X30.here hx rfl (pc0 := 174) (pc' := 178) rfl (hb hby at_174) (by decide) (by decide) ?_
            show Steps p.tables e below (T30.setTop (mkF m 178 #[.val (.int p0), .val (.int p1), .val (.long q2), .second, .val (.long q3), .second, .val (.long q4), .second, .val (.int p5), .val (.ref b1), .val (.int (0 : Int32)), .val (.int (F8 (p0.toInt64) p0 p1)), .val (.int (F8 (p1.toInt64) p0 p1)), .val (.int (F8 ((p0.toInt64) - (1 : Int64)) p0 p1)), .val (.int (F8 ((p1.toInt64) + (1 : Int64)) p0 p1)), .val (.int (F8 q2 p0 p1)), .val (.int (F8 q3 p0 p1)), .val (.int (F8 q4 p0 p1)), .val (.int (1 : Int32)), .val (.int (1 : Int32)), .unset] [(.int (1 : Int32))])) _
            refine XS.istore X30.here hx rfl (hb hby at_178) rfl (l' := #[.val (.int p0), .val (.int p1), .val (.long q2), .second, .val (.long q3), .second, .val (.long q4), .second, .val (.int p5), .val (.ref b1), .val (.int (0 : Int32)), .val (.int (F8 (p0.toInt64) p0 p1)), .val (.int (F8 (p1.toInt64) p0 p1)), .val (.int (F8 ((p0.toInt64) - (1 : Int64)) p0 p1)), .val (.int (F8 ((p1.toInt64) + (1 : Int64)) p0 p1)), .val (.int (F8 q2 p0 p1)), .val (.int (F8 q3 p0 p1)), .val (.int (F8 q4 p0 p1)), .val (.int (1 : Int32)), .val (.int (1 : Int32)), .val (.int (1 : Int32))]) rfl ?_
            show Steps p.tables e below (T30.setTop (mkF m 180 #[.val (.int p0), .val (.int p1), .val (.long q2), .second, .val (.long q3), .second, .val (.long q4), .second, .val (.int p5), .val (.ref b1), .val (.int (0 : Int32)), .val (.int (F8 (p0.toInt64) p0 p1)), .val (.int (F8 (p1.toInt64) p0 p1)), .val (.int (F8 ((p0.toInt64) - (1 : Int64)) p0 p1)), .val (.int (F8 ((p1.toInt64) + (1 : Int64)) p0 p1)), .val (.int (F8 q2 p0 p1)), .val (.int (F8 q3 p0 p1)), .val (.int (F8 q4 p0 p1)), .val (.int (1 : Int32)), .val (.int (1 : Int32)), .val (.int (1 : Int32))] [])) _
            refine XS.iload X30.here hx rfl (hb hby at_180) rfl ?_
            show Steps p.tables e below (T30.setTop (mkF m 182 #[.val (.int p0), .val (.int p1), .val (.long q2), .second, .val (.long q3), .second, .val (.long q4), .second, .val (.int p5), .val (.ref b1), .val (.int (0 : Int32)), .val (.int (F8 (p0.toInt64) p0 p1)), .val (.int (F8 (p1.toInt64) p0 p1)), .val (.int (F8 ((p0.toInt64) - (1 : Int64)) p0 p1)), .val (.int (F8 ((p1.toInt64) + (1 : Int64)) p0 p1)), .val (.int (F8 q2 p0 p1)), .val (.int (F8 q3 p0 p1)), .val (.int (F8 q4 p0 p1)), .val (.int (1 : Int32)), .val (.int (1 : Int32)), .val (.int (1 : Int32))] [(.int (1 : Int32))])) _
            refine XS.ifNo X30.here hx rfl (hb hby at_182) rfl ((if0 _ _).trans (feq (by decide : ¬ ((1 : Int32) = (0 : Int32)))).1) ?_
            show Steps p.tables e below (T30.setTop (mkF m 185 #[.val (.int p0), .val (.int p1), .val (.long q2), .second, .val (.long q3), .second, .val (.long q4), .second, .val (.int p5), .val (.ref b1), .val (.int (0 : Int32)), .val (.int (F8 (p0.toInt64) p0 p1)), .val (.int (F8 (p1.toInt64) p0 p1)), .val (.int (F8 ((p0.toInt64) - (1 : Int64)) p0 p1)), .val (.int (F8 ((p1.toInt64) + (1 : Int64)) p0 p1)), .val (.int (F8 q2 p0 p1)), .val (.int (F8 q3 p0 p1)), .val (.int (F8 q4 p0 p1)), .val (.int (1 : Int32)), .val (.int (1 : Int32)), .val (.int (1 : Int32))] [])) _
            refine XS.iload X30.here hx rfl (hb hby at_185) rfl ?_
            show Steps p.tables e below (T30.setTop (mkF m 187 #[.val (.int p0), .val (.int p1), .val (.long q2), .second, .val (.long q3), .second, .val (.long q4), .second, .val (.int p5), .val (.ref b1), .val (.int (0 : Int32)), .val (.int (F8 (p0.toInt64) p0 p1)), .val (.int (F8 (p1.toInt64) p0 p1)), .val (.int (F8 ((p0.toInt64) - (1 : Int64)) p0 p1)), .val (.int (F8 ((p1.toInt64) + (1 : Int64)) p0 p1)), .val (.int (F8 q2 p0 p1)), .val (.int (F8 q3 p0 p1)), .val (.int (F8 q4 p0 p1)), .val (.int (1 : Int32)), .val (.int (1 : Int32)), .val (.int (1 : Int32))] [(.int (1 : Int32))])) _
            refine XS.ifNo X30.here hx rfl (hb hby at_187) rfl ((if0 _ _).trans (feq (by decide : ¬ ((1 : Int32) = (0 : Int32)))).1) ?_
            show Steps p.tables e below (T30.setTop (mkF m 190 #[.val (.int p0), .val (.int p1), .val (.long q2), .second, .val (.long q3), .second, .val (.long q4), .second, .val (.int p5), .val (.ref b1), .val (.int (0 : Int32)), .val (.int (F8 (p0.toInt64) p0 p1)), .val (.int (F8 (p1.toInt64) p0 p1)), .val (.int (F8 ((p0.toInt64) - (1 : Int64)) p0 p1)), .val (.int (F8 ((p1.toInt64) + (1 : Int64)) p0 p1)), .val (.int (F8 q2 p0 p1)), .val (.int (F8 q3 p0 p1)), .val (.int (F8 q4 p0 p1)), .val (.int (1 : Int32)), .val (.int (1 : Int32)), .val (.int (1 : Int32))] [])) _
            refine XS.iload X30.here hx rfl (hb hby at_190) rfl ?_
            show Steps p.tables e below (T30.setTop (mkF m 192 #[.val (.int p0), .val (.int p1), .val (.long q2), .second, .val (.long q3), .second, .val (.long q4), .second, .val (.int p5), .val (.ref b1), .val (.int (0 : Int32)), .val (.int (F8 (p0.toInt64) p0 p1)), .val (.int (F8 (p1.toInt64) p0 p1)), .val (.int (F8 ((p0.toInt64) - (1 : Int64)) p0 p1)), .val (.int (F8 ((p1.toInt64) + (1 : Int64)) p0 p1)), .val (.int (F8 q2 p0 p1)), .val (.int (F8 q3 p0 p1)), .val (.int (F8 q4 p0 p1)), .val (.int (1 : Int32)), .val (.int (1 : Int32)), .val (.int (1 : Int32))] [(.int (1 : Int32))])) _
            refine XS.ifNo X30.here hx rfl (hb hby at_192) rfl ((if0 _ _).trans (feq (by decide : ¬ ((1 : Int32) = (0 : Int32)))).1) ?_
            show Steps p.tables e below (T30.setTop (mkF m 195 #[.val (.int p0), .val (.int p1), .val (.long q2), .second, .val (.long q3), .second, .val (.long q4), .second, .val (.int p5), .val (.ref b1), .val (.int (0 : Int32)), .val (.int (F8 (p0.toInt64) p0 p1)), .val (.int (F8 (p1.toInt64) p0 p1)), .val (.int (F8 ((p0.toInt64) - (1 : Int64)) p0 p1)), .val (.int (F8 ((p1.toInt64) + (1 : Int64)) p0 p1)), .val (.int (F8 q2 p0 p1)), .val (.int (F8 q3 p0 p1)), .val (.int (F8 q4 p0 p1)), .val (.int (1 : Int32)), .val (.int (1 : Int32)), .val (.int (1 : Int32))] [])) _
            refine XS.iconst X30.here hx rfl (hb hby at_195) ?_
            show Steps p.tables e below (T30.setTop (mkF m 196 #[.val (.int p0), .val (.int p1), .val (.long q2), .second, .val (.long q3), .second, .val (.long q4), .second, .val (.int p5), .val (.ref b1), .val (.int (0 : Int32)), .val (.int (F8 (p0.toInt64) p0 p1)), .val (.int (F8 (p1.toInt64) p0 p1)), .val (.int (F8 ((p0.toInt64) - (1 : Int64)) p0 p1)), .val (.int (F8 ((p1.toInt64) + (1 : Int64)) p0 p1)), .val (.int (F8 q2 p0 p1)), .val (.int (F8 q3 p0 p1)), .val (.int (F8 q4 p0 p1)), .val (.int (1 : Int32)), .val (.int (1 : Int32)), .val (.int (1 : Int32))] [(.int (1 : Int32))])) _
            refine XS.goto X30.here hx rfl (pc0 := 196) (pc' := 200) rfl (hb hby at_196) (by decide) (by decide) ?_
            show Steps p.tables e below (T30.setTop (mkF m 200 #[.val (.int p0), .val (.int p1), .val (.long q2), .second, .val (.long q3), .second, .val (.long q4), .second, .val (.int p5), .val (.ref b1), .val (.int (0 : Int32)), .val (.int (F8 (p0.toInt64) p0 p1)), .val (.int (F8 (p1.toInt64) p0 p1)), .val (.int (F8 ((p0.toInt64) - (1 : Int64)) p0 p1)), .val (.int (F8 ((p1.toInt64) + (1 : Int64)) p0 p1)), .val (.int (F8 q2 p0 p1)), .val (.int (F8 q3 p0 p1)), .val (.int (F8 q4 p0 p1)), .val (.int (1 : Int32)), .val (.int (1 : Int32)), .val (.int (1 : Int32))] [(.int (1 : Int32))])) _
            exact retN X30 hx (t := .boolean) Bd.returns (by simp) (hb hby at_200) hr
          · show Q0 Z p0 p1 q2 q3 q4 p5 w_COMPACT_STRINGS h0 n0 _ T30.heap _
            rw [e30]
            exact ⟨rfl, N30⟩
        · exact absurd hc137 (own_conv hc149 hc154 hc165)
  · obtain ⟨cq32, kq32, q32a, q32b, q32c⟩ := isOf hZ rfl G15
    obtain ⟨_, _, ⟨T32, L32, k32, n32⟩, -, X32, ⟨Lc32, hQ32, l32, y32, z32⟩, st32⟩ := X14.virtualBack hx (y := (⟨"com/example/hawser/hawser/text/Range", "contains", "(J)Z"⟩ : MethodName)) (z := (⟨"com/example/hawser/hawser/text/Range", "contains", "(J)Z"⟩ : MethodName)) hown (mvT hZ (hw _ (List.mem_of_getElem? (i := 44) rfl))) (mvT hZ (hw _ (List.mem_of_getElem? (i := 45) rfl))) (notFace_of_selects (args := #[]) (mvT hZ (hw _ (List.mem_of_getElem? (i := 47) rfl)))) (mvT hZ (hw _ (List.mem_of_getElem? (i := 47) rfl))) (mvT hZ (hw _ (List.mem_of_getElem? (i := 46) rfl))) (by decide) (backOf (W := 0) (rm8 l Z a0 hw [] b1 (p0.toInt64) p0 p1 T14.heap n0 Z14 G16 G17) hZ (hw _ (List.mem_of_getElem? (i := 48) rfl)) (hw _ (List.mem_of_getElem? (i := 2) rfl)) (by decide) (by decide)) q32a q32c (g := (mkF m 37 #[.val (.int p0), .val (.int p1), .val (.long q2), .second, .val (.long q3), .second, .val (.long q4), .second, .val (.int p5), .val (.ref b1), .val (.int (1 : Int32)), .unset, .unset, .unset, .unset, .unset, .unset, .unset, .unset, .unset, .unset] [(.long (p0.toInt64)), (.ref b1)])) rfl (by rw [hml]; rfl) (Steps.refl _) (argsL := [(.long (p0.toInt64))]) (rest := []) (lenOf pd_6 rfl) rfl (by show 2 * 0 + _ ≤ _; exact Nat.le_of_eq rfl) (hb hby at_37) (fun _ _ => ⟨rfl, rfl, (by decide : 3 + 0 ≤ _), (by decide : 8 + 0 ≤ _)⟩)
    dsimp only [Pt.U, Pt.locs, Pt.cells, Pt.slots] at X32 l32 y32 z32 st32 hQ32
    subst l32 y32 z32
    obtain ⟨rfl, N32q, e32⟩ := hQ32
    have N32 := Fr.app N14 N32q
    obtain ⟨cq33, kq33, q33a, q33b, q33c⟩ := isOf hZ e32 G15
    obtain ⟨_, _, ⟨T33, L33, k33, n33⟩, -, X33, ⟨Lc33, hQ33, l33, y33, z33⟩, st33⟩ := X32.virtualBack hx (y := (⟨"com/example/hawser/hawser/text/Range", "contains", "(J)Z"⟩ : MethodName)) (z := (⟨"com/example/hawser/hawser/text/Range", "contains", "(J)Z"⟩ : MethodName)) hown (mvT hZ (hw _ (List.mem_of_getElem? (i := 44) rfl))) (mvT hZ (hw _ (List.mem_of_getElem? (i := 45) rfl))) (notFace_of_selects (args := #[]) (mvT hZ (hw _ (List.mem_of_getElem? (i := 47) rfl)))) (mvT hZ (hw _ (List.mem_of_getElem? (i := 47) rfl))) (mvT hZ (hw _ (List.mem_of_getElem? (i := 46) rfl))) (by decide) (backOf (W := 0) (rm8 l Z a0 hw [] b1 (p1.toInt64) p0 p1 T14.heap n0 Z14 G16 G17) hZ (hw _ (List.mem_of_getElem? (i := 48) rfl)) (hw _ (List.mem_of_getElem? (i := 2) rfl)) (by decide) (by decide)) q33a q33c (g := (mkF m 46 #[.val (.int p0), .val (.int p1), .val (.long q2), .second, .val (.long q3), .second, .val (.long q4), .second, .val (.int p5), .val (.ref b1), .val (.int (1 : Int32)), .val (.int (F8 (p0.toInt64) p0 p1)), .unset, .unset, .unset, .unset, .unset, .unset, .unset, .unset, .unset] [(.long (p1.toInt64)), (.ref b1)])) rfl (by rw [hml]; rfl) (Steps.refl _) (argsL := [(.long (p1.toInt64))]) (rest := []) (lenOf pd_6 rfl) rfl (by show 2 * 0 + _ ≤ _; exact Nat.le_of_eq rfl) (hb hby at_46) (fun _ _ => ⟨rfl, e32, (by decide : 3 + 0 ≤ _), (by decide : 8 + 0 ≤ _)⟩)
    dsimp only [Pt.U, Pt.locs, Pt.cells, Pt.slots] at X33 l33 y33 z33 st33 hQ33
    subst l33 y33 z33
    obtain ⟨rfl, N33q, e33⟩ := hQ33
    have N33 := Fr.app N32 N33q
    obtain ⟨cq34, kq34, q34a, q34b, q34c⟩ := isOf hZ e33 G15
    obtain ⟨_, _, ⟨T34, L34, k34, n34⟩, -, X34, ⟨Lc34, hQ34, l34, y34, z34⟩, st34⟩ := X33.virtualBack hx (y := (⟨"com/example/hawser/hawser/text/Range", "contains", "(J)Z"⟩ : MethodName)) (z := (⟨"com/example/hawser/hawser/text/Range", "contains", "(J)Z"⟩ : MethodName)) hown (mvT hZ (hw _ (List.mem_of_getElem? (i := 44) rfl))) (mvT hZ (hw _ (List.mem_of_getElem? (i := 45) rfl))) (notFace_of_selects (args := #[]) (mvT hZ (hw _ (List.mem_of_getElem? (i := 47) rfl)))) (mvT hZ (hw _ (List.mem_of_getElem? (i := 47) rfl))) (mvT hZ (hw _ (List.mem_of_getElem? (i := 46) rfl))) (by decide) (backOf (W := 0) (rm8 l Z a0 hw [] b1 ((p0.toInt64) - (1 : Int64)) p0 p1 T14.heap n0 Z14 G16 G17) hZ (hw _ (List.mem_of_getElem? (i := 48) rfl)) (hw _ (List.mem_of_getElem? (i := 2) rfl)) (by decide) (by decide)) q34a q34c (g := (mkF m 57 #[.val (.int p0), .val (.int p1), .val (.long q2), .second, .val (.long q3), .second, .val (.long q4), .second, .val (.int p5), .val (.ref b1), .val (.int (1 : Int32)), .val (.int (F8 (p0.toInt64) p0 p1)), .val (.int (F8 (p1.toInt64) p0 p1)), .unset, .unset, .unset, .unset, .unset, .unset, .unset, .unset] [(.long ((p0.toInt64) - (1 : Int64))), (.ref b1)])) rfl (by rw [hml]; rfl) (Steps.refl _) (argsL := [(.long ((p0.toInt64) - (1 : Int64)))]) (rest := []) (lenOf pd_6 rfl) rfl (by show 2 * 0 + _ ≤ _; exact Nat.le_of_eq rfl) (hb hby at_57) (fun _ _ => ⟨rfl, e33, (by decide : 3 + 0 ≤ _), (by decide : 8 + 0 ≤ _)⟩)
    dsimp only [Pt.U, Pt.locs, Pt.cells, Pt.slots] at X34 l34 y34 z34 st34 hQ34
    subst l34 y34 z34
    obtain ⟨rfl, N34q, e34⟩ := hQ34
    have N34 := Fr.app N33 N34q
    obtain ⟨cq35, kq35, q35a, q35b, q35c⟩ := isOf hZ e34 G15
    obtain ⟨_, _, ⟨T35, L35, k35, n35⟩, -, X35, ⟨Lc35, hQ35, l35, y35, z35⟩, st35⟩ := X34.virtualBack hx (y := (⟨"com/example/hawser/hawser/text/Range", "contains", "(J)Z"⟩ : MethodName)) (z := (⟨"com/example/hawser/hawser/text/Range", "contains", "(J)Z"⟩ : MethodName)) hown (mvT hZ (hw _ (List.mem_of_getElem? (i := 44) rfl))) (mvT hZ (hw _ (List.mem_of_getElem? (i := 45) rfl))) (notFace_of_selects (args := #[]) (mvT hZ (hw _ (List.mem_of_getElem? (i := 47) rfl)))) (mvT hZ (hw _ (List.mem_of_getElem? (i := 47) rfl))) (mvT hZ (hw _ (List.mem_of_getElem? (i := 46) rfl))) (by decide) (backOf (W := 0) (rm8 l Z a0 hw [] b1 ((p1.toInt64) + (1 : Int64)) p0 p1 T14.heap n0 Z14 G16 G17) hZ (hw _ (List.mem_of_getElem? (i := 48) rfl)) (hw _ (List.mem_of_getElem? (i := 2) rfl)) (by decide) (by decide)) q35a q35c (g := (mkF m 68 #[.val (.int p0), .val (.int p1), .val (.long q2), .second, .val (.long q3), .second, .val (.long q4), .second, .val (.int p5), .val (.ref b1), .val (.int (1 : Int32)), .val (.int (F8 (p0.toInt64) p0 p1)), .val (.int (F8 (p1.toInt64) p0 p1)), .val (.int (F8 ((p0.toInt64) - (1 : Int64)) p0 p1)), .unset, .unset, .unset, .unset, .unset, .unset, .unset] [(.long ((p1.toInt64) + (1 : Int64))), (.ref b1)])) rfl (by rw [hml]; rfl) (Steps.refl _) (argsL := [(.long ((p1.toInt64) + (1 : Int64)))]) (rest := []) (lenOf pd_6 rfl) rfl (by show 2 * 0 + _ ≤ _; exact Nat.le_of_eq rfl) (hb hby at_68) (fun _ _ => ⟨rfl, e34, (by decide : 3 + 0 ≤ _), (by decide : 8 + 0 ≤ _)⟩)
    dsimp only [Pt.U, Pt.locs, Pt.cells, Pt.slots] at X35 l35 y35 z35 st35 hQ35
    subst l35 y35 z35
    obtain ⟨rfl, N35q, e35⟩ := hQ35
    have N35 := Fr.app N34 N35q
    obtain ⟨cq36, kq36, q36a, q36b, q36c⟩ := isOf hZ e35 G15
    obtain ⟨_, _, ⟨T36, L36, k36, n36⟩, -, X36, ⟨Lc36, hQ36, l36, y36, z36⟩, st36⟩ := X35.virtualBack hx (y := (⟨"com/example/hawser/hawser/text/Range", "contains", "(J)Z"⟩ : MethodName)) (z := (⟨"com/example/hawser/hawser/text/Range", "contains", "(J)Z"⟩ : MethodName)) hown (mvT hZ (hw _ (List.mem_of_getElem? (i := 44) rfl))) (mvT hZ (hw _ (List.mem_of_getElem? (i := 45) rfl))) (notFace_of_selects (args := #[]) (mvT hZ (hw _ (List.mem_of_getElem? (i := 47) rfl)))) (mvT hZ (hw _ (List.mem_of_getElem? (i := 47) rfl))) (mvT hZ (hw _ (List.mem_of_getElem? (i := 46) rfl))) (by decide) (backOf (W := 0) (rm8 l Z a0 hw [] b1 q2 p0 p1 T14.heap n0 Z14 G16 G17) hZ (hw _ (List.mem_of_getElem? (i := 48) rfl)) (hw _ (List.mem_of_getElem? (i := 2) rfl)) (by decide) (by decide)) q36a q36c (g := (mkF m 76 #[.val (.int p0), .val (.int p1), .val (.long q2), .second, .val (.long q3), .second, .val (.long q4), .second, .val (.int p5), .val (.ref b1), .val (.int (1 : Int32)), .val (.int (F8 (p0.toInt64) p0 p1)), .val (.int (F8 (p1.toInt64) p0 p1)), .val (.int (F8 ((p0.toInt64) - (1 : Int64)) p0 p1)), .val (.int (F8 ((p1.toInt64) + (1 : Int64)) p0 p1)), .unset, .unset, .unset, .unset, .unset, .unset] [(.long q2), (.ref b1)])) rfl (by rw [hml]; rfl) (Steps.refl _) (argsL := [(.long q2)]) (rest := []) (lenOf pd_6 rfl) rfl (by show 2 * 0 + _ ≤ _; exact Nat.le_of_eq rfl) (hb hby at_76) (fun _ _ => ⟨rfl, e35, (by decide : 3 + 0 ≤ _), (by decide : 8 + 0 ≤ _)⟩)
    dsimp only [Pt.U, Pt.locs, Pt.cells, Pt.slots] at X36 l36 y36 z36 st36 hQ36
    subst l36 y36 z36
    obtain ⟨rfl, N36q, e36⟩ := hQ36
    have N36 := Fr.app N35 N36q
    obtain ⟨cq37, kq37, q37a, q37b, q37c⟩ := isOf hZ e36 G15
    obtain ⟨_, _, ⟨T37, L37, k37, n37⟩, -, X37, ⟨Lc37, hQ37, l37, y37, z37⟩, st37⟩ := X36.virtualBack hx (y := (⟨"com/example/hawser/hawser/text/Range", "contains", "(J)Z"⟩ : MethodName)) (z := (⟨"com/example/hawser/hawser/text/Range", "contains", "(J)Z"⟩ : MethodName)) hown (mvT hZ (hw _ (List.mem_of_getElem? (i := 44) rfl))) (mvT hZ (hw _ (List.mem_of_getElem? (i := 45) rfl))) (notFace_of_selects (args := #[]) (mvT hZ (hw _ (List.mem_of_getElem? (i := 47) rfl)))) (mvT hZ (hw _ (List.mem_of_getElem? (i := 47) rfl))) (mvT hZ (hw _ (List.mem_of_getElem? (i := 46) rfl))) (by decide) (backOf (W := 0) (rm8 l Z a0 hw [] b1 q3 p0 p1 T14.heap n0 Z14 G16 G17) hZ (hw _ (List.mem_of_getElem? (i := 48) rfl)) (hw _ (List.mem_of_getElem? (i := 2) rfl)) (by decide) (by decide)) q37a q37c (g := (mkF m 85 #[.val (.int p0), .val (.int p1), .val (.long q2), .second, .val (.long q3), .second, .val (.long q4), .second, .val (.int p5), .val (.ref b1), .val (.int (1 : Int32)), .val (.int (F8 (p0.toInt64) p0 p1)), .val (.int (F8 (p1.toInt64) p0 p1)), .val (.int (F8 ((p0.toInt64) - (1 : Int64)) p0 p1)), .val (.int (F8 ((p1.toInt64) + (1 : Int64)) p0 p1)), .val (.int (F8 q2 p0 p1)), .unset, .unset, .unset, .unset, .unset] [(.long q3), (.ref b1)])) rfl (by rw [hml]; rfl) (Steps.refl _) (argsL := [(.long q3)]) (rest := []) (lenOf pd_6 rfl) rfl (by show 2 * 0 + _ ≤ _; exact Nat.le_of_eq rfl) (hb hby at_85) (fun _ _ => ⟨rfl, e36, (by decide : 3 + 0 ≤ _), (by decide : 8 + 0 ≤ _)⟩)
    dsimp only [Pt.U, Pt.locs, Pt.cells, Pt.slots] at X37 l37 y37 z37 st37 hQ37
    subst l37 y37 z37
    obtain ⟨rfl, N37q, e37⟩ := hQ37
    have N37 := Fr.app N36 N37q
    obtain ⟨cq38, kq38, q38a, q38b, q38c⟩ := isOf hZ e37 G15
    obtain ⟨_, _, ⟨T38, L38, k38, n38⟩, -, X38, ⟨Lc38, hQ38, l38, y38, z38⟩, st38⟩ := X37.virtualBack hx (y := (⟨"com/example/hawser/hawser/text/Range", "contains", "(J)Z"⟩ : MethodName)) (z := (⟨"com/example/hawser/hawser/text/Range", "contains", "(J)Z"⟩ : MethodName)) hown (mvT hZ (hw _ (List.mem_of_getElem? (i := 44) rfl))) (mvT hZ (hw _ (List.mem_of_getElem? (i := 45) rfl))) (notFace_of_selects (args := #[]) (mvT hZ (hw _ (List.mem_of_getElem? (i := 47) rfl)))) (mvT hZ (hw _ (List.mem_of_getElem? (i := 47) rfl))) (mvT hZ (hw _ (List.mem_of_getElem? (i := 46) rfl))) (by decide) (backOf (W := 0) (rm8 l Z a0 hw [] b1 q4 p0 p1 T14.heap n0 Z14 G16 G17) hZ (hw _ (List.mem_of_getElem? (i := 48) rfl)) (hw _ (List.mem_of_getElem? (i := 2) rfl)) (by decide) (by decide)) q38a q38c (g := (mkF m 94 #[.val (.int p0), .val (.int p1), .val (.long q2), .second, .val (.long q3), .second, .val (.long q4), .second, .val (.int p5), .val (.ref b1), .val (.int (1 : Int32)), .val (.int (F8 (p0.toInt64) p0 p1)), .val (.int (F8 (p1.toInt64) p0 p1)), .val (.int (F8 ((p0.toInt64) - (1 : Int64)) p0 p1)), .val (.int (F8 ((p1.toInt64) + (1 : Int64)) p0 p1)), .val (.int (F8 q2 p0 p1)), .val (.int (F8 q3 p0 p1)), .unset, .unset, .unset, .unset] [(.long q4), (.ref b1)])) rfl (by rw [hml]; rfl) (Steps.refl _) (argsL := [(.long q4)]) (rest := []) (lenOf pd_6 rfl) rfl (by show 2 * 0 + _ ≤ _; exact Nat.le_of_eq rfl) (hb hby at_94) (fun _ _ => ⟨rfl, e37, (by decide : 3 + 0 ≤ _), (by decide : 8 + 0 ≤ _)⟩)
    dsimp only [Pt.U, Pt.locs, Pt.cells, Pt.slots] at X38 l38 y38 z38 st38 hQ38
    subst l38 y38 z38
    obtain ⟨rfl, N38q, e38⟩ := hQ38
    have N38 := Fr.app N37 N38q
    have hc103 : (F8 (p0.toInt64) p0 p1) = (1 : Int32) := own_in (by rw [Jvm.Kit.i64_of_i32]; have q := hc23; rw [Int32.lt_iff_toInt_lt] at q; omega)
    have hc110 : (F8 (p1.toInt64) p0 p1) = (1 : Int32) := own_in (by rw [Jvm.Kit.i64_of_i32]; have q := hc23; rw [Int32.lt_iff_toInt_lt] at q; omega)
    have hc115 : (F8 ((p0.toInt64) - (1 : Int64)) p0 p1) = (0 : Int32) := own_out (by rw [own_dec]; omega)
    have hc120 : (F8 ((p1.toInt64) + (1 : Int64)) p0 p1) = (0 : Int32) := own_out (by rw [own_inc]; omega)
    have pre39 : ∀ t, Steps p.tables e below (T38.setTop (mkF m 149 #[.val (.int p0), .val (.int p1), .val (.long q2), .second, .val (.long q3), .second, .val (.long q4), .second, .val (.int p5), .val (.ref b1), .val (.int (1 : Int32)), .val (.int (F8 (p0.toInt64) p0 p1)), .val (.int (F8 (p1.toInt64) p0 p1)), .val (.int (F8 ((p0.toInt64) - (1 : Int64)) p0 p1)), .val (.int (F8 ((p1.toInt64) + (1 : Int64)) p0 p1)), .val (.int (F8 q2 p0 p1)), .val (.int (F8 q3 p0 p1)), .val (.int (F8 q4 p0 p1)), .val (.int (1 : Int32)), .val (.int (1 : Int32)), .unset] [(.int (F8 q2 p0 p1))])) t → Steps p.tables e below (s₁.setTop (entryFrame m #[(.int p0), (.int p1), (.long q2), (.long q3), (.long q4), (.int p5)] maxLocals)) t := fun t k => by
      refine pre20 t ?_
      show Steps p.tables e below (T14.setTop (mkF m 23 #[.val (.int p0), .val (.int p1), .val (.long q2), .second, .val (.long q3), .second, .val (.long q4), .second, .val (.int p5), .val (.ref b1), .unset, .unset, .unset, .unset, .unset, .unset, .unset, .unset, .unset, .unset, .unset] [(.int p1), (.int p0)])) _
      refine XS.icmpNo X14.here hx rfl (hb hby at_23) rfl (flt hc23).2.2.1 ?_
      show Steps p.tables e below (T14.setTop (mkF m 26 #[.val (.int p0), .val (.int p1), .val (.long q2), .second, .val (.long q3), .second, .val (.long q4), .second, .val (.int p5), .val (.ref b1), .unset, .unset, .unset, .unset, .unset, .unset, .unset, .unset, .unset, .unset, .unset] [])) _
      refine XS.iconst X14.here hx rfl (hb hby at_26) ?_
      show Steps p.tables e below (T14.setTop (mkF m 27 #[.val (.int p0), .val (.int p1), .val (.long q2), .second, .val (.long q3), .second, .val (.long q4), .second, .val (.int p5), .val (.ref b1), .unset, .unset, .unset, .unset, .unset, .unset, .unset, .unset, .unset, .unset, .unset] [(.int (1 : Int32))])) _
      refine XS.goto X14.here hx rfl (pc0 := 27) (pc' := 31) rfl (hb hby at_27) (by decide) (by decide) ?_
      show Steps p.tables e below (T14.setTop (mkF m 31 #[.val (.int p0), .val (.int p1), .val (.long q2), .second, .val (.long q3), .second, .val (.long q4), .second, .val (.int p5), .val (.ref b1), .unset, .unset, .unset, .unset, .unset, .unset, .unset, .unset, .unset, .unset, .unset] [(.int (1 : Int32))])) _
      refine XS.istore X14.here hx rfl (hb hby at_31) rfl (l' := #[.val (.int p0), .val (.int p1), .val (.long q2), .second, .val (.long q3), .second, .val (.long q4), .second, .val (.int p5), .val (.ref b1), .val (.int (1 : Int32)), .unset, .unset, .unset, .unset, .unset, .unset, .unset, .unset, .unset, .unset]) rfl ?_
      show Steps p.tables e below (T14.setTop (mkF m 33 #[.val (.int p0), .val (.int p1), .val (.long q2), .second, .val (.long q3), .second, .val (.long q4), .second, .val (.int p5), .val (.ref b1), .val (.int (1 : Int32)), .unset, .unset, .unset, .unset, .unset, .unset, .unset, .unset, .unset, .unset] [])) _
      refine XS.aload X14.here hx rfl (hb hby at_33) rfl rfl ?_
      show Steps p.tables e below (T14.setTop (mkF m 35 #[.val (.int p0), .val (.int p1), .val (.long q2), .second, .val (.long q3), .second, .val (.long q4), .second, .val (.int p5), .val (.ref b1), .val (.int (1 : Int32)), .unset, .unset, .unset, .unset, .unset, .unset, .unset, .unset, .unset, .unset] [(.ref b1)])) _
      refine XS.iloadN X14.here hx rfl (hb hby at_35) rfl ?_
      show Steps p.tables e below (T14.setTop (mkF m 36 #[.val (.int p0), .val (.int p1), .val (.long q2), .second, .val (.long q3), .second, .val (.long q4), .second, .val (.int p5), .val (.ref b1), .val (.int (1 : Int32)), .unset, .unset, .unset, .unset, .unset, .unset, .unset, .unset, .unset, .unset] [(.int p0), (.ref b1)])) _
      refine XS.i2l X14.here hx rfl (hb hby at_36) rfl ?_
      show Steps p.tables e below (T14.setTop (mkF m 37 #[.val (.int p0), .val (.int p1), .val (.long q2), .second, .val (.long q3), .second, .val (.long q4), .second, .val (.int p5), .val (.ref b1), .val (.int (1 : Int32)), .unset, .unset, .unset, .unset, .unset, .unset, .unset, .unset, .unset, .unset] [(.long (p0.toInt64)), (.ref b1)])) _
      refine st32.trans ?_
      show Steps p.tables e below (T32.setTop (mkF m 40 #[.val (.int p0), .val (.int p1), .val (.long q2), .second, .val (.long q3), .second, .val (.long q4), .second, .val (.int p5), .val (.ref b1), .val (.int (1 : Int32)), .unset, .unset, .unset, .unset, .unset, .unset, .unset, .unset, .unset, .unset] [(.int (F8 (p0.toInt64) p0 p1))])) _
      refine XS.istore X32.here hx rfl (hb hby at_40) rfl (l' := #[.val (.int p0), .val (.int p1), .val (.long q2), .second, .val (.long q3), .second, .val (.long q4), .second, .val (.int p5), .val (.ref b1), .val (.int (1 : Int32)), .val (.int (F8 (p0.toInt64) p0 p1)), .unset, .unset, .unset, .unset, .unset, .unset, .unset, .unset, .unset]) rfl ?_
      show Steps p.tables e below (T32.setTop (mkF m 42 #[.val (.int p0), .val (.int p1), .val (.long q2), .second, .val (.long q3), .second, .val (.long q4), .second, .val (.int p5), .val (.ref b1), .val (.int (1 : Int32)), .val (.int (F8 (p0.toInt64) p0 p1)), .unset, .unset, .unset, .unset, .unset, .unset, .unset, .unset, .unset] [])) _
      refine XS.aload X32.here hx rfl (hb hby at_42) rfl rfl ?_
      show Steps p.tables e below (T32.setTop (mkF m 44 #[.val (.int p0), .val (.int p1), .val (.long q2), .second, .val (.long q3), .second, .val (.long q4), .second, .val (.int p5), .val (.ref b1), .val (.int (1 : Int32)), .val (.int (F8 (p0.toInt64) p0 p1)), .unset, .unset, .unset, .unset, .unset, .unset, .unset, .unset, .unset] [(.ref b1)])) _
      refine XS.iloadN X32.here hx rfl (hb hby at_44) rfl ?_
      show Steps p.tables e below (T32.setTop (mkF m 45 #[.val (.int p0), .val (.int p1), .val (.long q2), .second, .val (.long q3), .second, .val (.long q4), .second, .val (.int p5), .val (.ref b1), .val (.int (1 : Int32)), .val (.int (F8 (p0.toInt64) p0 p1)), .unset, .unset, .unset, .unset, .unset, .unset, .unset, .unset, .unset] [(.int p1), (.ref b1)])) _
      refine XS.i2l X32.here hx rfl (hb hby at_45) rfl ?_
      show Steps p.tables e below (T32.setTop (mkF m 46 #[.val (.int p0), .val (.int p1), .val (.long q2), .second, .val (.long q3), .second, .val (.long q4), .second, .val (.int p5), .val (.ref b1), .val (.int (1 : Int32)), .val (.int (F8 (p0.toInt64) p0 p1)), .unset, .unset, .unset, .unset, .unset, .unset, .unset, .unset, .unset] [(.long (p1.toInt64)), (.ref b1)])) _
      refine st33.trans ?_
      show Steps p.tables e below (T33.setTop (mkF m 49 #[.val (.int p0), .val (.int p1), .val (.long q2), .second, .val (.long q3), .second, .val (.long q4), .second, .val (.int p5), .val (.ref b1), .val (.int (1 : Int32)), .val (.int (F8 (p0.toInt64) p0 p1)), .unset, .unset, .unset, .unset, .unset, .unset, .unset, .unset, .unset] [(.int (F8 (p1.toInt64) p0 p1))])) _
      refine XS.istore X33.here hx rfl (hb hby at_49) rfl (l' := #[.val (.int p0), .val (.int p1), .val (.long q2), .second, .val (.long q3), .second, .val (.long q4), .second, .val (.int p5), .val (.ref b1), .val (.int (1 : Int32)), .val (.int (F8 (p0.toInt64) p0 p1)), .val (.int (F8 (p1.toInt64) p0 p1)), .unset, .unset, .unset, .unset, .unset, .unset, .unset, .unset]) rfl ?_
      show Steps p.tables e below (T33.setTop (mkF m 51 #[.val (.int p0), .val (.int p1), .val (.long q2), .second, .val (.long q3), .second, .val (.long q4), .second, .val (.int p5), .val (.ref b1), .val (.int (1 : Int32)), .val (.int (F8 (p0.toInt64) p0 p1)), .val (.int (F8 (p1.toInt64) p0 p1)), .unset, .unset, .unset, .unset, .unset, .unset, .unset, .unset] [])) _
      refine XS.aload X33.here hx rfl (hb hby at_51) rfl rfl ?_
      show Steps p.tables e below (T33.setTop (mkF m 53 #[.val (.int p0), .val (.int p1), .val (.long q2), .second, .val (.long q3), .second, .val (.long q4), .second, .val (.int p5), .val (.ref b1), .val (.int (1 : Int32)), .val (.int (F8 (p0.toInt64) p0 p1)), .val (.int (F8 (p1.toInt64) p0 p1)), .unset, .unset, .unset, .unset, .unset, .unset, .unset, .unset] [(.ref b1)])) _
      refine XS.iloadN X33.here hx rfl (hb hby at_53) rfl ?_
      show Steps p.tables e below (T33.setTop (mkF m 54 #[.val (.int p0), .val (.int p1), .val (.long q2), .second, .val (.long q3), .second, .val (.long q4), .second, .val (.int p5), .val (.ref b1), .val (.int (1 : Int32)), .val (.int (F8 (p0.toInt64) p0 p1)), .val (.int (F8 (p1.toInt64) p0 p1)), .unset, .unset, .unset, .unset, .unset, .unset, .unset, .unset] [(.int p0), (.ref b1)])) _
      refine XS.i2l X33.here hx rfl (hb hby at_54) rfl ?_
      show Steps p.tables e below (T33.setTop (mkF m 55 #[.val (.int p0), .val (.int p1), .val (.long q2), .second, .val (.long q3), .second, .val (.long q4), .second, .val (.int p5), .val (.ref b1), .val (.int (1 : Int32)), .val (.int (F8 (p0.toInt64) p0 p1)), .val (.int (F8 (p1.toInt64) p0 p1)), .unset, .unset, .unset, .unset, .unset, .unset, .unset, .unset] [(.long (p0.toInt64)), (.ref b1)])) _
      refine XS.lconst X33.here hx rfl (hb hby at_55) ?_
      show Steps p.tables e below (T33.setTop (mkF m 56 #[.val (.int p0), .val (.int p1), .val (.long q2), .second, .val (.long q3), .second, .val (.long q4), .second, .val (.int p5), .val (.ref b1), .val (.int (1 : Int32)), .val (.int (F8 (p0.toInt64) p0 p1)), .val (.int (F8 (p1.toInt64) p0 p1)), .unset, .unset, .unset, .unset, .unset, .unset, .unset, .unset] [(.long (1 : Int64)), (.long (p0.toInt64)), (.ref b1)])) _
      refine XS.lsub X33.here hx rfl (hb hby at_56) rfl ?_
      show Steps p.tables e below (T33.setTop (mkF m 57 #[.val (.int p0), .val (.int p1), .val (.long q2), .second, .val (.long q3), .second, .val (.long q4), .second, .val (.int p5), .val (.ref b1), .val (.int (1 : Int32)), .val (.int (F8 (p0.toInt64) p0 p1)), .val (.int (F8 (p1.toInt64) p0 p1)), .unset, .unset, .unset, .unset, .unset, .unset, .unset, .unset] [(.long ((p0.toInt64) - (1 : Int64))), (.ref b1)])) _
      refine st34.trans ?_
      show Steps p.tables e below (T34.setTop (mkF m 60 #[.val (.int p0), .val (.int p1), .val (.long q2), .second, .val (.long q3), .second, .val (.long q4), .second, .val (.int p5), .val (.ref b1), .val (.int (1 : Int32)), .val (.int (F8 (p0.toInt64) p0 p1)), .val (.int (F8 (p1.toInt64) p0 p1)), .unset, .unset, .unset, .unset, .unset, .unset, .unset, .unset] [(.int (F8 ((p0.toInt64) - (1 : Int64)) p0 p1))])) _
      refine XS.istore X34.here hx rfl (hb hby at_60) rfl (l' := #[.val (.int p0), .val (.int p1), .val (.long q2), .second, .val (.long q3), .second, .val (.long q4), .second, .val (.int p5), .val (.ref b1), .val (.int (1 : Int32)), .val (.int (F8 (p0.toInt64) p0 p1)), .val (.int (F8 (p1.toInt64) p0 p1)), .val (.int (F8 ((p0.toInt64) - (1 : Int64)) p0 p1)), .unset, .unset, .unset, .unset, .unset, .unset, .unset]) rfl ?_
      show Steps p.tables e below (T34.setTop (mkF m 62 #[.val (.int p0), .val (.int p1), .val (.long q2), .second, .val (.long q3), .second, .val (.long q4), .second, .val (.int p5), .val (.ref b1), .val (.int (1 : Int32)), .val (.int (F8 (p0.toInt64) p0 p1)), .val (.int (F8 (p1.toInt64) p0 p1)), .val (.int (F8 ((p0.toInt64) - (1 : Int64)) p0 p1)), .unset, .unset, .unset, .unset, .unset, .unset, .unset] [])) _
      refine XS.aload X34.here hx rfl (hb hby at_62) rfl rfl ?_
      show Steps p.tables e below (T34.setTop (mkF m 64 #[.val (.int p0), .val (.int p1), .val (.long q2), .second, .val (.long q3), .second, .val (.long q4), .second, .val (.int p5), .val (.ref b1), .val (.int (1 : Int32)), .val (.int (F8 (p0.toInt64) p0 p1)), .val (.int (F8 (p1.toInt64) p0 p1)), .val (.int (F8 ((p0.toInt64) - (1 : Int64)) p0 p1)), .unset, .unset, .unset, .unset, .unset, .unset, .unset] [(.ref b1)])) _
      refine XS.iloadN X34.here hx rfl (hb hby at_64) rfl ?_
      show Steps p.tables e below (T34.setTop (mkF m 65 #[.val (.int p0), .val (.int p1), .val (.long q2), .second, .val (.long q3), .second, .val (.long q4), .second, .val (.int p5), .val (.ref b1), .val (.int (1 : Int32)), .val (.int (F8 (p0.toInt64) p0 p1)), .val (.int (F8 (p1.toInt64) p0 p1)), .val (.int (F8 ((p0.toInt64) - (1 : Int64)) p0 p1)), .unset, .unset, .unset, .unset, .unset, .unset, .unset] [(.int p1), (.ref b1)])) _
      refine XS.i2l X34.here hx rfl (hb hby at_65) rfl ?_
      show Steps p.tables e below (T34.setTop (mkF m 66 #[.val (.int p0), .val (.int p1), .val (.long q2), .second, .val (.long q3), .second, .val (.long q4), .second, .val (.int p5), .val (.ref b1), .val (.int (1 : Int32)), .val (.int (F8 (p0.toInt64) p0 p1)), .val (.int (F8 (p1.toInt64) p0 p1)), .val (.int (F8 ((p0.toInt64) - (1 : Int64)) p0 p1)), .unset, .unset, .unset, .unset, .unset, .unset, .unset] [(.long (p1.toInt64)), (.ref b1)])) _
      refine XS.lconst X34.here hx rfl (hb hby at_66) ?_
      show Steps p.tables e below (T34.setTop (mkF m 67 #[.val (.int p0), .val (.int p1), .val (.long q2), .second, .val (.long q3), .second, .val (.long q4), .second, .val (.int p5), .val (.ref b1), .val (.int (1 : Int32)), .val (.int (F8 (p0.toInt64) p0 p1)), .val (.int (F8 (p1.toInt64) p0 p1)), .val (.int (F8 ((p0.toInt64) - (1 : Int64)) p0 p1)), .unset, .unset, .unset, .unset, .unset, .unset, .unset] [(.long (1 : Int64)), (.long (p1.toInt64)), (.ref b1)])) _
      refine XS.ladd X34.here hx rfl (hb hby at_67) rfl ?_
      show Steps p.tables e below (T34.setTop (mkF m 68 #[.val (.int p0), .val (.int p1), .val (.long q2), .second, .val (.long q3), .second, .val (.long q4), .second, .val (.int p5), .val (.ref b1), .val (.int (1 : Int32)), .val (.int (F8 (p0.toInt64) p0 p1)), .val (.int (F8 (p1.toInt64) p0 p1)), .val (.int (F8 ((p0.toInt64) - (1 : Int64)) p0 p1)), .unset, .unset, .unset, .unset, .unset, .unset, .unset] [(.long ((p1.toInt64) + (1 : Int64))), (.ref b1)])) _
      refine st35.trans ?_
      show Steps p.tables e below (T35.setTop (mkF m 71 #[.val (.int p0), .val (.int p1), .val (.long q2), .second, .val (.long q3), .second, .val (.long q4), .second, .val (.int p5), .val (.ref b1), .val (.int (1 : Int32)), .val (.int (F8 (p0.toInt64) p0 p1)), .val (.int (F8 (p1.toInt64) p0 p1)), .val (.int (F8 ((p0.toInt64) - (1 : Int64)) p0 p1)), .unset, .unset, .unset, .unset, .unset, .unset, .unset] [(.int (F8 ((p1.toInt64) + (1 : Int64)) p0 p1))])) _
      refine XS.istore X35.here hx rfl (hb hby at_71) rfl (l' := #[.val (.int p0), .val (.int p1), .val (.long q2), .second, .val (.long q3), .second, .val (.long q4), .second, .val (.int p5), .val (.ref b1), .val (.int (1 : Int32)), .val (.int (F8 (p0.toInt64) p0 p1)), .val (.int (F8 (p1.toInt64) p0 p1)), .val (.int (F8 ((p0.toInt64) - (1 : Int64)) p0 p1)), .val (.int (F8 ((p1.toInt64) + (1 : Int64)) p0 p1)), .unset, .unset, .unset, .unset, .unset, .unset]) rfl ?_
      show Steps p.tables e below (T35.setTop (mkF m 73 #[.val (.int p0), .val (.int p1), .val (.long q2), .second, .val (.long q3), .second, .val (.long q4), .second, .val (.int p5), .val (.ref b1), .val (.int (1 : Int32)), .val (.int (F8 (p0.toInt64) p0 p1)), .val (.int (F8 (p1.toInt64) p0 p1)), .val (.int (F8 ((p0.toInt64) - (1 : Int64)) p0 p1)), .val (.int (F8 ((p1.toInt64) + (1 : Int64)) p0 p1)), .unset, .unset, .unset, .unset, .unset, .unset] [])) _
      refine XS.aload X35.here hx rfl (hb hby at_73) rfl rfl ?_
      show Steps p.tables e below (T35.setTop (mkF m 75 #[.val (.int p0), .val (.int p1), .val (.long q2), .second, .val (.long q3), .second, .val (.long q4), .second, .val (.int p5), .val (.ref b1), .val (.int (1 : Int32)), .val (.int (F8 (p0.toInt64) p0 p1)), .val (.int (F8 (p1.toInt64) p0 p1)), .val (.int (F8 ((p0.toInt64) - (1 : Int64)) p0 p1)), .val (.int (F8 ((p1.toInt64) + (1 : Int64)) p0 p1)), .unset, .unset, .unset, .unset, .unset, .unset] [(.ref b1)])) _
      refine XS.lloadN X35.here hx rfl (hb hby at_75) rfl ?_
      show Steps p.tables e below (T35.setTop (mkF m 76 #[.val (.int p0), .val (.int p1), .val (.long q2), .second, .val (.long q3), .second, .val (.long q4), .second, .val (.int p5), .val (.ref b1), .val (.int (1 : Int32)), .val (.int (F8 (p0.toInt64) p0 p1)), .val (.int (F8 (p1.toInt64) p0 p1)), .val (.int (F8 ((p0.toInt64) - (1 : Int64)) p0 p1)), .val (.int (F8 ((p1.toInt64) + (1 : Int64)) p0 p1)), .unset, .unset, .unset, .unset, .unset, .unset] [(.long q2), (.ref b1)])) _
      refine st36.trans ?_
      show Steps p.tables e below (T36.setTop (mkF m 79 #[.val (.int p0), .val (.int p1), .val (.long q2), .second, .val (.long q3), .second, .val (.long q4), .second, .val (.int p5), .val (.ref b1), .val (.int (1 : Int32)), .val (.int (F8 (p0.toInt64) p0 p1)), .val (.int (F8 (p1.toInt64) p0 p1)), .val (.int (F8 ((p0.toInt64) - (1 : Int64)) p0 p1)), .val (.int (F8 ((p1.toInt64) + (1 : Int64)) p0 p1)), .unset, .unset, .unset, .unset, .unset, .unset] [(.int (F8 q2 p0 p1))])) _
      refine XS.istore X36.here hx rfl (hb hby at_79) rfl (l' := #[.val (.int p0), .val (.int p1), .val (.long q2), .second, .val (.long q3), .second, .val (.long q4), .second, .val (.int p5), .val (.ref b1), .val (.int (1 : Int32)), .val (.int (F8 (p0.toInt64) p0 p1)), .val (.int (F8 (p1.toInt64) p0 p1)), .val (.int (F8 ((p0.toInt64) - (1 : Int64)) p0 p1)), .val (.int (F8 ((p1.toInt64) + (1 : Int64)) p0 p1)), .val (.int (F8 q2 p0 p1)), .unset, .unset, .unset, .unset, .unset]) rfl ?_
      show Steps p.tables e below (T36.setTop (mkF m 81 #[.val (.int p0), .val (.int p1), .val (.long q2), .second, .val (.long q3), .second, .val (.long q4), .second, .val (.int p5), .val (.ref b1), .val (.int (1 : Int32)), .val (.int (F8 (p0.toInt64) p0 p1)), .val (.int (F8 (p1.toInt64) p0 p1)), .val (.int (F8 ((p0.toInt64) - (1 : Int64)) p0 p1)), .val (.int (F8 ((p1.toInt64) + (1 : Int64)) p0 p1)), .val (.int (F8 q2 p0 p1)), .unset, .unset, .unset, .unset, .unset] [])) _
      refine XS.aload X36.here hx rfl (hb hby at_81) rfl rfl ?_
      show Steps p.tables e below (T36.setTop (mkF m 83 #[.val (.int p0), .val (.int p1), .val (.long q2), .second, .val (.long q3), .second, .val (.long q4), .second, .val (.int p5), .val (.ref b1), .val (.int (1 : Int32)), .val (.int (F8 (p0.toInt64) p0 p1)), .val (.int (F8 (p1.toInt64) p0 p1)), .val (.int (F8 ((p0.toInt64) - (1 : Int64)) p0 p1)), .val (.int (F8 ((p1.toInt64) + (1 : Int64)) p0 p1)), .val (.int (F8 q2 p0 p1)), .unset, .unset, .unset, .unset, .unset] [(.ref b1)])) _
      refine XS.lload X36.here hx rfl (hb hby at_83) rfl ?_
      show Steps p.tables e below (T36.setTop (mkF m 85 #[.val (.int p0), .val (.int p1), .val (.long q2), .second, .val (.long q3), .second, .val (.long q4), .second, .val (.int p5), .val (.ref b1), .val (.int (1 : Int32)), .val (.int (F8 (p0.toInt64) p0 p1)), .val (.int (F8 (p1.toInt64) p0 p1)), .val (.int (F8 ((p0.toInt64) - (1 : Int64)) p0 p1)), .val (.int (F8 ((p1.toInt64) + (1 : Int64)) p0 p1)), .val (.int (F8 q2 p0 p1)), .unset, .unset, .unset, .unset, .unset] [(.long q3), (.ref b1)])) _
      refine st37.trans ?_
      show Steps p.tables e below (T37.setTop (mkF m 88 #[.val (.int p0), .val (.int p1), .val (.long q2), .second, .val (.long q3), .second, .val (.long q4), .second, .val (.int p5), .val (.ref b1), .val (.int (1 : Int32)), .val (.int (F8 (p0.toInt64) p0 p1)), .val (.int (F8 (p1.toInt64) p0 p1)), .val (.int (F8 ((p0.toInt64) - (1 : Int64)) p0 p1)), .val (.int (F8 ((p1.toInt64) + (1 : Int64)) p0 p1)), .val (.int (F8 q2 p0 p1)), .unset, .unset, .unset, .unset, .unset] [(.int (F8 q3 p0 p1))])) _
      refine XS.istore X37.here hx rfl (hb hby at_88) rfl (l' := #[.val (.int p0), .val (.int p1), .val (.long q2), .second, .val (.long q3), .second, .val (.long q4), .second, .val (.int p5), .val (.ref b1), .val (.int (1 : Int32)), .val (.int (F8 (p0.toInt64) p0 p1)), .val (.int (F8 (p1.toInt64) p0 p1)), .val (.int (F8 ((p0.toInt64) - (1 : Int64)) p0 p1)), .val (.int (F8 ((p1.toInt64) + (1 : Int64)) p0 p1)), .val (.int (F8 q2 p0 p1)), .val (.int (F8 q3 p0 p1)), .unset, .unset, .unset, .unset]) rfl ?_
      show Steps p.tables e below (T37.setTop (mkF m 90 #[.val (.int p0), .val (.int p1), .val (.long q2), .second, .val (.long q3), .second, .val (.long q4), .second, .val (.int p5), .val (.ref b1), .val (.int (1 : Int32)), .val (.int (F8 (p0.toInt64) p0 p1)), .val (.int (F8 (p1.toInt64) p0 p1)), .val (.int (F8 ((p0.toInt64) - (1 : Int64)) p0 p1)), .val (.int (F8 ((p1.toInt64) + (1 : Int64)) p0 p1)), .val (.int (F8 q2 p0 p1)), .val (.int (F8 q3 p0 p1)), .unset, .unset, .unset, .unset] [])) _
      refine XS.aload X37.here hx rfl (hb hby at_90) rfl rfl ?_
      show Steps p.tables e below (T37.setTop (mkF m 92 #[.val (.int p0), .val (.int p1), .val (.long q2), .second, .val (.long q3), .second, .val (.long q4), .second, .val (.int p5), .val (.ref b1), .val (.int (1 : Int32)), .val (.int (F8 (p0.toInt64) p0 p1)), .val (.int (F8 (p1.toInt64) p0 p1)), .val (.int (F8 ((p0.toInt64) - (1 : Int64)) p0 p1)), .val (.int (F8 ((p1.toInt64) + (1 : Int64)) p0 p1)), .val (.int (F8 q2 p0 p1)), .val (.int (F8 q3 p0 p1)), .unset, .unset, .unset, .unset] [(.ref b1)])) _
      refine XS.lload X37.here hx rfl (hb hby at_92) rfl ?_
      show Steps p.tables e below (T37.setTop (mkF m 94 #[.val (.int p0), .val (.int p1), .val (.long q2), .second, .val (.long q3), .second, .val (.long q4), .second, .val (.int p5), .val (.ref b1), .val (.int (1 : Int32)), .val (.int (F8 (p0.toInt64) p0 p1)), .val (.int (F8 (p1.toInt64) p0 p1)), .val (.int (F8 ((p0.toInt64) - (1 : Int64)) p0 p1)), .val (.int (F8 ((p1.toInt64) + (1 : Int64)) p0 p1)), .val (.int (F8 q2 p0 p1)), .val (.int (F8 q3 p0 p1)), .unset, .unset, .unset, .unset] [(.long q4), (.ref b1)])) _
      refine st38.trans ?_
      show Steps p.tables e below (T38.setTop (mkF m 97 #[.val (.int p0), .val (.int p1), .val (.long q2), .second, .val (.long q3), .second, .val (.long q4), .second, .val (.int p5), .val (.ref b1), .val (.int (1 : Int32)), .val (.int (F8 (p0.toInt64) p0 p1)), .val (.int (F8 (p1.toInt64) p0 p1)), .val (.int (F8 ((p0.toInt64) - (1 : Int64)) p0 p1)), .val (.int (F8 ((p1.toInt64) + (1 : Int64)) p0 p1)), .val (.int (F8 q2 p0 p1)), .val (.int (F8 q3 p0 p1)), .unset, .unset, .unset, .unset] [(.int (F8 q4 p0 p1))])) _
      refine XS.istore X38.here hx rfl (hb hby at_97) rfl (l' := #[.val (.int p0), .val (.int p1), .val (.long q2), .second, .val (.long q3), .second, .val (.long q4), .second, .val (.int p5), .val (.ref b1), .val (.int (1 : Int32)), .val (.int (F8 (p0.toInt64) p0 p1)), .val (.int (F8 (p1.toInt64) p0 p1)), .val (.int (F8 ((p0.toInt64) - (1 : Int64)) p0 p1)), .val (.int (F8 ((p1.toInt64) + (1 : Int64)) p0 p1)), .val (.int (F8 q2 p0 p1)), .val (.int (F8 q3 p0 p1)), .val (.int (F8 q4 p0 p1)), .unset, .unset, .unset]) rfl ?_
      show Steps p.tables e below (T38.setTop (mkF m 99 #[.val (.int p0), .val (.int p1), .val (.long q2), .second, .val (.long q3), .second, .val (.long q4), .second, .val (.int p5), .val (.ref b1), .val (.int (1 : Int32)), .val (.int (F8 (p0.toInt64) p0 p1)), .val (.int (F8 (p1.toInt64) p0 p1)), .val (.int (F8 ((p0.toInt64) - (1 : Int64)) p0 p1)), .val (.int (F8 ((p1.toInt64) + (1 : Int64)) p0 p1)), .val (.int (F8 q2 p0 p1)), .val (.int (F8 q3 p0 p1)), .val (.int (F8 q4 p0 p1)), .unset, .unset, .unset] [])) _
      refine XS.iload X38.here hx rfl (hb hby at_99) rfl ?_
      show Steps p.tables e below (T38.setTop (mkF m 101 #[.val (.int p0), .val (.int p1), .val (.long q2), .second, .val (.long q3), .second, .val (.long q4), .second, .val (.int p5), .val (.ref b1), .val (.int (1 : Int32)), .val (.int (F8 (p0.toInt64) p0 p1)), .val (.int (F8 (p1.toInt64) p0 p1)), .val (.int (F8 ((p0.toInt64) - (1 : Int64)) p0 p1)), .val (.int (F8 ((p1.toInt64) + (1 : Int64)) p0 p1)), .val (.int (F8 q2 p0 p1)), .val (.int (F8 q3 p0 p1)), .val (.int (F8 q4 p0 p1)), .unset, .unset, .unset] [(.int (F8 (p0.toInt64) p0 p1))])) _
      refine XS.iload X38.here hx rfl (hb hby at_101) rfl ?_
      show Steps p.tables e below (T38.setTop (mkF m 103 #[.val (.int p0), .val (.int p1), .val (.long q2), .second, .val (.long q3), .second, .val (.long q4), .second, .val (.int p5), .val (.ref b1), .val (.int (1 : Int32)), .val (.int (F8 (p0.toInt64) p0 p1)), .val (.int (F8 (p1.toInt64) p0 p1)), .val (.int (F8 ((p0.toInt64) - (1 : Int64)) p0 p1)), .val (.int (F8 ((p1.toInt64) + (1 : Int64)) p0 p1)), .val (.int (F8 q2 p0 p1)), .val (.int (F8 q3 p0 p1)), .val (.int (F8 q4 p0 p1)), .unset, .unset, .unset] [(.int (1 : Int32)), (.int (F8 (p0.toInt64) p0 p1))])) _
      refine XS.icmpNo X38.here hx rfl (hb hby at_103) rfl (teq hc103).2 ?_
      show Steps p.tables e below (T38.setTop (mkF m 106 #[.val (.int p0), .val (.int p1), .val (.long q2), .second, .val (.long q3), .second, .val (.long q4), .second, .val (.int p5), .val (.ref b1), .val (.int (1 : Int32)), .val (.int (F8 (p0.toInt64) p0 p1)), .val (.int (F8 (p1.toInt64) p0 p1)), .val (.int (F8 ((p0.toInt64) - (1 : Int64)) p0 p1)), .val (.int (F8 ((p1.toInt64) + (1 : Int64)) p0 p1)), .val (.int (F8 q2 p0 p1)), .val (.int (F8 q3 p0 p1)), .val (.int (F8 q4 p0 p1)), .unset, .unset, .unset] [])) _
      refine XS.iload X38.here hx rfl (hb hby at_106) rfl ?_
      show Steps p.tables e below (T38.setTop (mkF m 108 #[.val (.int p0), .val (.int p1), .val (.long q2), .second, .val (.long q3), .second, .val (.long q4), .second, .val (.int p5), .val (.ref b1), .val (.int (1 : Int32)), .val (.int (F8 (p0.toInt64) p0 p1)), .val (.int (F8 (p1.toInt64) p0 p1)), .val (.int (F8 ((p0.toInt64) - (1 : Int64)) p0 p1)), .val (.int (F8 ((p1.toInt64) + (1 : Int64)) p0 p1)), .val (.int (F8 q2 p0 p1)), .val (.int (F8 q3 p0 p1)), .val (.int (F8 q4 p0 p1)), .unset, .unset, .unset] [(.int (F8 (p1.toInt64) p0 p1))])) _
      refine XS.iload X38.here hx rfl (hb hby at_108) rfl ?_
      show Steps p.tables e below (T38.setTop (mkF m 110 #[.val (.int p0), .val (.int p1), .val (.long q2), .second, .val (.long q3), .second, .val (.long q4), .second, .val (.int p5), .val (.ref b1), .val (.int (1 : Int32)), .val (.int (F8 (p0.toInt64) p0 p1)), .val (.int (F8 (p1.toInt64) p0 p1)), .val (.int (F8 ((p0.toInt64) - (1 : Int64)) p0 p1)), .val (.int (F8 ((p1.toInt64) + (1 : Int64)) p0 p1)), .val (.int (F8 q2 p0 p1)), .val (.int (F8 q3 p0 p1)), .val (.int (F8 q4 p0 p1)), .unset, .unset, .unset] [(.int (1 : Int32)), (.int (F8 (p1.toInt64) p0 p1))])) _
      refine XS.icmpNo X38.here hx rfl (hb hby at_110) rfl (teq hc110).2 ?_
      show Steps p.tables e below (T38.setTop (mkF m 113 #[.val (.int p0), .val (.int p1), .val (.long q2), .second, .val (.long q3), .second, .val (.long q4), .second, .val (.int p5), .val (.ref b1), .val (.int (1 : Int32)), .val (.int (F8 (p0.toInt64) p0 p1)), .val (.int (F8 (p1.toInt64) p0 p1)), .val (.int (F8 ((p0.toInt64) - (1 : Int64)) p0 p1)), .val (.int (F8 ((p1.toInt64) + (1 : Int64)) p0 p1)), .val (.int (F8 q2 p0 p1)), .val (.int (F8 q3 p0 p1)), .val (.int (F8 q4 p0 p1)), .unset, .unset, .unset] [])) _
      refine XS.iload X38.here hx rfl (hb hby at_113) rfl ?_
      show Steps p.tables e below (T38.setTop (mkF m 115 #[.val (.int p0), .val (.int p1), .val (.long q2), .second, .val (.long q3), .second, .val (.long q4), .second, .val (.int p5), .val (.ref b1), .val (.int (1 : Int32)), .val (.int (F8 (p0.toInt64) p0 p1)), .val (.int (F8 (p1.toInt64) p0 p1)), .val (.int (F8 ((p0.toInt64) - (1 : Int64)) p0 p1)), .val (.int (F8 ((p1.toInt64) + (1 : Int64)) p0 p1)), .val (.int (F8 q2 p0 p1)), .val (.int (F8 q3 p0 p1)), .val (.int (F8 q4 p0 p1)), .unset, .unset, .unset] [(.int (F8 ((p0.toInt64) - (1 : Int64)) p0 p1))])) _
      refine XS.ifNo X38.here hx rfl (hb hby at_115) rfl ((if0 _ _).trans (teq hc115).2) ?_
      show Steps p.tables e below (T38.setTop (mkF m 118 #[.val (.int p0), .val (.int p1), .val (.long q2), .second, .val (.long q3), .second, .val (.long q4), .second, .val (.int p5), .val (.ref b1), .val (.int (1 : Int32)), .val (.int (F8 (p0.toInt64) p0 p1)), .val (.int (F8 (p1.toInt64) p0 p1)), .val (.int (F8 ((p0.toInt64) - (1 : Int64)) p0 p1)), .val (.int (F8 ((p1.toInt64) + (1 : Int64)) p0 p1)), .val (.int (F8 q2 p0 p1)), .val (.int (F8 q3 p0 p1)), .val (.int (F8 q4 p0 p1)), .unset, .unset, .unset] [])) _
      refine XS.iload X38.here hx rfl (hb hby at_118) rfl ?_
      show Steps p.tables e below (T38.setTop (mkF m 120 #[.val (.int p0), .val (.int p1), .val (.long q2), .second, .val (.long q3), .second, .val (.long q4), .second, .val (.int p5), .val (.ref b1), .val (.int (1 : Int32)), .val (.int (F8 (p0.toInt64) p0 p1)), .val (.int (F8 (p1.toInt64) p0 p1)), .val (.int (F8 ((p0.toInt64) - (1 : Int64)) p0 p1)), .val (.int (F8 ((p1.toInt64) + (1 : Int64)) p0 p1)), .val (.int (F8 q2 p0 p1)), .val (.int (F8 q3 p0 p1)), .val (.int (F8 q4 p0 p1)), .unset, .unset, .unset] [(.int (F8 ((p1.toInt64) + (1 : Int64)) p0 p1))])) _
      refine XS.ifNo X38.here hx rfl (hb hby at_120) rfl ((if0 _ _).trans (teq hc120).2) ?_
      show Steps p.tables e below (T38.setTop (mkF m 123 #[.val (.int p0), .val (.int p1), .val (.long q2), .second, .val (.long q3), .second, .val (.long q4), .second, .val (.int p5), .val (.ref b1), .val (.int (1 : Int32)), .val (.int (F8 (p0.toInt64) p0 p1)), .val (.int (F8 (p1.toInt64) p0 p1)), .val (.int (F8 ((p0.toInt64) - (1 : Int64)) p0 p1)), .val (.int (F8 ((p1.toInt64) + (1 : Int64)) p0 p1)), .val (.int (F8 q2 p0 p1)), .val (.int (F8 q3 p0 p1)), .val (.int (F8 q4 p0 p1)), .unset, .unset, .unset] [])) _
      refine XS.iconst X38.here hx rfl (hb hby at_123) ?_
      show Steps p.tables e below (T38.setTop (mkF m 124 #[.val (.int p0), .val (.int p1), .val (.long q2), .second, .val (.long q3), .second, .val (.long q4), .second, .val (.int p5), .val (.ref b1), .val (.int (1 : Int32)), .val (.int (F8 (p0.toInt64) p0 p1)), .val (.int (F8 (p1.toInt64) p0 p1)), .val (.int (F8 ((p0.toInt64) - (1 : Int64)) p0 p1)), .val (.int (F8 ((p1.toInt64) + (1 : Int64)) p0 p1)), .val (.int (F8 q2 p0 p1)), .val (.int (F8 q3 p0 p1)), .val (.int (F8 q4 p0 p1)), .unset, .unset, .unset] [(.int (1 : Int32))])) _
      refine XS.goto X38.here hx rfl (pc0 := 124) (pc' := 128) rfl (hb hby at_124) (by decide) (by decide) ?_
      show Steps p.tables e below (T38.setTop (mkF m 128 #[.val (.int p0), .val (.int p1), .val (.long q2), .second, .val (.long q3), .second, .val (.long q4), .second, .val (.int p5), .val (.ref b1), .val (.int (1 : Int32)), .val (.int (F8 (p0.toInt64) p0 p1)), .val (.int (F8 (p1.toInt64) p0 p1)), .val (.int (F8 ((p0.toInt64) - (1 : Int64)) p0 p1)), .val (.int (F8 ((p1.toInt64) + (1 : Int64)) p0 p1)), .val (.int (F8 q2 p0 p1)), .val (.int (F8 q3 p0 p1)), .val (.int (F8 q4 p0 p1)), .unset, .unset, .unset] [(.int (1 : Int32))])) _
      refine XS.istore X38.here hx rfl (hb hby at_128) rfl (l' := #[.val (.int p0), .val (.int p1), .val (.long q2), .second, .val (.long q3), .second, .val (.long q4), .second, .val (.int p5), .val (.ref b1), .val (.int (1 : Int32)), .val (.int (F8 (p0.toInt64) p0 p1)), .val (.int (F8 (p1.toInt64) p0 p1)), .val (.int (F8 ((p0.toInt64) - (1 : Int64)) p0 p1)), .val (.int (F8 ((p1.toInt64) + (1 : Int64)) p0 p1)), .val (.int (F8 q2 p0 p1)), .val (.int (F8 q3 p0 p1)), .val (.int (F8 q4 p0 p1)), .val (.int (1 : Int32)), .unset, .unset]) rfl ?_
      show Steps p.tables e below (T38.setTop (mkF m 130 #[.val (.int p0), .val (.int p1), .val (.long q2), .second, .val (.long q3), .second, .val (.long q4), .second, .val (.int p5), .val (.ref b1), .val (.int (1 : Int32)), .val (.int (F8 (p0.toInt64) p0 p1)), .val (.int (F8 (p1.toInt64) p0 p1)), .val (.int (F8 ((p0.toInt64) - (1 : Int64)) p0 p1)), .val (.int (F8 ((p1.toInt64) + (1 : Int64)) p0 p1)), .val (.int (F8 q2 p0 p1)), .val (.int (F8 q3 p0 p1)), .val (.int (F8 q4 p0 p1)), .val (.int (1 : Int32)), .unset, .unset] [])) _
      refine XS.iload X38.here hx rfl (hb hby at_130) rfl ?_
      show Steps p.tables e below (T38.setTop (mkF m 132 #[.val (.int p0), .val (.int p1), .val (.long q2), .second, .val (.long q3), .second, .val (.long q4), .second, .val (.int p5), .val (.ref b1), .val (.int (1 : Int32)), .val (.int (F8 (p0.toInt64) p0 p1)), .val (.int (F8 (p1.toInt64) p0 p1)), .val (.int (F8 ((p0.toInt64) - (1 : Int64)) p0 p1)), .val (.int (F8 ((p1.toInt64) + (1 : Int64)) p0 p1)), .val (.int (F8 q2 p0 p1)), .val (.int (F8 q3 p0 p1)), .val (.int (F8 q4 p0 p1)), .val (.int (1 : Int32)), .unset, .unset] [(.int (1 : Int32))])) _
      refine XS.ifYes X38.here hx rfl (pc0 := 132) (pc' := 140) rfl (hb hby at_132) rfl ((if0 _ _).trans (feq (by decide : ¬ ((1 : Int32) = (0 : Int32)))).2) (by decide) (by decide) ?_
      show Steps p.tables e below (T38.setTop (mkF m 140 #[.val (.int p0), .val (.int p1), .val (.long q2), .second, .val (.long q3), .second, .val (.long q4), .second, .val (.int p5), .val (.ref b1), .val (.int (1 : Int32)), .val (.int (F8 (p0.toInt64) p0 p1)), .val (.int (F8 (p1.toInt64) p0 p1)), .val (.int (F8 ((p0.toInt64) - (1 : Int64)) p0 p1)), .val (.int (F8 ((p1.toInt64) + (1 : Int64)) p0 p1)), .val (.int (F8 q2 p0 p1)), .val (.int (F8 q3 p0 p1)), .val (.int (F8 q4 p0 p1)), .val (.int (1 : Int32)), .unset, .unset] [])) _
      refine XS.iconst X38.here hx rfl (hb hby at_140) ?_
      show Steps p.tables e below (T38.setTop (mkF m 141 #[.val (.int p0), .val (.int p1), .val (.long q2), .second, .val (.long q3), .second, .val (.long q4), .second, .val (.int p5), .val (.ref b1), .val (.int (1 : Int32)), .val (.int (F8 (p0.toInt64) p0 p1)), .val (.int (F8 (p1.toInt64) p0 p1)), .val (.int (F8 ((p0.toInt64) - (1 : Int64)) p0 p1)), .val (.int (F8 ((p1.toInt64) + (1 : Int64)) p0 p1)), .val (.int (F8 q2 p0 p1)), .val (.int (F8 q3 p0 p1)), .val (.int (F8 q4 p0 p1)), .val (.int (1 : Int32)), .unset, .unset] [(.int (1 : Int32))])) _
      refine XS.goto X38.here hx rfl (pc0 := 141) (pc' := 145) rfl (hb hby at_141) (by decide) (by decide) ?_
      show Steps p.tables e below (T38.setTop (mkF m 145 #[.val (.int p0), .val (.int p1), .val (.long q2), .second, .val (.long q3), .second, .val (.long q4), .second, .val (.int p5), .val (.ref b1), .val (.int (1 : Int32)), .val (.int (F8 (p0.toInt64) p0 p1)), .val (.int (F8 (p1.toInt64) p0 p1)), .val (.int (F8 ((p0.toInt64) - (1 : Int64)) p0 p1)), .val (.int (F8 ((p1.toInt64) + (1 : Int64)) p0 p1)), .val (.int (F8 q2 p0 p1)), .val (.int (F8 q3 p0 p1)), .val (.int (F8 q4 p0 p1)), .val (.int (1 : Int32)), .unset, .unset] [(.int (1 : Int32))])) _
      refine XS.istore X38.here hx rfl (hb hby at_145) rfl (l' := #[.val (.int p0), .val (.int p1), .val (.long q2), .second, .val (.long q3), .second, .val (.long q4), .second, .val (.int p5), .val (.ref b1), .val (.int (1 : Int32)), .val (.int (F8 (p0.toInt64) p0 p1)), .val (.int (F8 (p1.toInt64) p0 p1)), .val (.int (F8 ((p0.toInt64) - (1 : Int64)) p0 p1)), .val (.int (F8 ((p1.toInt64) + (1 : Int64)) p0 p1)), .val (.int (F8 q2 p0 p1)), .val (.int (F8 q3 p0 p1)), .val (.int (F8 q4 p0 p1)), .val (.int (1 : Int32)), .val (.int (1 : Int32)), .unset]) rfl ?_
      show Steps p.tables e below (T38.setTop (mkF m 147 #[.val (.int p0), .val (.int p1), .val (.long q2), .second, .val (.long q3), .second, .val (.long q4), .second, .val (.int p5), .val (.ref b1), .val (.int (1 : Int32)), .val (.int (F8 (p0.toInt64) p0 p1)), .val (.int (F8 (p1.toInt64) p0 p1)), .val (.int (F8 ((p0.toInt64) - (1 : Int64)) p0 p1)), .val (.int (F8 ((p1.toInt64) + (1 : Int64)) p0 p1)), .val (.int (F8 q2 p0 p1)), .val (.int (F8 q3 p0 p1)), .val (.int (F8 q4 p0 p1)), .val (.int (1 : Int32)), .val (.int (1 : Int32)), .unset] [])) _
      refine XS.iload X38.here hx rfl (hb hby at_147) rfl ?_
      exact k
    by_cases hc149 : (F8 q2 p0 p1) = (0 : Int32)
    · obtain ⟨fs, hr, hrun, hended, hW, hsame⟩ := X38.leave (v := some (.int (1 : Int32))) (fun h => by rw [Bd.returns] at h; cases h) (BodyLoose.notSynchronized Bd)
      refine ⟨_, _, pre39 _ ?_, hrun, hended, _, _, rfl, ?_, ⟨_, rfl⟩, hW, hsame.mono (by decide) (by decide)⟩
      · show Steps p.tables e below (T38.setTop (mkF m 149 #[.val (.int p0), .val (.int p1), .val (.long q2), .second, .val (.long q3), .second, .val (.long q4), .second, .val (.int p5), .val (.ref b1), .val (.int (1 : Int32)), .val (.int (F8 (p0.toInt64) p0 p1)), .val (.int (F8 (p1.toInt64) p0 p1)), .val (.int (F8 ((p0.toInt64) - (1 : Int64)) p0 p1)), .val (.int (F8 ((p1.toInt64) + (1 : Int64)) p0 p1)), .val (.int (F8 q2 p0 p1)), .val (.int (F8 q3 p0 p1)), .val (.int (F8 q4 p0 p1)), .val (.int (1 : Int32)), .val (.int (1 : Int32)), .unset] [(.int (F8 q2 p0 p1))])) _
        refine XS.ifYes X38.here hx rfl (pc0 := 149) (pc' := 173) rfl (hb hby at_149) rfl ((if0 _ _).trans (teq hc149).1) (by decide) (by decide) ?_
        show Steps p.tables e below (T38.setTop (mkF m 173 #[.val (.int p0), .val (.int p1), .val (.long q2), .second, .val (.long q3), .second, .val (.long q4), .second, .val (.int p5), .val (.ref b1), .val (.int (1 : Int32)), .val (.int (F8 (p0.toInt64) p0 p1)), .val (.int (F8 (p1.toInt64) p0 p1)), .val (.int (F8 ((p0.toInt64) - (1 : Int64)) p0 p1)), .val (.int (F8 ((p1.toInt64) + (1 : Int64)) p0 p1)), .val (.int (F8 q2 p0 p1)), .val (.int (F8 q3 p0 p1)), .val (.int (F8 q4 p0 p1)), .val (.int (1 : Int32)), .val (.int (1 : Int32)), .unset] [])) _
        refine XS.iconst X38.here hx rfl (hb hby at_173) ?_
        show Steps p.tables e below (T38.setTop (mkF m 174 #[.val (.int p0), .val (.int p1), .val (.long q2), .second, .val (.long q3), .second, .val (.long q4), .second, .val (.int p5), .val (.ref b1), .val (.int (1 : Int32)), .val (.int (F8 (p0.toInt64) p0 p1)), .val (.int (F8 (p1.toInt64) p0 p1)), .val (.int (F8 ((p0.toInt64) - (1 : Int64)) p0 p1)), .val (.int (F8 ((p1.toInt64) + (1 : Int64)) p0 p1)), .val (.int (F8 q2 p0 p1)), .val (.int (F8 q3 p0 p1)), .val (.int (F8 q4 p0 p1)), .val (.int (1 : Int32)), .val (.int (1 : Int32)), .unset] [(.int (1 : Int32))])) _
        refine XS.goto X38.here hx rfl (pc0 := 174) (pc' := 178) rfl (hb hby at_174) (by decide) (by decide) ?_
        show Steps p.tables e below (T38.setTop (mkF m 178 #[.val (.int p0), .val (.int p1), .val (.long q2), .second, .val (.long q3), .second, .val (.long q4), .second, .val (.int p5), .val (.ref b1), .val (.int (1 : Int32)), .val (.int (F8 (p0.toInt64) p0 p1)), .val (.int (F8 (p1.toInt64) p0 p1)), .val (.int (F8 ((p0.toInt64) - (1 : Int64)) p0 p1)), .val (.int (F8 ((p1.toInt64) + (1 : Int64)) p0 p1)), .val (.int (F8 q2 p0 p1)), .val (.int (F8 q3 p0 p1)), .val (.int (F8 q4 p0 p1)), .val (.int (1 : Int32)), .val (.int (1 : Int32)), .unset] [(.int (1 : Int32))])) _
        refine XS.istore X38.here hx rfl (hb hby at_178) rfl (l' := #[.val (.int p0), .val (.int p1), .val (.long q2), .second, .val (.long q3), .second, .val (.long q4), .second, .val (.int p5), .val (.ref b1), .val (.int (1 : Int32)), .val (.int (F8 (p0.toInt64) p0 p1)), .val (.int (F8 (p1.toInt64) p0 p1)), .val (.int (F8 ((p0.toInt64) - (1 : Int64)) p0 p1)), .val (.int (F8 ((p1.toInt64) + (1 : Int64)) p0 p1)), .val (.int (F8 q2 p0 p1)), .val (.int (F8 q3 p0 p1)), .val (.int (F8 q4 p0 p1)), .val (.int (1 : Int32)), .val (.int (1 : Int32)), .val (.int (1 : Int32))]) rfl ?_
        show Steps p.tables e below (T38.setTop (mkF m 180 #[.val (.int p0), .val (.int p1), .val (.long q2), .second, .val (.long q3), .second, .val (.long q4), .second, .val (.int p5), .val (.ref b1), .val (.int (1 : Int32)), .val (.int (F8 (p0.toInt64) p0 p1)), .val (.int (F8 (p1.toInt64) p0 p1)), .val (.int (F8 ((p0.toInt64) - (1 : Int64)) p0 p1)), .val (.int (F8 ((p1.toInt64) + (1 : Int64)) p0 p1)), .val (.int (F8 q2 p0 p1)), .val (.int (F8 q3 p0 p1)), .val (.int (F8 q4 p0 p1)), .val (.int (1 : Int32)), .val (.int (1 : Int32)), .val (.int (1 : Int32))] [])) _
        refine XS.iload X38.here hx rfl (hb hby at_180) rfl ?_
        show Steps p.tables e below (T38.setTop (mkF m 182 #[.val (.int p0), .val (.int p1), .val (.long q2), .second, .val (.long q3), .second, .val (.long q4), .second, .val (.int p5), .val (.ref b1), .val (.int (1 : Int32)), .val (.int (F8 (p0.toInt64) p0 p1)), .val (.int (F8 (p1.toInt64) p0 p1)), .val (.int (F8 ((p0.toInt64) - (1 : Int64)) p0 p1)), .val (.int (F8 ((p1.toInt64) + (1 : Int64)) p0 p1)), .val (.int (F8 q2 p0 p1)), .val (.int (F8 q3 p0 p1)), .val (.int (F8 q4 p0 p1)), .val (.int (1 : Int32)), .val (.int (1 : Int32)), .val (.int (1 : Int32))] [(.int (1 : Int32))])) _
        refine XS.ifNo X38.here hx rfl (hb hby at_182) rfl ((if0 _ _).trans (feq (by decide : ¬ ((1 : Int32) = (0 : Int32)))).1) ?_
        show Steps p.tables e below (T38.setTop (mkF m 185 #[.val (.int p0), .val (.int p1), .val (.long q2), .second, .val (.long q3), .second, .val (.long q4), .second, .val (.int p5), .val (.ref b1), .val (.int (1 : Int32)), .val (.int (F8 (p0.toInt64) p0 p1)), .val (.int (F8 (p1.toInt64) p0 p1)), .val (.int (F8 ((p0.toInt64) - (1 : Int64)) p0 p1)), .val (.int (F8 ((p1.toInt64) + (1 : Int64)) p0 p1)), .val (.int (F8 q2 p0 p1)), .val (.int (F8 q3 p0 p1)), .val (.int (F8 q4 p0 p1)), .val (.int (1 : Int32)), .val (.int (1 : Int32)), .val (.int (1 : Int32))] [])) _
        refine XS.iload X38.here hx rfl (hb hby at_185) rfl ?_
        show Steps p.tables e below (T38.setTop (mkF m 187 #[.val (.int p0), .val (.int p1), .val (.long q2), .second, .val (.long q3), .second, .val (.long q4), .second, .val (.int p5), .val (.ref b1), .val (.int (1 : Int32)), .val (.int (F8 (p0.toInt64) p0 p1)), .val (.int (F8 (p1.toInt64) p0 p1)), .val (.int (F8 ((p0.toInt64) - (1 : Int64)) p0 p1)), .val (.int (F8 ((p1.toInt64) + (1 : Int64)) p0 p1)), .val (.int (F8 q2 p0 p1)), .val (.int (F8 q3 p0 p1)), .val (.int (F8 q4 p0 p1)), .val (.int (1 : Int32)), .val (.int (1 : Int32)), .val (.int (1 : Int32))] [(.int (1 : Int32))])) _
        refine XS.ifNo X38.here hx rfl (hb hby at_187) rfl ((if0 _ _).trans (feq (by decide : ¬ ((1 : Int32) = (0 : Int32)))).1) ?_
        show Steps p.tables e below (T38.setTop (mkF m 190 #[.val (.int p0), .val (.int p1), .val (.long q2), .second, .val (.long q3), .second, .val (.long q4), .second, .val (.int p5), .val (.ref b1), .val (.int (1 : Int32)), .val (.int (F8 (p0.toInt64) p0 p1)), .val (.int (F8 (p1.toInt64) p0 p1)), .val (.int (F8 ((p0.toInt64) - (1 : Int64)) p0 p1)), .val (.int (F8 ((p1.toInt64) + (1 : Int64)) p0 p1)), .val (.int (F8 q2 p0 p1)), .val (.int (F8 q3 p0 p1)), .val (.int (F8 q4 p0 p1)), .val (.int (1 : Int32)), .val (.int (1 : Int32)), .val (.int (1 : Int32))] [])) _
        refine XS.iload X38.here hx rfl (hb hby at_190) rfl ?_
        show Steps p.tables e below (T38.setTop (mkF m 192 #[.val (.int p0), .val (.int p1), .val (.long q2), .second, .val (.long q3), .second, .val (.long q4), .second, .val (.int p5), .val (.ref b1), .val (.int (1 : Int32)), .val (.int (F8 (p0.toInt64) p0 p1)), .val (.int (F8 (p1.toInt64) p0 p1)), .val (.int (F8 ((p0.toInt64) - (1 : Int64)) p0 p1)), .val (.int (F8 ((p1.toInt64) + (1 : Int64)) p0 p1)), .val (.int (F8 q2 p0 p1)), .val (.int (F8 q3 p0 p1)), .val (.int (F8 q4 p0 p1)), .val (.int (1 : Int32)), .val (.int (1 : Int32)), .val (.int (1 : Int32))] [(.int (1 : Int32))])) _
        refine XS.ifNo X38.here hx rfl (hb hby at_192) rfl ((if0 _ _).trans (feq (by decide : ¬ ((1 : Int32) = (0 : Int32)))).1) ?_
        show Steps p.tables e below (T38.setTop (mkF m 195 #[.val (.int p0), .val (.int p1), .val (.long q2), .second, .val (.long q3), .second, .val (.long q4), .second, .val (.int p5), .val (.ref b1), .val (.int (1 : Int32)), .val (.int (F8 (p0.toInt64) p0 p1)), .val (.int (F8 (p1.toInt64) p0 p1)), .val (.int (F8 ((p0.toInt64) - (1 : Int64)) p0 p1)), .val (.int (F8 ((p1.toInt64) + (1 : Int64)) p0 p1)), .val (.int (F8 q2 p0 p1)), .val (.int (F8 q3 p0 p1)), .val (.int (F8 q4 p0 p1)), .val (.int (1 : Int32)), .val (.int (1 : Int32)), .val (.int (1 : Int32))] [])) _
        refine XS.iconst X38.here hx rfl (hb hby at_195) ?_
        show Steps p.tables e below (T38.setTop (mkF m 196 #[.val (.int p0), .val (.int p1), .val (.long q2), .second, .val (.long q3), .second, .val (.long q4), .second, .val (.int p5), .val (.ref b1), .val (.int (1 : Int32)), .val (.int (F8 (p0.toInt64) p0 p1)), .val (.int (F8 (p1.toInt64) p0 p1)), .val (.int (F8 ((p0.toInt64) - (1 : Int64)) p0 p1)), .val (.int (F8 ((p1.toInt64) + (1 : Int64)) p0 p1)), .val (.int (F8 q2 p0 p1)), .val (.int (F8 q3 p0 p1)), .val (.int (F8 q4 p0 p1)), .val (.int (1 : Int32)), .val (.int (1 : Int32)), .val (.int (1 : Int32))] [(.int (1 : Int32))])) _
        refine XS.goto X38.here hx rfl (pc0 := 196) (pc' := 200) rfl (hb hby at_196) (by decide) (by decide) ?_
        show Steps p.tables e below (T38.setTop (mkF m 200 #[.val (.int p0), .val (.int p1), .val (.long q2), .second, .val (.long q3), .second, .val (.long q4), .second, .val (.int p5), .val (.ref b1), .val (.int (1 : Int32)), .val (.int (F8 (p0.toInt64) p0 p1)), .val (.int (F8 (p1.toInt64) p0 p1)), .val (.int (F8 ((p0.toInt64) - (1 : Int64)) p0 p1)), .val (.int (F8 ((p1.toInt64) + (1 : Int64)) p0 p1)), .val (.int (F8 q2 p0 p1)), .val (.int (F8 q3 p0 p1)), .val (.int (F8 q4 p0 p1)), .val (.int (1 : Int32)), .val (.int (1 : Int32)), .val (.int (1 : Int32))] [(.int (1 : Int32))])) _
        exact retN X38 hx (t := .boolean) Bd.returns (by simp) (hb hby at_200) hr
      · show Q0 Z p0 p1 q2 q3 q4 p5 w_COMPACT_STRINGS h0 n0 _ T38.heap _
        rw [e38]
        exact ⟨rfl, N38⟩
    · have pre40 : ∀ t, Steps p.tables e below (T38.setTop (mkF m 154 #[.val (.int p0), .val (.int p1), .val (.long q2), .second, .val (.long q3), .second, .val (.long q4), .second, .val (.int p5), .val (.ref b1), .val (.int (1 : Int32)), .val (.int (F8 (p0.toInt64) p0 p1)), .val (.int (F8 (p1.toInt64) p0 p1)), .val (.int (F8 ((p0.toInt64) - (1 : Int64)) p0 p1)), .val (.int (F8 ((p1.toInt64) + (1 : Int64)) p0 p1)), .val (.int (F8 q2 p0 p1)), .val (.int (F8 q3 p0 p1)), .val (.int (F8 q4 p0 p1)), .val (.int (1 : Int32)), .val (.int (1 : Int32)), .unset] [(.int (F8 q4 p0 p1))])) t → Steps p.tables e below (s₁.setTop (entryFrame m #[(.int p0), (.int p1), (.long q2), (.long q3), (.long q4), (.int p5)] maxLocals)) t := fun t k => by
        refine pre39 t ?_
        show Steps p.tables e below (T38.setTop (mkF m 149 #[.val (.int p0), .val (.int p1), .val (.long q2), .second, .val (.long q3), .second, .val (.long q4), .second, .val (.int p5), .val (.ref b1), .val (.int (1 : Int32)), .val (.int (F8 (p0.toInt64) p0 p1)), .val (.int (F8 (p1.toInt64) p0 p1)), .val (.int (F8 ((p0.toInt64) - (1 : Int64)) p0 p1)), .val (.int (F8 ((p1.toInt64) + (1 : Int64)) p0 p1)), .val (.int (F8 q2 p0 p1)), .val (.int (F8 q3 p0 p1)), .val (.int (F8 q4 p0 p1)), .val (.int (1 : Int32)), .val (.int (1 : Int32)), .unset] [(.int (F8 q2 p0 p1))])) _
        refine XS.ifNo X38.here hx rfl (hb hby at_149) rfl ((if0 _ _).trans (feq hc149).1) ?_
        show Steps p.tables e below (T38.setTop (mkF m 152 #[.val (.int p0), .val (.int p1), .val (.long q2), .second, .val (.long q3), .second, .val (.long q4), .second, .val (.int p5), .val (.ref b1), .val (.int (1 : Int32)), .val (.int (F8 (p0.toInt64) p0 p1)), .val (.int (F8 (p1.toInt64) p0 p1)), .val (.int (F8 ((p0.toInt64) - (1 : Int64)) p0 p1)), .val (.int (F8 ((p1.toInt64) + (1 : Int64)) p0 p1)), .val (.int (F8 q2 p0 p1)), .val (.int (F8 q3 p0 p1)), .val (.int (F8 q4 p0 p1)), .val (.int (1 : Int32)), .val (.int (1 : Int32)), .unset] [])) _
        refine XS.iload X38.here hx rfl (hb hby at_152) rfl ?_
        exact k
      by_cases hc154 : (F8 q4 p0 p1) = (0 : Int32)
      · obtain ⟨fs, hr, hrun, hended, hW, hsame⟩ := X38.leave (v := some (.int (1 : Int32))) (fun h => by rw [Bd.returns] at h; cases h) (BodyLoose.notSynchronized Bd)
        refine ⟨_, _, pre40 _ ?_, hrun, hended, _, _, rfl, ?_, ⟨_, rfl⟩, hW, hsame.mono (by decide) (by decide)⟩
        · show Steps p.tables e below (T38.setTop (mkF m 154 #[.val (.int p0), .val (.int p1), .val (.long q2), .second, .val (.long q3), .second, .val (.long q4), .second, .val (.int p5), .val (.ref b1), .val (.int (1 : Int32)), .val (.int (F8 (p0.toInt64) p0 p1)), .val (.int (F8 (p1.toInt64) p0 p1)), .val (.int (F8 ((p0.toInt64) - (1 : Int64)) p0 p1)), .val (.int (F8 ((p1.toInt64) + (1 : Int64)) p0 p1)), .val (.int (F8 q2 p0 p1)), .val (.int (F8 q3 p0 p1)), .val (.int (F8 q4 p0 p1)), .val (.int (1 : Int32)), .val (.int (1 : Int32)), .unset] [(.int (F8 q4 p0 p1))])) _
          refine XS.ifYes X38.here hx rfl (pc0 := 154) (pc' := 173) rfl (hb hby at_154) rfl ((if0 _ _).trans (teq hc154).1) (by decide) (by decide) ?_
          show Steps p.tables e below (T38.setTop (mkF m 173 #[.val (.int p0), .val (.int p1), .val (.long q2), .second, .val (.long q3), .second, .val (.long q4), .second, .val (.int p5), .val (.ref b1), .val (.int (1 : Int32)), .val (.int (F8 (p0.toInt64) p0 p1)), .val (.int (F8 (p1.toInt64) p0 p1)), .val (.int (F8 ((p0.toInt64) - (1 : Int64)) p0 p1)), .val (.int (F8 ((p1.toInt64) + (1 : Int64)) p0 p1)), .val (.int (F8 q2 p0 p1)), .val (.int (F8 q3 p0 p1)), .val (.int (F8 q4 p0 p1)), .val (.int (1 : Int32)), .val (.int (1 : Int32)), .unset] [])) _
          refine XS.iconst X38.here hx rfl (hb hby at_173) ?_
          show Steps p.tables e below (T38.setTop (mkF m 174 #[.val (.int p0), .val (.int p1), .val (.long q2), .second, .val (.long q3), .second, .val (.long q4), .second, .val (.int p5), .val (.ref b1), .val (.int (1 : Int32)), .val (.int (F8 (p0.toInt64) p0 p1)), .val (.int (F8 (p1.toInt64) p0 p1)), .val (.int (F8 ((p0.toInt64) - (1 : Int64)) p0 p1)), .val (.int (F8 ((p1.toInt64) + (1 : Int64)) p0 p1)), .val (.int (F8 q2 p0 p1)), .val (.int (F8 q3 p0 p1)), .val (.int (F8 q4 p0 p1)), .val (.int (1 : Int32)), .val (.int (1 : Int32)), .unset] [(.int (1 : Int32))])) _
          refine XS.goto X38.here hx rfl (pc0 := 174) (pc' := 178) rfl (hb hby at_174) (by decide) (by decide) ?_
          show Steps p.tables e below (T38.setTop (mkF m 178 #[.val (.int p0), .val (.int p1), .val (.long q2), .second, .val (.long q3), .second, .val (.long q4), .second, .val (.int p5), .val (.ref b1), .val (.int (1 : Int32)), .val (.int (F8 (p0.toInt64) p0 p1)), .val (.int (F8 (p1.toInt64) p0 p1)), .val (.int (F8 ((p0.toInt64) - (1 : Int64)) p0 p1)), .val (.int (F8 ((p1.toInt64) + (1 : Int64)) p0 p1)), .val (.int (F8 q2 p0 p1)), .val (.int (F8 q3 p0 p1)), .val (.int (F8 q4 p0 p1)), .val (.int (1 : Int32)), .val (.int (1 : Int32)), .unset] [(.int (1 : Int32))])) _
          refine XS.istore X38.here hx rfl (hb hby at_178) rfl (l' := #[.val (.int p0), .val (.int p1), .val (.long q2), .second, .val (.long q3), .second, .val (.long q4), .second, .val (.int p5), .val (.ref b1), .val (.int (1 : Int32)), .val (.int (F8 (p0.toInt64) p0 p1)), .val (.int (F8 (p1.toInt64) p0 p1)), .val (.int (F8 ((p0.toInt64) - (1 : Int64)) p0 p1)), .val (.int (F8 ((p1.toInt64) + (1 : Int64)) p0 p1)), .val (.int (F8 q2 p0 p1)), .val (.int (F8 q3 p0 p1)), .val (.int (F8 q4 p0 p1)), .val (.int (1 : Int32)), .val (.int (1 : Int32)), .val (.int (1 : Int32))]) rfl ?_
          show Steps p.tables e below (T38.setTop (mkF m 180 #[.val (.int p0), .val (.int p1), .val (.long q2), .second, .val (.long q3), .second, .val (.long q4), .second, .val (.int p5), .val (.ref b1), .val (.int (1 : Int32)), .val (.int (F8 (p0.toInt64) p0 p1)), .val (.int (F8 (p1.toInt64) p0 p1)), .val (.int (F8 ((p0.toInt64) - (1 : Int64)) p0 p1)), .val (.int (F8 ((p1.toInt64) + (1 : Int64)) p0 p1)), .val (.int (F8 q2 p0 p1)), .val (.int (F8 q3 p0 p1)), .val (.int (F8 q4 p0 p1)), .val (.int (1 : Int32)), .val (.int (1 : Int32)), .val (.int (1 : Int32))] [])) _
          refine XS.iload X38.here hx rfl (hb hby at_180) rfl ?_
          show Steps p.tables e below (T38.setTop (mkF m 182 #[.val (.int p0), .val (.int p1), .val (.long q2), .second, .val (.long q3), .second, .val (.long q4), .second, .val (.int p5), .val (.ref b1), .val (.int (1 : Int32)), .val (.int (F8 (p0.toInt64) p0 p1)), .val (.int (F8 (p1.toInt64) p0 p1)), .val (.int (F8 ((p0.toInt64) - (1 : Int64)) p0 p1)), .val (.int (F8 ((p1.toInt64) + (1 : Int64)) p0 p1)), .val (.int (F8 q2 p0 p1)), .val (.int (F8 q3 p0 p1)), .val (.int (F8 q4 p0 p1)), .val (.int (1 : Int32)), .val (.int (1 : Int32)), .val (.int (1 : Int32))] [(.int (1 : Int32))])) _
          refine XS.ifNo X38.here hx rfl (hb hby at_182) rfl ((if0 _ _).trans (feq (by decide : ¬ ((1 : Int32) = (0 : Int32)))).1) ?_
          show Steps p.tables e below (T38.setTop (mkF m 185 #[.val (.int p0), .val (.int p1), .val (.long q2), .second, .val (.long q3), .second, .val (.long q4), .second, .val (.int p5), .val (.ref b1), .val (.int (1 : Int32)), .val (.int (F8 (p0.toInt64) p0 p1)), .val (.int (F8 (p1.toInt64) p0 p1)), .val (.int (F8 ((p0.toInt64) - (1 : Int64)) p0 p1)), .val (.int (F8 ((p1.toInt64) + (1 : Int64)) p0 p1)), .val (.int (F8 q2 p0 p1)), .val (.int (F8 q3 p0 p1)), .val (.int (F8 q4 p0 p1)), .val (.int (1 : Int32)), .val (.int (1 : Int32)), .val (.int (1 : Int32))] [])) _
          refine XS.iload X38.here hx rfl (hb hby at_185) rfl ?_
          show Steps p.tables e below (T38.setTop (mkF m 187 #[.val (.int p0), .val (.int p1), .val (.long q2), .second, .val (.long q3), .second, .val (.long q4), .second, .val (.int p5), .val (.ref b1), .val (.int (1 : Int32)), .val (.int (F8 (p0.toInt64) p0 p1)), .val (.int (F8 (p1.toInt64) p0 p1)), .val (.int (F8 ((p0.toInt64) - (1 : Int64)) p0 p1)), .val (.int (F8 ((p1.toInt64) + (1 : Int64)) p0 p1)), .val (.int (F8 q2 p0 p1)), .val (.int (F8 q3 p0 p1)), .val (.int (F8 q4 p0 p1)), .val (.int (1 : Int32)), .val (.int (1 : Int32)), .val (.int (1 : Int32))] [(.int (1 : Int32))])) _
          refine XS.ifNo X38.here hx rfl (hb hby at_187) rfl ((if0 _ _).trans (feq (by decide : ¬ ((1 : Int32) = (0 : Int32)))).1) ?_
          show Steps p.tables e below (T38.setTop (mkF m 190 #[.val (.int p0), .val (.int p1), .val (.long q2), .second, .val (.long q3), .second, .val (.long q4), .second, .val (.int p5), .val (.ref b1), .val (.int (1 : Int32)), .val (.int (F8 (p0.toInt64) p0 p1)), .val (.int (F8 (p1.toInt64) p0 p1)), .val (.int (F8 ((p0.toInt64) - (1 : Int64)) p0 p1)), .val (.int (F8 ((p1.toInt64) + (1 : Int64)) p0 p1)), .val (.int (F8 q2 p0 p1)), .val (.int (F8 q3 p0 p1)), .val (.int (F8 q4 p0 p1)), .val (.int (1 : Int32)), .val (.int (1 : Int32)), .val (.int (1 : Int32))] [])) _
          refine XS.iload X38.here hx rfl (hb hby at_190) rfl ?_
          show Steps p.tables e below (T38.setTop (mkF m 192 #[.val (.int p0), .val (.int p1), .val (.long q2), .second, .val (.long q3), .second, .val (.long q4), .second, .val (.int p5), .val (.ref b1), .val (.int (1 : Int32)), .val (.int (F8 (p0.toInt64) p0 p1)), .val (.int (F8 (p1.toInt64) p0 p1)), .val (.int (F8 ((p0.toInt64) - (1 : Int64)) p0 p1)), .val (.int (F8 ((p1.toInt64) + (1 : Int64)) p0 p1)), .val (.int (F8 q2 p0 p1)), .val (.int (F8 q3 p0 p1)), .val (.int (F8 q4 p0 p1)), .val (.int (1 : Int32)), .val (.int (1 : Int32)), .val (.int (1 : Int32))] [(.int (1 : Int32))])) _
          refine XS.ifNo X38.here hx rfl (hb hby at_192) rfl ((if0 _ _).trans (feq (by decide : ¬ ((1 : Int32) = (0 : Int32)))).1) ?_
          show Steps p.tables e below (T38.setTop (mkF m 195 #[.val (.int p0), .val (.int p1), .val (.long q2), .second, .val (.long q3), .second, .val (.long q4), .second, .val (.int p5), .val (.ref b1), .val (.int (1 : Int32)), .val (.int (F8 (p0.toInt64) p0 p1)), .val (.int (F8 (p1.toInt64) p0 p1)), .val (.int (F8 ((p0.toInt64) - (1 : Int64)) p0 p1)), .val (.int (F8 ((p1.toInt64) + (1 : Int64)) p0 p1)), .val (.int (F8 q2 p0 p1)), .val (.int (F8 q3 p0 p1)), .val (.int (F8 q4 p0 p1)), .val (.int (1 : Int32)), .val (.int (1 : Int32)), .val (.int (1 : Int32))] [])) _
          refine XS.iconst X38.here hx rfl (hb hby at_195) ?_
          show Steps p.tables e below (T38.setTop (mkF m 196 #[.val (.int p0), .val (.int p1), .val (.long q2), .second, .val (.long q3), .second, .val (.long q4), .second, .val (.int p5), .val (.ref b1), .val (.int (1 : Int32)), .val (.int (F8 (p0.toInt64) p0 p1)), .val (.int (F8 (p1.toInt64) p0 p1)), .val (.int (F8 ((p0.toInt64) - (1 : Int64)) p0 p1)), .val (.int (F8 ((p1.toInt64) + (1 : Int64)) p0 p1)), .val (.int (F8 q2 p0 p1)), .val (.int (F8 q3 p0 p1)), .val (.int (F8 q4 p0 p1)), .val (.int (1 : Int32)), .val (.int (1 : Int32)), .val (.int (1 : Int32))] [(.int (1 : Int32))])) _
          refine XS.goto X38.here hx rfl (pc0 := 196) (pc' := 200) rfl (hb hby at_196) (by decide) (by decide) ?_
          show Steps p.tables e below (T38.setTop (mkF m 200 #[.val (.int p0), .val (.int p1), .val (.long q2), .second, .val (.long q3), .second, .val (.long q4), .second, .val (.int p5), .val (.ref b1), .val (.int (1 : Int32)), .val (.int (F8 (p0.toInt64) p0 p1)), .val (.int (F8 (p1.toInt64) p0 p1)), .val (.int (F8 ((p0.toInt64) - (1 : Int64)) p0 p1)), .val (.int (F8 ((p1.toInt64) + (1 : Int64)) p0 p1)), .val (.int (F8 q2 p0 p1)), .val (.int (F8 q3 p0 p1)), .val (.int (F8 q4 p0 p1)), .val (.int (1 : Int32)), .val (.int (1 : Int32)), .val (.int (1 : Int32))] [(.int (1 : Int32))])) _
          exact retN X38 hx (t := .boolean) Bd.returns (by simp) (hb hby at_200) hr
        · show Q0 Z p0 p1 q2 q3 q4 p5 w_COMPACT_STRINGS h0 n0 _ T38.heap _
          rw [e38]
          exact ⟨rfl, N38⟩
      · obtain ⟨_, _, ⟨T41, L41, k41, n41⟩, -, X41, ⟨Lc41, hQ41, l41, y41, z41⟩, st41⟩ := Jvm.LawKit.callS X38 hx (y := (⟨"com/example/hawser/hawser/text/RangeContainsPinLaw", "between", "(JJJ)Z"⟩ : MethodName)) hown (mvT hZ (hw _ (List.mem_of_getElem? (i := 49) rfl))) (mvT hZ (hw _ (List.mem_of_getElem? (i := 50) rfl))) (mvT hZ (hw _ (List.mem_of_getElem? (i := 51) rfl))) (mvT hZ (hw _ (List.mem_of_getElem? (i := 52) rfl))) (by decide) (backOf (W := 0) (rm9 l Z a0 hw [] q3 q2 q4 T14.heap n0 Z14) hZ (hw _ (List.mem_of_getElem? (i := 52) rfl)) (hw _ (List.mem_of_getElem? (i := 51) rfl)) (by decide) (by decide)) (g := (mkF m 162 #[.val (.int p0), .val (.int p1), .val (.long q2), .second, .val (.long q3), .second, .val (.long q4), .second, .val (.int p5), .val (.ref b1), .val (.int (1 : Int32)), .val (.int (F8 (p0.toInt64) p0 p1)), .val (.int (F8 (p1.toInt64) p0 p1)), .val (.int (F8 ((p0.toInt64) - (1 : Int64)) p0 p1)), .val (.int (F8 ((p1.toInt64) + (1 : Int64)) p0 p1)), .val (.int (F8 q2 p0 p1)), .val (.int (F8 q3 p0 p1)), .val (.int (F8 q4 p0 p1)), .val (.int (1 : Int32)), .val (.int (1 : Int32)), .unset] [(.long q4), (.long q2), (.long q3)])) rfl (by rw [hml]; rfl) (argsL := [(.long q3), (.long q2), (.long q4)]) (rest := []) (lenOf pd_7 rfl) rfl (by show 2 * 0 + _ ≤ _; exact Nat.le_of_eq rfl) (hb hby at_162) (fun _ _ => ⟨rfl, e38, (by decide : 3 + 0 ≤ _), (by decide : 8 + 0 ≤ _)⟩)
        dsimp only [Pt.U, Pt.locs, Pt.cells, Pt.slots] at X41 l41 y41 z41 st41 hQ41
        subst l41 y41 z41
        obtain ⟨rfl, N41q, e41⟩ := hQ41
        have N41 := Fr.app N38 N41q
        have pre42 : ∀ t, Steps p.tables e below (T41.setTop (mkF m 165 #[.val (.int p0), .val (.int p1), .val (.long q2), .second, .val (.long q3), .second, .val (.long q4), .second, .val (.int p5), .val (.ref b1), .val (.int (1 : Int32)), .val (.int (F8 (p0.toInt64) p0 p1)), .val (.int (F8 (p1.toInt64) p0 p1)), .val (.int (F8 ((p0.toInt64) - (1 : Int64)) p0 p1)), .val (.int (F8 ((p1.toInt64) + (1 : Int64)) p0 p1)), .val (.int (F8 q2 p0 p1)), .val (.int (F8 q3 p0 p1)), .val (.int (F8 q4 p0 p1)), .val (.int (1 : Int32)), .val (.int (1 : Int32)), .unset] [(.int (F9 q3 q2 q4))])) t → Steps p.tables e below (s₁.setTop (entryFrame m #[(.int p0), (.int p1), (.long q2), (.long q3), (.long q4), (.int p5)] maxLocals)) t := fun t k => by
          refine pre40 t ?_
          show Steps p.tables e below (T38.setTop (mkF m 154 #[.val (.int p0), .val (.int p1), .val (.long q2), .second, .val (.long q3), .second, .val (.long q4), .second, .val (.int p5), .val (.ref b1), .val (.int (1 : Int32)), .val (.int (F8 (p0.toInt64) p0 p1)), .val (.int (F8 (p1.toInt64) p0 p1)), .val (.int (F8 ((p0.toInt64) - (1 : Int64)) p0 p1)), .val (.int (F8 ((p1.toInt64) + (1 : Int64)) p0 p1)), .val (.int (F8 q2 p0 p1)), .val (.int (F8 q3 p0 p1)), .val (.int (F8 q4 p0 p1)), .val (.int (1 : Int32)), .val (.int (1 : Int32)), .unset] [(.int (F8 q4 p0 p1))])) _
          refine XS.ifNo X38.here hx rfl (hb hby at_154) rfl ((if0 _ _).trans (feq hc154).1) ?_
          show Steps p.tables e below (T38.setTop (mkF m 157 #[.val (.int p0), .val (.int p1), .val (.long q2), .second, .val (.long q3), .second, .val (.long q4), .second, .val (.int p5), .val (.ref b1), .val (.int (1 : Int32)), .val (.int (F8 (p0.toInt64) p0 p1)), .val (.int (F8 (p1.toInt64) p0 p1)), .val (.int (F8 ((p0.toInt64) - (1 : Int64)) p0 p1)), .val (.int (F8 ((p1.toInt64) + (1 : Int64)) p0 p1)), .val (.int (F8 q2 p0 p1)), .val (.int (F8 q3 p0 p1)), .val (.int (F8 q4 p0 p1)), .val (.int (1 : Int32)), .val (.int (1 : Int32)), .unset] [])) _
          refine XS.lload X38.here hx rfl (hb hby at_157) rfl ?_
          show Steps p.tables e below (T38.setTop (mkF m 159 #[.val (.int p0), .val (.int p1), .val (.long q2), .second, .val (.long q3), .second, .val (.long q4), .second, .val (.int p5), .val (.ref b1), .val (.int (1 : Int32)), .val (.int (F8 (p0.toInt64) p0 p1)), .val (.int (F8 (p1.toInt64) p0 p1)), .val (.int (F8 ((p0.toInt64) - (1 : Int64)) p0 p1)), .val (.int (F8 ((p1.toInt64) + (1 : Int64)) p0 p1)), .val (.int (F8 q2 p0 p1)), .val (.int (F8 q3 p0 p1)), .val (.int (F8 q4 p0 p1)), .val (.int (1 : Int32)), .val (.int (1 : Int32)), .unset] [(.long q3)])) _
          refine XS.lloadN X38.here hx rfl (hb hby at_159) rfl ?_
          show Steps p.tables e below (T38.setTop (mkF m 160 #[.val (.int p0), .val (.int p1), .val (.long q2), .second, .val (.long q3), .second, .val (.long q4), .second, .val (.int p5), .val (.ref b1), .val (.int (1 : Int32)), .val (.int (F8 (p0.toInt64) p0 p1)), .val (.int (F8 (p1.toInt64) p0 p1)), .val (.int (F8 ((p0.toInt64) - (1 : Int64)) p0 p1)), .val (.int (F8 ((p1.toInt64) + (1 : Int64)) p0 p1)), .val (.int (F8 q2 p0 p1)), .val (.int (F8 q3 p0 p1)), .val (.int (F8 q4 p0 p1)), .val (.int (1 : Int32)), .val (.int (1 : Int32)), .unset] [(.long q2), (.long q3)])) _
          refine XS.lload X38.here hx rfl (hb hby at_160) rfl ?_
          show Steps p.tables e below (T38.setTop (mkF m 162 #[.val (.int p0), .val (.int p1), .val (.long q2), .second, .val (.long q3), .second, .val (.long q4), .second, .val (.int p5), .val (.ref b1), .val (.int (1 : Int32)), .val (.int (F8 (p0.toInt64) p0 p1)), .val (.int (F8 (p1.toInt64) p0 p1)), .val (.int (F8 ((p0.toInt64) - (1 : Int64)) p0 p1)), .val (.int (F8 ((p1.toInt64) + (1 : Int64)) p0 p1)), .val (.int (F8 q2 p0 p1)), .val (.int (F8 q3 p0 p1)), .val (.int (F8 q4 p0 p1)), .val (.int (1 : Int32)), .val (.int (1 : Int32)), .unset] [(.long q4), (.long q2), (.long q3)])) _
          refine st41 _ ?_
          exact k
        by_cases hc165 : (F9 q3 q2 q4) = (0 : Int32)
        · obtain ⟨fs, hr, hrun, hended, hW, hsame⟩ := X41.leave (v := some (.int (1 : Int32))) (fun h => by rw [Bd.returns] at h; cases h) (BodyLoose.notSynchronized Bd)
          refine ⟨_, _, pre42 _ ?_, hrun, hended, _, _, rfl, ?_, ⟨_, rfl⟩, hW, hsame.mono (by decide) (by decide)⟩
          · show Steps p.tables e below (T41.setTop (mkF m 165 #[.val (.int p0), .val (.int p1), .val (.long q2), .second, .val (.long q3), .second, .val (.long q4), .second, .val (.int p5), .val (.ref b1), .val (.int (1 : Int32)), .val (.int (F8 (p0.toInt64) p0 p1)), .val (.int (F8 (p1.toInt64) p0 p1)), .val (.int (F8 ((p0.toInt64) - (1 : Int64)) p0 p1)), .val (.int (F8 ((p1.toInt64) + (1 : Int64)) p0 p1)), .val (.int (F8 q2 p0 p1)), .val (.int (F8 q3 p0 p1)), .val (.int (F8 q4 p0 p1)), .val (.int (1 : Int32)), .val (.int (1 : Int32)), .unset] [(.int (F9 q3 q2 q4))])) _
            refine XS.ifYes X41.here hx rfl (pc0 := 165) (pc' := 173) rfl (hb hby at_165) rfl ((if0 _ _).trans (teq hc165).1) (by decide) (by decide) ?_
            show Steps p.tables e below (T41.setTop (mkF m 173 #[.val (.int p0), .val (.int p1), .val (.long q2), .second, .val (.long q3), .second, .val (.long q4), .second, .val (.int p5), .val (.ref b1), .val (.int (1 : Int32)), .val (.int (F8 (p0.toInt64) p0 p1)), .val (.int (F8 (p1.toInt64) p0 p1)), .val (.int (F8 ((p0.toInt64) - (1 : Int64)) p0 p1)), .val (.int (F8 ((p1.toInt64) + (1 : Int64)) p0 p1)), .val (.int (F8 q2 p0 p1)), .val (.int (F8 q3 p0 p1)), .val (.int (F8 q4 p0 p1)), .val (.int (1 : Int32)), .val (.int (1 : Int32)), .unset] [])) _
            refine XS.iconst X41.here hx rfl (hb hby at_173) ?_
            show Steps p.tables e below (T41.setTop (mkF m 174 #[.val (.int p0), .val (.int p1), .val (.long q2), .second, .val (.long q3), .second, .val (.long q4), .second, .val (.int p5), .val (.ref b1), .val (.int (1 : Int32)), .val (.int (F8 (p0.toInt64) p0 p1)), .val (.int (F8 (p1.toInt64) p0 p1)), .val (.int (F8 ((p0.toInt64) - (1 : Int64)) p0 p1)), .val (.int (F8 ((p1.toInt64) + (1 : Int64)) p0 p1)), .val (.int (F8 q2 p0 p1)), .val (.int (F8 q3 p0 p1)), .val (.int (F8 q4 p0 p1)), .val (.int (1 : Int32)), .val (.int (1 : Int32)), .unset] [(.int (1 : Int32))])) _
            refine XS.goto X41.here hx rfl (pc0 := 174) (pc' := 178) rfl (hb hby at_174) (by decide) (by decide) ?_
            show Steps p.tables e below (T41.setTop (mkF m 178 #[.val (.int p0), .val (.int p1), .val (.long q2), .second, .val (.long q3), .second, .val (.long q4), .second, .val (.int p5), .val (.ref b1), .val (.int (1 : Int32)), .val (.int (F8 (p0.toInt64) p0 p1)), .val (.int (F8 (p1.toInt64) p0 p1)), .val (.int (F8 ((p0.toInt64) - (1 : Int64)) p0 p1)), .val (.int (F8 ((p1.toInt64) + (1 : Int64)) p0 p1)), .val (.int (F8 q2 p0 p1)), .val (.int (F8 q3 p0 p1)), .val (.int (F8 q4 p0 p1)), .val (.int (1 : Int32)), .val (.int (1 : Int32)), .unset] [(.int (1 : Int32))])) _
            refine XS.istore X41.here hx rfl (hb hby at_178) rfl (l' := #[.val (.int p0), .val (.int p1), .val (.long q2), .second, .val (.long q3), .second, .val (.long q4), .second, .val (.int p5), .val (.ref b1), .val (.int (1 : Int32)), .val (.int (F8 (p0.toInt64) p0 p1)), .val (.int (F8 (p1.toInt64) p0 p1)), .val (.int (F8 ((p0.toInt64) - (1 : Int64)) p0 p1)), .val (.int (F8 ((p1.toInt64) + (1 : Int64)) p0 p1)), .val (.int (F8 q2 p0 p1)), .val (.int (F8 q3 p0 p1)), .val (.int (F8 q4 p0 p1)), .val (.int (1 : Int32)), .val (.int (1 : Int32)), .val (.int (1 : Int32))]) rfl ?_
            show Steps p.tables e below (T41.setTop (mkF m 180 #[.val (.int p0), .val (.int p1), .val (.long q2), .second, .val (.long q3), .second, .val (.long q4), .second, .val (.int p5), .val (.ref b1), .val (.int (1 : Int32)), .val (.int (F8 (p0.toInt64) p0 p1)), .val (.int (F8 (p1.toInt64) p0 p1)), .val (.int (F8 ((p0.toInt64) - (1 : Int64)) p0 p1)), .val (.int (F8 ((p1.toInt64) + (1 : Int64)) p0 p1)), .val (.int (F8 q2 p0 p1)), .val (.int (F8 q3 p0 p1)), .val (.int (F8 q4 p0 p1)), .val (.int (1 : Int32)), .val (.int (1 : Int32)), .val (.int (1 : Int32))] [])) _
            refine XS.iload X41.here hx rfl (hb hby at_180) rfl ?_
            show Steps p.tables e below (T41.setTop (mkF m 182 #[.val (.int p0), .val (.int p1), .val (.long q2), .second, .val (.long q3), .second, .val (.long q4), .second, .val (.int p5), .val (.ref b1), .val (.int (1 : Int32)), .val (.int (F8 (p0.toInt64) p0 p1)), .val (.int (F8 (p1.toInt64) p0 p1)), .val (.int (F8 ((p0.toInt64) - (1 : Int64)) p0 p1)), .val (.int (F8 ((p1.toInt64) + (1 : Int64)) p0 p1)), .val (.int (F8 q2 p0 p1)), .val (.int (F8 q3 p0 p1)), .val (.int (F8 q4 p0 p1)), .val (.int (1 : Int32)), .val (.int (1 : Int32)), .val (.int (1 : Int32))] [(.int (1 : Int32))])) _
            refine XS.ifNo X41.here hx rfl (hb hby at_182) rfl ((if0 _ _).trans (feq (by decide : ¬ ((1 : Int32) = (0 : Int32)))).1) ?_
            show Steps p.tables e below (T41.setTop (mkF m 185 #[.val (.int p0), .val (.int p1), .val (.long q2), .second, .val (.long q3), .second, .val (.long q4), .second, .val (.int p5), .val (.ref b1), .val (.int (1 : Int32)), .val (.int (F8 (p0.toInt64) p0 p1)), .val (.int (F8 (p1.toInt64) p0 p1)), .val (.int (F8 ((p0.toInt64) - (1 : Int64)) p0 p1)), .val (.int (F8 ((p1.toInt64) + (1 : Int64)) p0 p1)), .val (.int (F8 q2 p0 p1)), .val (.int (F8 q3 p0 p1)), .val (.int (F8 q4 p0 p1)), .val (.int (1 : Int32)), .val (.int (1 : Int32)), .val (.int (1 : Int32))] [])) _
            refine XS.iload X41.here hx rfl (hb hby at_185) rfl ?_
            show Steps p.tables e below (T41.setTop (mkF m 187 #[.val (.int p0), .val (.int p1), .val (.long q2), .second, .val (.long q3), .second, .val (.long q4), .second, .val (.int p5), .val (.ref b1), .val (.int (1 : Int32)), .val (.int (F8 (p0.toInt64) p0 p1)), .val (.int (F8 (p1.toInt64) p0 p1)), .val (.int (F8 ((p0.toInt64) - (1 : Int64)) p0 p1)), .val (.int (F8 ((p1.toInt64) + (1 : Int64)) p0 p1)), .val (.int (F8 q2 p0 p1)), .val (.int (F8 q3 p0 p1)), .val (.int (F8 q4 p0 p1)), .val (.int (1 : Int32)), .val (.int (1 : Int32)), .val (.int (1 : Int32))] [(.int (1 : Int32))])) _
            refine XS.ifNo X41.here hx rfl (hb hby at_187) rfl ((if0 _ _).trans (feq (by decide : ¬ ((1 : Int32) = (0 : Int32)))).1) ?_
            show Steps p.tables e below (T41.setTop (mkF m 190 #[.val (.int p0), .val (.int p1), .val (.long q2), .second, .val (.long q3), .second, .val (.long q4), .second, .val (.int p5), .val (.ref b1), .val (.int (1 : Int32)), .val (.int (F8 (p0.toInt64) p0 p1)), .val (.int (F8 (p1.toInt64) p0 p1)), .val (.int (F8 ((p0.toInt64) - (1 : Int64)) p0 p1)), .val (.int (F8 ((p1.toInt64) + (1 : Int64)) p0 p1)), .val (.int (F8 q2 p0 p1)), .val (.int (F8 q3 p0 p1)), .val (.int (F8 q4 p0 p1)), .val (.int (1 : Int32)), .val (.int (1 : Int32)), .val (.int (1 : Int32))] [])) _
            refine XS.iload X41.here hx rfl (hb hby at_190) rfl ?_
            show Steps p.tables e below (T41.setTop (mkF m 192 #[.val (.int p0), .val (.int p1), .val (.long q2), .second, .val (.long q3), .second, .val (.long q4), .second, .val (.int p5), .val (.ref b1), .val (.int (1 : Int32)), .val (.int (F8 (p0.toInt64) p0 p1)), .val (.int (F8 (p1.toInt64) p0 p1)), .val (.int (F8 ((p0.toInt64) - (1 : Int64)) p0 p1)), .val (.int (F8 ((p1.toInt64) + (1 : Int64)) p0 p1)), .val (.int (F8 q2 p0 p1)), .val (.int (F8 q3 p0 p1)), .val (.int (F8 q4 p0 p1)), .val (.int (1 : Int32)), .val (.int (1 : Int32)), .val (.int (1 : Int32))] [(.int (1 : Int32))])) _
            refine XS.ifNo X41.here hx rfl (hb hby at_192) rfl ((if0 _ _).trans (feq (by decide : ¬ ((1 : Int32) = (0 : Int32)))).1) ?_
            show Steps p.tables e below (T41.setTop (mkF m 195 #[.val (.int p0), .val (.int p1), .val (.long q2), .second, .val (.long q3), .second, .val (.long q4), .second, .val (.int p5), .val (.ref b1), .val (.int (1 : Int32)), .val (.int (F8 (p0.toInt64) p0 p1)), .val (.int (F8 (p1.toInt64) p0 p1)), .val (.int (F8 ((p0.toInt64) - (1 : Int64)) p0 p1)), .val (.int (F8 ((p1.toInt64) + (1 : Int64)) p0 p1)), .val (.int (F8 q2 p0 p1)), .val (.int (F8 q3 p0 p1)), .val (.int (F8 q4 p0 p1)), .val (.int (1 : Int32)), .val (.int (1 : Int32)), .val (.int (1 : Int32))] [])) _
            refine XS.iconst X41.here hx rfl (hb hby at_195) ?_
            show Steps p.tables e below (T41.setTop (mkF m 196 #[.val (.int p0), .val (.int p1), .val (.long q2), .second, .val (.long q3), .second, .val (.long q4), .second, .val (.int p5), .val (.ref b1), .val (.int (1 : Int32)), .val (.int (F8 (p0.toInt64) p0 p1)), .val (.int (F8 (p1.toInt64) p0 p1)), .val (.int (F8 ((p0.toInt64) - (1 : Int64)) p0 p1)), .val (.int (F8 ((p1.toInt64) + (1 : Int64)) p0 p1)), .val (.int (F8 q2 p0 p1)), .val (.int (F8 q3 p0 p1)), .val (.int (F8 q4 p0 p1)), .val (.int (1 : Int32)), .val (.int (1 : Int32)), .val (.int (1 : Int32))] [(.int (1 : Int32))])) _
            refine XS.goto X41.here hx rfl (pc0 := 196) (pc' := 200) rfl (hb hby at_196) (by decide) (by decide) ?_
            show Steps p.tables e below (T41.setTop (mkF m 200 #[.val (.int p0), .val (.int p1), .val (.long q2), .second, .val (.long q3), .second, .val (.long q4), .second, .val (.int p5), .val (.ref b1), .val (.int (1 : Int32)), .val (.int (F8 (p0.toInt64) p0 p1)), .val (.int (F8 (p1.toInt64) p0 p1)), .val (.int (F8 ((p0.toInt64) - (1 : Int64)) p0 p1)), .val (.int (F8 ((p1.toInt64) + (1 : Int64)) p0 p1)), .val (.int (F8 q2 p0 p1)), .val (.int (F8 q3 p0 p1)), .val (.int (F8 q4 p0 p1)), .val (.int (1 : Int32)), .val (.int (1 : Int32)), .val (.int (1 : Int32))] [(.int (1 : Int32))])) _
            exact retN X41 hx (t := .boolean) Bd.returns (by simp) (hb hby at_200) hr
          · show Q0 Z p0 p1 q2 q3 q4 p5 w_COMPACT_STRINGS h0 n0 _ T41.heap _
            rw [e41]
            exact ⟨rfl, N41⟩
        · have hc170 : ¬ ((F8 q3 p0 p1) = (0 : Int32)) := own_conv hc149 hc154 hc165
          obtain ⟨fs, hr, hrun, hended, hW, hsame⟩ := X41.leave (v := some (.int (1 : Int32))) (fun h => by rw [Bd.returns] at h; cases h) (BodyLoose.notSynchronized Bd)
          refine ⟨_, _, pre42 _ ?_, hrun, hended, _, _, rfl, ?_, ⟨_, rfl⟩, hW, hsame.mono (by decide) (by decide)⟩
          · show Steps p.tables e below (T41.setTop (mkF m 165 #[.val (.int p0), .val (.int p1), .val (.long q2), .second, .val (.long q3), .second, .val (.long q4), .second, .val (.int p5), .val (.ref b1), .val (.int (1 : Int32)), .val (.int (F8 (p0.toInt64) p0 p1)), .val (.int (F8 (p1.toInt64) p0 p1)), .val (.int (F8 ((p0.toInt64) - (1 : Int64)) p0 p1)), .val (.int (F8 ((p1.toInt64) + (1 : Int64)) p0 p1)), .val (.int (F8 q2 p0 p1)), .val (.int (F8 q3 p0 p1)), .val (.int (F8 q4 p0 p1)), .val (.int (1 : Int32)), .val (.int (1 : Int32)), .unset] [(.int (F9 q3 q2 q4))])) _
            refine XS.ifNo X41.here hx rfl (hb hby at_165) rfl ((if0 _ _).trans (feq hc165).1) ?_
            show Steps p.tables e below (T41.setTop (mkF m 168 #[.val (.int p0), .val (.int p1), .val (.long q2), .second, .val (.long q3), .second, .val (.long q4), .second, .val (.int p5), .val (.ref b1), .val (.int (1 : Int32)), .val (.int (F8 (p0.toInt64) p0 p1)), .val (.int (F8 (p1.toInt64) p0 p1)), .val (.int (F8 ((p0.toInt64) - (1 : Int64)) p0 p1)), .val (.int (F8 ((p1.toInt64) + (1 : Int64)) p0 p1)), .val (.int (F8 q2 p0 p1)), .val (.int (F8 q3 p0 p1)), .val (.int (F8 q4 p0 p1)), .val (.int (1 : Int32)), .val (.int (1 : Int32)), .unset] [])) _
            refine XS.iload X41.here hx rfl (hb hby at_168) rfl ?_
            show Steps p.tables e below (T41.setTop (mkF m 170 #[.val (.int p0), .val (.int p1), .val (.long q2), .second, .val (.long q3), .second, .val (.long q4), .second, .val (.int p5), .val (.ref b1), .val (.int (1 : Int32)), .val (.int (F8 (p0.toInt64) p0 p1)), .val (.int (F8 (p1.toInt64) p0 p1)), .val (.int (F8 ((p0.toInt64) - (1 : Int64)) p0 p1)), .val (.int (F8 ((p1.toInt64) + (1 : Int64)) p0 p1)), .val (.int (F8 q2 p0 p1)), .val (.int (F8 q3 p0 p1)), .val (.int (F8 q4 p0 p1)), .val (.int (1 : Int32)), .val (.int (1 : Int32)), .unset] [(.int (F8 q3 p0 p1))])) _
            refine XS.ifNo X41.here hx rfl (hb hby at_170) rfl ((if0 _ _).trans (feq hc170).1) ?_
            show Steps p.tables e below (T41.setTop (mkF m 173 #[.val (.int p0), .val (.int p1), .val (.long q2), .second, .val (.long q3), .second, .val (.long q4), .second, .val (.int p5), .val (.ref b1), .val (.int (1 : Int32)), .val (.int (F8 (p0.toInt64) p0 p1)), .val (.int (F8 (p1.toInt64) p0 p1)), .val (.int (F8 ((p0.toInt64) - (1 : Int64)) p0 p1)), .val (.int (F8 ((p1.toInt64) + (1 : Int64)) p0 p1)), .val (.int (F8 q2 p0 p1)), .val (.int (F8 q3 p0 p1)), .val (.int (F8 q4 p0 p1)), .val (.int (1 : Int32)), .val (.int (1 : Int32)), .unset] [])) _
            refine XS.iconst X41.here hx rfl (hb hby at_173) ?_
            show Steps p.tables e below (T41.setTop (mkF m 174 #[.val (.int p0), .val (.int p1), .val (.long q2), .second, .val (.long q3), .second, .val (.long q4), .second, .val (.int p5), .val (.ref b1), .val (.int (1 : Int32)), .val (.int (F8 (p0.toInt64) p0 p1)), .val (.int (F8 (p1.toInt64) p0 p1)), .val (.int (F8 ((p0.toInt64) - (1 : Int64)) p0 p1)), .val (.int (F8 ((p1.toInt64) + (1 : Int64)) p0 p1)), .val (.int (F8 q2 p0 p1)), .val (.int (F8 q3 p0 p1)), .val (.int (F8 q4 p0 p1)), .val (.int (1 : Int32)), .val (.int (1 : Int32)), .unset] [(.int (1 : Int32))])) _
            refine XS.goto X41.here hx rfl (pc0 := 174) (pc' := 178) rfl (hb hby at_174) (by decide) (by decide) ?_
            show Steps p.tables e below (T41.setTop (mkF m 178 #[.val (.int p0), .val (.int p1), .val (.long q2), .second, .val (.long q3), .second, .val (.long q4), .second, .val (.int p5), .val (.ref b1), .val (.int (1 : Int32)), .val (.int (F8 (p0.toInt64) p0 p1)), .val (.int (F8 (p1.toInt64) p0 p1)), .val (.int (F8 ((p0.toInt64) - (1 : Int64)) p0 p1)), .val (.int (F8 ((p1.toInt64) + (1 : Int64)) p0 p1)), .val (.int (F8 q2 p0 p1)), .val (.int (F8 q3 p0 p1)), .val (.int (F8 q4 p0 p1)), .val (.int (1 : Int32)), .val (.int (1 : Int32)), .unset] [(.int (1 : Int32))])) _
            refine XS.istore X41.here hx rfl (hb hby at_178) rfl (l' := #[.val (.int p0), .val (.int p1), .val (.long q2), .second, .val (.long q3), .second, .val (.long q4), .second, .val (.int p5), .val (.ref b1), .val (.int (1 : Int32)), .val (.int (F8 (p0.toInt64) p0 p1)), .val (.int (F8 (p1.toInt64) p0 p1)), .val (.int (F8 ((p0.toInt64) - (1 : Int64)) p0 p1)), .val (.int (F8 ((p1.toInt64) + (1 : Int64)) p0 p1)), .val (.int (F8 q2 p0 p1)), .val (.int (F8 q3 p0 p1)), .val (.int (F8 q4 p0 p1)), .val (.int (1 : Int32)), .val (.int (1 : Int32)), .val (.int (1 : Int32))]) rfl ?_
            show Steps p.tables e below (T41.setTop (mkF m 180 #[.val (.int p0), .val (.int p1), .val (.long q2), .second, .val (.long q3), .second, .val (.long q4), .second, .val (.int p5), .val (.ref b1), .val (.int (1 : Int32)), .val (.int (F8 (p0.toInt64) p0 p1)), .val (.int (F8 (p1.toInt64) p0 p1)), .val (.int (F8 ((p0.toInt64) - (1 : Int64)) p0 p1)), .val (.int (F8 ((p1.toInt64) + (1 : Int64)) p0 p1)), .val (.int (F8 q2 p0 p1)), .val (.int (F8 q3 p0 p1)), .val (.int (F8 q4 p0 p1)), .val (.int (1 : Int32)), .val (.int (1 : Int32)), .val (.int (1 : Int32))] [])) _
            refine XS.iload X41.here hx rfl (hb hby at_180) rfl ?_
            show Steps p.tables e below (T41.setTop (mkF m 182 #[.val (.int p0), .val (.int p1), .val (.long q2), .second, .val (.long q3), .second, .val (.long q4), .second, .val (.int p5), .val (.ref b1), .val (.int (1 : Int32)), .val (.int (F8 (p0.toInt64) p0 p1)), .val (.int (F8 (p1.toInt64) p0 p1)), .val (.int (F8 ((p0.toInt64) - (1 : Int64)) p0 p1)), .val (.int (F8 ((p1.toInt64) + (1 : Int64)) p0 p1)), .val (.int (F8 q2 p0 p1)), .val (.int (F8 q3 p0 p1)), .val (.int (F8 q4 p0 p1)), .val (.int (1 : Int32)), .val (.int (1 : Int32)), .val (.int (1 : Int32))] [(.int (1 : Int32))])) _
            refine XS.ifNo X41.here hx rfl (hb hby at_182) rfl ((if0 _ _).trans (feq (by decide : ¬ ((1 : Int32) = (0 : Int32)))).1) ?_
            show Steps p.tables e below (T41.setTop (mkF m 185 #[.val (.int p0), .val (.int p1), .val (.long q2), .second, .val (.long q3), .second, .val (.long q4), .second, .val (.int p5), .val (.ref b1), .val (.int (1 : Int32)), .val (.int (F8 (p0.toInt64) p0 p1)), .val (.int (F8 (p1.toInt64) p0 p1)), .val (.int (F8 ((p0.toInt64) - (1 : Int64)) p0 p1)), .val (.int (F8 ((p1.toInt64) + (1 : Int64)) p0 p1)), .val (.int (F8 q2 p0 p1)), .val (.int (F8 q3 p0 p1)), .val (.int (F8 q4 p0 p1)), .val (.int (1 : Int32)), .val (.int (1 : Int32)), .val (.int (1 : Int32))] [])) _
            refine XS.iload X41.here hx rfl (hb hby at_185) rfl ?_
            show Steps p.tables e below (T41.setTop (mkF m 187 #[.val (.int p0), .val (.int p1), .val (.long q2), .second, .val (.long q3), .second, .val (.long q4), .second, .val (.int p5), .val (.ref b1), .val (.int (1 : Int32)), .val (.int (F8 (p0.toInt64) p0 p1)), .val (.int (F8 (p1.toInt64) p0 p1)), .val (.int (F8 ((p0.toInt64) - (1 : Int64)) p0 p1)), .val (.int (F8 ((p1.toInt64) + (1 : Int64)) p0 p1)), .val (.int (F8 q2 p0 p1)), .val (.int (F8 q3 p0 p1)), .val (.int (F8 q4 p0 p1)), .val (.int (1 : Int32)), .val (.int (1 : Int32)), .val (.int (1 : Int32))] [(.int (1 : Int32))])) _
            refine XS.ifNo X41.here hx rfl (hb hby at_187) rfl ((if0 _ _).trans (feq (by decide : ¬ ((1 : Int32) = (0 : Int32)))).1) ?_
            show Steps p.tables e below (T41.setTop (mkF m 190 #[.val (.int p0), .val (.int p1), .val (.long q2), .second, .val (.long q3), .second, .val (.long q4), .second, .val (.int p5), .val (.ref b1), .val (.int (1 : Int32)), .val (.int (F8 (p0.toInt64) p0 p1)), .val (.int (F8 (p1.toInt64) p0 p1)), .val (.int (F8 ((p0.toInt64) - (1 : Int64)) p0 p1)), .val (.int (F8 ((p1.toInt64) + (1 : Int64)) p0 p1)), .val (.int (F8 q2 p0 p1)), .val (.int (F8 q3 p0 p1)), .val (.int (F8 q4 p0 p1)), .val (.int (1 : Int32)), .val (.int (1 : Int32)), .val (.int (1 : Int32))] [])) _
            refine XS.iload X41.here hx rfl (hb hby at_190) rfl ?_
            show Steps p.tables e below (T41.setTop (mkF m 192 #[.val (.int p0), .val (.int p1), .val (.long q2), .second, .val (.long q3), .second, .val (.long q4), .second, .val (.int p5), .val (.ref b1), .val (.int (1 : Int32)), .val (.int (F8 (p0.toInt64) p0 p1)), .val (.int (F8 (p1.toInt64) p0 p1)), .val (.int (F8 ((p0.toInt64) - (1 : Int64)) p0 p1)), .val (.int (F8 ((p1.toInt64) + (1 : Int64)) p0 p1)), .val (.int (F8 q2 p0 p1)), .val (.int (F8 q3 p0 p1)), .val (.int (F8 q4 p0 p1)), .val (.int (1 : Int32)), .val (.int (1 : Int32)), .val (.int (1 : Int32))] [(.int (1 : Int32))])) _
            refine XS.ifNo X41.here hx rfl (hb hby at_192) rfl ((if0 _ _).trans (feq (by decide : ¬ ((1 : Int32) = (0 : Int32)))).1) ?_
            show Steps p.tables e below (T41.setTop (mkF m 195 #[.val (.int p0), .val (.int p1), .val (.long q2), .second, .val (.long q3), .second, .val (.long q4), .second, .val (.int p5), .val (.ref b1), .val (.int (1 : Int32)), .val (.int (F8 (p0.toInt64) p0 p1)), .val (.int (F8 (p1.toInt64) p0 p1)), .val (.int (F8 ((p0.toInt64) - (1 : Int64)) p0 p1)), .val (.int (F8 ((p1.toInt64) + (1 : Int64)) p0 p1)), .val (.int (F8 q2 p0 p1)), .val (.int (F8 q3 p0 p1)), .val (.int (F8 q4 p0 p1)), .val (.int (1 : Int32)), .val (.int (1 : Int32)), .val (.int (1 : Int32))] [])) _
            refine XS.iconst X41.here hx rfl (hb hby at_195) ?_
            show Steps p.tables e below (T41.setTop (mkF m 196 #[.val (.int p0), .val (.int p1), .val (.long q2), .second, .val (.long q3), .second, .val (.long q4), .second, .val (.int p5), .val (.ref b1), .val (.int (1 : Int32)), .val (.int (F8 (p0.toInt64) p0 p1)), .val (.int (F8 (p1.toInt64) p0 p1)), .val (.int (F8 ((p0.toInt64) - (1 : Int64)) p0 p1)), .val (.int (F8 ((p1.toInt64) + (1 : Int64)) p0 p1)), .val (.int (F8 q2 p0 p1)), .val (.int (F8 q3 p0 p1)), .val (.int (F8 q4 p0 p1)), .val (.int (1 : Int32)), .val (.int (1 : Int32)), .val (.int (1 : Int32))] [(.int (1 : Int32))])) _
            refine XS.goto X41.here hx rfl (pc0 := 196) (pc' := 200) rfl (hb hby at_196) (by decide) (by decide) ?_
            show Steps p.tables e below (T41.setTop (mkF m 200 #[.val (.int p0), .val (.int p1), .val (.long q2), .second, .val (.long q3), .second, .val (.long q4), .second, .val (.int p5), .val (.ref b1), .val (.int (1 : Int32)), .val (.int (F8 (p0.toInt64) p0 p1)), .val (.int (F8 (p1.toInt64) p0 p1)), .val (.int (F8 ((p0.toInt64) - (1 : Int64)) p0 p1)), .val (.int (F8 ((p1.toInt64) + (1 : Int64)) p0 p1)), .val (.int (F8 q2 p0 p1)), .val (.int (F8 q3 p0 p1)), .val (.int (F8 q4 p0 p1)), .val (.int (1 : Int32)), .val (.int (1 : Int32)), .val (.int (1 : Int32))] [(.int (1 : Int32))])) _
            exact retN X41 hx (t := .boolean) Bd.returns (by simp) (hb hby at_200) hr
          · show Q0 Z p0 p1 q2 q3 q4 p5 w_COMPACT_STRINGS h0 n0 _ T41.heap _
            rw [e41]
            exact ⟨rfl, N41⟩
set_option maxRecDepth 65536 in
set_option maxHeartbeats 40000000 in
theorem comes_1 {Post : Tables → Env → Array Value → State → Outcome → State → Prop} (hpost : ∀ tb e args s v u, (limb_1_1.after args s (.returned v) u = true ∧ limb_1_2.after args s (.returned v) u = true ∧ True) → FrameEnd s (.returned v) u (Jvm.fieldLocs frame_1_writes args s ++ Jvm.arrayLocs frame_1_arrays args s ++ Jvm.staticLocs frame_1_statics s) 16 128 → Post tb e args s (.returned v) u) :
    ArmFor flags0 classFile x code maxLocals ret World_1 tables_1 room_1 Calls_1 rest_1 Pre_1 Post := by
  intro l hfl _ _ p e ha hc hk s m args below hf hA hF happ hP
  obtain ⟨hcalls, hrest, hpre⟩ := hP
  obtain ⟨-, -, -, hnamed, -, -, -, hat⟩ := (Spec.applies_iff hf).mp happ
  obtain ⟨hg, hn⟩ := and_e (Cond.before_iff.mp (show (Jvm.Cond.and given_1 narrow_1).before args s = true from hpre))
  obtain ⟨g1, g2⟩ := and_e hg
  obtain ⟨g3, g4⟩ := and_e g2
  obtain ⟨g5, g6⟩ := and_e g4
  obtain ⟨g7, g8⟩ := and_e g6
  obtain ⟨g9, g10⟩ := and_e g8
  obtain ⟨g11, g12⟩ := and_e g10
  obtain ⟨w0, w1, w2, w3, w4, w5, rfl⟩ : ∃ w0 w1 w2 w3 w4 w5 : Value, args = #[w0, w1, w2, w3, w4, w5] := by
    have hs : args.size = 6 := by simpa [Cond.value, given_1] using g1
    obtain ⟨L⟩ := args
    match L, hs with
    | [w0, w1, w2, w3, w4, w5], _ => exact ⟨w0, w1, w2, w3, w4, w5, rfl⟩
  have hw := fun d (hd : d ∈ tables_1) => atoms_spec (ws := Jvm.Cond.code x code maxLocals ret :: tables_1) hat d (List.mem_cons_of_mem _ hd)
  obtain ⟨hsets, hown0⟩ := atoms_of _ (rest_1_c_eq ▸ (show rest_1_c.before _ s = true from hrest))
  obtain ⟨i0, ei0⟩ := is_v g3
  obtain rfl : w0 = (.int i0) := Option.some.inj ei0
  obtain ⟨i1, ei1⟩ := is_v g5
  obtain rfl : w1 = (.int i1) := Option.some.inj ei1
  obtain ⟨i2, ei2⟩ := isL_v g7
  obtain rfl : w2 = (.long i2) := Option.some.inj ei2
  obtain ⟨i3, ei3⟩ := isL_v g9
  obtain rfl : w3 = (.long i3) := Option.some.inj ei3
  obtain ⟨i4, ei4⟩ := isL_v g11
  obtain rfl : w4 = (.long i4) := Option.some.inj ei4
  obtain ⟨i5, ei5⟩ := is_v g12
  obtain rfl : w5 = (.int i5) := Option.some.inj ei5
  obtain ⟨w_COMPACT_STRINGS, ecs⟩ := is_v (Cond.before_iff.mp (hsets _ (List.mem_of_getElem? (i := 1) rfl)))
  have S_COMPACT_STRINGS := Sta.start ecs (Or.inl (hsets _ (List.mem_of_getElem? (i := 0) rfl)))
  have hcs : ¬ (w_COMPACT_STRINGS = (0 : Int32)) := own_cs ecs (hsets _ (List.mem_of_getElem? (i := 2) rfl))
  obtain ⟨n, o, h1, h2, h3, _, L, rfl, ⟨rfl, N⟩, hq⟩ := rm0 l s _ hw tables_1 i0 i1 i2 i3 i4 i5 w_COMPACT_STRINGS s.heap s.heap.size (Nat.le_refl _) S_COMPACT_STRINGS hcs p e ha hc hk s m _ below hf ((Spec.applies_iff_loose hf).mp happ).1 ⟨rfl, State.Warmed39.refl s, rfl⟩ trivial
  refine ⟨n, _, h1, h2, h3, hpost _ _ _ _ _ _ ⟨Cond.after_iff.mpr rfl, Cond.after_iff.mpr (eq_i res_at (Term.int_eval (1)) rfl), trivial⟩ ⟨hq.1, hq.2.1, (hq.2.2.sift fun y hy => Or.inr (N y hy)).mono (by decide) (by decide)⟩⟩
theorem main_1_1 : Claimed_1_1 := comes_1 fun _ _ _ _ _ _ h hF => ⟨h.1, hF⟩
theorem main_1_2 : Claimed_1_2 := comes_1 fun _ _ _ _ _ _ h hF => ⟨h.2.1, hF⟩
end Jvm.Pilot.@@N@@
namespace Jvm.Pilot.@@N@@
open Jvm Jvm.ClassFile Sem Op Lib Jvm.Free Jvm.Stand Jvm.Pilot.@@N@@.Jvm.D
/-! MADE BY PROGRAM (witnessworld.py) out of the Statement's table words and the real class files: 18 classes; the members and pool entries that the words name. The judged class is class 1, her method 2. -/
namespace start1
open Jvm.ClassFile
def u (s : String) : CpInfo := .utf8 (stringToUtf16 s)
/-- a pool by its gaps: so many unusable entries, then the entry; so many at the end -/
def gap : Nat → List CpInfo → List CpInfo
  | 0, r => r
  | n + 1, r => .unusable :: gap n r
def poolList (es : List (Nat × CpInfo)) (last : Nat) : List CpInfo := es.foldr (fun e r => gap e.1 (e.2 :: r)) (gap last [])
def pool (es : List (Nat × CpInfo)) (last : Nat) : Array CpInfo := ⟨poolList es last⟩
def fileOf (pool : Array CpInfo) (this : Nat) (attrs : Array Attribute := #[]) (ms : Array MethodInfo := #[]) (fl : Nat := 33) (sup : Nat := 0) (ifs : Array Nat := #[]) (fds : Array FieldInfo := #[]) : ClassFile where
  minorVersion := 0
  majorVersion := 65
  constantPool := pool
  accessFlags := fl
  thisClass := this
  superClass := sup
  interfaces := ifs
  fields := fds
  methods := ms
  attributes := attrs
def plain (name : String) (sup : Option ClassId) : Class where
  name := name
  kind := .ordinary
  loader := none
  accessFlags := 33
  super := sup
  interfaces := #[]
  cf := none
  fields := #[]
  methods := #[]
  instanceTypes := #[]
  staticTypes := #[]
  resolved := #[]
  callSites := []
  init := .initialized
  statics := none
  mirror := none

def pool0 : Array CpInfo := pool [(5, u "<init>"), (0, u "()V"), (1, .class_ 10), (1, u "java/lang/Object")] 113

def k0c0 : Code := { maxStack := 0, maxLocals := 1, code := object_method_1_code, exceptionTable := #[], attributes := #[] }
def k0m0 : Method := { name := "<init>", desc := "()V", sig := { parameters := [], returnType := none }, accessFlags := 1, code := some k0c0 }
/-- java/lang/Object -/
def k0 : Class := { plain "java/lang/Object" none with
  accessFlags := 33
  interfaces := #[]
  cf := some (fileOf pool0 8 #[] #[{ accessFlags := 1, nameIndex := 5, descriptorIndex := 6, attributes := #[] }] 33 0 #[] #[])
  fields := #[]
  methods := #[k0m0]
  instanceTypes := #[]
  staticTypes := #[]
  resolved := Array.replicate 124 none
  statics := none }

def pool1 : Array CpInfo := pool [(2, .class_ 4), (1, u "java/lang/Object"), (0, u "<init>"), (0, u "()V"), (0, .class_ 8), (0, u "com/example/hawser/hawser/text/Range"), (0, .methodref 10 11), (0, .class_ 12), (0, .nameAndType 13 14), (0, u "java/lang/String"), (0, u "valueOf"), (0, u "(C)Ljava/lang/String;"), (0, .methodref 7 16), (0, .nameAndType 5 17), (0, u "(IILjava/lang/String;)V"), (0, .methodref 7 19), (0, .nameAndType 20 21), (0, u "contains"), (0, u "(J)Z"), (0, .methodref 23 24), (0, .class_ 25), (0, .nameAndType 26 27), (0, u "com/example/hawser/hawser/text/RangeContainsPinLaw"), (0, u "between"), (0, u "(JJJ)Z"), (3, u "law"), (0, u "(IIJJJI)Z")] 2

def k1m0 : Method := { name := "<init>", desc := "()V", sig := { parameters := [], returnType := none }, accessFlags := 1, code := none }
def k1c1 : Code := { maxStack := 4, maxLocals := 6, code := method_2_code, exceptionTable := #[], attributes := #[] }
def k1m1 : Method := { name := "between", desc := "(JJJ)Z", sig := { parameters := [.long, .long, .long], returnType := some .boolean }, accessFlags := 10, code := some k1c1 }
def k1c2 : Code := { maxStack := 6, maxLocals := 21, code := code, exceptionTable := #[], attributes := #[] }
def k1m2 : Method := { name := "law", desc := "(IIJJJI)Z", sig := { parameters := [.int, .int, .long, .long, .long, .int], returnType := some .boolean }, accessFlags := 9, code := some k1c2 }
/-- com/example/hawser/hawser/text/RangeContainsPinLaw -/
def k1 : Class := { plain "com/example/hawser/hawser/text/RangeContainsPinLaw" (some 0) with
  accessFlags := 49
  interfaces := #[]
  cf := some (fileOf pool1 23 #[] #[{ accessFlags := 1, nameIndex := 5, descriptorIndex := 6, attributes := #[] }, { accessFlags := 10, nameIndex := 26, descriptorIndex := 27, attributes := #[] }, { accessFlags := 9, nameIndex := 31, descriptorIndex := 32, attributes := #[] }] 49 2 #[] #[])
  fields := #[]
  methods := #[k1m0, k1m1, k1m2]
  instanceTypes := #[]
  staticTypes := #[]
  resolved := Array.replicate 35 none
  statics := none }

def pool2 : Array CpInfo := pool [(1, .methodref 2 3), (0, .class_ 4), (0, .nameAndType 5 6), (0, u "java/lang/Object"), (0, u "<init>"), (0, u "()V"), (0, .class_ 8), (0, u "java/lang/Record")] 13

def k2c0 : Code := { maxStack := 1, maxLocals := 1, code := jdk_30_method_1_code, exceptionTable := #[], attributes := #[] }
def k2m0 : Method := { name := "<init>", desc := "()V", sig := { parameters := [], returnType := none }, accessFlags := 4, code := some k2c0 }
/-- java/lang/Record -/
def k2 : Class := { plain "java/lang/Record" (some 0) with
  accessFlags := 1057
  interfaces := #[]
  cf := some (fileOf pool2 7 #[] #[{ accessFlags := 4, nameIndex := 5, descriptorIndex := 6, attributes := #[] }] 1057 2 #[] #[])
  fields := #[]
  methods := #[k2m0]
  instanceTypes := #[]
  staticTypes := #[]
  resolved := Array.replicate 22 none
  statics := none }

def pool3 : Array CpInfo := pool [(1, .methodref 2 3), (0, .class_ 4), (0, .nameAndType 5 6), (0, u "java/lang/Record"), (0, u "<init>"), (0, u "()V"), (0, .fieldref 8 9), (0, .class_ 10), (0, .nameAndType 11 12), (0, u "com/example/hawser/hawser/text/Range"), (0, u "min"), (0, u "I"), (0, .fieldref 8 14), (0, .nameAndType 15 12), (0, u "max"), (0, .fieldref 8 17), (0, .nameAndType 18 19), (0, u "unit"), (0, u "Ljava/lang/String;"), (12, u "(IILjava/lang/String;)V"), (3, u "contains"), (0, u "(J)Z")] 35

def k3c0 : Code := { maxStack := 2, maxLocals := 4, code := prog_66_method_1_code, exceptionTable := #[], attributes := #[] }
def k3m0 : Method := { name := "<init>", desc := "(IILjava/lang/String;)V", sig := { parameters := [.int, .int, (.object "java/lang/String")], returnType := none }, accessFlags := 1, code := some k3c0 }
def k3c1 : Code := { maxStack := 4, maxLocals := 3, code := prog_66_method_2_code, exceptionTable := #[], attributes := #[] }
def k3m1 : Method := { name := "contains", desc := "(J)Z", sig := { parameters := [.long], returnType := some .boolean }, accessFlags := 1, code := some k3c1 }
/-- com/example/hawser/hawser/text/Range -/
def k3 : Class := { plain "com/example/hawser/hawser/text/Range" (some 2) with
  accessFlags := 49
  interfaces := #[]
  cf := some (fileOf pool3 8 #[] #[{ accessFlags := 1, nameIndex := 5, descriptorIndex := 32, attributes := #[] }, { accessFlags := 1, nameIndex := 36, descriptorIndex := 37, attributes := #[] }] 49 2 #[] #[{ accessFlags := 18, nameIndex := 11, descriptorIndex := 12, attributes := #[] }, { accessFlags := 18, nameIndex := 15, descriptorIndex := 12, attributes := #[] }, { accessFlags := 18, nameIndex := 18, descriptorIndex := 19, attributes := #[] }])
  fields := #[{ name := "min", type := .int, accessFlags := 18, slot := 0, constantValue := 0 }, { name := "max", type := .int, accessFlags := 18, slot := 1, constantValue := 0 }, { name := "unit", type := (.object "java/lang/String"), accessFlags := 18, slot := 2, constantValue := 0 }]
  methods := #[k3m0, k3m1]
  instanceTypes := #[.int, .int, (.object "java/lang/String")]
  staticTypes := #[]
  resolved := Array.replicate 73 none
  statics := none }

def pool4 : Array CpInfo := pool [(1, .class_ 2), (0, u "java/io/Serializable"), (0, .class_ 4), (0, u "java/lang/Object")] 2

/-- java/io/Serializable -/
def k4 : Class := { plain "java/io/Serializable" (some 0) with
  accessFlags := 1537
  interfaces := #[]
  cf := some (fileOf pool4 1 #[] #[] 1537 3 #[] #[])
  fields := #[]
  methods := #[]
  instanceTypes := #[]
  staticTypes := #[]
  resolved := Array.replicate 7 none
  statics := none }

def pool5 : Array CpInfo := pool [(1, .class_ 2), (0, u "java/lang/Comparable"), (0, .class_ 4), (0, u "java/lang/Object")] 7

/-- java/lang/Comparable -/
def k5 : Class := { plain "java/lang/Comparable" (some 0) with
  accessFlags := 1537
  interfaces := #[]
  cf := some (fileOf pool5 1 #[] #[] 1537 3 #[] #[])
  fields := #[]
  methods := #[]
  instanceTypes := #[]
  staticTypes := #[]
  resolved := Array.replicate 12 none
  statics := none }

def pool6 : Array CpInfo := pool [(2, .class_ 4), (1, u "java/lang/CharSequence"), (42, .class_ 48), (0, u "java/lang/CharSequence$1CodePointIterator"), (10, .class_ 60), (0, u "java/lang/CharSequence$1CharIterator"), (5, .class_ 67), (0, u "java/lang/Object")] 63

/-- java/lang/CharSequence -/
def k6 : Class := { plain "java/lang/CharSequence" (some 0) with
  accessFlags := 1537
  interfaces := #[]
  cf := some (fileOf pool6 2 #[.nestMembers #[47, 59]] #[] 1537 66 #[] #[])
  fields := #[]
  methods := #[]
  instanceTypes := #[]
  staticTypes := #[]
  resolved := Array.replicate 131 none
  statics := none }

def pool7 : Array CpInfo := pool [(1, .class_ 2), (0, u "java/lang/constant/Constable"), (0, .class_ 4), (0, u "java/lang/Object")] 6

/-- java/lang/constant/Constable -/
def k7 : Class := { plain "java/lang/constant/Constable" (some 0) with
  accessFlags := 1537
  interfaces := #[]
  cf := some (fileOf pool7 1 #[] #[] 1537 3 #[] #[])
  fields := #[]
  methods := #[]
  instanceTypes := #[]
  staticTypes := #[]
  resolved := Array.replicate 11 none
  statics := none }

def pool8 : Array CpInfo := pool [(1, .class_ 2), (0, u "java/lang/constant/ConstantDesc"), (0, .class_ 4), (0, u "java/lang/Object")] 32

/-- java/lang/constant/ConstantDesc -/
def k8 : Class := { plain "java/lang/constant/ConstantDesc" (some 0) with
  accessFlags := 1537
  interfaces := #[]
  cf := some (fileOf pool8 1 #[] #[] 1537 3 #[] #[])
  fields := #[]
  methods := #[]
  instanceTypes := #[]
  staticTypes := #[]
  resolved := Array.replicate 37 none
  statics := none }

def pool9 : Array CpInfo := pool [(1, .methodref 2 3), (0, .class_ 4), (0, .nameAndType 5 6), (0, u "java/lang/Object"), (0, u "<init>"), (0, u "()V"), (2, .fieldref 10 11), (0, .class_ 12), (0, .nameAndType 13 14), (0, u "java/lang/String"), (0, u "value"), (0, u "[B"), (0, .fieldref 10 16), (0, .nameAndType 17 18), (0, u "coder"), (0, u "B"), (2, u "hash"), (0, u "I"), (2, u "hashIsZero"), (0, u "Z"), (11, .fieldref 10 39), (0, .nameAndType 40 26), (0, u "COMPACT_STRINGS"), (12, u "toBytes"), (53, .class_ 109), (1, u "java/lang/StringLatin1"), (99, .methodref 10 210), (0, .nameAndType 5 211), (0, u "([BB)V"), (157, u "(C)Z"), (205, .class_ 576), (0, u "java/lang/CharSequence"), (22, u "CASE_INSENSITIVE_ORDER"), (0, u "Ljava/util/Comparator;"), (181, u "valueOf"), (0, u "(C)Ljava/lang/String;"), (231, .methodref 107 1016), (0, .nameAndType 1017 369), (0, u "canEncode"), (0, .methodref 107 1019), (0, .nameAndType 53 1020), (0, u "(C)[B"), (80, u "serialPersistentFields"), (0, u "[Ljava/io/ObjectStreamField;"), (0, .class_ 1104), (0, u "java/lang/String$CaseInsensitiveComparator"), (1, .class_ 1107), (0, u "java/io/Serializable"), (0, .class_ 1109), (0, u "java/lang/Comparable"), (0, .class_ 1111), (0, u "java/lang/constant/Constable"), (0, .class_ 1113), (0, u "java/lang/constant/ConstantDesc"), (2, u "serialVersionUID"), (0, u "J"), (3, u "REPL"), (0, u "C"), (2, u "LATIN1"), (1, u "UTF16")] 323

def k9m0 : Method := { name := "<init>", desc := "()V", sig := { parameters := [], returnType := none }, accessFlags := 1, code := none }
def k9c1 : Code := { maxStack := 4, maxLocals := 1, code := jdk_42_method_139_code, exceptionTable := #[], attributes := #[] }
def k9m1 : Method := { name := "valueOf", desc := "(C)Ljava/lang/String;", sig := { parameters := [.char], returnType := some (.object "java/lang/String") }, accessFlags := 9, code := some k9c1 }
def k9c2 : Code := { maxStack := 2, maxLocals := 3, code := jdk_42_method_151_code, exceptionTable := #[], attributes := #[] }
def k9m2 : Method := { name := "<init>", desc := "([BB)V", sig := { parameters := [(.array .byte), .byte], returnType := none }, accessFlags := 0, code := some k9c2 }
/-- java/lang/String -/
def k9 : Class := { plain "java/lang/String" (some 0) with
  accessFlags := 49
  interfaces := #[4, 5, 6, 7, 8]
  cf := some (fileOf pool9 10 #[.nestMembers #[1103]] #[{ accessFlags := 1, nameIndex := 5, descriptorIndex := 6, attributes := #[] }, { accessFlags := 9, nameIndex := 782, descriptorIndex := 783, attributes := #[] }, { accessFlags := 0, nameIndex := 5, descriptorIndex := 211, attributes := #[] }] 49 2 #[1106, 1108, 575, 1110, 1112] #[{ accessFlags := 18, nameIndex := 13, descriptorIndex := 14, attributes := #[] }, { accessFlags := 18, nameIndex := 17, descriptorIndex := 18, attributes := #[] }, { accessFlags := 2, nameIndex := 21, descriptorIndex := 22, attributes := #[] }, { accessFlags := 2, nameIndex := 25, descriptorIndex := 26, attributes := #[] }, { accessFlags := 26, nameIndex := 1116, descriptorIndex := 1117, attributes := #[] }, { accessFlags := 24, nameIndex := 40, descriptorIndex := 26, attributes := #[] }, { accessFlags := 26, nameIndex := 1101, descriptorIndex := 1102, attributes := #[] }, { accessFlags := 26, nameIndex := 1121, descriptorIndex := 1122, attributes := #[] }, { accessFlags := 25, nameIndex := 599, descriptorIndex := 600, attributes := #[] }, { accessFlags := 24, nameIndex := 1125, descriptorIndex := 18, attributes := #[] }, { accessFlags := 24, nameIndex := 1127, descriptorIndex := 18, attributes := #[] }])
  fields := #[{ name := "value", type := (.array .byte), accessFlags := 18, slot := 0, constantValue := 0 }, { name := "coder", type := .byte, accessFlags := 18, slot := 1, constantValue := 0 }, { name := "hash", type := .int, accessFlags := 2, slot := 2, constantValue := 0 }, { name := "hashIsZero", type := .boolean, accessFlags := 2, slot := 3, constantValue := 0 }, { name := "serialVersionUID", type := .long, accessFlags := 26, slot := 0, constantValue := 0 }, { name := "COMPACT_STRINGS", type := .boolean, accessFlags := 24, slot := 1, constantValue := 0 }, { name := "serialPersistentFields", type := (.array (.object "java/io/ObjectStreamField")), accessFlags := 26, slot := 2, constantValue := 0 }, { name := "REPL", type := .char, accessFlags := 26, slot := 3, constantValue := 0 }, { name := "CASE_INSENSITIVE_ORDER", type := (.object "java/util/Comparator"), accessFlags := 25, slot := 4, constantValue := 0 }, { name := "LATIN1", type := .byte, accessFlags := 24, slot := 5, constantValue := 0 }, { name := "UTF16", type := .byte, accessFlags := 24, slot := 6, constantValue := 0 }]
  methods := #[k9m0, k9m1, k9m2]
  instanceTypes := #[(.array .byte), .byte, .int, .boolean]
  staticTypes := #[.long, .boolean, (.array (.object "java/io/ObjectStreamField")), .char, (.object "java/util/Comparator"), .byte, .byte]
  resolved := Array.replicate 1451 none
  statics := some 0 }

def pool10 : Array CpInfo := pool [(4, .class_ 6), (1, u "java/lang/Object"), (0, u "<init>"), (0, u "()V"), (5, .class_ 16), (1, u "java/lang/StringLatin1"), (73, u "canEncode"), (14, u "(C)Z"), (15, u "$assertionsDisabled"), (0, u "Z"), (98, .class_ 223), (1, u "java/lang/StringLatin1$LinesSpliterator"), (156, u "toBytes"), (1, u "(C)[B"), (7, .class_ 391), (0, u "java/lang/StringLatin1$CharsSpliterator")] 3

def k10m0 : Method := { name := "<init>", desc := "()V", sig := { parameters := [], returnType := none }, accessFlags := 0, code := none }
def k10c1 : Code := { maxStack := 2, maxLocals := 1, code := jdk_43_method_3_code, exceptionTable := #[], attributes := #[] }
def k10m1 : Method := { name := "canEncode", desc := "(C)Z", sig := { parameters := [.char], returnType := some .boolean }, accessFlags := 9, code := some k10c1 }
def k10c2 : Code := { maxStack := 4, maxLocals := 1, code := jdk_43_method_46_code, exceptionTable := #[], attributes := #[] }
def k10m2 : Method := { name := "toBytes", desc := "(C)[B", sig := { parameters := [.char], returnType := some (.array .byte) }, accessFlags := 9, code := some k10c2 }
/-- java/lang/StringLatin1 -/
def k10 : Class := { plain "java/lang/StringLatin1" (some 0) with
  accessFlags := 48
  interfaces := #[]
  cf := some (fileOf pool10 14 #[.nestMembers #[390, 221]] #[{ accessFlags := 0, nameIndex := 7, descriptorIndex := 8, attributes := #[] }, { accessFlags := 9, nameIndex := 90, descriptorIndex := 105, attributes := #[] }, { accessFlags := 9, nameIndex := 380, descriptorIndex := 382, attributes := #[] }] 48 4 #[] #[{ accessFlags := 4120, nameIndex := 121, descriptorIndex := 122, attributes := #[] }])
  fields := #[{ name := "$assertionsDisabled", type := .boolean, accessFlags := 4120, slot := 0, constantValue := 0 }]
  methods := #[k10m0, k10m1, k10m2]
  instanceTypes := #[]
  staticTypes := #[.boolean]
  resolved := Array.replicate 395 none
  statics := none }

def pool11 : Array CpInfo := pool [(2, .class_ 4), (1, u "java/lang/Object"), (0, u "<init>"), (0, u "()V"), (17, .class_ 26), (1, u "jdk/internal/util/Preconditions"), (28, .class_ 56), (0, u "jdk/internal/util/Preconditions$4"), (57, .class_ 115), (0, u "jdk/internal/util/Preconditions$1"), (7, u "SIOOBE_FORMATTER"), (0, u "Ljava/util/function/BiFunction;"), (0, .class_ 126), (0, u "jdk/internal/util/Preconditions$2"), (3, u "AIOOBE_FORMATTER"), (0, .class_ 132), (0, u "jdk/internal/util/Preconditions$3"), (3, u "IOOBE_FORMATTER")] 57

def k11m0 : Method := { name := "<init>", desc := "()V", sig := { parameters := [], returnType := none }, accessFlags := 1, code := none }
/-- jdk/internal/util/Preconditions -/
def k11 : Class := { plain "jdk/internal/util/Preconditions" (some 0) with
  accessFlags := 33
  interfaces := #[]
  cf := some (fileOf pool11 24 #[.nestMembers #[55, 131, 125, 114]] #[{ accessFlags := 1, nameIndex := 5, descriptorIndex := 6, attributes := #[] }] 33 2 #[] #[{ accessFlags := 25, nameIndex := 123, descriptorIndex := 124, attributes := #[] }, { accessFlags := 25, nameIndex := 130, descriptorIndex := 124, attributes := #[] }, { accessFlags := 25, nameIndex := 136, descriptorIndex := 124, attributes := #[] }])
  fields := #[{ name := "SIOOBE_FORMATTER", type := (.object "java/util/function/BiFunction"), accessFlags := 25, slot := 0, constantValue := 0 }, { name := "AIOOBE_FORMATTER", type := (.object "java/util/function/BiFunction"), accessFlags := 25, slot := 1, constantValue := 0 }, { name := "IOOBE_FORMATTER", type := (.object "java/util/function/BiFunction"), accessFlags := 25, slot := 2, constantValue := 0 }]
  methods := #[k11m0]
  instanceTypes := #[]
  staticTypes := #[(.object "java/util/function/BiFunction"), (.object "java/util/function/BiFunction"), (.object "java/util/function/BiFunction")]
  resolved := Array.replicate 194 none
  statics := some 1 }

def pool12 : Array CpInfo := pool [(9, u "<init>"), (6, .class_ 18), (1, u "java/lang/Object"), (0, u "()V"), (1, .class_ 23), (1, u "jdk/internal/util/ArraysSupport"), (0, u "LOG2_ARRAY_LONG_INDEX_SCALE"), (0, u "I"), (2, u "U"), (0, u "Ljdk/internal/misc/Unsafe;"), (8, u "BIG_ENDIAN"), (0, u "Z"), (8, u "LOG2_BYTE_BIT_SIZE"), (4, u "LOG2_ARRAY_INT_INDEX_SCALE"), (54, u "JLA"), (0, u "Ljdk/internal/access/JavaLangAccess;"), (11, u "LOG2_ARRAY_BOOLEAN_INDEX_SCALE"), (9, u "LOG2_ARRAY_BYTE_INDEX_SCALE"), (5, u "LOG2_ARRAY_CHAR_INDEX_SCALE"), (5, u "LOG2_ARRAY_SHORT_INDEX_SCALE"), (18, u "LOG2_ARRAY_FLOAT_INDEX_SCALE"), (24, u "LOG2_ARRAY_DOUBLE_INDEX_SCALE"), (89, u "T_BOOLEAN"), (2, u "T_CHAR"), (1, u "T_FLOAT"), (1, u "T_DOUBLE"), (1, u "T_BYTE"), (1, u "T_SHORT"), (1, u "T_INT"), (1, u "T_LONG"), (1, u "SOFT_MAX_ARRAY_LENGTH")] 83

def k12m0 : Method := { name := "<init>", desc := "()V", sig := { parameters := [], returnType := none }, accessFlags := 2, code := none }
/-- jdk/internal/util/ArraysSupport -/
def k12 : Class := { plain "jdk/internal/util/ArraysSupport" (some 0) with
  accessFlags := 33
  interfaces := #[]
  cf := some (fileOf pool12 21 #[] #[{ accessFlags := 2, nameIndex := 9, descriptorIndex := 19, attributes := #[] }] 33 16 #[] #[{ accessFlags := 24, nameIndex := 28, descriptorIndex := 29, attributes := #[] }, { accessFlags := 26, nameIndex := 38, descriptorIndex := 39, attributes := #[] }, { accessFlags := 25, nameIndex := 121, descriptorIndex := 25, attributes := #[] }, { accessFlags := 25, nameIndex := 131, descriptorIndex := 25, attributes := #[] }, { accessFlags := 25, nameIndex := 137, descriptorIndex := 25, attributes := #[] }, { accessFlags := 25, nameIndex := 143, descriptorIndex := 25, attributes := #[] }, { accessFlags := 25, nameIndex := 53, descriptorIndex := 25, attributes := #[] }, { accessFlags := 25, nameIndex := 24, descriptorIndex := 25, attributes := #[] }, { accessFlags := 25, nameIndex := 162, descriptorIndex := 25, attributes := #[] }, { accessFlags := 25, nameIndex := 187, descriptorIndex := 25, attributes := #[] }, { accessFlags := 26, nameIndex := 48, descriptorIndex := 25, attributes := #[] }, { accessFlags := 25, nameIndex := 277, descriptorIndex := 25, attributes := #[] }, { accessFlags := 25, nameIndex := 280, descriptorIndex := 25, attributes := #[] }, { accessFlags := 25, nameIndex := 282, descriptorIndex := 25, attributes := #[] }, { accessFlags := 25, nameIndex := 284, descriptorIndex := 25, attributes := #[] }, { accessFlags := 25, nameIndex := 286, descriptorIndex := 25, attributes := #[] }, { accessFlags := 25, nameIndex := 288, descriptorIndex := 25, attributes := #[] }, { accessFlags := 25, nameIndex := 290, descriptorIndex := 25, attributes := #[] }, { accessFlags := 25, nameIndex := 292, descriptorIndex := 25, attributes := #[] }, { accessFlags := 26, nameIndex := 108, descriptorIndex := 109, attributes := #[] }, { accessFlags := 25, nameIndex := 294, descriptorIndex := 25, attributes := #[] }])
  fields := #[{ name := "U", type := (.object "jdk/internal/misc/Unsafe"), accessFlags := 24, slot := 0, constantValue := 0 }, { name := "BIG_ENDIAN", type := .boolean, accessFlags := 26, slot := 1, constantValue := 0 }, { name := "LOG2_ARRAY_BOOLEAN_INDEX_SCALE", type := .int, accessFlags := 25, slot := 2, constantValue := 0 }, { name := "LOG2_ARRAY_BYTE_INDEX_SCALE", type := .int, accessFlags := 25, slot := 3, constantValue := 0 }, { name := "LOG2_ARRAY_CHAR_INDEX_SCALE", type := .int, accessFlags := 25, slot := 4, constantValue := 0 }, { name := "LOG2_ARRAY_SHORT_INDEX_SCALE", type := .int, accessFlags := 25, slot := 5, constantValue := 0 }, { name := "LOG2_ARRAY_INT_INDEX_SCALE", type := .int, accessFlags := 25, slot := 6, constantValue := 0 }, { name := "LOG2_ARRAY_LONG_INDEX_SCALE", type := .int, accessFlags := 25, slot := 7, constantValue := 0 }, { name := "LOG2_ARRAY_FLOAT_INDEX_SCALE", type := .int, accessFlags := 25, slot := 8, constantValue := 0 }, { name := "LOG2_ARRAY_DOUBLE_INDEX_SCALE", type := .int, accessFlags := 25, slot := 9, constantValue := 0 }, { name := "LOG2_BYTE_BIT_SIZE", type := .int, accessFlags := 26, slot := 10, constantValue := 0 }, { name := "T_BOOLEAN", type := .int, accessFlags := 25, slot := 11, constantValue := 0 }, { name := "T_CHAR", type := .int, accessFlags := 25, slot := 12, constantValue := 0 }, { name := "T_FLOAT", type := .int, accessFlags := 25, slot := 13, constantValue := 0 }, { name := "T_DOUBLE", type := .int, accessFlags := 25, slot := 14, constantValue := 0 }, { name := "T_BYTE", type := .int, accessFlags := 25, slot := 15, constantValue := 0 }, { name := "T_SHORT", type := .int, accessFlags := 25, slot := 16, constantValue := 0 }, { name := "T_INT", type := .int, accessFlags := 25, slot := 17, constantValue := 0 }, { name := "T_LONG", type := .int, accessFlags := 25, slot := 18, constantValue := 0 }, { name := "JLA", type := (.object "jdk/internal/access/JavaLangAccess"), accessFlags := 26, slot := 19, constantValue := 0 }, { name := "SOFT_MAX_ARRAY_LENGTH", type := .int, accessFlags := 25, slot := 20, constantValue := 0 }]
  methods := #[k12m0]
  instanceTypes := #[]
  staticTypes := #[(.object "jdk/internal/misc/Unsafe"), .boolean, .int, .int, .int, .int, .int, .int, .int, .int, .int, .int, .int, .int, .int, .int, .int, .int, .int, (.object "jdk/internal/access/JavaLangAccess"), .int]
  resolved := Array.replicate 378 none
  statics := none }

def pool13 : Array CpInfo := pool [(1, u "java/lang/Cloneable"), (0, .class_ 1), (0, u "java/lang/Object"), (0, .class_ 3)] 3

/-- java/lang/Cloneable -/
def k13 : Class := { plain "java/lang/Cloneable" (some 0) with
  accessFlags := 1537
  interfaces := #[]
  cf := some (fileOf pool13 2 #[] #[] 1537 4 #[] #[])
  fields := #[]
  methods := #[]
  instanceTypes := #[]
  staticTypes := #[]
  resolved := Array.replicate 8 none
  statics := none }

/-- the primitive byte -/
def k14 : Class := { plain "byte" none with kind := .primitive 'B', accessFlags := 0x411 }
/-- [B -/
def k15 : Class := { plain "[B" (some 0) with kind := .array 14 .byte, interfaces := #[13, 4], accessFlags := 1041 }

/-- the primitive int -/
def k16 : Class := { plain "int" none with kind := .primitive 'I', accessFlags := 0x411 }
/-- [I -/
def k17 : Class := { plain "[I" (some 0) with kind := .array 16 .int, interfaces := #[13, 4], accessFlags := 1041 }

def heap : Heap := #[{ cls := 9, slots := #[.long 0, .int 1, .null, .int 0, .null, .int 0, .int 0], vm := .statics 9 },
  { cls := 11, slots := #[.null, .null, .null], vm := .statics 11 }]
def classes : Array Class := #[k0, k1, k2, k3, k4, k5, k6, k7, k8, k9, k10, k11, k12, k13, k14, k15, k16, k17]
def interned : List (Array UInt16 × Addr) := []
def slotsUsed : Nat := 10
def theMethod : MethodId := ⟨1, 2⟩
def args0 : Array Value := #[.int 1, .int 2, .long 3, .long 4, .long 5, .int 65]
def aboutOver (below : List Frame) : State where
  vm := { classes := classes, interned := interned.toArray }
  heap := heap
  slotsUsed := slotsUsed
  threads := #[{ frames := .invoking theMethod args0 :: below }]
def below0 : List Frame := [.native { method := ⟨0, 0⟩, args := #[] }]
def about1 : State := aboutOver below0
def p0 : Program := .bare "" "" ""
def e0 : Env := launch0.env 0 0 0
theorem w_frames : about1.frames = Frame.invoking theMethod args0 :: below0 := rfl
set_option maxRecDepth 65536 in
theorem w_args : argsFit about1.vm theMethod args0 = true := by decide +kernel
set_option maxRecDepth 65536 in
theorem w_heap : heapFits about1 = true := by decide +kernel
set_option maxRecDepth 65536 in
theorem w_runnable : about1.curStatus? = some .runnable := by decide +kernel
set_option maxRecDepth 65536 in
theorem w_alone : about1.alone = true := by decide +kernel
set_option maxRecDepth 65536 in
theorem w_named : about1.methodNamed? x = some theMethod := by decide +kernel
set_option maxRecDepth 65536 in
theorem w_hears : about1.hears theMethod below0 = true := by decide +kernel
set_option maxRecDepth 65536 in
theorem w_ripe : about1.ripe theMethod args0 below0 = true := by decide +kernel
theorem w_running : about1.status = .running := rfl
set_option maxRecDepth 65536 in
theorem w_room : about1.hasRoom e0.platform room_1 = true :=
  launch0.hasRoom_least _ room_1 (by decide +kernel) (by decide +kernel) (by decide +kernel) (by decide +kernel) (by decide +kernel) (by decide +kernel)
theorem allAtoms_all (ts : List Jvm.Cond) (a : Array Jvm.Value) (st : Jvm.State) : (allAtoms ts).before a st = ts.all (fun c => c.before a st) := by
  induction ts with
  | nil => rfl
  | cons c t ih =>
    show (Jvm.Cond.and c (allAtoms t)).before a st = _
    rw [Jvm.Cond.before_and, ih, List.all_cons]
def words1 : List Jvm.Cond := Jvm.Cond.code x code maxLocals ret :: tables_1
/-- a 'code' word, met by the world's own term for the bytes: nothing is compared byte by byte -/
theorem code_word {y : MethodName} {bytes : ByteArray} {mx : Nat} {rt : Option FieldType} {a : Array Value} {s : State} {m : MethodId} {meth : Method} {c : Code} (h1 : s.methodNamed? y = some m) (h2 : s.vm.method? m = some meth) (h3 : meth.code = some c) (h4 : c.code = bytes)
    (h5 : (c.maxLocals == mx && c.exceptionTable.isEmpty && decide (c.maxStack ≤ mostOperands) && decide (meth.sig.returnType = rt) && !meth.locks && decide (parseMethodDescriptor y.desc = some meth.sig)) = true) : (Jvm.Cond.code y bytes mx rt).before a s = true := by
  simp only [Bool.and_eq_true, beq_iff_eq, Bool.not_eq_true', decide_eq_true_eq] at h5
  obtain ⟨⟨⟨⟨⟨g1, g2⟩, g3⟩, g4⟩, g5⟩, g6⟩ := h5
  simp [Cond.before, Cond.holds, Cond.value, h1, h2, h3, h4, g1, g2, g3, g4, g5, g6]
def isCode : Jvm.Cond → Bool
  | .code _ _ _ _ => true
  | _ => false
theorem all_split {L : List Jvm.Cond} {P : Jvm.Cond → Bool} (h1 : L.all (fun c => isCode c || P c) = true) (h2 : ∀ c ∈ L.filter isCode, P c = true) : L.all P = true := by
  refine List.all_eq_true.mpr fun c hc => ?_
  have h := List.all_eq_true.mp h1 c hc
  rcases Bool.eq_false_or_eq_true (isCode c) with hi | hi
  · exact h2 c (List.mem_filter.mpr ⟨hc, hi⟩)
  · simpa [hi] using h
set_option maxRecDepth 65536 in
theorem w_c0 : (Jvm.Cond.code x code maxLocals ret).before args0 about1 = true := code_word (m := ⟨1, 2⟩) (meth := k1m2) (c := k1c2) (by decide +kernel) rfl rfl rfl (by decide +kernel)
set_option maxRecDepth 65536 in
theorem w_c1 : (Jvm.Cond.code ({ cls := "java/lang/String", name := "valueOf", desc := "(C)Ljava/lang/String;" } : Jvm.MethodName) jdk_42_method_139_code (1 : Nat) (Option.some (Jvm.ClassFile.FieldType.object "java/lang/String"))).before args0 about1 = true := code_word (m := ⟨9, 1⟩) (meth := k9m1) (c := k9c1) (by decide +kernel) rfl rfl rfl (by decide +kernel)
set_option maxRecDepth 65536 in
theorem w_c2 : (Jvm.Cond.code ({ cls := "java/lang/StringLatin1", name := "canEncode", desc := "(C)Z" } : Jvm.MethodName) jdk_43_method_3_code (1 : Nat) (Option.some Jvm.ClassFile.FieldType.boolean)).before args0 about1 = true := code_word (m := ⟨10, 1⟩) (meth := k10m1) (c := k10c1) (by decide +kernel) rfl rfl rfl (by decide +kernel)
set_option maxRecDepth 65536 in
theorem w_c3 : (Jvm.Cond.code ({ cls := "java/lang/StringLatin1", name := "toBytes", desc := "(C)[B" } : Jvm.MethodName) jdk_43_method_46_code (1 : Nat) (Option.some (Jvm.ClassFile.FieldType.array Jvm.ClassFile.FieldType.byte))).before args0 about1 = true := code_word (m := ⟨10, 2⟩) (meth := k10m2) (c := k10c2) (by decide +kernel) rfl rfl rfl (by decide +kernel)
set_option maxRecDepth 65536 in
theorem w_c4 : (Jvm.Cond.code ({ cls := "java/lang/String", name := "<init>", desc := "([BB)V" } : Jvm.MethodName) jdk_42_method_151_code (3 : Nat) (Option.none : Option Jvm.ClassFile.FieldType)).before args0 about1 = true := code_word (m := ⟨9, 2⟩) (meth := k9m2) (c := k9c2) (by decide +kernel) rfl rfl rfl (by decide +kernel)
set_option maxRecDepth 65536 in
theorem w_c5 : (Jvm.Cond.code ({ cls := "java/lang/Object", name := "<init>", desc := "()V" } : Jvm.MethodName) object_method_1_code (1 : Nat) (Option.none : Option Jvm.ClassFile.FieldType)).before args0 about1 = true := code_word (m := ⟨0, 0⟩) (meth := k0m0) (c := k0c0) (by decide +kernel) rfl rfl rfl (by decide +kernel)
set_option maxRecDepth 65536 in
theorem w_c6 : (Jvm.Cond.code ({ cls := "com/example/hawser/hawser/text/Range", name := "<init>", desc := "(IILjava/lang/String;)V" } : Jvm.MethodName) prog_66_method_1_code (4 : Nat) (Option.none : Option Jvm.ClassFile.FieldType)).before args0 about1 = true := code_word (m := ⟨3, 0⟩) (meth := k3m0) (c := k3c0) (by decide +kernel) rfl rfl rfl (by decide +kernel)
set_option maxRecDepth 65536 in
theorem w_c7 : (Jvm.Cond.code ({ cls := "java/lang/Record", name := "<init>", desc := "()V" } : Jvm.MethodName) jdk_30_method_1_code (1 : Nat) (Option.none : Option Jvm.ClassFile.FieldType)).before args0 about1 = true := code_word (m := ⟨2, 0⟩) (meth := k2m0) (c := k2c0) (by decide +kernel) rfl rfl rfl (by decide +kernel)
set_option maxRecDepth 65536 in
theorem w_c8 : (Jvm.Cond.code ({ cls := "com/example/hawser/hawser/text/Range", name := "contains", desc := "(J)Z" } : Jvm.MethodName) prog_66_method_2_code (3 : Nat) (Option.some Jvm.ClassFile.FieldType.boolean)).before args0 about1 = true := code_word (m := ⟨3, 1⟩) (meth := k3m1) (c := k3c1) (by decide +kernel) rfl rfl rfl (by decide +kernel)
set_option maxRecDepth 65536 in
theorem w_c9 : (Jvm.Cond.code ({ cls := "com/example/hawser/hawser/text/RangeContainsPinLaw", name := "between", desc := "(JJJ)Z" } : Jvm.MethodName) method_2_code (6 : Nat) (Option.some Jvm.ClassFile.FieldType.boolean)).before args0 about1 = true := code_word (m := ⟨1, 1⟩) (meth := k1m1) (c := k1c1) (by decide +kernel) rfl rfl rfl (by decide +kernel)
def codes1 : List Jvm.Cond := [Jvm.Cond.code x code maxLocals ret, Jvm.Cond.code ({ cls := "java/lang/String", name := "valueOf", desc := "(C)Ljava/lang/String;" } : Jvm.MethodName) jdk_42_method_139_code (1 : Nat) (Option.some (Jvm.ClassFile.FieldType.object "java/lang/String")), Jvm.Cond.code ({ cls := "java/lang/StringLatin1", name := "canEncode", desc := "(C)Z" } : Jvm.MethodName) jdk_43_method_3_code (1 : Nat) (Option.some Jvm.ClassFile.FieldType.boolean), Jvm.Cond.code ({ cls := "java/lang/StringLatin1", name := "toBytes", desc := "(C)[B" } : Jvm.MethodName) jdk_43_method_46_code (1 : Nat) (Option.some (Jvm.ClassFile.FieldType.array Jvm.ClassFile.FieldType.byte)), Jvm.Cond.code ({ cls := "java/lang/String", name := "<init>", desc := "([BB)V" } : Jvm.MethodName) jdk_42_method_151_code (3 : Nat) (Option.none : Option Jvm.ClassFile.FieldType), Jvm.Cond.code ({ cls := "java/lang/Object", name := "<init>", desc := "()V" } : Jvm.MethodName) object_method_1_code (1 : Nat) (Option.none : Option Jvm.ClassFile.FieldType), Jvm.Cond.code ({ cls := "com/example/hawser/hawser/text/Range", name := "<init>", desc := "(IILjava/lang/String;)V" } : Jvm.MethodName) prog_66_method_1_code (4 : Nat) (Option.none : Option Jvm.ClassFile.FieldType), Jvm.Cond.code ({ cls := "java/lang/Record", name := "<init>", desc := "()V" } : Jvm.MethodName) jdk_30_method_1_code (1 : Nat) (Option.none : Option Jvm.ClassFile.FieldType), Jvm.Cond.code ({ cls := "com/example/hawser/hawser/text/Range", name := "contains", desc := "(J)Z" } : Jvm.MethodName) prog_66_method_2_code (3 : Nat) (Option.some Jvm.ClassFile.FieldType.boolean), Jvm.Cond.code ({ cls := "com/example/hawser/hawser/text/RangeContainsPinLaw", name := "between", desc := "(JJJ)Z" } : Jvm.MethodName) method_2_code (6 : Nat) (Option.some Jvm.ClassFile.FieldType.boolean)]
set_option maxRecDepth 65536 in
theorem codes_eq : words1.filter isCode = codes1 := rfl
theorem w_codes : ∀ c ∈ words1.filter isCode, c.before args0 about1 = true := by
  rw [codes_eq]
  intro c hc
  simp only [codes1, List.mem_cons, List.not_mem_nil, or_false] at hc
  rcases hc with rfl | rfl | rfl | rfl | rfl | rfl | rfl | rfl | rfl | rfl
  · exact w_c0
  · exact w_c1
  · exact w_c2
  · exact w_c3
  · exact w_c4
  · exact w_c5
  · exact w_c6
  · exact w_c7
  · exact w_c8
  · exact w_c9
set_option maxRecDepth 65536 in
theorem w_t1 : (words1.take 24).all (fun c => isCode c || c.before args0 about1) = true := by decide +kernel
set_option maxRecDepth 65536 in
theorem w_t2 : ((words1.drop 24).take 24).all (fun c => isCode c || c.before args0 about1) = true := by decide +kernel
set_option maxRecDepth 65536 in
theorem w_t3 : ((words1.drop 24).drop 24).all (fun c => isCode c || c.before args0 about1) = true := by decide +kernel
theorem w_tables : (allAtoms (Jvm.Cond.code x code maxLocals ret :: tables_1)).before args0 about1 = true := by
  rw [allAtoms_all]
  show words1.all (fun c => c.before args0 about1) = true
  refine all_split ?_ w_codes
  rw [← List.take_append_drop 24 words1, List.all_append, w_t1, ← List.take_append_drop 24 (words1.drop 24), List.all_append, w_t2, w_t3]
  rfl
set_option maxRecDepth 65536 in
theorem w_rest : rest_1_c.before args0 about1 = true := by decide +kernel
set_option maxRecDepth 65536 in
theorem w_case : (Jvm.Cond.and given_1 narrow_1).before args0 about1 = true := by decide +kernel
theorem w_applies : (headSpec (Jvm.Cond.code x code maxLocals ret :: tables_1) room_1).applies x e0.platform about1 = true :=
  (Spec.applies_iff w_frames).mpr ⟨w_running, w_runnable, w_alone, w_named, w_hears, w_ripe, w_room, w_tables⟩
theorem atStart : AtStart classFile x code maxLocals ret World_1 tables_1 room_1 Calls_1 rest_1 Pre_1 launch0 p0 e0 about1 theMethod args0 below0 :=
  ⟨lists_1, trivial, launch0.admits_env _ _ _, launch0.least_env, fairChoices_fair.cas, fairChoices_fair.clock, w_frames, w_args, w_heap, w_applies, trivial, w_rest, w_case⟩
end start1
theorem witness_1 : WitnessClaimed_1 := ⟨start1.p0, start1.e0, start1.about1, start1.theMethod, start1.args0, start1.below0, start1.atStart⟩
end Jvm.Pilot.@@N@@
