import JvmDerived
import JvmDerived.Pilot.@@N@@Statement
import JvmDerived.Pilot.@@N@@Code
set_option linter.unusedVariables false
set_option linter.unusedSimpArgs false
@@BLOCK:NumsL.lean.txt@@
namespace Jvm.Pilot.@@N@@
open Jvm Jvm.ClassFile Sem Op Lib Jvm.Free Jvm.Stand Jvm.LawKit Jvm.RoadKit Bundle Jvm.Pilot.@@N@@.Jvm.D
theorem own_sta {Z : State} {h h' : Heap} {C n d C' : String} {w : Value} {o : Addr} (F : Sta Z h C n d w) (K : Keep h h' [o]) (E : Exa Z h o C') : Sta Z h' C n d w := by
  obtain ⟨cf, i, k, f, st, cell, h1, h2, h3, h4, h5, h6, h7⟩ := F
  obtain ⟨ce, ke, e1, e2, e3, e4, e5⟩ := E
  refine ⟨cf, i, k, f, st, cell, h1, h2, h3, h4, K.2.1 st cell h5 (fun hm => ?_), h6, h7⟩
  cases List.mem_singleton.mp hm
  rw [e1] at h5; cases h5; rw [h6] at e4; cases e4
theorem own_fint {s : State} {args : Array Value} {t : Term} {C n d : String} {k : Int32} {w : Addr} (ht : t.eval args s none [] s = some (.ref w)) (h : (Jvm.Cond.eq (.field t C n d) (.int k)).value args s none s [] = some true) : Fld s s.heap w C n d (.int k) := by
  refine Fld.start ?_
  have e := fld_at (args := args) (first := s) (o := none) (idx := []) (s := s) (C := C) (n := n) (dd := d) ht
  obtain ⟨x, y, hx, hy, -, -⟩ := cmp_v (Or.inl h)
  rw [← e, hx]
  cases (Term.int_eval k).symm.trans hy
  cases x <;> simp [Jvm.Cond.value, hx, hy] at h
  rw [h]
theorem own_rem32 (x m : Int32) (hx : 0 ≤ x.toInt) : (x % m).toInt = x.toInt % m.toInt := by rw [Int32.toInt_mod, Int.tmod_eq_emod_of_nonneg hx]
theorem own_lc0 (x y : Int64) : (lcmpW x y < 0 ↔ x < y) ∧ (0 < lcmpW x y ↔ y < x) ∧ (lcmpW x y = 0 ↔ x = y) := by rw [lcW]; exact ⟨lc_lt x y, lc_gt x y, lc_eq x y⟩
theorem lcY_lt {x y : Int64} (h : x < y) : ifCond.holds .lt (lcmpW x y) = true := (if0 _ _).trans (tlt ((own_lc0 x y).1.mpr h)).1
theorem lcN_lt {x y : Int64} (h : ¬ x < y) : ifCond.holds .lt (lcmpW x y) = false := (if0 _ _).trans (flt fun q => h ((own_lc0 x y).1.mp q)).1
theorem lcN_ge {x y : Int64} (h : x < y) : ifCond.holds .ge (lcmpW x y) = false := (if0 _ _).trans (tlt ((own_lc0 x y).1.mpr h)).2.1
theorem lcY_ge {x y : Int64} (h : ¬ x < y) : ifCond.holds .ge (lcmpW x y) = true := (if0 _ _).trans (flt fun q => h ((own_lc0 x y).1.mp q)).2.1
theorem lcY_gt {x y : Int64} (h : y < x) : ifCond.holds .gt (lcmpW x y) = true := (if0 _ _).trans (tlt ((own_lc0 x y).2.1.mpr h)).2.2.1
theorem lcN_gt {x y : Int64} (h : ¬ y < x) : ifCond.holds .gt (lcmpW x y) = false := (if0 _ _).trans (flt fun q => h ((own_lc0 x y).2.1.mp q)).2.2.1
theorem lcN_le {x y : Int64} (h : y < x) : ifCond.holds .le (lcmpW x y) = false := (if0 _ _).trans (tlt ((own_lc0 x y).2.1.mpr h)).2.2.2
theorem lcY_le {x y : Int64} (h : ¬ y < x) : ifCond.holds .le (lcmpW x y) = true := (if0 _ _).trans (flt fun q => h ((own_lc0 x y).2.1.mp q)).2.2.2
theorem lcY_eq {x y : Int64} (h : x = y) : ifCond.holds .eq (lcmpW x y) = true := (if0 _ _).trans (teq ((own_lc0 x y).2.2.mpr h)).1
theorem lcN_eq {x y : Int64} (h : ¬ x = y) : ifCond.holds .eq (lcmpW x y) = false := (if0 _ _).trans (feq fun q => h ((own_lc0 x y).2.2.mp q)).1
theorem lcN_ne {x y : Int64} (h : x = y) : ifCond.holds .ne (lcmpW x y) = false := (if0 _ _).trans (teq ((own_lc0 x y).2.2.mpr h)).2
theorem lcY_ne {x y : Int64} (h : ¬ x = y) : ifCond.holds .ne (lcmpW x y) = true := (if0 _ _).trans (feq fun q => h ((own_lc0 x y).2.2.mp q)).2
theorem own_t (p : Int32) : -2 ^ 31 ≤ (p.toInt64).toInt ∧ (p.toInt64).toInt < 2 ^ 31 := by
  rw [Jvm.Kit.i64_of_i32]; exact ⟨p.le_toInt, p.toInt_lt⟩
theorem own_n (x : Int64) : 0 ≤ (x &&& (4611686018427387903 : Int64)).toInt ∧ (x &&& (4611686018427387903 : Int64)).toInt < 2 ^ 62 := by
  have h : (x &&& (4611686018427387903 : Int64)).toInt = x.toInt % 2 ^ 62 := Jvm.Kit.i64_mask x (4611686018427387903 : Int64) (k := 62) (by decide) (by decide)
  rw [h]; omega
theorem own_l (x : Int64) : 0 ≤ (x &&& (9223372036854775807 : Int64)).toInt := by
  have h : (x &&& (9223372036854775807 : Int64)).toInt = x.toInt % 2 ^ 63 := Jvm.Kit.i64_mask x (9223372036854775807 : Int64) (k := 63) (by decide) (by decide)
  rw [h]; omega
theorem own_lt0 (x : Int64) : ¬ ((x &&& (9223372036854775807 : Int64)) < (0 : Int64)) := by
  have h := own_l x
  rw [Int64.lt_iff_toInt_lt, Int64.toInt_zero]; omega
theorem own_k (p : Int32) : 1 ≤ (((p &&& (2147483647 : Int32)).toInt64) + (1 : Int64)).toInt ∧ (((p &&& (2147483647 : Int32)).toInt64) + (1 : Int64)).toInt ≤ 2 ^ 31 := by
  have h : (p &&& (2147483647 : Int32)).toInt = p.toInt % 2 ^ 31 := Jvm.Kit.i32_mask p (2147483647 : Int32) (k := 31) (by decide) (by decide)
  have e : (1 : Int64).toInt = 1 := by decide
  have q : (((p &&& (2147483647 : Int32)).toInt64) + (1 : Int64)).toInt = p.toInt % 2 ^ 31 + 1 := by
    rw [Jvm.Kit.i64_add, Jvm.Kit.i64_of_i32, h, e] <;> rw [Jvm.Kit.i64_of_i32, h, e] <;> omega
  rw [q]; omega
theorem own_lt1 (p : Int32) : ¬ ((((p &&& (2147483647 : Int32)).toInt64) + (1 : Int64)) < (1 : Int64)) := by
  have h := own_k p
  have e : (1 : Int64).toInt = 1 := by decide
  rw [Int64.lt_iff_toInt_lt, e]; omega
theorem own_k0 (p : Int32) : (((p &&& (2147483647 : Int32)).toInt64) + (1 : Int64)) ≠ 0 := fun q => by
  have h := own_k p
  rw [q, Int64.toInt_zero] at h; omega
section Arith
variable {t n l k : Int64}
theorem own_T (h1 : -2 ^ 31 ≤ t.toInt) (h2 : t.toInt < 2 ^ 31) (h3 : 1 ≤ k.toInt) (h4 : k.toInt ≤ 2 ^ 31) : -2 ^ 62 ≤ t.toInt * k.toInt ∧ t.toInt * k.toInt ≤ 2 ^ 62 := by
  have a : -2 ^ 31 * k.toInt ≤ t.toInt * k.toInt := Int.mul_le_mul_of_nonneg_right h1 (by omega)
  have b : t.toInt * k.toInt ≤ 2 ^ 31 * k.toInt := Int.mul_le_mul_of_nonneg_right (by omega) (by omega)
  omega
theorem own_X (h1 : -2 ^ 31 ≤ t.toInt) (h2 : t.toInt < 2 ^ 31) (h5 : 0 ≤ n.toInt) (h6 : n.toInt < 2 ^ 62) (h3 : 1 ≤ k.toInt) (h4 : k.toInt ≤ 2 ^ 31) : (t * k - n).toInt = t.toInt * k.toInt - n.toInt := by
  obtain ⟨a, b⟩ := own_T h1 h2 h3 h4
  have m : (t * k).toInt = t.toInt * k.toInt := Jvm.Kit.i64_mul (by omega) (by omega)
  rw [Jvm.Kit.i64_sub, m] <;> rw [m] <;> omega
theorem own_sat (h1 : -2 ^ 31 ≤ t.toInt) (h2 : t.toInt < 2 ^ 31) (h5 : 0 ≤ n.toInt) (h6 : n.toInt < 2 ^ 62) (h7 : 0 ≤ l.toInt) (h3 : 1 ≤ k.toInt) (h4 : k.toInt ≤ 2 ^ 31) (c : (9223372036854775807 : Int64) - n < l) : ¬ ((9223372036854775807 : Int64) / k < t) ∧ ¬ (l < t * k - n) := by
  obtain ⟨a, b⟩ := own_T h1 h2 h3 h4
  have e : (9223372036854775807 : Int64).toInt = 9223372036854775807 := by decide
  have c1 : ((9223372036854775807 : Int64) - n).toInt = 9223372036854775807 - n.toInt := by rw [Jvm.Kit.i64_sub, e] <;> rw [e] <;> omega
  rw [Int64.lt_iff_toInt_lt, c1] at c
  constructor
  · have d : ((9223372036854775807 : Int64) / k).toInt = 9223372036854775807 / k.toInt := by
      rw [Jvm.Kit.i64_div, e, Int.tdiv_eq_ediv_of_nonneg (by omega)]
      rw [e]; omega
    rw [Int64.lt_iff_toInt_lt, d]
    have := Int.le_ediv_of_mul_le (show 0 < k.toInt by omega) (show t.toInt * k.toInt ≤ 9223372036854775807 by omega)
    omega
  · rw [Int64.lt_iff_toInt_lt, own_X h1 h2 h5 h6 h3 h4]; omega
theorem own_plain (h1 : -2 ^ 31 ≤ t.toInt) (h2 : t.toInt < 2 ^ 31) (h5 : 0 ≤ n.toInt) (h6 : n.toInt < 2 ^ 62) (h7 : 0 ≤ l.toInt) (h3 : 1 ≤ k.toInt) (h4 : k.toInt ≤ 2 ^ 31) (c : ¬ (9223372036854775807 : Int64) - n < l) : (n + l) / k < t ↔ l < t * k - n := by
  have e : (9223372036854775807 : Int64).toInt = 9223372036854775807 := by decide
  have c1 : ((9223372036854775807 : Int64) - n).toInt = 9223372036854775807 - n.toInt := by rw [Jvm.Kit.i64_sub, e] <;> rw [e] <;> omega
  rw [Int64.lt_iff_toInt_lt, c1] at c
  have s : (n + l).toInt = n.toInt + l.toInt := Jvm.Kit.i64_add (by omega) (by omega)
  have d : ((n + l) / k).toInt = (n.toInt + l.toInt) / k.toInt := by
    rw [Jvm.Kit.i64_div, s, Int.tdiv_eq_ediv_of_nonneg (by omega)]
    rw [s]; omega
  rw [Int64.lt_iff_toInt_lt, Int64.lt_iff_toInt_lt, own_X h1 h2 h5 h6 h3 h4, d, Int.ediv_lt_iff_lt_mul (by omega)]
  omega
end Arith
theorem d1_0 : decode prog_24_method_1_code 0 = .ok (.aload_n 0, 1) := by decide +kernel
theorem d1_1 : decode prog_24_method_1_code 1 = .ok (.invokespecial 1, 3) := by decide +kernel
theorem d1_4 : decode prog_24_method_1_code 4 = .ok (.lload_n 1, 1) := by decide +kernel
theorem d1_5 : decode prog_24_method_1_code 5 = .ok (.lconst 0, 1) := by decide +kernel
theorem d1_6 : decode prog_24_method_1_code 6 = .ok (.lcmp, 1) := by decide +kernel
theorem d1_7 : decode prog_24_method_1_code 7 = .ok (.ifCond .ge 17, 3) := by decide +kernel
theorem d1_24 : decode prog_24_method_1_code 24 = .ok (.lload_n 3, 1) := by decide +kernel
theorem d1_25 : decode prog_24_method_1_code 25 = .ok (.lconst 1, 1) := by decide +kernel
theorem d1_26 : decode prog_24_method_1_code 26 = .ok (.lcmp, 1) := by decide +kernel
theorem d1_27 : decode prog_24_method_1_code 27 = .ok (.ifCond .ge 17, 3) := by decide +kernel
theorem d1_44 : decode prog_24_method_1_code 44 = .ok (.aload_n 0, 1) := by decide +kernel
theorem d1_45 : decode prog_24_method_1_code 45 = .ok (.lload_n 1, 1) := by decide +kernel
theorem d1_46 : decode prog_24_method_1_code 46 = .ok (.putfield 17, 3) := by decide +kernel
theorem d1_49 : decode prog_24_method_1_code 49 = .ok (.aload_n 0, 1) := by decide +kernel
theorem d1_50 : decode prog_24_method_1_code 50 = .ok (.lload_n 3, 1) := by decide +kernel
theorem d1_51 : decode prog_24_method_1_code 51 = .ok (.putfield 23, 3) := by decide +kernel
theorem d1_54 : decode prog_24_method_1_code 54 = .ok (.return_, 1) := by decide +kernel
theorem pn_1 : plainName "com/example/graupel/graupel/layout/TimeBase" = true := by first | (simp [plainName, overriddenIn]; done) | decide +kernel
theorem ef_1 (m : MethodId) (ob0 : Addr) (q1 : Int64) (q2 : Int64) : entryFrame m #[(.ref ob0), (.long q1), (.long q2)] 5 = mkF m 0 #[.val (.ref ob0), .val (.long q1), .second, .val (.long q2), .second] [] := by first | (simp [entryFrame, mkF, argsToLocals, Value.category]; done) | rfl
def Q1 (Z : State) (ob0 : Addr) (q1 : Int64) (q2 : Int64) (u_epochMillis : Value) (u_tickMillis : Value) (h0 : Heap) (n0 : Nat) (v : Option Value) (h : Heap) (L : List Loc) : Prop := v = none ∧ Fr n0 L ∧ Keep h0 h [ob0] ∧ Exa Z h ob0 "com/example/graupel/graupel/layout/TimeBase" ∧ Fld Z h ob0 "com/example/graupel/graupel/layout/TimeBase" "epochMillis" "J" (.long q1) ∧ Fld Z h ob0 "com/example/graupel/graupel/layout/TimeBase" "tickMillis" "J" (.long q2)
set_option maxRecDepth 65536 in
set_option maxHeartbeats 40000000 in
theorem rm1 (l : Launch) (Z : State) (a0 : Array Value) (hw : ∀ d ∈ tables_1, d.before a0 Z = true) (ws : List Jvm.Cond) (ob0 : Addr) (q1 : Int64) (q2 : Int64) (u_epochMillis : Value) (u_tickMillis : Value) (h0 : Heap) (n0 : Nat) (Z0 : n0 ≤ h0.size) (F_epochMillis_ob0 : Fld Z h0 ob0 "com/example/graupel/graupel/layout/TimeBase" "epochMillis" "J" u_epochMillis) (F_tickMillis_ob0 : Fld Z h0 ob0 "com/example/graupel/graupel/layout/TimeBase" "tickMillis" "J" u_tickMillis) (E_ob0 : Exa Z h0 ob0 "com/example/graupel/graupel/layout/TimeBase") (g_ob0 : n0 ≤ ob0) (hc7 : ¬ (q1 < (0 : Int64))) (hc27 : ¬ (q2 < (1 : Int64))) :
    MetFree l (⟨"com/example/graupel/graupel/layout/TimeBase", "<init>", "(JJ)V"⟩ : MethodName) (head1 (Jvm.Cond.code (⟨"com/example/graupel/graupel/layout/TimeBase", "<init>", "(JJ)V"⟩ : MethodName) prog_24_method_1_code 5 none :: ws) ({ frames := 1, cells := 0, slots := 0, locals := 12 } : Room)) (fun a U => a = #[(.ref ob0), (.long q1), (.long q2)] ∧ Z.Warmed39 U.vm ∧ U.heap = h0) (fun _ _ _ _ _ => True) (fun _ U o U' => ∃ v L, o = .returned v ∧ Q1 Z ob0 q1 q2 u_epochMillis u_tickMillis h0 n0 v U'.heap L ∧ FrameEnd U o U' L ({ frames := 1, cells := 0, slots := 0, locals := 12 } : Room).cells ({ frames := 1, cells := 0, slots := 0, locals := 12 } : Room).slots) := by
  refine MetFree.of_bodySF (plainFor_of_name pn_1) hisR ?_
  intro p e s m args below meth c s₁ Bd hml0 hP hK
  obtain ⟨rfl, hZ, hh⟩ := hP
  have hx := Bd.exec
  have hby := Bd.bytes
  have hml : c.maxLocals = 5 := hml0
  have hown : s.vm.findClass "com/example/graupel/graupel/layout/TimeBase" = some m.cls := findClass_of_methodNamed Bd.named
  have hnm := (name_of_methodNamed Bd.named Bd.method).1
  have X0 : Stand p l e ({ frames := 1, cells := 0, slots := 0, locals := 12 } : Room) s m #[(.ref ob0), (.long q1), (.long q2)] below meth c s₁ [] 0 0 := Stand.of_body Bd
  have e0 : s₁.heap = h0 := by rw [← hh, Bd.state]; rfl
  have N0 := Fr.nil n0
  have pre0 : ∀ t, Steps p.tables e below (s₁.setTop (mkF m 0 #[.val (.ref ob0), .val (.long q1), .second, .val (.long q2), .second] [])) t → Steps p.tables e below (s₁.setTop (entryFrame m #[(.ref ob0), (.long q1), (.long q2)] 5)) t := fun t k => castTop (ef_1 m ob0 q1 q2) k
  obtain ⟨T1, X1, e1, st1⟩ := initO X0 hx hZ hown (hw _ (List.mem_of_getElem? (i := 12) rfl)) (hw _ (List.mem_of_getElem? (i := 13) rfl)) (hw _ (List.mem_of_getElem? (i := 14) rfl)) e0 (g := (mkF m 1 #[.val (.ref ob0), .val (.long q1), .second, .val (.long q2), .second] [(.ref ob0)])) rfl (by rw [hml]; rfl) rfl (hb hby d1_1) (by decide) (W := 0) (by show 2 * 0 + _ ≤ _; exact Nat.le_of_eq rfl) (by decide)
  obtain ⟨T2, h2, X2, e2, W2, st2⟩ := putF X1 hx hZ hown (host := "") (Or.inl (hw _ (List.mem_of_getElem? (i := 15) rfl))) Via.refl e1 F_epochMillis_ob0 E_ob0 (Or.inr ⟨(hw _ (List.mem_of_getElem? (i := 16) rfl)), rfl, hnm⟩) (hw _ (List.mem_of_getElem? (i := 7) rfl)) (ty := .long) (by decide) rfl rfl (g := (mkF m 46 #[.val (.ref ob0), .val (.long q1), .second, .val (.long q2), .second] [(.long q1), (.ref ob0)])) rfl rfl (hb hby d1_46)
  have fF3 := F_epochMillis_ob0.same W2
  have fF4 := F_tickMillis_ob0.other W2 (Or.inr (slot_ne (Or.inr (hw _ (List.mem_of_getElem? (i := 18) rfl))) (Or.inr (hw _ (List.mem_of_getElem? (i := 16) rfl))) (by decide) (t := .long) (t' := .long) (by decide) (by decide)))
  have eE5 := E_ob0.wr W2
  have N2 := Fr.snoc X2 N0 g_ob0
  have Z2 := Nat.le_trans Z0 (Keep.of_wr W2).1
  have K2 := (Keep.refl h0 [ob0]).wr W2 (Or.inl (List.mem_of_getElem? (i := 0) rfl))
  obtain ⟨T6, h6, X6, e6, W6, st6⟩ := putF X2 hx hZ hown (host := "") (Or.inl (hw _ (List.mem_of_getElem? (i := 17) rfl))) Via.refl e2 fF4 eE5 (Or.inr ⟨(hw _ (List.mem_of_getElem? (i := 18) rfl)), rfl, hnm⟩) (hw _ (List.mem_of_getElem? (i := 7) rfl)) (ty := .long) (by decide) rfl rfl (g := (mkF m 51 #[.val (.ref ob0), .val (.long q1), .second, .val (.long q2), .second] [(.long q2), (.ref ob0)])) rfl rfl (hb hby d1_51)
  have fF7 := fF3.other W6 (Or.inr (slot_ne (Or.inr (hw _ (List.mem_of_getElem? (i := 16) rfl))) (Or.inr (hw _ (List.mem_of_getElem? (i := 18) rfl))) (by decide) (t := .long) (t' := .long) (by decide) (by decide)))
  have fF8 := fF4.same W6
  have eE9 := eE5.wr W6
  have N6 := Fr.snoc X6 N2 g_ob0
  have Z6 := Nat.le_trans Z2 (Keep.of_wr W6).1
  have K6 := K2.wr W6 (Or.inl (List.mem_of_getElem? (i := 0) rfl))
  obtain ⟨fs, hr, hrun, hended, hW, hsame⟩ := X6.leave (v := none) (fun _ => rfl)
  refine ⟨_, _, pre0 _ ?_, hrun, hended, _, _, rfl, ?_, ⟨_, rfl⟩, hW, hsame.mono (by decide) (by decide)⟩
  · show Steps p.tables e below (s₁.setTop (mkF m 0 #[.val (.ref ob0), .val (.long q1), .second, .val (.long q2), .second] [])) _
    refine XS.aloadN X0.here hx rfl (hb hby d1_0) rfl rfl ?_
    show Steps p.tables e below (s₁.setTop (mkF m 1 #[.val (.ref ob0), .val (.long q1), .second, .val (.long q2), .second] [(.ref ob0)])) _
    refine st1 _ ?_
    show Steps p.tables e below (T1.setTop (mkF m 4 #[.val (.ref ob0), .val (.long q1), .second, .val (.long q2), .second] [])) _
    refine XS.lloadN X1.here hx rfl (hb hby d1_4) rfl ?_
    show Steps p.tables e below (T1.setTop (mkF m 5 #[.val (.ref ob0), .val (.long q1), .second, .val (.long q2), .second] [(.long q1)])) _
    refine XS.lconst X1.here hx rfl (hb hby d1_5) ?_
    show Steps p.tables e below (T1.setTop (mkF m 6 #[.val (.ref ob0), .val (.long q1), .second, .val (.long q2), .second] [(.long (0 : Int64)), (.long q1)])) _
    refine XS.lcmp X1.here hx rfl (hb hby d1_6) rfl ?_
    show Steps p.tables e below (T1.setTop (mkF m 7 #[.val (.ref ob0), .val (.long q1), .second, .val (.long q2), .second] [(.int (lcmpW q1 (0 : Int64)))])) _
    refine XS.ifYes X1.here hx rfl (pc0 := 7) (pc' := 24) rfl (hb hby d1_7) rfl (lcY_ge hc7) (by decide) (by decide) ?_
    show Steps p.tables e below (T1.setTop (mkF m 24 #[.val (.ref ob0), .val (.long q1), .second, .val (.long q2), .second] [])) _
    refine XS.lloadN X1.here hx rfl (hb hby d1_24) rfl ?_
    show Steps p.tables e below (T1.setTop (mkF m 25 #[.val (.ref ob0), .val (.long q1), .second, .val (.long q2), .second] [(.long q2)])) _
    refine XS.lconst X1.here hx rfl (hb hby d1_25) ?_
    show Steps p.tables e below (T1.setTop (mkF m 26 #[.val (.ref ob0), .val (.long q1), .second, .val (.long q2), .second] [(.long (1 : Int64)), (.long q2)])) _
    refine XS.lcmp X1.here hx rfl (hb hby d1_26) rfl ?_
    show Steps p.tables e below (T1.setTop (mkF m 27 #[.val (.ref ob0), .val (.long q1), .second, .val (.long q2), .second] [(.int (lcmpW q2 (1 : Int64)))])) _
    refine XS.ifYes X1.here hx rfl (pc0 := 27) (pc' := 44) rfl (hb hby d1_27) rfl (lcY_ge hc27) (by decide) (by decide) ?_
    show Steps p.tables e below (T1.setTop (mkF m 44 #[.val (.ref ob0), .val (.long q1), .second, .val (.long q2), .second] [])) _
    refine XS.aloadN X1.here hx rfl (hb hby d1_44) rfl rfl ?_
    show Steps p.tables e below (T1.setTop (mkF m 45 #[.val (.ref ob0), .val (.long q1), .second, .val (.long q2), .second] [(.ref ob0)])) _
    refine XS.lloadN X1.here hx rfl (hb hby d1_45) rfl ?_
    show Steps p.tables e below (T1.setTop (mkF m 46 #[.val (.ref ob0), .val (.long q1), .second, .val (.long q2), .second] [(.long q1), (.ref ob0)])) _
    refine st2 _ ?_
    show Steps p.tables e below (T2.setTop (mkF m 49 #[.val (.ref ob0), .val (.long q1), .second, .val (.long q2), .second] [])) _
    refine XS.aloadN X2.here hx rfl (hb hby d1_49) rfl rfl ?_
    show Steps p.tables e below (T2.setTop (mkF m 50 #[.val (.ref ob0), .val (.long q1), .second, .val (.long q2), .second] [(.ref ob0)])) _
    refine XS.lloadN X2.here hx rfl (hb hby d1_50) rfl ?_
    show Steps p.tables e below (T2.setTop (mkF m 51 #[.val (.ref ob0), .val (.long q1), .second, .val (.long q2), .second] [(.long q2), (.ref ob0)])) _
    refine st6 _ ?_
    show Steps p.tables e below (T6.setTop (mkF m 54 #[.val (.ref ob0), .val (.long q1), .second, .val (.long q2), .second] [])) _
    exact X6.returnOut hx Bd.returns (hb hby d1_54) hr
  · show Q1 Z ob0 q1 q2 u_epochMillis u_tickMillis h0 n0 _ T6.heap _
    rw [e6]
    exact ⟨rfl, N6, K6, eE9, fF7, fF8⟩
theorem pd_0 : parseMethodDescriptor "(JJ)V" = some ⟨[.long, .long], none⟩ := by decide +kernel
theorem d4_0 : decode prog_24_method_3_code 0 = .ok (.aload_n 0, 1) := by decide +kernel
theorem d4_1 : decode prog_24_method_3_code 1 = .ok (.getfield 23, 3) := by decide +kernel
theorem d4_4 : decode prog_24_method_3_code 4 = .ok (.lreturn, 1) := by decide +kernel
theorem pn_4 : plainName "com/example/graupel/graupel/layout/TimeBase" = true := by first | (simp [plainName, overriddenIn]; done) | decide +kernel
theorem ef_4 (m : MethodId) (ob0 : Addr) : entryFrame m #[(.ref ob0)] 1 = mkF m 0 #[.val (.ref ob0)] [] := by first | (simp [entryFrame, mkF, argsToLocals, Value.category]; done) | rfl
def Q4 (Z : State) (ob0 : Addr) (w_ob0_tickMillis : Int64) (h0 : Heap) (n0 : Nat) (v : Option Value) (h : Heap) (L : List Loc) : Prop := v = some (.long w_ob0_tickMillis) ∧ Fr n0 L ∧ h = h0
set_option maxRecDepth 65536 in
set_option maxHeartbeats 40000000 in
theorem rm4 (l : Launch) (Z : State) (a0 : Array Value) (hw : ∀ d ∈ tables_1, d.before a0 Z = true) (ws : List Jvm.Cond) (ob0 : Addr) (w_ob0_tickMillis : Int64) (h0 : Heap) (n0 : Nat) (Z0 : n0 ≤ h0.size) (F_tickMillis_ob0 : Fld Z h0 ob0 "com/example/graupel/graupel/layout/TimeBase" "tickMillis" "J" (.long w_ob0_tickMillis)) :
    MetFree l (⟨"com/example/graupel/graupel/layout/TimeBase", "tickMillis", "()J"⟩ : MethodName) (head1 (Jvm.Cond.code (⟨"com/example/graupel/graupel/layout/TimeBase", "tickMillis", "()J"⟩ : MethodName) prog_24_method_3_code 1 (some .long) :: ws) ({ frames := 0, cells := 0, slots := 0, locals := 0 } : Room)) (fun a U => a = #[(.ref ob0)] ∧ Z.Warmed39 U.vm ∧ U.heap = h0) (fun _ _ _ _ _ => True) (fun _ U o U' => ∃ v L, o = .returned v ∧ Q4 Z ob0 w_ob0_tickMillis h0 n0 v U'.heap L ∧ FrameEnd U o U' L ({ frames := 0, cells := 0, slots := 0, locals := 0 } : Room).cells ({ frames := 0, cells := 0, slots := 0, locals := 0 } : Room).slots) := by
  refine MetFree.of_bodySF (plainFor_of_name pn_4) hisR ?_
  intro p e s m args below meth c s₁ Bd hml0 hP hK
  obtain ⟨rfl, hZ, hh⟩ := hP
  have hx := Bd.exec
  have hby := Bd.bytes
  have hml : c.maxLocals = 1 := hml0
  have hown : s.vm.findClass "com/example/graupel/graupel/layout/TimeBase" = some m.cls := findClass_of_methodNamed Bd.named
  have hnm := (name_of_methodNamed Bd.named Bd.method).1
  have X0 : Stand p l e ({ frames := 0, cells := 0, slots := 0, locals := 0 } : Room) s m #[(.ref ob0)] below meth c s₁ [] 0 0 := Stand.of_body Bd
  have e0 : s₁.heap = h0 := by rw [← hh, Bd.state]; rfl
  have N0 := Fr.nil n0
  have pre0 : ∀ t, Steps p.tables e below (s₁.setTop (mkF m 0 #[.val (.ref ob0)] [])) t → Steps p.tables e below (s₁.setTop (entryFrame m #[(.ref ob0)] 1)) t := fun t k => castTop (ef_4 m ob0) k
  obtain ⟨T1, X1, e1, st1⟩ := getF X0 hx hZ hown (host := "") (Or.inl (hw _ (List.mem_of_getElem? (i := 17) rfl))) Via.refl e0 F_tickMillis_ob0 (g := (mkF m 1 #[.val (.ref ob0)] [(.ref ob0)])) rfl rfl (hb hby d4_1)
  obtain ⟨fs, hr, hrun, hended, hW, hsame⟩ := X1.leave (v := some (.long w_ob0_tickMillis)) (fun h => by rw [Bd.returns] at h; cases h)
  refine ⟨_, _, pre0 _ ?_, hrun, hended, _, _, rfl, ?_, ⟨_, rfl⟩, hW, hsame.mono (by decide) (by decide)⟩
  · show Steps p.tables e below (s₁.setTop (mkF m 0 #[.val (.ref ob0)] [])) _
    refine XS.aloadN X0.here hx rfl (hb hby d4_0) rfl rfl ?_
    show Steps p.tables e below (s₁.setTop (mkF m 1 #[.val (.ref ob0)] [(.ref ob0)])) _
    refine st1 _ ?_
    show Steps p.tables e below (T1.setTop (mkF m 4 #[.val (.ref ob0)] [(.long w_ob0_tickMillis)])) _
    exact retOut X1 hx Bd.returns rfl (Or.inr (Or.inl ⟨rfl, rfl, _, rfl⟩)) (hb hby d4_4) hr
  · show Q4 Z ob0 w_ob0_tickMillis h0 n0 _ T1.heap _
    rw [e1]
    exact ⟨rfl, N0, rfl⟩
theorem pd_1 : parseMethodDescriptor "()J" = some ⟨[], some .long⟩ := by decide +kernel
theorem d3_0 : decode prog_18_method_1_code 0 = .ok (.aload_n 0, 1) := by decide +kernel
theorem d3_1 : decode prog_18_method_1_code 1 = .ok (.invokespecial 1, 3) := by decide +kernel
theorem d3_4 : decode prog_18_method_1_code 4 = .ok (.lload_n 1, 1) := by decide +kernel
theorem d3_5 : decode prog_18_method_1_code 5 = .ok (.lconst 0, 1) := by decide +kernel
theorem d3_6 : decode prog_18_method_1_code 6 = .ok (.lcmp, 1) := by decide +kernel
theorem d3_7 : decode prog_18_method_1_code 7 = .ok (.ifCond .ge 17, 3) := by decide +kernel
theorem d3_24 : decode prog_18_method_1_code 24 = .ok (.aload_n 0, 1) := by decide +kernel
theorem d3_25 : decode prog_18_method_1_code 25 = .ok (.lload_n 1, 1) := by decide +kernel
theorem d3_26 : decode prog_18_method_1_code 26 = .ok (.putfield 16, 3) := by decide +kernel
theorem d3_29 : decode prog_18_method_1_code 29 = .ok (.aload_n 0, 1) := by decide +kernel
theorem d3_30 : decode prog_18_method_1_code 30 = .ok (.aload_n 3, 1) := by decide +kernel
theorem d3_31 : decode prog_18_method_1_code 31 = .ok (.invokevirtual 22, 3) := by decide +kernel
theorem d3_34 : decode prog_18_method_1_code 34 = .ok (.putfield 28, 3) := by decide +kernel
theorem d3_37 : decode prog_18_method_1_code 37 = .ok (.return_, 1) := by decide +kernel
theorem pn_3 : plainName "com/example/graupel/graupel/clock/LeadRule" = true := by first | (simp [plainName, overriddenIn]; done) | decide +kernel
theorem ef_3 (m : MethodId) (ob0 : Addr) (q1 : Int64) (ob2 : Addr) : entryFrame m #[(.ref ob0), (.long q1), (.ref ob2)] 4 = mkF m 0 #[.val (.ref ob0), .val (.long q1), .second, .val (.ref ob2)] [] := by first | (simp [entryFrame, mkF, argsToLocals, Value.category]; done) | rfl
def Q3 (Z : State) (ob0 : Addr) (q1 : Int64) (ob2 : Addr) (u_maxLeadMillis : Value) (u_tickMillis : Value) (w_ob2_epochMillis : Int64) (w_ob2_tickMillis : Int64) (h0 : Heap) (n0 : Nat) (v : Option Value) (h : Heap) (L : List Loc) : Prop := v = none ∧ Fr n0 L ∧ Keep h0 h [ob0] ∧ Exa Z h ob0 "com/example/graupel/graupel/clock/LeadRule" ∧ Fld Z h ob0 "com/example/graupel/graupel/clock/LeadRule" "maxLeadMillis" "J" (.long q1) ∧ Fld Z h ob0 "com/example/graupel/graupel/clock/LeadRule" "tickMillis" "J" (.long w_ob2_tickMillis)
set_option maxRecDepth 65536 in
set_option maxHeartbeats 40000000 in
theorem rm3 (l : Launch) (Z : State) (a0 : Array Value) (hw : ∀ d ∈ tables_1, d.before a0 Z = true) (ws : List Jvm.Cond) (ob0 : Addr) (q1 : Int64) (ob2 : Addr) (u_maxLeadMillis : Value) (u_tickMillis : Value) (w_ob2_epochMillis : Int64) (w_ob2_tickMillis : Int64) (h0 : Heap) (n0 : Nat) (Z0 : n0 ≤ h0.size) (F_maxLeadMillis_ob0 : Fld Z h0 ob0 "com/example/graupel/graupel/clock/LeadRule" "maxLeadMillis" "J" u_maxLeadMillis) (F_tickMillis_ob0 : Fld Z h0 ob0 "com/example/graupel/graupel/clock/LeadRule" "tickMillis" "J" u_tickMillis) (E_ob0 : Exa Z h0 ob0 "com/example/graupel/graupel/clock/LeadRule") (g_ob0 : n0 ≤ ob0) (ne_ob0_ob2 : ob0 ≠ ob2) (E_ob2 : Exa Z h0 ob2 "com/example/graupel/graupel/layout/TimeBase") (F_epochMillis_ob2 : Fld Z h0 ob2 "com/example/graupel/graupel/layout/TimeBase" "epochMillis" "J" (.long w_ob2_epochMillis)) (F_tickMillis_ob2 : Fld Z h0 ob2 "com/example/graupel/graupel/layout/TimeBase" "tickMillis" "J" (.long w_ob2_tickMillis)) (hc7 : ¬ (q1 < (0 : Int64))) :
    MetFree l (⟨"com/example/graupel/graupel/clock/LeadRule", "<init>", "(JLcom/example/graupel/graupel/layout/TimeBase;)V"⟩ : MethodName) (head1 (Jvm.Cond.code (⟨"com/example/graupel/graupel/clock/LeadRule", "<init>", "(JLcom/example/graupel/graupel/layout/TimeBase;)V"⟩ : MethodName) prog_18_method_1_code 4 none :: ws) ({ frames := 1, cells := 0, slots := 0, locals := 13 } : Room)) (fun a U => a = #[(.ref ob0), (.long q1), (.ref ob2)] ∧ Z.Warmed39 U.vm ∧ U.heap = h0) (fun _ _ _ _ _ => True) (fun _ U o U' => ∃ v L, o = .returned v ∧ Q3 Z ob0 q1 ob2 u_maxLeadMillis u_tickMillis w_ob2_epochMillis w_ob2_tickMillis h0 n0 v U'.heap L ∧ FrameEnd U o U' L ({ frames := 1, cells := 0, slots := 0, locals := 13 } : Room).cells ({ frames := 1, cells := 0, slots := 0, locals := 13 } : Room).slots) := by
  refine MetFree.of_bodySF (plainFor_of_name pn_3) hisR ?_
  intro p e s m args below meth c s₁ Bd hml0 hP hK
  obtain ⟨rfl, hZ, hh⟩ := hP
  have hx := Bd.exec
  have hby := Bd.bytes
  have hml : c.maxLocals = 4 := hml0
  have hown : s.vm.findClass "com/example/graupel/graupel/clock/LeadRule" = some m.cls := findClass_of_methodNamed Bd.named
  have hnm := (name_of_methodNamed Bd.named Bd.method).1
  have X0 : Stand p l e ({ frames := 1, cells := 0, slots := 0, locals := 13 } : Room) s m #[(.ref ob0), (.long q1), (.ref ob2)] below meth c s₁ [] 0 0 := Stand.of_body Bd
  have e0 : s₁.heap = h0 := by rw [← hh, Bd.state]; rfl
  have N0 := Fr.nil n0
  have pre0 : ∀ t, Steps p.tables e below (s₁.setTop (mkF m 0 #[.val (.ref ob0), .val (.long q1), .second, .val (.ref ob2)] [])) t → Steps p.tables e below (s₁.setTop (entryFrame m #[(.ref ob0), (.long q1), (.ref ob2)] 4)) t := fun t k => castTop (ef_3 m ob0 q1 ob2) k
  obtain ⟨T1, X1, e1, st1⟩ := initO X0 hx hZ hown (hw _ (List.mem_of_getElem? (i := 22) rfl)) (hw _ (List.mem_of_getElem? (i := 13) rfl)) (hw _ (List.mem_of_getElem? (i := 14) rfl)) e0 (g := (mkF m 1 #[.val (.ref ob0), .val (.long q1), .second, .val (.ref ob2)] [(.ref ob0)])) rfl (by rw [hml]; rfl) rfl (hb hby d3_1) (by decide) (W := 0) (by show 2 * 0 + _ ≤ _; exact Nat.le_of_eq rfl) (by decide)
  obtain ⟨T2, h2, X2, e2, W2, st2⟩ := putF X1 hx hZ hown (host := "") (Or.inl (hw _ (List.mem_of_getElem? (i := 23) rfl))) Via.refl e1 F_maxLeadMillis_ob0 E_ob0 (Or.inr ⟨(hw _ (List.mem_of_getElem? (i := 24) rfl)), rfl, hnm⟩) (hw _ (List.mem_of_getElem? (i := 4) rfl)) (ty := .long) (by decide) rfl rfl (g := (mkF m 26 #[.val (.ref ob0), .val (.long q1), .second, .val (.ref ob2)] [(.long q1), (.ref ob0)])) rfl rfl (hb hby d3_26)
  have fF3 := F_maxLeadMillis_ob0.same W2
  have fF4 := F_tickMillis_ob0.other W2 (Or.inr (slot_ne (Or.inr (hw _ (List.mem_of_getElem? (i := 31) rfl))) (Or.inr (hw _ (List.mem_of_getElem? (i := 24) rfl))) (by decide) (t := .long) (t' := .long) (by decide) (by decide)))
  have eE5 := E_ob0.wr W2
  have eE6 := E_ob2.wr W2
  have fF7 := F_epochMillis_ob2.other W2 (Or.inl (Ne.symm ne_ob0_ob2))
  have fF8 := F_tickMillis_ob2.other W2 (Or.inl (Ne.symm ne_ob0_ob2))
  have N2 := Fr.snoc X2 N0 g_ob0
  have Z2 := Nat.le_trans Z0 (Keep.of_wr W2).1
  have K2 := (Keep.refl h0 [ob0]).wr W2 (Or.inl (List.mem_of_getElem? (i := 0) rfl))
  obtain ⟨cq9, kq9, q9a, q9b, q9c⟩ := isOf hZ e2 eE6
  obtain ⟨_, _, ⟨T9, L9, k9, n9⟩, -, X9, ⟨Lc9, hQ9, l9, y9, z9⟩, st9⟩ := X2.virtualBack hx (y := (⟨"com/example/graupel/graupel/layout/TimeBase", "tickMillis", "()J"⟩ : MethodName)) (z := (⟨"com/example/graupel/graupel/layout/TimeBase", "tickMillis", "()J"⟩ : MethodName)) hown (mvT hZ (hw _ (List.mem_of_getElem? (i := 25) rfl))) (mvT hZ (hw _ (List.mem_of_getElem? (i := 26) rfl))) (notFace_of_selects (args := #[]) (mvT hZ (hw _ (List.mem_of_getElem? (i := 28) rfl)))) (mvT hZ (hw _ (List.mem_of_getElem? (i := 28) rfl))) (mvT hZ (hw _ (List.mem_of_getElem? (i := 27) rfl))) (by decide) (backOf (W := 1) (rm4 l Z a0 hw [] ob2 w_ob2_tickMillis h2 n0 Z2 fF8) hZ (hw _ (List.mem_of_getElem? (i := 29) rfl)) (hw _ (List.mem_of_getElem? (i := 8) rfl)) (by decide) (by decide)) q9a q9c (g := (mkF m 31 #[.val (.ref ob0), .val (.long q1), .second, .val (.ref ob2)] [(.ref ob2), (.ref ob0)])) rfl (by rw [hml]; rfl) (Steps.refl _) (argsL := []) (rest := [(.ref ob0)]) (lenOf pd_1 rfl) rfl (by show 2 * 0 + _ ≤ _; exact Nat.le_of_eq rfl) (hb hby d3_31) (fun _ _ => ⟨rfl, e2, (by decide : 0 + 0 ≤ _), (by decide : 0 + 0 ≤ _)⟩)
  dsimp only [Pt.U, Pt.locs, Pt.cells, Pt.slots] at X9 l9 y9 z9 st9 hQ9
  subst l9 y9 z9
  obtain ⟨rfl, N9q, e9⟩ := hQ9
  have N9 := Fr.app N2 N9q
  obtain ⟨T10, h10, X10, e10, W10, st10⟩ := putF X9 hx hZ hown (host := "") (Or.inl (hw _ (List.mem_of_getElem? (i := 30) rfl))) Via.refl e9 fF4 eE5 (Or.inr ⟨(hw _ (List.mem_of_getElem? (i := 31) rfl)), rfl, hnm⟩) (hw _ (List.mem_of_getElem? (i := 4) rfl)) (ty := .long) (by decide) rfl rfl (g := (mkF m 34 #[.val (.ref ob0), .val (.long q1), .second, .val (.ref ob2)] [(.long w_ob2_tickMillis), (.ref ob0)])) rfl rfl (hb hby d3_34)
  have fF11 := fF3.other W10 (Or.inr (slot_ne (Or.inr (hw _ (List.mem_of_getElem? (i := 24) rfl))) (Or.inr (hw _ (List.mem_of_getElem? (i := 31) rfl))) (by decide) (t := .long) (t' := .long) (by decide) (by decide)))
  have fF12 := fF4.same W10
  have eE13 := eE5.wr W10
  have eE14 := eE6.wr W10
  have fF15 := fF7.other W10 (Or.inl (Ne.symm ne_ob0_ob2))
  have fF16 := fF8.other W10 (Or.inl (Ne.symm ne_ob0_ob2))
  have N10 := Fr.snoc X10 N9 g_ob0
  have Z10 := Nat.le_trans Z2 (Keep.of_wr W10).1
  have K10 := K2.wr W10 (Or.inl (List.mem_of_getElem? (i := 0) rfl))
  obtain ⟨fs, hr, hrun, hended, hW, hsame⟩ := X10.leave (v := none) (fun _ => rfl)
  refine ⟨_, _, pre0 _ ?_, hrun, hended, _, _, rfl, ?_, ⟨_, rfl⟩, hW, hsame.mono (by decide) (by decide)⟩
  · show Steps p.tables e below (s₁.setTop (mkF m 0 #[.val (.ref ob0), .val (.long q1), .second, .val (.ref ob2)] [])) _
    refine XS.aloadN X0.here hx rfl (hb hby d3_0) rfl rfl ?_
    show Steps p.tables e below (s₁.setTop (mkF m 1 #[.val (.ref ob0), .val (.long q1), .second, .val (.ref ob2)] [(.ref ob0)])) _
    refine st1 _ ?_
    show Steps p.tables e below (T1.setTop (mkF m 4 #[.val (.ref ob0), .val (.long q1), .second, .val (.ref ob2)] [])) _
    refine XS.lloadN X1.here hx rfl (hb hby d3_4) rfl ?_
    show Steps p.tables e below (T1.setTop (mkF m 5 #[.val (.ref ob0), .val (.long q1), .second, .val (.ref ob2)] [(.long q1)])) _
    refine XS.lconst X1.here hx rfl (hb hby d3_5) ?_
    show Steps p.tables e below (T1.setTop (mkF m 6 #[.val (.ref ob0), .val (.long q1), .second, .val (.ref ob2)] [(.long (0 : Int64)), (.long q1)])) _
    refine XS.lcmp X1.here hx rfl (hb hby d3_6) rfl ?_
    show Steps p.tables e below (T1.setTop (mkF m 7 #[.val (.ref ob0), .val (.long q1), .second, .val (.ref ob2)] [(.int (lcmpW q1 (0 : Int64)))])) _
    refine XS.ifYes X1.here hx rfl (pc0 := 7) (pc' := 24) rfl (hb hby d3_7) rfl (lcY_ge hc7) (by decide) (by decide) ?_
    show Steps p.tables e below (T1.setTop (mkF m 24 #[.val (.ref ob0), .val (.long q1), .second, .val (.ref ob2)] [])) _
    refine XS.aloadN X1.here hx rfl (hb hby d3_24) rfl rfl ?_
    show Steps p.tables e below (T1.setTop (mkF m 25 #[.val (.ref ob0), .val (.long q1), .second, .val (.ref ob2)] [(.ref ob0)])) _
    refine XS.lloadN X1.here hx rfl (hb hby d3_25) rfl ?_
    show Steps p.tables e below (T1.setTop (mkF m 26 #[.val (.ref ob0), .val (.long q1), .second, .val (.ref ob2)] [(.long q1), (.ref ob0)])) _
    refine st2 _ ?_
    show Steps p.tables e below (T2.setTop (mkF m 29 #[.val (.ref ob0), .val (.long q1), .second, .val (.ref ob2)] [])) _
    refine XS.aloadN X2.here hx rfl (hb hby d3_29) rfl rfl ?_
    show Steps p.tables e below (T2.setTop (mkF m 30 #[.val (.ref ob0), .val (.long q1), .second, .val (.ref ob2)] [(.ref ob0)])) _
    refine XS.aloadN X2.here hx rfl (hb hby d3_30) rfl rfl ?_
    show Steps p.tables e below (T2.setTop (mkF m 31 #[.val (.ref ob0), .val (.long q1), .second, .val (.ref ob2)] [(.ref ob2), (.ref ob0)])) _
    refine st9.trans ?_
    show Steps p.tables e below (T9.setTop (mkF m 34 #[.val (.ref ob0), .val (.long q1), .second, .val (.ref ob2)] [(.long w_ob2_tickMillis), (.ref ob0)])) _
    refine st10 _ ?_
    show Steps p.tables e below (T10.setTop (mkF m 37 #[.val (.ref ob0), .val (.long q1), .second, .val (.ref ob2)] [])) _
    exact X10.returnOut hx Bd.returns (hb hby d3_37) hr
  · show Q3 Z ob0 q1 ob2 u_maxLeadMillis u_tickMillis w_ob2_epochMillis w_ob2_tickMillis h0 n0 _ T10.heap _
    rw [e10]
    exact ⟨rfl, N10, K10, eE13, fF11, fF12⟩
theorem pd_2 : parseMethodDescriptor "(JLcom/example/graupel/graupel/layout/TimeBase;)V" = some ⟨[.long, (.object "com/example/graupel/graupel/layout/TimeBase")], none⟩ := by decide +kernel
def F5 (q1 : Int64) (q2 : Int64) (w_ob0_tickMillis : Int64) (w_ob0_maxLeadMillis : Int64) : Int32 :=
  if w_ob0_maxLeadMillis < ((q1 * w_ob0_tickMillis) - q2) then (0 : Int32) else (1 : Int32)
theorem d5_0 : decode prog_18_method_3_code 0 = .ok (.lload_n 1, 1) := by decide +kernel
theorem d5_1 : decode prog_18_method_3_code 1 = .ok (.aload_n 0, 1) := by decide +kernel
theorem d5_2 : decode prog_18_method_3_code 2 = .ok (.getfield 28, 3) := by decide +kernel
theorem d5_5 : decode prog_18_method_3_code 5 = .ok (.lmul, 1) := by decide +kernel
theorem d5_6 : decode prog_18_method_3_code 6 = .ok (.lload_n 3, 1) := by decide +kernel
theorem d5_7 : decode prog_18_method_3_code 7 = .ok (.lsub, 1) := by decide +kernel
theorem d5_8 : decode prog_18_method_3_code 8 = .ok (.aload_n 0, 1) := by decide +kernel
theorem d5_9 : decode prog_18_method_3_code 9 = .ok (.getfield 16, 3) := by decide +kernel
theorem d5_12 : decode prog_18_method_3_code 12 = .ok (.lcmp, 1) := by decide +kernel
theorem d5_13 : decode prog_18_method_3_code 13 = .ok (.ifCond .gt 7, 3) := by decide +kernel
theorem d5_16 : decode prog_18_method_3_code 16 = .ok (.iconst 1, 1) := by decide +kernel
theorem d5_17 : decode prog_18_method_3_code 17 = .ok (.goto 4, 3) := by decide +kernel
theorem d5_20 : decode prog_18_method_3_code 20 = .ok (.iconst 0, 1) := by decide +kernel
theorem d5_21 : decode prog_18_method_3_code 21 = .ok (.ireturn, 1) := by decide +kernel
theorem pn_5 : plainName "com/example/graupel/graupel/clock/LeadRule" = true := by first | (simp [plainName, overriddenIn]; done) | decide +kernel
theorem ef_5 (m : MethodId) (ob0 : Addr) (q1 : Int64) (q2 : Int64) : entryFrame m #[(.ref ob0), (.long q1), (.long q2)] 5 = mkF m 0 #[.val (.ref ob0), .val (.long q1), .second, .val (.long q2), .second] [] := by first | (simp [entryFrame, mkF, argsToLocals, Value.category]; done) | rfl
def Q5 (Z : State) (ob0 : Addr) (q1 : Int64) (q2 : Int64) (w_ob0_tickMillis : Int64) (w_ob0_maxLeadMillis : Int64) (h0 : Heap) (n0 : Nat) (v : Option Value) (h : Heap) (L : List Loc) : Prop := v = some (.int (F5 q1 q2 w_ob0_tickMillis w_ob0_maxLeadMillis)) ∧ Fr n0 L ∧ h = h0
set_option maxRecDepth 65536 in
set_option maxHeartbeats 40000000 in
theorem rm5 (l : Launch) (Z : State) (a0 : Array Value) (hw : ∀ d ∈ tables_1, d.before a0 Z = true) (ws : List Jvm.Cond) (ob0 : Addr) (q1 : Int64) (q2 : Int64) (w_ob0_tickMillis : Int64) (w_ob0_maxLeadMillis : Int64) (h0 : Heap) (n0 : Nat) (Z0 : n0 ≤ h0.size) (F_tickMillis_ob0 : Fld Z h0 ob0 "com/example/graupel/graupel/clock/LeadRule" "tickMillis" "J" (.long w_ob0_tickMillis)) (F_maxLeadMillis_ob0 : Fld Z h0 ob0 "com/example/graupel/graupel/clock/LeadRule" "maxLeadMillis" "J" (.long w_ob0_maxLeadMillis)) :
    MetFree l (⟨"com/example/graupel/graupel/clock/LeadRule", "allows", "(JJ)Z"⟩ : MethodName) (head1 (Jvm.Cond.code (⟨"com/example/graupel/graupel/clock/LeadRule", "allows", "(JJ)Z"⟩ : MethodName) prog_18_method_3_code 5 (some .boolean) :: ws) ({ frames := 0, cells := 0, slots := 0, locals := 0 } : Room)) (fun a U => a = #[(.ref ob0), (.long q1), (.long q2)] ∧ Z.Warmed39 U.vm ∧ U.heap = h0) (fun _ _ _ _ _ => True) (fun _ U o U' => ∃ v L, o = .returned v ∧ Q5 Z ob0 q1 q2 w_ob0_tickMillis w_ob0_maxLeadMillis h0 n0 v U'.heap L ∧ FrameEnd U o U' L ({ frames := 0, cells := 0, slots := 0, locals := 0 } : Room).cells ({ frames := 0, cells := 0, slots := 0, locals := 0 } : Room).slots) := by
  refine MetFree.of_bodySF (plainFor_of_name pn_5) hisR ?_
  intro p e s m args below meth c s₁ Bd hml0 hP hK
  obtain ⟨rfl, hZ, hh⟩ := hP
  have hx := Bd.exec
  have hby := Bd.bytes
  have hml : c.maxLocals = 5 := hml0
  have hown : s.vm.findClass "com/example/graupel/graupel/clock/LeadRule" = some m.cls := findClass_of_methodNamed Bd.named
  have hnm := (name_of_methodNamed Bd.named Bd.method).1
  have X0 : Stand p l e ({ frames := 0, cells := 0, slots := 0, locals := 0 } : Room) s m #[(.ref ob0), (.long q1), (.long q2)] below meth c s₁ [] 0 0 := Stand.of_body Bd
  have e0 : s₁.heap = h0 := by rw [← hh, Bd.state]; rfl
  have N0 := Fr.nil n0
  have pre0 : ∀ t, Steps p.tables e below (s₁.setTop (mkF m 0 #[.val (.ref ob0), .val (.long q1), .second, .val (.long q2), .second] [])) t → Steps p.tables e below (s₁.setTop (entryFrame m #[(.ref ob0), (.long q1), (.long q2)] 5)) t := fun t k => castTop (ef_5 m ob0 q1 q2) k
  obtain ⟨T1, X1, e1, st1⟩ := getF X0 hx hZ hown (host := "") (Or.inl (hw _ (List.mem_of_getElem? (i := 30) rfl))) Via.refl e0 F_tickMillis_ob0 (g := (mkF m 2 #[.val (.ref ob0), .val (.long q1), .second, .val (.long q2), .second] [(.ref ob0), (.long q1)])) rfl rfl (hb hby d5_2)
  obtain ⟨T2, X2, e2, st2⟩ := getF X1 hx hZ hown (host := "") (Or.inl (hw _ (List.mem_of_getElem? (i := 23) rfl))) Via.refl e1 F_maxLeadMillis_ob0 (g := (mkF m 9 #[.val (.ref ob0), .val (.long q1), .second, .val (.long q2), .second] [(.ref ob0), (.long ((q1 * w_ob0_tickMillis) - q2))])) rfl rfl (hb hby d5_9)
  have pre3 : ∀ t, Steps p.tables e below (T2.setTop (mkF m 13 #[.val (.ref ob0), .val (.long q1), .second, .val (.long q2), .second] [(.int (lcmpW ((q1 * w_ob0_tickMillis) - q2) w_ob0_maxLeadMillis))])) t → Steps p.tables e below (s₁.setTop (entryFrame m #[(.ref ob0), (.long q1), (.long q2)] 5)) t := fun t k => by
    refine pre0 t ?_
    show Steps p.tables e below (s₁.setTop (mkF m 0 #[.val (.ref ob0), .val (.long q1), .second, .val (.long q2), .second] [])) _
    refine XS.lloadN X0.here hx rfl (hb hby d5_0) rfl ?_
    show Steps p.tables e below (s₁.setTop (mkF m 1 #[.val (.ref ob0), .val (.long q1), .second, .val (.long q2), .second] [(.long q1)])) _
    refine XS.aloadN X0.here hx rfl (hb hby d5_1) rfl rfl ?_
    show Steps p.tables e below (s₁.setTop (mkF m 2 #[.val (.ref ob0), .val (.long q1), .second, .val (.long q2), .second] [(.ref ob0), (.long q1)])) _
    refine st1 _ ?_
    show Steps p.tables e below (T1.setTop (mkF m 5 #[.val (.ref ob0), .val (.long q1), .second, .val (.long q2), .second] [(.long w_ob0_tickMillis), (.long q1)])) _
    refine XS.lmul X1.here hx rfl (hb hby d5_5) rfl ?_
    show Steps p.tables e below (T1.setTop (mkF m 6 #[.val (.ref ob0), .val (.long q1), .second, .val (.long q2), .second] [(.long (q1 * w_ob0_tickMillis))])) _
    refine XS.lloadN X1.here hx rfl (hb hby d5_6) rfl ?_
    show Steps p.tables e below (T1.setTop (mkF m 7 #[.val (.ref ob0), .val (.long q1), .second, .val (.long q2), .second] [(.long q2), (.long (q1 * w_ob0_tickMillis))])) _
    refine XS.lsub X1.here hx rfl (hb hby d5_7) rfl ?_
    show Steps p.tables e below (T1.setTop (mkF m 8 #[.val (.ref ob0), .val (.long q1), .second, .val (.long q2), .second] [(.long ((q1 * w_ob0_tickMillis) - q2))])) _
    refine XS.aloadN X1.here hx rfl (hb hby d5_8) rfl rfl ?_
    show Steps p.tables e below (T1.setTop (mkF m 9 #[.val (.ref ob0), .val (.long q1), .second, .val (.long q2), .second] [(.ref ob0), (.long ((q1 * w_ob0_tickMillis) - q2))])) _
    refine st2 _ ?_
    show Steps p.tables e below (T2.setTop (mkF m 12 #[.val (.ref ob0), .val (.long q1), .second, .val (.long q2), .second] [(.long w_ob0_maxLeadMillis), (.long ((q1 * w_ob0_tickMillis) - q2))])) _
    refine XS.lcmp X2.here hx rfl (hb hby d5_12) rfl ?_
    exact k
  by_cases hc13 : w_ob0_maxLeadMillis < ((q1 * w_ob0_tickMillis) - q2)
  · obtain ⟨fs, hr, hrun, hended, hW, hsame⟩ := X2.leave (v := some (.int (0 : Int32))) (fun h => by rw [Bd.returns] at h; cases h)
    refine ⟨_, _, pre3 _ ?_, hrun, hended, _, _, rfl, ?_, ⟨_, rfl⟩, hW, hsame.mono (by decide) (by decide)⟩
    · show Steps p.tables e below (T2.setTop (mkF m 13 #[.val (.ref ob0), .val (.long q1), .second, .val (.long q2), .second] [(.int (lcmpW ((q1 * w_ob0_tickMillis) - q2) w_ob0_maxLeadMillis))])) _
      refine XS.ifYes X2.here hx rfl (pc0 := 13) (pc' := 20) rfl (hb hby d5_13) rfl (lcY_gt hc13) (by decide) (by decide) ?_
      show Steps p.tables e below (T2.setTop (mkF m 20 #[.val (.ref ob0), .val (.long q1), .second, .val (.long q2), .second] [])) _
      refine XS.iconst X2.here hx rfl (hb hby d5_20) ?_
      show Steps p.tables e below (T2.setTop (mkF m 21 #[.val (.ref ob0), .val (.long q1), .second, .val (.long q2), .second] [(.int (0 : Int32))])) _
      exact retN X2 hx (t := .boolean) Bd.returns (by simp) (hb hby d5_21) hr
    · show Q5 Z ob0 q1 q2 w_ob0_tickMillis w_ob0_maxLeadMillis h0 n0 _ T2.heap _
      rw [e2]
      exact ⟨(by rw [F5, if_pos hc13]), N0, rfl⟩
  · obtain ⟨fs, hr, hrun, hended, hW, hsame⟩ := X2.leave (v := some (.int (1 : Int32))) (fun h => by rw [Bd.returns] at h; cases h)
    refine ⟨_, _, pre3 _ ?_, hrun, hended, _, _, rfl, ?_, ⟨_, rfl⟩, hW, hsame.mono (by decide) (by decide)⟩
    · show Steps p.tables e below (T2.setTop (mkF m 13 #[.val (.ref ob0), .val (.long q1), .second, .val (.long q2), .second] [(.int (lcmpW ((q1 * w_ob0_tickMillis) - q2) w_ob0_maxLeadMillis))])) _
      refine XS.ifNo X2.here hx rfl (hb hby d5_13) rfl (lcN_gt hc13) ?_
      show Steps p.tables e below (T2.setTop (mkF m 16 #[.val (.ref ob0), .val (.long q1), .second, .val (.long q2), .second] [])) _
      refine XS.iconst X2.here hx rfl (hb hby d5_16) ?_
      show Steps p.tables e below (T2.setTop (mkF m 17 #[.val (.ref ob0), .val (.long q1), .second, .val (.long q2), .second] [(.int (1 : Int32))])) _
      refine XS.goto X2.here hx rfl (pc0 := 17) (pc' := 21) rfl (hb hby d5_17) (by decide) (by decide) ?_
      show Steps p.tables e below (T2.setTop (mkF m 21 #[.val (.ref ob0), .val (.long q1), .second, .val (.long q2), .second] [(.int (1 : Int32))])) _
      exact retN X2 hx (t := .boolean) Bd.returns (by simp) (hb hby d5_21) hr
    · show Q5 Z ob0 q1 q2 w_ob0_tickMillis w_ob0_maxLeadMillis h0 n0 _ T2.heap _
      rw [e2]
      exact ⟨(by rw [F5, if_neg hc13]), N0, rfl⟩
theorem pd_3 : parseMethodDescriptor "(JJ)Z" = some ⟨[.long, .long], some .boolean⟩ := by decide +kernel
theorem pn_0 : plainName "com/example/graupel/graupel/clock/LeadRuleAllowsPinLaw" = true := by first | (simp [plainName, overriddenIn]; done) | decide +kernel
theorem ef_0 (m : MethodId) (p0 : Int32) (q1 : Int64) (q2 : Int64) (p3 : Int32) (q4 : Int64) : entryFrame m #[(.int p0), (.long q1), (.long q2), (.int p3), (.long q4)] maxLocals = mkF m 0 #[.val (.int p0), .val (.long q1), .second, .val (.long q2), .second, .val (.int p3), .val (.long q4), .second, .unset, .unset, .unset, .unset, .unset, .unset, .unset, .unset, .unset, .unset, .unset, .unset, .unset, .unset, .unset] [] := by first | (simp [entryFrame, mkF, argsToLocals, Value.category, maxLocals]; done) | rfl
def Q0 (Z : State) (p0 : Int32) (q1 : Int64) (q2 : Int64) (p3 : Int32) (q4 : Int64) (h0 : Heap) (n0 : Nat) (v : Option Value) (h : Heap) (L : List Loc) : Prop := v = some (.int 1) ∧ Fr n0 L
set_option maxRecDepth 65536 in
set_option maxHeartbeats 40000000 in
theorem rm0 (l : Launch) (Z : State) (a0 : Array Value) (hw : ∀ d ∈ tables_1, d.before a0 Z = true) (ws : List Jvm.Cond) (p0 : Int32) (q1 : Int64) (q2 : Int64) (p3 : Int32) (q4 : Int64) (h0 : Heap) (n0 : Nat) (Z0 : n0 ≤ h0.size) :
    MetFree l x (head1 (Jvm.Cond.code x code maxLocals ret :: ws) room_1) (fun a U => a = #[(.int p0), (.long q1), (.long q2), (.int p3), (.long q4)] ∧ Z.Warmed39 U.vm ∧ U.heap = h0) (fun _ _ _ _ _ => True) (fun _ U o U' => ∃ v L, o = .returned v ∧ Q0 Z p0 q1 q2 p3 q4 h0 n0 v U'.heap L ∧ FrameEnd U o U' L room_1.cells room_1.slots) := by
  refine MetFree.of_bodySF (plainFor_of_name pn_0) hisR ?_
  intro p e s m args below meth c s₁ Bd hml0 hP hK
  obtain ⟨rfl, hZ, hh⟩ := hP
  have hx := Bd.exec
  have hby := Bd.bytes
  have hml : c.maxLocals = 23 := hml0
  have hown : s.vm.findClass "com/example/graupel/graupel/clock/LeadRuleAllowsPinLaw" = some m.cls := findClass_of_methodNamed Bd.named
  have hnm := (name_of_methodNamed Bd.named Bd.method).1
  have X0 : Stand p l e room_1 s m #[(.int p0), (.long q1), (.long q2), (.int p3), (.long q4)] below meth c s₁ [] 0 0 := Stand.of_body Bd
  have e0 : s₁.heap = h0 := by rw [← hh, Bd.state]; rfl
  have N0 := Fr.nil n0
  have pre0 : ∀ t, Steps p.tables e below (s₁.setTop (mkF m 0 #[.val (.int p0), .val (.long q1), .second, .val (.long q2), .second, .val (.int p3), .val (.long q4), .second, .unset, .unset, .unset, .unset, .unset, .unset, .unset, .unset, .unset, .unset, .unset, .unset, .unset, .unset, .unset] [])) t → Steps p.tables e below (s₁.setTop (entryFrame m #[(.int p0), (.long q1), (.long q2), (.int p3), (.long q4)] maxLocals)) t := fun t k => castTop (ef_0 m p0 q1 q2 p3 q4) k
  obtain ⟨T1, h1, X1, e1, E1, A1, D1, -, st1⟩ := newO X0 hx hZ hown (hw _ (List.mem_of_getElem? (i := 3) rfl)) (hw _ (List.mem_of_getElem? (i := 4) rfl)) (hw _ (List.mem_of_getElem? (i := 5) rfl)) e0 (g := (mkF m 36 #[.val (.int p0), .val (.long q1), .second, .val (.long q2), .second, .val (.int p3), .val (.long q4), .second, .val (.long (p0.toInt64)), .second, .val (.long (q1 &&& (4611686018427387903 : Int64))), .second, .val (.long (q2 &&& (9223372036854775807 : Int64))), .second, .val (.long (((p3 &&& (2147483647 : Int32)).toInt64) + (1 : Int64))), .second, .val (.long (q4 &&& (9223372036854775807 : Int64))), .second, .unset, .unset, .unset, .unset, .unset] [])) rfl (hb hby at_36) (by decide) (by decide)
  obtain ⟨b1, g1⟩ : ∃ z, z = h0.size := ⟨_, rfl⟩
  rw [← g1] at A1 D1 st1
  have g_b1 : n0 ≤ b1 := Nat.le_trans Z0 (Nat.le_of_eq g1.symm)
  have Z1 := Nat.le_trans Z0 E1.1
  have fF2 : Fld Z h1 b1 "com/example/graupel/graupel/clock/LeadRule" "maxLeadMillis" "J" (.long (0 : Int64)) := D1 (Or.inr (hw _ (List.mem_of_getElem? (i := 24) rfl))) (ty := .long) (by decide)
  have fF3 : Fld Z h1 b1 "com/example/graupel/graupel/clock/LeadRule" "tickMillis" "J" (.long (0 : Int64)) := D1 (Or.inr (hw _ (List.mem_of_getElem? (i := 31) rfl))) (ty := .long) (by decide)
  obtain ⟨T4, h4, X4, e4, E4, A4, D4, -, st4⟩ := newO X1 hx hZ hown (hw _ (List.mem_of_getElem? (i := 6) rfl)) (hw _ (List.mem_of_getElem? (i := 7) rfl)) (hw _ (List.mem_of_getElem? (i := 8) rfl)) e1 (g := (mkF m 42 #[.val (.int p0), .val (.long q1), .second, .val (.long q2), .second, .val (.int p3), .val (.long q4), .second, .val (.long (p0.toInt64)), .second, .val (.long (q1 &&& (4611686018427387903 : Int64))), .second, .val (.long (q2 &&& (9223372036854775807 : Int64))), .second, .val (.long (((p3 &&& (2147483647 : Int32)).toInt64) + (1 : Int64))), .second, .val (.long (q4 &&& (9223372036854775807 : Int64))), .second, .unset, .unset, .unset, .unset, .unset] [(.long (q2 &&& (9223372036854775807 : Int64))), (.ref b1), (.ref b1)])) rfl (hb hby at_42) (by decide) (by decide)
  obtain ⟨b4, g4⟩ : ∃ z, z = h1.size := ⟨_, rfl⟩
  rw [← g4] at A4 D4 st4
  have ne_b1_b4 : b1 ≠ b4 := Nat.ne_of_lt (Nat.lt_of_lt_of_le A1.lt (Nat.le_of_eq g4.symm))
  have eE5 := A1.ext E4
  have fF6 := fF2.ext E4
  have fF7 := fF3.ext E4
  have g_b4 : n0 ≤ b4 := Nat.le_trans Z1 (Nat.le_of_eq g4.symm)
  have Z4 := Nat.le_trans Z1 E4.1
  have fF8 : Fld Z h4 b4 "com/example/graupel/graupel/layout/TimeBase" "epochMillis" "J" (.long (0 : Int64)) := D4 (Or.inr (hw _ (List.mem_of_getElem? (i := 16) rfl))) (ty := .long) (by decide)
  have fF9 : Fld Z h4 b4 "com/example/graupel/graupel/layout/TimeBase" "tickMillis" "J" (.long (0 : Int64)) := D4 (Or.inr (hw _ (List.mem_of_getElem? (i := 18) rfl))) (ty := .long) (by decide)
  have hp10 : ¬ ((q4 &&& (9223372036854775807 : Int64)) < (0 : Int64)) := own_lt0 q4
  have hp11 : ¬ ((((p3 &&& (2147483647 : Int32)).toInt64) + (1 : Int64)) < (1 : Int64)) := own_lt1 p3
  obtain ⟨_, _, ⟨T12, L12, k12, n12⟩, -, X12, ⟨Lc12, hQ12, l12, y12, z12⟩, st12⟩ := X4.specialBack hx (y := (⟨"com/example/graupel/graupel/layout/TimeBase", "<init>", "(JJ)V"⟩ : MethodName)) rfl hown (mvT hZ (hw _ (List.mem_of_getElem? (i := 9) rfl))) (mvT hZ (hw _ (List.mem_of_getElem? (i := 10) rfl))) (mvT hZ (hw _ (List.mem_of_getElem? (i := 11) rfl))) (by decide) (backOf (W := 5) (rm1 l Z a0 hw [] b4 (q4 &&& (9223372036854775807 : Int64)) (((p3 &&& (2147483647 : Int32)).toInt64) + (1 : Int64)) (.long (0 : Int64)) (.long (0 : Int64)) h4 n0 Z4 fF8 fF9 A4 g_b4 hp10 hp11) hZ (hw _ (List.mem_of_getElem? (i := 11) rfl)) (hw _ (List.mem_of_getElem? (i := 8) rfl)) (by decide) (by decide)) (g := (mkF m 50 #[.val (.int p0), .val (.long q1), .second, .val (.long q2), .second, .val (.int p3), .val (.long q4), .second, .val (.long (p0.toInt64)), .second, .val (.long (q1 &&& (4611686018427387903 : Int64))), .second, .val (.long (q2 &&& (9223372036854775807 : Int64))), .second, .val (.long (((p3 &&& (2147483647 : Int32)).toInt64) + (1 : Int64))), .second, .val (.long (q4 &&& (9223372036854775807 : Int64))), .second, .unset, .unset, .unset, .unset, .unset] [(.long (((p3 &&& (2147483647 : Int32)).toInt64) + (1 : Int64))), (.long (q4 &&& (9223372036854775807 : Int64))), (.ref b4), (.ref b4), (.long (q2 &&& (9223372036854775807 : Int64))), (.ref b1), (.ref b1)])) rfl (by rw [hml]; rfl) (Steps.refl _) (a := b4) (argsL := [(.long (q4 &&& (9223372036854775807 : Int64))), (.long (((p3 &&& (2147483647 : Int32)).toInt64) + (1 : Int64)))]) (rest := [(.ref b4), (.long (q2 &&& (9223372036854775807 : Int64))), (.ref b1), (.ref b1)]) (lenOf pd_0 rfl) rfl (by show 2 * 0 + _ ≤ _; exact Nat.le_of_eq rfl) (hb hby at_50) (fun _ _ => ⟨rfl, e4, (by decide : 2 + 0 ≤ _), (by decide : 4 + 0 ≤ _)⟩)
  dsimp only [Pt.U, Pt.locs, Pt.cells, Pt.slots] at X12 l12 y12 z12 st12 hQ12
  subst l12 y12 z12
  obtain ⟨rfl, N12q, K12, G13, G14, G15⟩ := hQ12
  have eE16 := eE5.keep K12
  have fF17 := fF6.keep K12 (ninS ne_b1_b4 nin0)
  have fF18 := fF7.keep K12 (ninS ne_b1_b4 nin0)
  have Z12 := Nat.le_trans Z4 K12.1
  have N12 := Fr.app N0 N12q
  have hp19 : ¬ ((q2 &&& (9223372036854775807 : Int64)) < (0 : Int64)) := own_lt0 q2
  obtain ⟨_, _, ⟨T20, L20, k20, n20⟩, -, X20, ⟨Lc20, hQ20, l20, y20, z20⟩, st20⟩ := X12.specialBack hx (y := (⟨"com/example/graupel/graupel/clock/LeadRule", "<init>", "(JLcom/example/graupel/graupel/layout/TimeBase;)V"⟩ : MethodName)) rfl hown (mvT hZ (hw _ (List.mem_of_getElem? (i := 19) rfl))) (mvT hZ (hw _ (List.mem_of_getElem? (i := 20) rfl))) (mvT hZ (hw _ (List.mem_of_getElem? (i := 21) rfl))) (by decide) (backOf (W := 1) (rm3 l Z a0 hw [] b1 (q2 &&& (9223372036854775807 : Int64)) b4 (.long (0 : Int64)) (.long (0 : Int64)) (q4 &&& (9223372036854775807 : Int64)) (((p3 &&& (2147483647 : Int32)).toInt64) + (1 : Int64)) T12.heap n0 Z12 fF17 fF18 eE16 g_b1 ne_b1_b4 G13 G14 G15 hp19) hZ (hw _ (List.mem_of_getElem? (i := 21) rfl)) (hw _ (List.mem_of_getElem? (i := 5) rfl)) (by decide) (by decide)) (g := (mkF m 53 #[.val (.int p0), .val (.long q1), .second, .val (.long q2), .second, .val (.int p3), .val (.long q4), .second, .val (.long (p0.toInt64)), .second, .val (.long (q1 &&& (4611686018427387903 : Int64))), .second, .val (.long (q2 &&& (9223372036854775807 : Int64))), .second, .val (.long (((p3 &&& (2147483647 : Int32)).toInt64) + (1 : Int64))), .second, .val (.long (q4 &&& (9223372036854775807 : Int64))), .second, .unset, .unset, .unset, .unset, .unset] [(.ref b4), (.long (q2 &&& (9223372036854775807 : Int64))), (.ref b1), (.ref b1)])) rfl (by rw [hml]; rfl) (Steps.refl _) (a := b1) (argsL := [(.long (q2 &&& (9223372036854775807 : Int64))), (.ref b4)]) (rest := [(.ref b1)]) (lenOf pd_2 rfl) rfl (by show 2 * 0 + _ ≤ _; exact Nat.le_of_eq rfl) (hb hby at_53) (fun _ _ => ⟨rfl, rfl, (by decide : 2 + 0 ≤ _), (by decide : 4 + 0 ≤ _)⟩)
  dsimp only [Pt.U, Pt.locs, Pt.cells, Pt.slots] at X20 l20 y20 z20 st20 hQ20
  subst l20 y20 z20
  obtain ⟨rfl, N20q, K20, G21, G22, G23⟩ := hQ20
  have eE24 := G13.keep K20
  have fF25 := G14.keep K20 (ninS (Ne.symm ne_b1_b4) nin0)
  have fF26 := G15.keep K20 (ninS (Ne.symm ne_b1_b4) nin0)
  have Z20 := Nat.le_trans Z12 K20.1
  have N20 := Fr.app N12 N20q
  obtain ⟨cq27, kq27, q27a, q27b, q27c⟩ := isOf hZ rfl G21
  obtain ⟨_, _, ⟨T27, L27, k27, n27⟩, -, X27, ⟨Lc27, hQ27, l27, y27, z27⟩, st27⟩ := X20.virtualBack hx (y := (⟨"com/example/graupel/graupel/clock/LeadRule", "allows", "(JJ)Z"⟩ : MethodName)) (z := (⟨"com/example/graupel/graupel/clock/LeadRule", "allows", "(JJ)Z"⟩ : MethodName)) hown (mvT hZ (hw _ (List.mem_of_getElem? (i := 32) rfl))) (mvT hZ (hw _ (List.mem_of_getElem? (i := 33) rfl))) (notFace_of_selects (args := #[]) (mvT hZ (hw _ (List.mem_of_getElem? (i := 35) rfl)))) (mvT hZ (hw _ (List.mem_of_getElem? (i := 35) rfl))) (mvT hZ (hw _ (List.mem_of_getElem? (i := 34) rfl))) (by decide) (backOf (W := 0) (rm5 l Z a0 hw [] b1 (p0.toInt64) (q1 &&& (4611686018427387903 : Int64)) (((p3 &&& (2147483647 : Int32)).toInt64) + (1 : Int64)) (q2 &&& (9223372036854775807 : Int64)) T20.heap n0 Z20 G23 G22) hZ (hw _ (List.mem_of_getElem? (i := 36) rfl)) (hw _ (List.mem_of_getElem? (i := 5) rfl)) (by decide) (by decide)) q27a q27c (g := (mkF m 64 #[.val (.int p0), .val (.long q1), .second, .val (.long q2), .second, .val (.int p3), .val (.long q4), .second, .val (.long (p0.toInt64)), .second, .val (.long (q1 &&& (4611686018427387903 : Int64))), .second, .val (.long (q2 &&& (9223372036854775807 : Int64))), .second, .val (.long (((p3 &&& (2147483647 : Int32)).toInt64) + (1 : Int64))), .second, .val (.long (q4 &&& (9223372036854775807 : Int64))), .second, .val (.ref b1), .unset, .unset, .unset, .unset] [(.long (q1 &&& (4611686018427387903 : Int64))), (.long (p0.toInt64)), (.ref b1)])) rfl (by rw [hml]; rfl) (Steps.refl _) (argsL := [(.long (p0.toInt64)), (.long (q1 &&& (4611686018427387903 : Int64)))]) (rest := []) (lenOf pd_3 rfl) rfl (by show 2 * 0 + _ ≤ _; exact Nat.le_of_eq rfl) (hb hby at_64) (fun _ _ => ⟨rfl, rfl, (by decide : 2 + 0 ≤ _), (by decide : 4 + 0 ≤ _)⟩)
  dsimp only [Pt.U, Pt.locs, Pt.cells, Pt.slots] at X27 l27 y27 z27 st27 hQ27
  subst l27 y27 z27
  obtain ⟨rfl, N27q, e27⟩ := hQ27
  have N27 := Fr.app N20 N27q
  have pre28 : ∀ t, Steps p.tables e below (T27.setTop (mkF m 78 #[.val (.int p0), .val (.long q1), .second, .val (.long q2), .second, .val (.int p3), .val (.long q4), .second, .val (.long (p0.toInt64)), .second, .val (.long (q1 &&& (4611686018427387903 : Int64))), .second, .val (.long (q2 &&& (9223372036854775807 : Int64))), .second, .val (.long (((p3 &&& (2147483647 : Int32)).toInt64) + (1 : Int64))), .second, .val (.long (q4 &&& (9223372036854775807 : Int64))), .second, .val (.ref b1), .val (.int (F5 (p0.toInt64) (q1 &&& (4611686018427387903 : Int64)) (((p3 &&& (2147483647 : Int32)).toInt64) + (1 : Int64)) (q2 &&& (9223372036854775807 : Int64)))), .unset, .unset, .unset] [(.int (lcmpW (q2 &&& (9223372036854775807 : Int64)) ((9223372036854775807 : Int64) - (q1 &&& (4611686018427387903 : Int64)))))])) t → Steps p.tables e below (s₁.setTop (entryFrame m #[(.int p0), (.long q1), (.long q2), (.int p3), (.long q4)] maxLocals)) t := fun t k => by
    refine pre0 t ?_
    show Steps p.tables e below (s₁.setTop (mkF m 0 #[.val (.int p0), .val (.long q1), .second, .val (.long q2), .second, .val (.int p3), .val (.long q4), .second, .unset, .unset, .unset, .unset, .unset, .unset, .unset, .unset, .unset, .unset, .unset, .unset, .unset, .unset, .unset] [])) _
    refine XS.iloadN X0.here hx rfl (hb hby at_0) rfl ?_
    show Steps p.tables e below (s₁.setTop (mkF m 1 #[.val (.int p0), .val (.long q1), .second, .val (.long q2), .second, .val (.int p3), .val (.long q4), .second, .unset, .unset, .unset, .unset, .unset, .unset, .unset, .unset, .unset, .unset, .unset, .unset, .unset, .unset, .unset] [(.int p0)])) _
    refine XS.i2l X0.here hx rfl (hb hby at_1) rfl ?_
    show Steps p.tables e below (s₁.setTop (mkF m 2 #[.val (.int p0), .val (.long q1), .second, .val (.long q2), .second, .val (.int p3), .val (.long q4), .second, .unset, .unset, .unset, .unset, .unset, .unset, .unset, .unset, .unset, .unset, .unset, .unset, .unset, .unset, .unset] [(.long (p0.toInt64))])) _
    refine XS.lstore X0.here hx rfl (hb hby at_2) rfl (l' := #[.val (.int p0), .val (.long q1), .second, .val (.long q2), .second, .val (.int p3), .val (.long q4), .second, .val (.long (p0.toInt64)), .second, .unset, .unset, .unset, .unset, .unset, .unset, .unset, .unset, .unset, .unset, .unset, .unset, .unset]) rfl ?_
    show Steps p.tables e below (s₁.setTop (mkF m 4 #[.val (.int p0), .val (.long q1), .second, .val (.long q2), .second, .val (.int p3), .val (.long q4), .second, .val (.long (p0.toInt64)), .second, .unset, .unset, .unset, .unset, .unset, .unset, .unset, .unset, .unset, .unset, .unset, .unset, .unset] [])) _
    refine XS.lloadN X0.here hx rfl (hb hby at_4) rfl ?_
    show Steps p.tables e below (s₁.setTop (mkF m 5 #[.val (.int p0), .val (.long q1), .second, .val (.long q2), .second, .val (.int p3), .val (.long q4), .second, .val (.long (p0.toInt64)), .second, .unset, .unset, .unset, .unset, .unset, .unset, .unset, .unset, .unset, .unset, .unset, .unset, .unset] [(.long q1)])) _
    refine X0.ldc2Long hx hown (mvT hZ (hw _ (List.mem_of_getElem? (i := 0) rfl))) (g := (mkF m 5 #[.val (.int p0), .val (.long q1), .second, .val (.long q2), .second, .val (.int p3), .val (.long q4), .second, .val (.long (p0.toInt64)), .second, .unset, .unset, .unset, .unset, .unset, .unset, .unset, .unset, .unset, .unset, .unset, .unset, .unset] [(.long q1)])) rfl (hb hby at_5) _ ?_
    show Steps p.tables e below (s₁.setTop (mkF m 8 #[.val (.int p0), .val (.long q1), .second, .val (.long q2), .second, .val (.int p3), .val (.long q4), .second, .val (.long (p0.toInt64)), .second, .unset, .unset, .unset, .unset, .unset, .unset, .unset, .unset, .unset, .unset, .unset, .unset, .unset] [(.long (4611686018427387903 : Int64)), (.long q1)])) _
    refine XS.land X0.here hx rfl (hb hby at_8) rfl ?_
    show Steps p.tables e below (s₁.setTop (mkF m 9 #[.val (.int p0), .val (.long q1), .second, .val (.long q2), .second, .val (.int p3), .val (.long q4), .second, .val (.long (p0.toInt64)), .second, .unset, .unset, .unset, .unset, .unset, .unset, .unset, .unset, .unset, .unset, .unset, .unset, .unset] [(.long (q1 &&& (4611686018427387903 : Int64)))])) _
    refine XS.lstore X0.here hx rfl (hb hby at_9) rfl (l' := #[.val (.int p0), .val (.long q1), .second, .val (.long q2), .second, .val (.int p3), .val (.long q4), .second, .val (.long (p0.toInt64)), .second, .val (.long (q1 &&& (4611686018427387903 : Int64))), .second, .unset, .unset, .unset, .unset, .unset, .unset, .unset, .unset, .unset, .unset, .unset]) rfl ?_
    show Steps p.tables e below (s₁.setTop (mkF m 11 #[.val (.int p0), .val (.long q1), .second, .val (.long q2), .second, .val (.int p3), .val (.long q4), .second, .val (.long (p0.toInt64)), .second, .val (.long (q1 &&& (4611686018427387903 : Int64))), .second, .unset, .unset, .unset, .unset, .unset, .unset, .unset, .unset, .unset, .unset, .unset] [])) _
    refine XS.lloadN X0.here hx rfl (hb hby at_11) rfl ?_
    show Steps p.tables e below (s₁.setTop (mkF m 12 #[.val (.int p0), .val (.long q1), .second, .val (.long q2), .second, .val (.int p3), .val (.long q4), .second, .val (.long (p0.toInt64)), .second, .val (.long (q1 &&& (4611686018427387903 : Int64))), .second, .unset, .unset, .unset, .unset, .unset, .unset, .unset, .unset, .unset, .unset, .unset] [(.long q2)])) _
    refine X0.ldc2Long hx hown (mvT hZ (hw _ (List.mem_of_getElem? (i := 1) rfl))) (g := (mkF m 12 #[.val (.int p0), .val (.long q1), .second, .val (.long q2), .second, .val (.int p3), .val (.long q4), .second, .val (.long (p0.toInt64)), .second, .val (.long (q1 &&& (4611686018427387903 : Int64))), .second, .unset, .unset, .unset, .unset, .unset, .unset, .unset, .unset, .unset, .unset, .unset] [(.long q2)])) rfl (hb hby at_12) _ ?_
    show Steps p.tables e below (s₁.setTop (mkF m 15 #[.val (.int p0), .val (.long q1), .second, .val (.long q2), .second, .val (.int p3), .val (.long q4), .second, .val (.long (p0.toInt64)), .second, .val (.long (q1 &&& (4611686018427387903 : Int64))), .second, .unset, .unset, .unset, .unset, .unset, .unset, .unset, .unset, .unset, .unset, .unset] [(.long (9223372036854775807 : Int64)), (.long q2)])) _
    refine XS.land X0.here hx rfl (hb hby at_15) rfl ?_
    show Steps p.tables e below (s₁.setTop (mkF m 16 #[.val (.int p0), .val (.long q1), .second, .val (.long q2), .second, .val (.int p3), .val (.long q4), .second, .val (.long (p0.toInt64)), .second, .val (.long (q1 &&& (4611686018427387903 : Int64))), .second, .unset, .unset, .unset, .unset, .unset, .unset, .unset, .unset, .unset, .unset, .unset] [(.long (q2 &&& (9223372036854775807 : Int64)))])) _
    refine XS.lstore X0.here hx rfl (hb hby at_16) rfl (l' := #[.val (.int p0), .val (.long q1), .second, .val (.long q2), .second, .val (.int p3), .val (.long q4), .second, .val (.long (p0.toInt64)), .second, .val (.long (q1 &&& (4611686018427387903 : Int64))), .second, .val (.long (q2 &&& (9223372036854775807 : Int64))), .second, .unset, .unset, .unset, .unset, .unset, .unset, .unset, .unset, .unset]) rfl ?_
    show Steps p.tables e below (s₁.setTop (mkF m 18 #[.val (.int p0), .val (.long q1), .second, .val (.long q2), .second, .val (.int p3), .val (.long q4), .second, .val (.long (p0.toInt64)), .second, .val (.long (q1 &&& (4611686018427387903 : Int64))), .second, .val (.long (q2 &&& (9223372036854775807 : Int64))), .second, .unset, .unset, .unset, .unset, .unset, .unset, .unset, .unset, .unset] [])) _
    refine XS.iload X0.here hx rfl (hb hby at_18) rfl ?_
    show Steps p.tables e below (s₁.setTop (mkF m 20 #[.val (.int p0), .val (.long q1), .second, .val (.long q2), .second, .val (.int p3), .val (.long q4), .second, .val (.long (p0.toInt64)), .second, .val (.long (q1 &&& (4611686018427387903 : Int64))), .second, .val (.long (q2 &&& (9223372036854775807 : Int64))), .second, .unset, .unset, .unset, .unset, .unset, .unset, .unset, .unset, .unset] [(.int p3)])) _
    refine X0.ldcInt hx hown (mvT hZ (hw _ (List.mem_of_getElem? (i := 2) rfl))) (g := (mkF m 20 #[.val (.int p0), .val (.long q1), .second, .val (.long q2), .second, .val (.int p3), .val (.long q4), .second, .val (.long (p0.toInt64)), .second, .val (.long (q1 &&& (4611686018427387903 : Int64))), .second, .val (.long (q2 &&& (9223372036854775807 : Int64))), .second, .unset, .unset, .unset, .unset, .unset, .unset, .unset, .unset, .unset] [(.int p3)])) rfl (hb hby at_20) _ ?_
    show Steps p.tables e below (s₁.setTop (mkF m 22 #[.val (.int p0), .val (.long q1), .second, .val (.long q2), .second, .val (.int p3), .val (.long q4), .second, .val (.long (p0.toInt64)), .second, .val (.long (q1 &&& (4611686018427387903 : Int64))), .second, .val (.long (q2 &&& (9223372036854775807 : Int64))), .second, .unset, .unset, .unset, .unset, .unset, .unset, .unset, .unset, .unset] [(.int (2147483647 : Int32)), (.int p3)])) _
    refine XS.iand X0.here hx rfl (hb hby at_22) rfl ?_
    show Steps p.tables e below (s₁.setTop (mkF m 23 #[.val (.int p0), .val (.long q1), .second, .val (.long q2), .second, .val (.int p3), .val (.long q4), .second, .val (.long (p0.toInt64)), .second, .val (.long (q1 &&& (4611686018427387903 : Int64))), .second, .val (.long (q2 &&& (9223372036854775807 : Int64))), .second, .unset, .unset, .unset, .unset, .unset, .unset, .unset, .unset, .unset] [(.int (p3 &&& (2147483647 : Int32)))])) _
    refine XS.i2l X0.here hx rfl (hb hby at_23) rfl ?_
    show Steps p.tables e below (s₁.setTop (mkF m 24 #[.val (.int p0), .val (.long q1), .second, .val (.long q2), .second, .val (.int p3), .val (.long q4), .second, .val (.long (p0.toInt64)), .second, .val (.long (q1 &&& (4611686018427387903 : Int64))), .second, .val (.long (q2 &&& (9223372036854775807 : Int64))), .second, .unset, .unset, .unset, .unset, .unset, .unset, .unset, .unset, .unset] [(.long ((p3 &&& (2147483647 : Int32)).toInt64))])) _
    refine XS.lconst X0.here hx rfl (hb hby at_24) ?_
    show Steps p.tables e below (s₁.setTop (mkF m 25 #[.val (.int p0), .val (.long q1), .second, .val (.long q2), .second, .val (.int p3), .val (.long q4), .second, .val (.long (p0.toInt64)), .second, .val (.long (q1 &&& (4611686018427387903 : Int64))), .second, .val (.long (q2 &&& (9223372036854775807 : Int64))), .second, .unset, .unset, .unset, .unset, .unset, .unset, .unset, .unset, .unset] [(.long (1 : Int64)), (.long ((p3 &&& (2147483647 : Int32)).toInt64))])) _
    refine XS.ladd X0.here hx rfl (hb hby at_25) rfl ?_
    show Steps p.tables e below (s₁.setTop (mkF m 26 #[.val (.int p0), .val (.long q1), .second, .val (.long q2), .second, .val (.int p3), .val (.long q4), .second, .val (.long (p0.toInt64)), .second, .val (.long (q1 &&& (4611686018427387903 : Int64))), .second, .val (.long (q2 &&& (9223372036854775807 : Int64))), .second, .unset, .unset, .unset, .unset, .unset, .unset, .unset, .unset, .unset] [(.long (((p3 &&& (2147483647 : Int32)).toInt64) + (1 : Int64)))])) _
    refine XS.lstore X0.here hx rfl (hb hby at_26) rfl (l' := #[.val (.int p0), .val (.long q1), .second, .val (.long q2), .second, .val (.int p3), .val (.long q4), .second, .val (.long (p0.toInt64)), .second, .val (.long (q1 &&& (4611686018427387903 : Int64))), .second, .val (.long (q2 &&& (9223372036854775807 : Int64))), .second, .val (.long (((p3 &&& (2147483647 : Int32)).toInt64) + (1 : Int64))), .second, .unset, .unset, .unset, .unset, .unset, .unset, .unset]) rfl ?_
    show Steps p.tables e below (s₁.setTop (mkF m 28 #[.val (.int p0), .val (.long q1), .second, .val (.long q2), .second, .val (.int p3), .val (.long q4), .second, .val (.long (p0.toInt64)), .second, .val (.long (q1 &&& (4611686018427387903 : Int64))), .second, .val (.long (q2 &&& (9223372036854775807 : Int64))), .second, .val (.long (((p3 &&& (2147483647 : Int32)).toInt64) + (1 : Int64))), .second, .unset, .unset, .unset, .unset, .unset, .unset, .unset] [])) _
    refine XS.lload X0.here hx rfl (hb hby at_28) rfl ?_
    show Steps p.tables e below (s₁.setTop (mkF m 30 #[.val (.int p0), .val (.long q1), .second, .val (.long q2), .second, .val (.int p3), .val (.long q4), .second, .val (.long (p0.toInt64)), .second, .val (.long (q1 &&& (4611686018427387903 : Int64))), .second, .val (.long (q2 &&& (9223372036854775807 : Int64))), .second, .val (.long (((p3 &&& (2147483647 : Int32)).toInt64) + (1 : Int64))), .second, .unset, .unset, .unset, .unset, .unset, .unset, .unset] [(.long q4)])) _
    refine X0.ldc2Long hx hown (mvT hZ (hw _ (List.mem_of_getElem? (i := 1) rfl))) (g := (mkF m 30 #[.val (.int p0), .val (.long q1), .second, .val (.long q2), .second, .val (.int p3), .val (.long q4), .second, .val (.long (p0.toInt64)), .second, .val (.long (q1 &&& (4611686018427387903 : Int64))), .second, .val (.long (q2 &&& (9223372036854775807 : Int64))), .second, .val (.long (((p3 &&& (2147483647 : Int32)).toInt64) + (1 : Int64))), .second, .unset, .unset, .unset, .unset, .unset, .unset, .unset] [(.long q4)])) rfl (hb hby at_30) _ ?_
    show Steps p.tables e below (s₁.setTop (mkF m 33 #[.val (.int p0), .val (.long q1), .second, .val (.long q2), .second, .val (.int p3), .val (.long q4), .second, .val (.long (p0.toInt64)), .second, .val (.long (q1 &&& (4611686018427387903 : Int64))), .second, .val (.long (q2 &&& (9223372036854775807 : Int64))), .second, .val (.long (((p3 &&& (2147483647 : Int32)).toInt64) + (1 : Int64))), .second, .unset, .unset, .unset, .unset, .unset, .unset, .unset] [(.long (9223372036854775807 : Int64)), (.long q4)])) _
    refine XS.land X0.here hx rfl (hb hby at_33) rfl ?_
    show Steps p.tables e below (s₁.setTop (mkF m 34 #[.val (.int p0), .val (.long q1), .second, .val (.long q2), .second, .val (.int p3), .val (.long q4), .second, .val (.long (p0.toInt64)), .second, .val (.long (q1 &&& (4611686018427387903 : Int64))), .second, .val (.long (q2 &&& (9223372036854775807 : Int64))), .second, .val (.long (((p3 &&& (2147483647 : Int32)).toInt64) + (1 : Int64))), .second, .unset, .unset, .unset, .unset, .unset, .unset, .unset] [(.long (q4 &&& (9223372036854775807 : Int64)))])) _
    refine XS.lstore X0.here hx rfl (hb hby at_34) rfl (l' := #[.val (.int p0), .val (.long q1), .second, .val (.long q2), .second, .val (.int p3), .val (.long q4), .second, .val (.long (p0.toInt64)), .second, .val (.long (q1 &&& (4611686018427387903 : Int64))), .second, .val (.long (q2 &&& (9223372036854775807 : Int64))), .second, .val (.long (((p3 &&& (2147483647 : Int32)).toInt64) + (1 : Int64))), .second, .val (.long (q4 &&& (9223372036854775807 : Int64))), .second, .unset, .unset, .unset, .unset, .unset]) rfl ?_
    show Steps p.tables e below (s₁.setTop (mkF m 36 #[.val (.int p0), .val (.long q1), .second, .val (.long q2), .second, .val (.int p3), .val (.long q4), .second, .val (.long (p0.toInt64)), .second, .val (.long (q1 &&& (4611686018427387903 : Int64))), .second, .val (.long (q2 &&& (9223372036854775807 : Int64))), .second, .val (.long (((p3 &&& (2147483647 : Int32)).toInt64) + (1 : Int64))), .second, .val (.long (q4 &&& (9223372036854775807 : Int64))), .second, .unset, .unset, .unset, .unset, .unset] [])) _
    refine st1 _ ?_
    show Steps p.tables e below (T1.setTop (mkF m 39 #[.val (.int p0), .val (.long q1), .second, .val (.long q2), .second, .val (.int p3), .val (.long q4), .second, .val (.long (p0.toInt64)), .second, .val (.long (q1 &&& (4611686018427387903 : Int64))), .second, .val (.long (q2 &&& (9223372036854775807 : Int64))), .second, .val (.long (((p3 &&& (2147483647 : Int32)).toInt64) + (1 : Int64))), .second, .val (.long (q4 &&& (9223372036854775807 : Int64))), .second, .unset, .unset, .unset, .unset, .unset] [(.ref b1)])) _
    refine XS.dup X1.here hx rfl (hb hby at_39) rfl rfl ?_
    show Steps p.tables e below (T1.setTop (mkF m 40 #[.val (.int p0), .val (.long q1), .second, .val (.long q2), .second, .val (.int p3), .val (.long q4), .second, .val (.long (p0.toInt64)), .second, .val (.long (q1 &&& (4611686018427387903 : Int64))), .second, .val (.long (q2 &&& (9223372036854775807 : Int64))), .second, .val (.long (((p3 &&& (2147483647 : Int32)).toInt64) + (1 : Int64))), .second, .val (.long (q4 &&& (9223372036854775807 : Int64))), .second, .unset, .unset, .unset, .unset, .unset] [(.ref b1), (.ref b1)])) _
    refine XS.lload X1.here hx rfl (hb hby at_40) rfl ?_
    show Steps p.tables e below (T1.setTop (mkF m 42 #[.val (.int p0), .val (.long q1), .second, .val (.long q2), .second, .val (.int p3), .val (.long q4), .second, .val (.long (p0.toInt64)), .second, .val (.long (q1 &&& (4611686018427387903 : Int64))), .second, .val (.long (q2 &&& (9223372036854775807 : Int64))), .second, .val (.long (((p3 &&& (2147483647 : Int32)).toInt64) + (1 : Int64))), .second, .val (.long (q4 &&& (9223372036854775807 : Int64))), .second, .unset, .unset, .unset, .unset, .unset] [(.long (q2 &&& (9223372036854775807 : Int64))), (.ref b1), (.ref b1)])) _
    refine st4 _ ?_
    show Steps p.tables e below (T4.setTop (mkF m 45 #[.val (.int p0), .val (.long q1), .second, .val (.long q2), .second, .val (.int p3), .val (.long q4), .second, .val (.long (p0.toInt64)), .second, .val (.long (q1 &&& (4611686018427387903 : Int64))), .second, .val (.long (q2 &&& (9223372036854775807 : Int64))), .second, .val (.long (((p3 &&& (2147483647 : Int32)).toInt64) + (1 : Int64))), .second, .val (.long (q4 &&& (9223372036854775807 : Int64))), .second, .unset, .unset, .unset, .unset, .unset] [(.ref b4), (.long (q2 &&& (9223372036854775807 : Int64))), (.ref b1), (.ref b1)])) _
    refine XS.dup X4.here hx rfl (hb hby at_45) rfl rfl ?_
    show Steps p.tables e below (T4.setTop (mkF m 46 #[.val (.int p0), .val (.long q1), .second, .val (.long q2), .second, .val (.int p3), .val (.long q4), .second, .val (.long (p0.toInt64)), .second, .val (.long (q1 &&& (4611686018427387903 : Int64))), .second, .val (.long (q2 &&& (9223372036854775807 : Int64))), .second, .val (.long (((p3 &&& (2147483647 : Int32)).toInt64) + (1 : Int64))), .second, .val (.long (q4 &&& (9223372036854775807 : Int64))), .second, .unset, .unset, .unset, .unset, .unset] [(.ref b4), (.ref b4), (.long (q2 &&& (9223372036854775807 : Int64))), (.ref b1), (.ref b1)])) _
    refine XS.lload X4.here hx rfl (hb hby at_46) rfl ?_
    show Steps p.tables e below (T4.setTop (mkF m 48 #[.val (.int p0), .val (.long q1), .second, .val (.long q2), .second, .val (.int p3), .val (.long q4), .second, .val (.long (p0.toInt64)), .second, .val (.long (q1 &&& (4611686018427387903 : Int64))), .second, .val (.long (q2 &&& (9223372036854775807 : Int64))), .second, .val (.long (((p3 &&& (2147483647 : Int32)).toInt64) + (1 : Int64))), .second, .val (.long (q4 &&& (9223372036854775807 : Int64))), .second, .unset, .unset, .unset, .unset, .unset] [(.long (q4 &&& (9223372036854775807 : Int64))), (.ref b4), (.ref b4), (.long (q2 &&& (9223372036854775807 : Int64))), (.ref b1), (.ref b1)])) _
    refine XS.lload X4.here hx rfl (hb hby at_48) rfl ?_
    show Steps p.tables e below (T4.setTop (mkF m 50 #[.val (.int p0), .val (.long q1), .second, .val (.long q2), .second, .val (.int p3), .val (.long q4), .second, .val (.long (p0.toInt64)), .second, .val (.long (q1 &&& (4611686018427387903 : Int64))), .second, .val (.long (q2 &&& (9223372036854775807 : Int64))), .second, .val (.long (((p3 &&& (2147483647 : Int32)).toInt64) + (1 : Int64))), .second, .val (.long (q4 &&& (9223372036854775807 : Int64))), .second, .unset, .unset, .unset, .unset, .unset] [(.long (((p3 &&& (2147483647 : Int32)).toInt64) + (1 : Int64))), (.long (q4 &&& (9223372036854775807 : Int64))), (.ref b4), (.ref b4), (.long (q2 &&& (9223372036854775807 : Int64))), (.ref b1), (.ref b1)])) _
    refine st12.trans ?_
    show Steps p.tables e below (T12.setTop (mkF m 53 #[.val (.int p0), .val (.long q1), .second, .val (.long q2), .second, .val (.int p3), .val (.long q4), .second, .val (.long (p0.toInt64)), .second, .val (.long (q1 &&& (4611686018427387903 : Int64))), .second, .val (.long (q2 &&& (9223372036854775807 : Int64))), .second, .val (.long (((p3 &&& (2147483647 : Int32)).toInt64) + (1 : Int64))), .second, .val (.long (q4 &&& (9223372036854775807 : Int64))), .second, .unset, .unset, .unset, .unset, .unset] [(.ref b4), (.long (q2 &&& (9223372036854775807 : Int64))), (.ref b1), (.ref b1)])) _
    refine st20.trans ?_
    show Steps p.tables e below (T20.setTop (mkF m 56 #[.val (.int p0), .val (.long q1), .second, .val (.long q2), .second, .val (.int p3), .val (.long q4), .second, .val (.long (p0.toInt64)), .second, .val (.long (q1 &&& (4611686018427387903 : Int64))), .second, .val (.long (q2 &&& (9223372036854775807 : Int64))), .second, .val (.long (((p3 &&& (2147483647 : Int32)).toInt64) + (1 : Int64))), .second, .val (.long (q4 &&& (9223372036854775807 : Int64))), .second, .unset, .unset, .unset, .unset, .unset] [(.ref b1)])) _
    refine XS.astore X20.here hx rfl (hb hby at_56) rfl rfl (l' := #[.val (.int p0), .val (.long q1), .second, .val (.long q2), .second, .val (.int p3), .val (.long q4), .second, .val (.long (p0.toInt64)), .second, .val (.long (q1 &&& (4611686018427387903 : Int64))), .second, .val (.long (q2 &&& (9223372036854775807 : Int64))), .second, .val (.long (((p3 &&& (2147483647 : Int32)).toInt64) + (1 : Int64))), .second, .val (.long (q4 &&& (9223372036854775807 : Int64))), .second, .val (.ref b1), .unset, .unset, .unset, .unset]) rfl ?_
    show Steps p.tables e below (T20.setTop (mkF m 58 #[.val (.int p0), .val (.long q1), .second, .val (.long q2), .second, .val (.int p3), .val (.long q4), .second, .val (.long (p0.toInt64)), .second, .val (.long (q1 &&& (4611686018427387903 : Int64))), .second, .val (.long (q2 &&& (9223372036854775807 : Int64))), .second, .val (.long (((p3 &&& (2147483647 : Int32)).toInt64) + (1 : Int64))), .second, .val (.long (q4 &&& (9223372036854775807 : Int64))), .second, .val (.ref b1), .unset, .unset, .unset, .unset] [])) _
    refine XS.aload X20.here hx rfl (hb hby at_58) rfl rfl ?_
    show Steps p.tables e below (T20.setTop (mkF m 60 #[.val (.int p0), .val (.long q1), .second, .val (.long q2), .second, .val (.int p3), .val (.long q4), .second, .val (.long (p0.toInt64)), .second, .val (.long (q1 &&& (4611686018427387903 : Int64))), .second, .val (.long (q2 &&& (9223372036854775807 : Int64))), .second, .val (.long (((p3 &&& (2147483647 : Int32)).toInt64) + (1 : Int64))), .second, .val (.long (q4 &&& (9223372036854775807 : Int64))), .second, .val (.ref b1), .unset, .unset, .unset, .unset] [(.ref b1)])) _
    refine XS.lload X20.here hx rfl (hb hby at_60) rfl ?_
    show Steps p.tables e below (T20.setTop (mkF m 62 #[.val (.int p0), .val (.long q1), .second, .val (.long q2), .second, .val (.int p3), .val (.long q4), .second, .val (.long (p0.toInt64)), .second, .val (.long (q1 &&& (4611686018427387903 : Int64))), .second, .val (.long (q2 &&& (9223372036854775807 : Int64))), .second, .val (.long (((p3 &&& (2147483647 : Int32)).toInt64) + (1 : Int64))), .second, .val (.long (q4 &&& (9223372036854775807 : Int64))), .second, .val (.ref b1), .unset, .unset, .unset, .unset] [(.long (p0.toInt64)), (.ref b1)])) _
    refine XS.lload X20.here hx rfl (hb hby at_62) rfl ?_
    show Steps p.tables e below (T20.setTop (mkF m 64 #[.val (.int p0), .val (.long q1), .second, .val (.long q2), .second, .val (.int p3), .val (.long q4), .second, .val (.long (p0.toInt64)), .second, .val (.long (q1 &&& (4611686018427387903 : Int64))), .second, .val (.long (q2 &&& (9223372036854775807 : Int64))), .second, .val (.long (((p3 &&& (2147483647 : Int32)).toInt64) + (1 : Int64))), .second, .val (.long (q4 &&& (9223372036854775807 : Int64))), .second, .val (.ref b1), .unset, .unset, .unset, .unset] [(.long (q1 &&& (4611686018427387903 : Int64))), (.long (p0.toInt64)), (.ref b1)])) _
    refine st27.trans ?_
    show Steps p.tables e below (T27.setTop (mkF m 67 #[.val (.int p0), .val (.long q1), .second, .val (.long q2), .second, .val (.int p3), .val (.long q4), .second, .val (.long (p0.toInt64)), .second, .val (.long (q1 &&& (4611686018427387903 : Int64))), .second, .val (.long (q2 &&& (9223372036854775807 : Int64))), .second, .val (.long (((p3 &&& (2147483647 : Int32)).toInt64) + (1 : Int64))), .second, .val (.long (q4 &&& (9223372036854775807 : Int64))), .second, .val (.ref b1), .unset, .unset, .unset, .unset] [(.int (F5 (p0.toInt64) (q1 &&& (4611686018427387903 : Int64)) (((p3 &&& (2147483647 : Int32)).toInt64) + (1 : Int64)) (q2 &&& (9223372036854775807 : Int64))))])) _
    refine XS.istore X27.here hx rfl (hb hby at_67) rfl (l' := #[.val (.int p0), .val (.long q1), .second, .val (.long q2), .second, .val (.int p3), .val (.long q4), .second, .val (.long (p0.toInt64)), .second, .val (.long (q1 &&& (4611686018427387903 : Int64))), .second, .val (.long (q2 &&& (9223372036854775807 : Int64))), .second, .val (.long (((p3 &&& (2147483647 : Int32)).toInt64) + (1 : Int64))), .second, .val (.long (q4 &&& (9223372036854775807 : Int64))), .second, .val (.ref b1), .val (.int (F5 (p0.toInt64) (q1 &&& (4611686018427387903 : Int64)) (((p3 &&& (2147483647 : Int32)).toInt64) + (1 : Int64)) (q2 &&& (9223372036854775807 : Int64)))), .unset, .unset, .unset]) rfl ?_
    show Steps p.tables e below (T27.setTop (mkF m 69 #[.val (.int p0), .val (.long q1), .second, .val (.long q2), .second, .val (.int p3), .val (.long q4), .second, .val (.long (p0.toInt64)), .second, .val (.long (q1 &&& (4611686018427387903 : Int64))), .second, .val (.long (q2 &&& (9223372036854775807 : Int64))), .second, .val (.long (((p3 &&& (2147483647 : Int32)).toInt64) + (1 : Int64))), .second, .val (.long (q4 &&& (9223372036854775807 : Int64))), .second, .val (.ref b1), .val (.int (F5 (p0.toInt64) (q1 &&& (4611686018427387903 : Int64)) (((p3 &&& (2147483647 : Int32)).toInt64) + (1 : Int64)) (q2 &&& (9223372036854775807 : Int64)))), .unset, .unset, .unset] [])) _
    refine XS.lload X27.here hx rfl (hb hby at_69) rfl ?_
    show Steps p.tables e below (T27.setTop (mkF m 71 #[.val (.int p0), .val (.long q1), .second, .val (.long q2), .second, .val (.int p3), .val (.long q4), .second, .val (.long (p0.toInt64)), .second, .val (.long (q1 &&& (4611686018427387903 : Int64))), .second, .val (.long (q2 &&& (9223372036854775807 : Int64))), .second, .val (.long (((p3 &&& (2147483647 : Int32)).toInt64) + (1 : Int64))), .second, .val (.long (q4 &&& (9223372036854775807 : Int64))), .second, .val (.ref b1), .val (.int (F5 (p0.toInt64) (q1 &&& (4611686018427387903 : Int64)) (((p3 &&& (2147483647 : Int32)).toInt64) + (1 : Int64)) (q2 &&& (9223372036854775807 : Int64)))), .unset, .unset, .unset] [(.long (q2 &&& (9223372036854775807 : Int64)))])) _
    refine X27.ldc2Long hx hown (mvT hZ (hw _ (List.mem_of_getElem? (i := 1) rfl))) (g := (mkF m 71 #[.val (.int p0), .val (.long q1), .second, .val (.long q2), .second, .val (.int p3), .val (.long q4), .second, .val (.long (p0.toInt64)), .second, .val (.long (q1 &&& (4611686018427387903 : Int64))), .second, .val (.long (q2 &&& (9223372036854775807 : Int64))), .second, .val (.long (((p3 &&& (2147483647 : Int32)).toInt64) + (1 : Int64))), .second, .val (.long (q4 &&& (9223372036854775807 : Int64))), .second, .val (.ref b1), .val (.int (F5 (p0.toInt64) (q1 &&& (4611686018427387903 : Int64)) (((p3 &&& (2147483647 : Int32)).toInt64) + (1 : Int64)) (q2 &&& (9223372036854775807 : Int64)))), .unset, .unset, .unset] [(.long (q2 &&& (9223372036854775807 : Int64)))])) rfl (hb hby at_71) _ ?_
    show Steps p.tables e below (T27.setTop (mkF m 74 #[.val (.int p0), .val (.long q1), .second, .val (.long q2), .second, .val (.int p3), .val (.long q4), .second, .val (.long (p0.toInt64)), .second, .val (.long (q1 &&& (4611686018427387903 : Int64))), .second, .val (.long (q2 &&& (9223372036854775807 : Int64))), .second, .val (.long (((p3 &&& (2147483647 : Int32)).toInt64) + (1 : Int64))), .second, .val (.long (q4 &&& (9223372036854775807 : Int64))), .second, .val (.ref b1), .val (.int (F5 (p0.toInt64) (q1 &&& (4611686018427387903 : Int64)) (((p3 &&& (2147483647 : Int32)).toInt64) + (1 : Int64)) (q2 &&& (9223372036854775807 : Int64)))), .unset, .unset, .unset] [(.long (9223372036854775807 : Int64)), (.long (q2 &&& (9223372036854775807 : Int64)))])) _
    refine XS.lload X27.here hx rfl (hb hby at_74) rfl ?_
    show Steps p.tables e below (T27.setTop (mkF m 76 #[.val (.int p0), .val (.long q1), .second, .val (.long q2), .second, .val (.int p3), .val (.long q4), .second, .val (.long (p0.toInt64)), .second, .val (.long (q1 &&& (4611686018427387903 : Int64))), .second, .val (.long (q2 &&& (9223372036854775807 : Int64))), .second, .val (.long (((p3 &&& (2147483647 : Int32)).toInt64) + (1 : Int64))), .second, .val (.long (q4 &&& (9223372036854775807 : Int64))), .second, .val (.ref b1), .val (.int (F5 (p0.toInt64) (q1 &&& (4611686018427387903 : Int64)) (((p3 &&& (2147483647 : Int32)).toInt64) + (1 : Int64)) (q2 &&& (9223372036854775807 : Int64)))), .unset, .unset, .unset] [(.long (q1 &&& (4611686018427387903 : Int64))), (.long (9223372036854775807 : Int64)), (.long (q2 &&& (9223372036854775807 : Int64)))])) _
    refine XS.lsub X27.here hx rfl (hb hby at_76) rfl ?_
    show Steps p.tables e below (T27.setTop (mkF m 77 #[.val (.int p0), .val (.long q1), .second, .val (.long q2), .second, .val (.int p3), .val (.long q4), .second, .val (.long (p0.toInt64)), .second, .val (.long (q1 &&& (4611686018427387903 : Int64))), .second, .val (.long (q2 &&& (9223372036854775807 : Int64))), .second, .val (.long (((p3 &&& (2147483647 : Int32)).toInt64) + (1 : Int64))), .second, .val (.long (q4 &&& (9223372036854775807 : Int64))), .second, .val (.ref b1), .val (.int (F5 (p0.toInt64) (q1 &&& (4611686018427387903 : Int64)) (((p3 &&& (2147483647 : Int32)).toInt64) + (1 : Int64)) (q2 &&& (9223372036854775807 : Int64)))), .unset, .unset, .unset] [(.long ((9223372036854775807 : Int64) - (q1 &&& (4611686018427387903 : Int64)))), (.long (q2 &&& (9223372036854775807 : Int64)))])) _
    refine XS.lcmp X27.here hx rfl (hb hby at_77) rfl ?_
    exact k
  by_cases hc78 : ((9223372036854775807 : Int64) - (q1 &&& (4611686018427387903 : Int64))) < (q2 &&& (9223372036854775807 : Int64))
  · have hc102 : ¬ (((9223372036854775807 : Int64) / (((p3 &&& (2147483647 : Int32)).toInt64) + (1 : Int64))) < (p0.toInt64)) := (own_sat (own_t p0).1 (own_t p0).2 (own_n q1).1 (own_n q1).2 (own_l q2) (own_k p3).1 (own_k p3).2 hc78).1
    have hc116 : (F5 (p0.toInt64) (q1 &&& (4611686018427387903 : Int64)) (((p3 &&& (2147483647 : Int32)).toInt64) + (1 : Int64)) (q2 &&& (9223372036854775807 : Int64))) = (1 : Int32) := by rw [F5, if_neg (own_sat (own_t p0).1 (own_t p0).2 (own_n q1).1 (own_n q1).2 (own_l q2) (own_k p3).1 (own_k p3).2 hc78).2]
    obtain ⟨fs, hr, hrun, hended, hW, hsame⟩ := X27.leave (v := some (.int (1 : Int32))) (fun h => by rw [Bd.returns] at h; cases h)
    refine ⟨_, _, pre28 _ ?_, hrun, hended, _, _, rfl, ?_, ⟨_, rfl⟩, hW, hsame.mono (by decide) (by decide)⟩
    · show Steps p.tables e below (T27.setTop (mkF m 78 #[.val (.int p0), .val (.long q1), .second, .val (.long q2), .second, .val (.int p3), .val (.long q4), .second, .val (.long (p0.toInt64)), .second, .val (.long (q1 &&& (4611686018427387903 : Int64))), .second, .val (.long (q2 &&& (9223372036854775807 : Int64))), .second, .val (.long (((p3 &&& (2147483647 : Int32)).toInt64) + (1 : Int64))), .second, .val (.long (q4 &&& (9223372036854775807 : Int64))), .second, .val (.ref b1), .val (.int (F5 (p0.toInt64) (q1 &&& (4611686018427387903 : Int64)) (((p3 &&& (2147483647 : Int32)).toInt64) + (1 : Int64)) (q2 &&& (9223372036854775807 : Int64)))), .unset, .unset, .unset] [(.int (lcmpW (q2 &&& (9223372036854775807 : Int64)) ((9223372036854775807 : Int64) - (q1 &&& (4611686018427387903 : Int64)))))])) _
      refine XS.ifNo X27.here hx rfl (hb hby at_78) rfl (lcN_le hc78) ?_
      show Steps p.tables e below (T27.setTop (mkF m 81 #[.val (.int p0), .val (.long q1), .second, .val (.long q2), .second, .val (.int p3), .val (.long q4), .second, .val (.long (p0.toInt64)), .second, .val (.long (q1 &&& (4611686018427387903 : Int64))), .second, .val (.long (q2 &&& (9223372036854775807 : Int64))), .second, .val (.long (((p3 &&& (2147483647 : Int32)).toInt64) + (1 : Int64))), .second, .val (.long (q4 &&& (9223372036854775807 : Int64))), .second, .val (.ref b1), .val (.int (F5 (p0.toInt64) (q1 &&& (4611686018427387903 : Int64)) (((p3 &&& (2147483647 : Int32)).toInt64) + (1 : Int64)) (q2 &&& (9223372036854775807 : Int64)))), .unset, .unset, .unset] [])) _
      refine X27.ldc2Long hx hown (mvT hZ (hw _ (List.mem_of_getElem? (i := 1) rfl))) (g := (mkF m 81 #[.val (.int p0), .val (.long q1), .second, .val (.long q2), .second, .val (.int p3), .val (.long q4), .second, .val (.long (p0.toInt64)), .second, .val (.long (q1 &&& (4611686018427387903 : Int64))), .second, .val (.long (q2 &&& (9223372036854775807 : Int64))), .second, .val (.long (((p3 &&& (2147483647 : Int32)).toInt64) + (1 : Int64))), .second, .val (.long (q4 &&& (9223372036854775807 : Int64))), .second, .val (.ref b1), .val (.int (F5 (p0.toInt64) (q1 &&& (4611686018427387903 : Int64)) (((p3 &&& (2147483647 : Int32)).toInt64) + (1 : Int64)) (q2 &&& (9223372036854775807 : Int64)))), .unset, .unset, .unset] [])) rfl (hb hby at_81) _ ?_
      show Steps p.tables e below (T27.setTop (mkF m 84 #[.val (.int p0), .val (.long q1), .second, .val (.long q2), .second, .val (.int p3), .val (.long q4), .second, .val (.long (p0.toInt64)), .second, .val (.long (q1 &&& (4611686018427387903 : Int64))), .second, .val (.long (q2 &&& (9223372036854775807 : Int64))), .second, .val (.long (((p3 &&& (2147483647 : Int32)).toInt64) + (1 : Int64))), .second, .val (.long (q4 &&& (9223372036854775807 : Int64))), .second, .val (.ref b1), .val (.int (F5 (p0.toInt64) (q1 &&& (4611686018427387903 : Int64)) (((p3 &&& (2147483647 : Int32)).toInt64) + (1 : Int64)) (q2 &&& (9223372036854775807 : Int64)))), .unset, .unset, .unset] [(.long (9223372036854775807 : Int64))])) _
      refine XS.goto X27.here hx rfl (pc0 := 84) (pc' := 92) rfl (hb hby at_84) (by decide) (by decide) ?_
      show Steps p.tables e below (T27.setTop (mkF m 92 #[.val (.int p0), .val (.long q1), .second, .val (.long q2), .second, .val (.int p3), .val (.long q4), .second, .val (.long (p0.toInt64)), .second, .val (.long (q1 &&& (4611686018427387903 : Int64))), .second, .val (.long (q2 &&& (9223372036854775807 : Int64))), .second, .val (.long (((p3 &&& (2147483647 : Int32)).toInt64) + (1 : Int64))), .second, .val (.long (q4 &&& (9223372036854775807 : Int64))), .second, .val (.ref b1), .val (.int (F5 (p0.toInt64) (q1 &&& (4611686018427387903 : Int64)) (((p3 &&& (2147483647 : Int32)).toInt64) + (1 : Int64)) (q2 &&& (9223372036854775807 : Int64)))), .unset, .unset, .unset] [(.long (9223372036854775807 : Int64))])) _
      refine XS.lstore X27.here hx rfl (hb hby at_92) rfl (l' := #[.val (.int p0), .val (.long q1), .second, .val (.long q2), .second, .val (.int p3), .val (.long q4), .second, .val (.long (p0.toInt64)), .second, .val (.long (q1 &&& (4611686018427387903 : Int64))), .second, .val (.long (q2 &&& (9223372036854775807 : Int64))), .second, .val (.long (((p3 &&& (2147483647 : Int32)).toInt64) + (1 : Int64))), .second, .val (.long (q4 &&& (9223372036854775807 : Int64))), .second, .val (.ref b1), .val (.int (F5 (p0.toInt64) (q1 &&& (4611686018427387903 : Int64)) (((p3 &&& (2147483647 : Int32)).toInt64) + (1 : Int64)) (q2 &&& (9223372036854775807 : Int64)))), .val (.long (9223372036854775807 : Int64)), .second, .unset]) rfl ?_
      show Steps p.tables e below (T27.setTop (mkF m 94 #[.val (.int p0), .val (.long q1), .second, .val (.long q2), .second, .val (.int p3), .val (.long q4), .second, .val (.long (p0.toInt64)), .second, .val (.long (q1 &&& (4611686018427387903 : Int64))), .second, .val (.long (q2 &&& (9223372036854775807 : Int64))), .second, .val (.long (((p3 &&& (2147483647 : Int32)).toInt64) + (1 : Int64))), .second, .val (.long (q4 &&& (9223372036854775807 : Int64))), .second, .val (.ref b1), .val (.int (F5 (p0.toInt64) (q1 &&& (4611686018427387903 : Int64)) (((p3 &&& (2147483647 : Int32)).toInt64) + (1 : Int64)) (q2 &&& (9223372036854775807 : Int64)))), .val (.long (9223372036854775807 : Int64)), .second, .unset] [])) _
      refine XS.lload X27.here hx rfl (hb hby at_94) rfl ?_
      show Steps p.tables e below (T27.setTop (mkF m 96 #[.val (.int p0), .val (.long q1), .second, .val (.long q2), .second, .val (.int p3), .val (.long q4), .second, .val (.long (p0.toInt64)), .second, .val (.long (q1 &&& (4611686018427387903 : Int64))), .second, .val (.long (q2 &&& (9223372036854775807 : Int64))), .second, .val (.long (((p3 &&& (2147483647 : Int32)).toInt64) + (1 : Int64))), .second, .val (.long (q4 &&& (9223372036854775807 : Int64))), .second, .val (.ref b1), .val (.int (F5 (p0.toInt64) (q1 &&& (4611686018427387903 : Int64)) (((p3 &&& (2147483647 : Int32)).toInt64) + (1 : Int64)) (q2 &&& (9223372036854775807 : Int64)))), .val (.long (9223372036854775807 : Int64)), .second, .unset] [(.long (p0.toInt64))])) _
      refine XS.lload X27.here hx rfl (hb hby at_96) rfl ?_
      show Steps p.tables e below (T27.setTop (mkF m 98 #[.val (.int p0), .val (.long q1), .second, .val (.long q2), .second, .val (.int p3), .val (.long q4), .second, .val (.long (p0.toInt64)), .second, .val (.long (q1 &&& (4611686018427387903 : Int64))), .second, .val (.long (q2 &&& (9223372036854775807 : Int64))), .second, .val (.long (((p3 &&& (2147483647 : Int32)).toInt64) + (1 : Int64))), .second, .val (.long (q4 &&& (9223372036854775807 : Int64))), .second, .val (.ref b1), .val (.int (F5 (p0.toInt64) (q1 &&& (4611686018427387903 : Int64)) (((p3 &&& (2147483647 : Int32)).toInt64) + (1 : Int64)) (q2 &&& (9223372036854775807 : Int64)))), .val (.long (9223372036854775807 : Int64)), .second, .unset] [(.long (9223372036854775807 : Int64)), (.long (p0.toInt64))])) _
      refine XS.lload X27.here hx rfl (hb hby at_98) rfl ?_
      show Steps p.tables e below (T27.setTop (mkF m 100 #[.val (.int p0), .val (.long q1), .second, .val (.long q2), .second, .val (.int p3), .val (.long q4), .second, .val (.long (p0.toInt64)), .second, .val (.long (q1 &&& (4611686018427387903 : Int64))), .second, .val (.long (q2 &&& (9223372036854775807 : Int64))), .second, .val (.long (((p3 &&& (2147483647 : Int32)).toInt64) + (1 : Int64))), .second, .val (.long (q4 &&& (9223372036854775807 : Int64))), .second, .val (.ref b1), .val (.int (F5 (p0.toInt64) (q1 &&& (4611686018427387903 : Int64)) (((p3 &&& (2147483647 : Int32)).toInt64) + (1 : Int64)) (q2 &&& (9223372036854775807 : Int64)))), .val (.long (9223372036854775807 : Int64)), .second, .unset] [(.long (((p3 &&& (2147483647 : Int32)).toInt64) + (1 : Int64))), (.long (9223372036854775807 : Int64)), (.long (p0.toInt64))])) _
      refine XS.ldiv X27.here hx rfl (hb hby at_100) rfl (own_k0 p3) ?_
      show Steps p.tables e below (T27.setTop (mkF m 101 #[.val (.int p0), .val (.long q1), .second, .val (.long q2), .second, .val (.int p3), .val (.long q4), .second, .val (.long (p0.toInt64)), .second, .val (.long (q1 &&& (4611686018427387903 : Int64))), .second, .val (.long (q2 &&& (9223372036854775807 : Int64))), .second, .val (.long (((p3 &&& (2147483647 : Int32)).toInt64) + (1 : Int64))), .second, .val (.long (q4 &&& (9223372036854775807 : Int64))), .second, .val (.ref b1), .val (.int (F5 (p0.toInt64) (q1 &&& (4611686018427387903 : Int64)) (((p3 &&& (2147483647 : Int32)).toInt64) + (1 : Int64)) (q2 &&& (9223372036854775807 : Int64)))), .val (.long (9223372036854775807 : Int64)), .second, .unset] [(.long ((9223372036854775807 : Int64) / (((p3 &&& (2147483647 : Int32)).toInt64) + (1 : Int64)))), (.long (p0.toInt64))])) _
      refine XS.lcmp X27.here hx rfl (hb hby at_101) rfl ?_
      show Steps p.tables e below (T27.setTop (mkF m 102 #[.val (.int p0), .val (.long q1), .second, .val (.long q2), .second, .val (.int p3), .val (.long q4), .second, .val (.long (p0.toInt64)), .second, .val (.long (q1 &&& (4611686018427387903 : Int64))), .second, .val (.long (q2 &&& (9223372036854775807 : Int64))), .second, .val (.long (((p3 &&& (2147483647 : Int32)).toInt64) + (1 : Int64))), .second, .val (.long (q4 &&& (9223372036854775807 : Int64))), .second, .val (.ref b1), .val (.int (F5 (p0.toInt64) (q1 &&& (4611686018427387903 : Int64)) (((p3 &&& (2147483647 : Int32)).toInt64) + (1 : Int64)) (q2 &&& (9223372036854775807 : Int64)))), .val (.long (9223372036854775807 : Int64)), .second, .unset] [(.int (lcmpW (p0.toInt64) ((9223372036854775807 : Int64) / (((p3 &&& (2147483647 : Int32)).toInt64) + (1 : Int64)))))])) _
      refine XS.ifNo X27.here hx rfl (hb hby at_102) rfl (lcN_gt hc102) ?_
      show Steps p.tables e below (T27.setTop (mkF m 105 #[.val (.int p0), .val (.long q1), .second, .val (.long q2), .second, .val (.int p3), .val (.long q4), .second, .val (.long (p0.toInt64)), .second, .val (.long (q1 &&& (4611686018427387903 : Int64))), .second, .val (.long (q2 &&& (9223372036854775807 : Int64))), .second, .val (.long (((p3 &&& (2147483647 : Int32)).toInt64) + (1 : Int64))), .second, .val (.long (q4 &&& (9223372036854775807 : Int64))), .second, .val (.ref b1), .val (.int (F5 (p0.toInt64) (q1 &&& (4611686018427387903 : Int64)) (((p3 &&& (2147483647 : Int32)).toInt64) + (1 : Int64)) (q2 &&& (9223372036854775807 : Int64)))), .val (.long (9223372036854775807 : Int64)), .second, .unset] [])) _
      refine XS.iconst X27.here hx rfl (hb hby at_105) ?_
      show Steps p.tables e below (T27.setTop (mkF m 106 #[.val (.int p0), .val (.long q1), .second, .val (.long q2), .second, .val (.int p3), .val (.long q4), .second, .val (.long (p0.toInt64)), .second, .val (.long (q1 &&& (4611686018427387903 : Int64))), .second, .val (.long (q2 &&& (9223372036854775807 : Int64))), .second, .val (.long (((p3 &&& (2147483647 : Int32)).toInt64) + (1 : Int64))), .second, .val (.long (q4 &&& (9223372036854775807 : Int64))), .second, .val (.ref b1), .val (.int (F5 (p0.toInt64) (q1 &&& (4611686018427387903 : Int64)) (((p3 &&& (2147483647 : Int32)).toInt64) + (1 : Int64)) (q2 &&& (9223372036854775807 : Int64)))), .val (.long (9223372036854775807 : Int64)), .second, .unset] [(.int (1 : Int32))])) _
      refine XS.goto X27.here hx rfl (pc0 := 106) (pc' := 110) rfl (hb hby at_106) (by decide) (by decide) ?_
      show Steps p.tables e below (T27.setTop (mkF m 110 #[.val (.int p0), .val (.long q1), .second, .val (.long q2), .second, .val (.int p3), .val (.long q4), .second, .val (.long (p0.toInt64)), .second, .val (.long (q1 &&& (4611686018427387903 : Int64))), .second, .val (.long (q2 &&& (9223372036854775807 : Int64))), .second, .val (.long (((p3 &&& (2147483647 : Int32)).toInt64) + (1 : Int64))), .second, .val (.long (q4 &&& (9223372036854775807 : Int64))), .second, .val (.ref b1), .val (.int (F5 (p0.toInt64) (q1 &&& (4611686018427387903 : Int64)) (((p3 &&& (2147483647 : Int32)).toInt64) + (1 : Int64)) (q2 &&& (9223372036854775807 : Int64)))), .val (.long (9223372036854775807 : Int64)), .second, .unset] [(.int (1 : Int32))])) _
      refine XS.istore X27.here hx rfl (hb hby at_110) rfl (l' := #[.val (.int p0), .val (.long q1), .second, .val (.long q2), .second, .val (.int p3), .val (.long q4), .second, .val (.long (p0.toInt64)), .second, .val (.long (q1 &&& (4611686018427387903 : Int64))), .second, .val (.long (q2 &&& (9223372036854775807 : Int64))), .second, .val (.long (((p3 &&& (2147483647 : Int32)).toInt64) + (1 : Int64))), .second, .val (.long (q4 &&& (9223372036854775807 : Int64))), .second, .val (.ref b1), .val (.int (F5 (p0.toInt64) (q1 &&& (4611686018427387903 : Int64)) (((p3 &&& (2147483647 : Int32)).toInt64) + (1 : Int64)) (q2 &&& (9223372036854775807 : Int64)))), .val (.long (9223372036854775807 : Int64)), .second, .val (.int (1 : Int32))]) rfl ?_
      show Steps p.tables e below (T27.setTop (mkF m 112 #[.val (.int p0), .val (.long q1), .second, .val (.long q2), .second, .val (.int p3), .val (.long q4), .second, .val (.long (p0.toInt64)), .second, .val (.long (q1 &&& (4611686018427387903 : Int64))), .second, .val (.long (q2 &&& (9223372036854775807 : Int64))), .second, .val (.long (((p3 &&& (2147483647 : Int32)).toInt64) + (1 : Int64))), .second, .val (.long (q4 &&& (9223372036854775807 : Int64))), .second, .val (.ref b1), .val (.int (F5 (p0.toInt64) (q1 &&& (4611686018427387903 : Int64)) (((p3 &&& (2147483647 : Int32)).toInt64) + (1 : Int64)) (q2 &&& (9223372036854775807 : Int64)))), .val (.long (9223372036854775807 : Int64)), .second, .val (.int (1 : Int32))] [])) _
      refine XS.iload X27.here hx rfl (hb hby at_112) rfl ?_
      show Steps p.tables e below (T27.setTop (mkF m 114 #[.val (.int p0), .val (.long q1), .second, .val (.long q2), .second, .val (.int p3), .val (.long q4), .second, .val (.long (p0.toInt64)), .second, .val (.long (q1 &&& (4611686018427387903 : Int64))), .second, .val (.long (q2 &&& (9223372036854775807 : Int64))), .second, .val (.long (((p3 &&& (2147483647 : Int32)).toInt64) + (1 : Int64))), .second, .val (.long (q4 &&& (9223372036854775807 : Int64))), .second, .val (.ref b1), .val (.int (F5 (p0.toInt64) (q1 &&& (4611686018427387903 : Int64)) (((p3 &&& (2147483647 : Int32)).toInt64) + (1 : Int64)) (q2 &&& (9223372036854775807 : Int64)))), .val (.long (9223372036854775807 : Int64)), .second, .val (.int (1 : Int32))] [(.int (F5 (p0.toInt64) (q1 &&& (4611686018427387903 : Int64)) (((p3 &&& (2147483647 : Int32)).toInt64) + (1 : Int64)) (q2 &&& (9223372036854775807 : Int64))))])) _
      refine XS.iload X27.here hx rfl (hb hby at_114) rfl ?_
      show Steps p.tables e below (T27.setTop (mkF m 116 #[.val (.int p0), .val (.long q1), .second, .val (.long q2), .second, .val (.int p3), .val (.long q4), .second, .val (.long (p0.toInt64)), .second, .val (.long (q1 &&& (4611686018427387903 : Int64))), .second, .val (.long (q2 &&& (9223372036854775807 : Int64))), .second, .val (.long (((p3 &&& (2147483647 : Int32)).toInt64) + (1 : Int64))), .second, .val (.long (q4 &&& (9223372036854775807 : Int64))), .second, .val (.ref b1), .val (.int (F5 (p0.toInt64) (q1 &&& (4611686018427387903 : Int64)) (((p3 &&& (2147483647 : Int32)).toInt64) + (1 : Int64)) (q2 &&& (9223372036854775807 : Int64)))), .val (.long (9223372036854775807 : Int64)), .second, .val (.int (1 : Int32))] [(.int (1 : Int32)), (.int (F5 (p0.toInt64) (q1 &&& (4611686018427387903 : Int64)) (((p3 &&& (2147483647 : Int32)).toInt64) + (1 : Int64)) (q2 &&& (9223372036854775807 : Int64))))])) _
      refine XS.icmpNo X27.here hx rfl (hb hby at_116) rfl (teq hc116).2 ?_
      show Steps p.tables e below (T27.setTop (mkF m 119 #[.val (.int p0), .val (.long q1), .second, .val (.long q2), .second, .val (.int p3), .val (.long q4), .second, .val (.long (p0.toInt64)), .second, .val (.long (q1 &&& (4611686018427387903 : Int64))), .second, .val (.long (q2 &&& (9223372036854775807 : Int64))), .second, .val (.long (((p3 &&& (2147483647 : Int32)).toInt64) + (1 : Int64))), .second, .val (.long (q4 &&& (9223372036854775807 : Int64))), .second, .val (.ref b1), .val (.int (F5 (p0.toInt64) (q1 &&& (4611686018427387903 : Int64)) (((p3 &&& (2147483647 : Int32)).toInt64) + (1 : Int64)) (q2 &&& (9223372036854775807 : Int64)))), .val (.long (9223372036854775807 : Int64)), .second, .val (.int (1 : Int32))] [])) _
      refine XS.iconst X27.here hx rfl (hb hby at_119) ?_
      show Steps p.tables e below (T27.setTop (mkF m 120 #[.val (.int p0), .val (.long q1), .second, .val (.long q2), .second, .val (.int p3), .val (.long q4), .second, .val (.long (p0.toInt64)), .second, .val (.long (q1 &&& (4611686018427387903 : Int64))), .second, .val (.long (q2 &&& (9223372036854775807 : Int64))), .second, .val (.long (((p3 &&& (2147483647 : Int32)).toInt64) + (1 : Int64))), .second, .val (.long (q4 &&& (9223372036854775807 : Int64))), .second, .val (.ref b1), .val (.int (F5 (p0.toInt64) (q1 &&& (4611686018427387903 : Int64)) (((p3 &&& (2147483647 : Int32)).toInt64) + (1 : Int64)) (q2 &&& (9223372036854775807 : Int64)))), .val (.long (9223372036854775807 : Int64)), .second, .val (.int (1 : Int32))] [(.int (1 : Int32))])) _
      refine XS.goto X27.here hx rfl (pc0 := 120) (pc' := 124) rfl (hb hby at_120) (by decide) (by decide) ?_
      show Steps p.tables e below (T27.setTop (mkF m 124 #[.val (.int p0), .val (.long q1), .second, .val (.long q2), .second, .val (.int p3), .val (.long q4), .second, .val (.long (p0.toInt64)), .second, .val (.long (q1 &&& (4611686018427387903 : Int64))), .second, .val (.long (q2 &&& (9223372036854775807 : Int64))), .second, .val (.long (((p3 &&& (2147483647 : Int32)).toInt64) + (1 : Int64))), .second, .val (.long (q4 &&& (9223372036854775807 : Int64))), .second, .val (.ref b1), .val (.int (F5 (p0.toInt64) (q1 &&& (4611686018427387903 : Int64)) (((p3 &&& (2147483647 : Int32)).toInt64) + (1 : Int64)) (q2 &&& (9223372036854775807 : Int64)))), .val (.long (9223372036854775807 : Int64)), .second, .val (.int (1 : Int32))] [(.int (1 : Int32))])) _
      exact retN X27 hx (t := .boolean) Bd.returns (by simp) (hb hby at_124) hr
    · show Q0 Z p0 q1 q2 p3 q4 h0 n0 _ T27.heap _
      rw [e27]
      exact ⟨rfl, N27⟩
  · have pre29 : ∀ t, Steps p.tables e below (T27.setTop (mkF m 102 #[.val (.int p0), .val (.long q1), .second, .val (.long q2), .second, .val (.int p3), .val (.long q4), .second, .val (.long (p0.toInt64)), .second, .val (.long (q1 &&& (4611686018427387903 : Int64))), .second, .val (.long (q2 &&& (9223372036854775807 : Int64))), .second, .val (.long (((p3 &&& (2147483647 : Int32)).toInt64) + (1 : Int64))), .second, .val (.long (q4 &&& (9223372036854775807 : Int64))), .second, .val (.ref b1), .val (.int (F5 (p0.toInt64) (q1 &&& (4611686018427387903 : Int64)) (((p3 &&& (2147483647 : Int32)).toInt64) + (1 : Int64)) (q2 &&& (9223372036854775807 : Int64)))), .val (.long ((q1 &&& (4611686018427387903 : Int64)) + (q2 &&& (9223372036854775807 : Int64)))), .second, .unset] [(.int (lcmpW (p0.toInt64) (((q1 &&& (4611686018427387903 : Int64)) + (q2 &&& (9223372036854775807 : Int64))) / (((p3 &&& (2147483647 : Int32)).toInt64) + (1 : Int64)))))])) t → Steps p.tables e below (s₁.setTop (entryFrame m #[(.int p0), (.long q1), (.long q2), (.int p3), (.long q4)] maxLocals)) t := fun t k => by
      refine pre28 t ?_
      show Steps p.tables e below (T27.setTop (mkF m 78 #[.val (.int p0), .val (.long q1), .second, .val (.long q2), .second, .val (.int p3), .val (.long q4), .second, .val (.long (p0.toInt64)), .second, .val (.long (q1 &&& (4611686018427387903 : Int64))), .second, .val (.long (q2 &&& (9223372036854775807 : Int64))), .second, .val (.long (((p3 &&& (2147483647 : Int32)).toInt64) + (1 : Int64))), .second, .val (.long (q4 &&& (9223372036854775807 : Int64))), .second, .val (.ref b1), .val (.int (F5 (p0.toInt64) (q1 &&& (4611686018427387903 : Int64)) (((p3 &&& (2147483647 : Int32)).toInt64) + (1 : Int64)) (q2 &&& (9223372036854775807 : Int64)))), .unset, .unset, .unset] [(.int (lcmpW (q2 &&& (9223372036854775807 : Int64)) ((9223372036854775807 : Int64) - (q1 &&& (4611686018427387903 : Int64)))))])) _
      refine XS.ifYes X27.here hx rfl (pc0 := 78) (pc' := 87) rfl (hb hby at_78) rfl (lcY_le hc78) (by decide) (by decide) ?_
      show Steps p.tables e below (T27.setTop (mkF m 87 #[.val (.int p0), .val (.long q1), .second, .val (.long q2), .second, .val (.int p3), .val (.long q4), .second, .val (.long (p0.toInt64)), .second, .val (.long (q1 &&& (4611686018427387903 : Int64))), .second, .val (.long (q2 &&& (9223372036854775807 : Int64))), .second, .val (.long (((p3 &&& (2147483647 : Int32)).toInt64) + (1 : Int64))), .second, .val (.long (q4 &&& (9223372036854775807 : Int64))), .second, .val (.ref b1), .val (.int (F5 (p0.toInt64) (q1 &&& (4611686018427387903 : Int64)) (((p3 &&& (2147483647 : Int32)).toInt64) + (1 : Int64)) (q2 &&& (9223372036854775807 : Int64)))), .unset, .unset, .unset] [])) _
      refine XS.lload X27.here hx rfl (hb hby at_87) rfl ?_
      show Steps p.tables e below (T27.setTop (mkF m 89 #[.val (.int p0), .val (.long q1), .second, .val (.long q2), .second, .val (.int p3), .val (.long q4), .second, .val (.long (p0.toInt64)), .second, .val (.long (q1 &&& (4611686018427387903 : Int64))), .second, .val (.long (q2 &&& (9223372036854775807 : Int64))), .second, .val (.long (((p3 &&& (2147483647 : Int32)).toInt64) + (1 : Int64))), .second, .val (.long (q4 &&& (9223372036854775807 : Int64))), .second, .val (.ref b1), .val (.int (F5 (p0.toInt64) (q1 &&& (4611686018427387903 : Int64)) (((p3 &&& (2147483647 : Int32)).toInt64) + (1 : Int64)) (q2 &&& (9223372036854775807 : Int64)))), .unset, .unset, .unset] [(.long (q1 &&& (4611686018427387903 : Int64)))])) _
      refine XS.lload X27.here hx rfl (hb hby at_89) rfl ?_
      show Steps p.tables e below (T27.setTop (mkF m 91 #[.val (.int p0), .val (.long q1), .second, .val (.long q2), .second, .val (.int p3), .val (.long q4), .second, .val (.long (p0.toInt64)), .second, .val (.long (q1 &&& (4611686018427387903 : Int64))), .second, .val (.long (q2 &&& (9223372036854775807 : Int64))), .second, .val (.long (((p3 &&& (2147483647 : Int32)).toInt64) + (1 : Int64))), .second, .val (.long (q4 &&& (9223372036854775807 : Int64))), .second, .val (.ref b1), .val (.int (F5 (p0.toInt64) (q1 &&& (4611686018427387903 : Int64)) (((p3 &&& (2147483647 : Int32)).toInt64) + (1 : Int64)) (q2 &&& (9223372036854775807 : Int64)))), .unset, .unset, .unset] [(.long (q2 &&& (9223372036854775807 : Int64))), (.long (q1 &&& (4611686018427387903 : Int64)))])) _
      refine XS.ladd X27.here hx rfl (hb hby at_91) rfl ?_
      show Steps p.tables e below (T27.setTop (mkF m 92 #[.val (.int p0), .val (.long q1), .second, .val (.long q2), .second, .val (.int p3), .val (.long q4), .second, .val (.long (p0.toInt64)), .second, .val (.long (q1 &&& (4611686018427387903 : Int64))), .second, .val (.long (q2 &&& (9223372036854775807 : Int64))), .second, .val (.long (((p3 &&& (2147483647 : Int32)).toInt64) + (1 : Int64))), .second, .val (.long (q4 &&& (9223372036854775807 : Int64))), .second, .val (.ref b1), .val (.int (F5 (p0.toInt64) (q1 &&& (4611686018427387903 : Int64)) (((p3 &&& (2147483647 : Int32)).toInt64) + (1 : Int64)) (q2 &&& (9223372036854775807 : Int64)))), .unset, .unset, .unset] [(.long ((q1 &&& (4611686018427387903 : Int64)) + (q2 &&& (9223372036854775807 : Int64))))])) _
      refine XS.lstore X27.here hx rfl (hb hby at_92) rfl (l' := #[.val (.int p0), .val (.long q1), .second, .val (.long q2), .second, .val (.int p3), .val (.long q4), .second, .val (.long (p0.toInt64)), .second, .val (.long (q1 &&& (4611686018427387903 : Int64))), .second, .val (.long (q2 &&& (9223372036854775807 : Int64))), .second, .val (.long (((p3 &&& (2147483647 : Int32)).toInt64) + (1 : Int64))), .second, .val (.long (q4 &&& (9223372036854775807 : Int64))), .second, .val (.ref b1), .val (.int (F5 (p0.toInt64) (q1 &&& (4611686018427387903 : Int64)) (((p3 &&& (2147483647 : Int32)).toInt64) + (1 : Int64)) (q2 &&& (9223372036854775807 : Int64)))), .val (.long ((q1 &&& (4611686018427387903 : Int64)) + (q2 &&& (9223372036854775807 : Int64)))), .second, .unset]) rfl ?_
      show Steps p.tables e below (T27.setTop (mkF m 94 #[.val (.int p0), .val (.long q1), .second, .val (.long q2), .second, .val (.int p3), .val (.long q4), .second, .val (.long (p0.toInt64)), .second, .val (.long (q1 &&& (4611686018427387903 : Int64))), .second, .val (.long (q2 &&& (9223372036854775807 : Int64))), .second, .val (.long (((p3 &&& (2147483647 : Int32)).toInt64) + (1 : Int64))), .second, .val (.long (q4 &&& (9223372036854775807 : Int64))), .second, .val (.ref b1), .val (.int (F5 (p0.toInt64) (q1 &&& (4611686018427387903 : Int64)) (((p3 &&& (2147483647 : Int32)).toInt64) + (1 : Int64)) (q2 &&& (9223372036854775807 : Int64)))), .val (.long ((q1 &&& (4611686018427387903 : Int64)) + (q2 &&& (9223372036854775807 : Int64)))), .second, .unset] [])) _
      refine XS.lload X27.here hx rfl (hb hby at_94) rfl ?_
      show Steps p.tables e below (T27.setTop (mkF m 96 #[.val (.int p0), .val (.long q1), .second, .val (.long q2), .second, .val (.int p3), .val (.long q4), .second, .val (.long (p0.toInt64)), .second, .val (.long (q1 &&& (4611686018427387903 : Int64))), .second, .val (.long (q2 &&& (9223372036854775807 : Int64))), .second, .val (.long (((p3 &&& (2147483647 : Int32)).toInt64) + (1 : Int64))), .second, .val (.long (q4 &&& (9223372036854775807 : Int64))), .second, .val (.ref b1), .val (.int (F5 (p0.toInt64) (q1 &&& (4611686018427387903 : Int64)) (((p3 &&& (2147483647 : Int32)).toInt64) + (1 : Int64)) (q2 &&& (9223372036854775807 : Int64)))), .val (.long ((q1 &&& (4611686018427387903 : Int64)) + (q2 &&& (9223372036854775807 : Int64)))), .second, .unset] [(.long (p0.toInt64))])) _
      refine XS.lload X27.here hx rfl (hb hby at_96) rfl ?_
      show Steps p.tables e below (T27.setTop (mkF m 98 #[.val (.int p0), .val (.long q1), .second, .val (.long q2), .second, .val (.int p3), .val (.long q4), .second, .val (.long (p0.toInt64)), .second, .val (.long (q1 &&& (4611686018427387903 : Int64))), .second, .val (.long (q2 &&& (9223372036854775807 : Int64))), .second, .val (.long (((p3 &&& (2147483647 : Int32)).toInt64) + (1 : Int64))), .second, .val (.long (q4 &&& (9223372036854775807 : Int64))), .second, .val (.ref b1), .val (.int (F5 (p0.toInt64) (q1 &&& (4611686018427387903 : Int64)) (((p3 &&& (2147483647 : Int32)).toInt64) + (1 : Int64)) (q2 &&& (9223372036854775807 : Int64)))), .val (.long ((q1 &&& (4611686018427387903 : Int64)) + (q2 &&& (9223372036854775807 : Int64)))), .second, .unset] [(.long ((q1 &&& (4611686018427387903 : Int64)) + (q2 &&& (9223372036854775807 : Int64)))), (.long (p0.toInt64))])) _
      refine XS.lload X27.here hx rfl (hb hby at_98) rfl ?_
      show Steps p.tables e below (T27.setTop (mkF m 100 #[.val (.int p0), .val (.long q1), .second, .val (.long q2), .second, .val (.int p3), .val (.long q4), .second, .val (.long (p0.toInt64)), .second, .val (.long (q1 &&& (4611686018427387903 : Int64))), .second, .val (.long (q2 &&& (9223372036854775807 : Int64))), .second, .val (.long (((p3 &&& (2147483647 : Int32)).toInt64) + (1 : Int64))), .second, .val (.long (q4 &&& (9223372036854775807 : Int64))), .second, .val (.ref b1), .val (.int (F5 (p0.toInt64) (q1 &&& (4611686018427387903 : Int64)) (((p3 &&& (2147483647 : Int32)).toInt64) + (1 : Int64)) (q2 &&& (9223372036854775807 : Int64)))), .val (.long ((q1 &&& (4611686018427387903 : Int64)) + (q2 &&& (9223372036854775807 : Int64)))), .second, .unset] [(.long (((p3 &&& (2147483647 : Int32)).toInt64) + (1 : Int64))), (.long ((q1 &&& (4611686018427387903 : Int64)) + (q2 &&& (9223372036854775807 : Int64)))), (.long (p0.toInt64))])) _
      refine XS.ldiv X27.here hx rfl (hb hby at_100) rfl (own_k0 p3) ?_
      show Steps p.tables e below (T27.setTop (mkF m 101 #[.val (.int p0), .val (.long q1), .second, .val (.long q2), .second, .val (.int p3), .val (.long q4), .second, .val (.long (p0.toInt64)), .second, .val (.long (q1 &&& (4611686018427387903 : Int64))), .second, .val (.long (q2 &&& (9223372036854775807 : Int64))), .second, .val (.long (((p3 &&& (2147483647 : Int32)).toInt64) + (1 : Int64))), .second, .val (.long (q4 &&& (9223372036854775807 : Int64))), .second, .val (.ref b1), .val (.int (F5 (p0.toInt64) (q1 &&& (4611686018427387903 : Int64)) (((p3 &&& (2147483647 : Int32)).toInt64) + (1 : Int64)) (q2 &&& (9223372036854775807 : Int64)))), .val (.long ((q1 &&& (4611686018427387903 : Int64)) + (q2 &&& (9223372036854775807 : Int64)))), .second, .unset] [(.long (((q1 &&& (4611686018427387903 : Int64)) + (q2 &&& (9223372036854775807 : Int64))) / (((p3 &&& (2147483647 : Int32)).toInt64) + (1 : Int64)))), (.long (p0.toInt64))])) _
      refine XS.lcmp X27.here hx rfl (hb hby at_101) rfl ?_
      exact k
    by_cases hc102 : (((q1 &&& (4611686018427387903 : Int64)) + (q2 &&& (9223372036854775807 : Int64))) / (((p3 &&& (2147483647 : Int32)).toInt64) + (1 : Int64))) < (p0.toInt64)
    · have hc116 : (F5 (p0.toInt64) (q1 &&& (4611686018427387903 : Int64)) (((p3 &&& (2147483647 : Int32)).toInt64) + (1 : Int64)) (q2 &&& (9223372036854775807 : Int64))) = (0 : Int32) := by rw [F5, if_pos ((own_plain (own_t p0).1 (own_t p0).2 (own_n q1).1 (own_n q1).2 (own_l q2) (own_k p3).1 (own_k p3).2 hc78).mp hc102)]
      obtain ⟨fs, hr, hrun, hended, hW, hsame⟩ := X27.leave (v := some (.int (1 : Int32))) (fun h => by rw [Bd.returns] at h; cases h)
      refine ⟨_, _, pre29 _ ?_, hrun, hended, _, _, rfl, ?_, ⟨_, rfl⟩, hW, hsame.mono (by decide) (by decide)⟩
      · show Steps p.tables e below (T27.setTop (mkF m 102 #[.val (.int p0), .val (.long q1), .second, .val (.long q2), .second, .val (.int p3), .val (.long q4), .second, .val (.long (p0.toInt64)), .second, .val (.long (q1 &&& (4611686018427387903 : Int64))), .second, .val (.long (q2 &&& (9223372036854775807 : Int64))), .second, .val (.long (((p3 &&& (2147483647 : Int32)).toInt64) + (1 : Int64))), .second, .val (.long (q4 &&& (9223372036854775807 : Int64))), .second, .val (.ref b1), .val (.int (F5 (p0.toInt64) (q1 &&& (4611686018427387903 : Int64)) (((p3 &&& (2147483647 : Int32)).toInt64) + (1 : Int64)) (q2 &&& (9223372036854775807 : Int64)))), .val (.long ((q1 &&& (4611686018427387903 : Int64)) + (q2 &&& (9223372036854775807 : Int64)))), .second, .unset] [(.int (lcmpW (p0.toInt64) (((q1 &&& (4611686018427387903 : Int64)) + (q2 &&& (9223372036854775807 : Int64))) / (((p3 &&& (2147483647 : Int32)).toInt64) + (1 : Int64)))))])) _
        refine XS.ifYes X27.here hx rfl (pc0 := 102) (pc' := 109) rfl (hb hby at_102) rfl (lcY_gt hc102) (by decide) (by decide) ?_
        show Steps p.tables e below (T27.setTop (mkF m 109 #[.val (.int p0), .val (.long q1), .second, .val (.long q2), .second, .val (.int p3), .val (.long q4), .second, .val (.long (p0.toInt64)), .second, .val (.long (q1 &&& (4611686018427387903 : Int64))), .second, .val (.long (q2 &&& (9223372036854775807 : Int64))), .second, .val (.long (((p3 &&& (2147483647 : Int32)).toInt64) + (1 : Int64))), .second, .val (.long (q4 &&& (9223372036854775807 : Int64))), .second, .val (.ref b1), .val (.int (F5 (p0.toInt64) (q1 &&& (4611686018427387903 : Int64)) (((p3 &&& (2147483647 : Int32)).toInt64) + (1 : Int64)) (q2 &&& (9223372036854775807 : Int64)))), .val (.long ((q1 &&& (4611686018427387903 : Int64)) + (q2 &&& (9223372036854775807 : Int64)))), .second, .unset] [])) _
        refine XS.iconst X27.here hx rfl (hb hby at_109) ?_
        show Steps p.tables e below (T27.setTop (mkF m 110 #[.val (.int p0), .val (.long q1), .second, .val (.long q2), .second, .val (.int p3), .val (.long q4), .second, .val (.long (p0.toInt64)), .second, .val (.long (q1 &&& (4611686018427387903 : Int64))), .second, .val (.long (q2 &&& (9223372036854775807 : Int64))), .second, .val (.long (((p3 &&& (2147483647 : Int32)).toInt64) + (1 : Int64))), .second, .val (.long (q4 &&& (9223372036854775807 : Int64))), .second, .val (.ref b1), .val (.int (F5 (p0.toInt64) (q1 &&& (4611686018427387903 : Int64)) (((p3 &&& (2147483647 : Int32)).toInt64) + (1 : Int64)) (q2 &&& (9223372036854775807 : Int64)))), .val (.long ((q1 &&& (4611686018427387903 : Int64)) + (q2 &&& (9223372036854775807 : Int64)))), .second, .unset] [(.int (0 : Int32))])) _
        refine XS.istore X27.here hx rfl (hb hby at_110) rfl (l' := #[.val (.int p0), .val (.long q1), .second, .val (.long q2), .second, .val (.int p3), .val (.long q4), .second, .val (.long (p0.toInt64)), .second, .val (.long (q1 &&& (4611686018427387903 : Int64))), .second, .val (.long (q2 &&& (9223372036854775807 : Int64))), .second, .val (.long (((p3 &&& (2147483647 : Int32)).toInt64) + (1 : Int64))), .second, .val (.long (q4 &&& (9223372036854775807 : Int64))), .second, .val (.ref b1), .val (.int (F5 (p0.toInt64) (q1 &&& (4611686018427387903 : Int64)) (((p3 &&& (2147483647 : Int32)).toInt64) + (1 : Int64)) (q2 &&& (9223372036854775807 : Int64)))), .val (.long ((q1 &&& (4611686018427387903 : Int64)) + (q2 &&& (9223372036854775807 : Int64)))), .second, .val (.int (0 : Int32))]) rfl ?_
        show Steps p.tables e below (T27.setTop (mkF m 112 #[.val (.int p0), .val (.long q1), .second, .val (.long q2), .second, .val (.int p3), .val (.long q4), .second, .val (.long (p0.toInt64)), .second, .val (.long (q1 &&& (4611686018427387903 : Int64))), .second, .val (.long (q2 &&& (9223372036854775807 : Int64))), .second, .val (.long (((p3 &&& (2147483647 : Int32)).toInt64) + (1 : Int64))), .second, .val (.long (q4 &&& (9223372036854775807 : Int64))), .second, .val (.ref b1), .val (.int (F5 (p0.toInt64) (q1 &&& (4611686018427387903 : Int64)) (((p3 &&& (2147483647 : Int32)).toInt64) + (1 : Int64)) (q2 &&& (9223372036854775807 : Int64)))), .val (.long ((q1 &&& (4611686018427387903 : Int64)) + (q2 &&& (9223372036854775807 : Int64)))), .second, .val (.int (0 : Int32))] [])) _
        refine XS.iload X27.here hx rfl (hb hby at_112) rfl ?_
        show Steps p.tables e below (T27.setTop (mkF m 114 #[.val (.int p0), .val (.long q1), .second, .val (.long q2), .second, .val (.int p3), .val (.long q4), .second, .val (.long (p0.toInt64)), .second, .val (.long (q1 &&& (4611686018427387903 : Int64))), .second, .val (.long (q2 &&& (9223372036854775807 : Int64))), .second, .val (.long (((p3 &&& (2147483647 : Int32)).toInt64) + (1 : Int64))), .second, .val (.long (q4 &&& (9223372036854775807 : Int64))), .second, .val (.ref b1), .val (.int (F5 (p0.toInt64) (q1 &&& (4611686018427387903 : Int64)) (((p3 &&& (2147483647 : Int32)).toInt64) + (1 : Int64)) (q2 &&& (9223372036854775807 : Int64)))), .val (.long ((q1 &&& (4611686018427387903 : Int64)) + (q2 &&& (9223372036854775807 : Int64)))), .second, .val (.int (0 : Int32))] [(.int (F5 (p0.toInt64) (q1 &&& (4611686018427387903 : Int64)) (((p3 &&& (2147483647 : Int32)).toInt64) + (1 : Int64)) (q2 &&& (9223372036854775807 : Int64))))])) _
        refine XS.iload X27.here hx rfl (hb hby at_114) rfl ?_
        show Steps p.tables e below (T27.setTop (mkF m 116 #[.val (.int p0), .val (.long q1), .second, .val (.long q2), .second, .val (.int p3), .val (.long q4), .second, .val (.long (p0.toInt64)), .second, .val (.long (q1 &&& (4611686018427387903 : Int64))), .second, .val (.long (q2 &&& (9223372036854775807 : Int64))), .second, .val (.long (((p3 &&& (2147483647 : Int32)).toInt64) + (1 : Int64))), .second, .val (.long (q4 &&& (9223372036854775807 : Int64))), .second, .val (.ref b1), .val (.int (F5 (p0.toInt64) (q1 &&& (4611686018427387903 : Int64)) (((p3 &&& (2147483647 : Int32)).toInt64) + (1 : Int64)) (q2 &&& (9223372036854775807 : Int64)))), .val (.long ((q1 &&& (4611686018427387903 : Int64)) + (q2 &&& (9223372036854775807 : Int64)))), .second, .val (.int (0 : Int32))] [(.int (0 : Int32)), (.int (F5 (p0.toInt64) (q1 &&& (4611686018427387903 : Int64)) (((p3 &&& (2147483647 : Int32)).toInt64) + (1 : Int64)) (q2 &&& (9223372036854775807 : Int64))))])) _
        refine XS.icmpNo X27.here hx rfl (hb hby at_116) rfl (teq hc116).2 ?_
        show Steps p.tables e below (T27.setTop (mkF m 119 #[.val (.int p0), .val (.long q1), .second, .val (.long q2), .second, .val (.int p3), .val (.long q4), .second, .val (.long (p0.toInt64)), .second, .val (.long (q1 &&& (4611686018427387903 : Int64))), .second, .val (.long (q2 &&& (9223372036854775807 : Int64))), .second, .val (.long (((p3 &&& (2147483647 : Int32)).toInt64) + (1 : Int64))), .second, .val (.long (q4 &&& (9223372036854775807 : Int64))), .second, .val (.ref b1), .val (.int (F5 (p0.toInt64) (q1 &&& (4611686018427387903 : Int64)) (((p3 &&& (2147483647 : Int32)).toInt64) + (1 : Int64)) (q2 &&& (9223372036854775807 : Int64)))), .val (.long ((q1 &&& (4611686018427387903 : Int64)) + (q2 &&& (9223372036854775807 : Int64)))), .second, .val (.int (0 : Int32))] [])) _
        refine XS.iconst X27.here hx rfl (hb hby at_119) ?_
        show Steps p.tables e below (T27.setTop (mkF m 120 #[.val (.int p0), .val (.long q1), .second, .val (.long q2), .second, .val (.int p3), .val (.long q4), .second, .val (.long (p0.toInt64)), .second, .val (.long (q1 &&& (4611686018427387903 : Int64))), .second, .val (.long (q2 &&& (9223372036854775807 : Int64))), .second, .val (.long (((p3 &&& (2147483647 : Int32)).toInt64) + (1 : Int64))), .second, .val (.long (q4 &&& (9223372036854775807 : Int64))), .second, .val (.ref b1), .val (.int (F5 (p0.toInt64) (q1 &&& (4611686018427387903 : Int64)) (((p3 &&& (2147483647 : Int32)).toInt64) + (1 : Int64)) (q2 &&& (9223372036854775807 : Int64)))), .val (.long ((q1 &&& (4611686018427387903 : Int64)) + (q2 &&& (9223372036854775807 : Int64)))), .second, .val (.int (0 : Int32))] [(.int (1 : Int32))])) _
        refine XS.goto X27.here hx rfl (pc0 := 120) (pc' := 124) rfl (hb hby at_120) (by decide) (by decide) ?_
        show Steps p.tables e below (T27.setTop (mkF m 124 #[.val (.int p0), .val (.long q1), .second, .val (.long q2), .second, .val (.int p3), .val (.long q4), .second, .val (.long (p0.toInt64)), .second, .val (.long (q1 &&& (4611686018427387903 : Int64))), .second, .val (.long (q2 &&& (9223372036854775807 : Int64))), .second, .val (.long (((p3 &&& (2147483647 : Int32)).toInt64) + (1 : Int64))), .second, .val (.long (q4 &&& (9223372036854775807 : Int64))), .second, .val (.ref b1), .val (.int (F5 (p0.toInt64) (q1 &&& (4611686018427387903 : Int64)) (((p3 &&& (2147483647 : Int32)).toInt64) + (1 : Int64)) (q2 &&& (9223372036854775807 : Int64)))), .val (.long ((q1 &&& (4611686018427387903 : Int64)) + (q2 &&& (9223372036854775807 : Int64)))), .second, .val (.int (0 : Int32))] [(.int (1 : Int32))])) _
        exact retN X27 hx (t := .boolean) Bd.returns (by simp) (hb hby at_124) hr
      · show Q0 Z p0 q1 q2 p3 q4 h0 n0 _ T27.heap _
        rw [e27]
        exact ⟨rfl, N27⟩
    · have hc116 : (F5 (p0.toInt64) (q1 &&& (4611686018427387903 : Int64)) (((p3 &&& (2147483647 : Int32)).toInt64) + (1 : Int64)) (q2 &&& (9223372036854775807 : Int64))) = (1 : Int32) := by rw [F5, if_neg (fun q => hc102 ((own_plain (own_t p0).1 (own_t p0).2 (own_n q1).1 (own_n q1).2 (own_l q2) (own_k p3).1 (own_k p3).2 hc78).mpr q))]
      obtain ⟨fs, hr, hrun, hended, hW, hsame⟩ := X27.leave (v := some (.int (1 : Int32))) (fun h => by rw [Bd.returns] at h; cases h)
      refine ⟨_, _, pre29 _ ?_, hrun, hended, _, _, rfl, ?_, ⟨_, rfl⟩, hW, hsame.mono (by decide) (by decide)⟩
      · show Steps p.tables e below (T27.setTop (mkF m 102 #[.val (.int p0), .val (.long q1), .second, .val (.long q2), .second, .val (.int p3), .val (.long q4), .second, .val (.long (p0.toInt64)), .second, .val (.long (q1 &&& (4611686018427387903 : Int64))), .second, .val (.long (q2 &&& (9223372036854775807 : Int64))), .second, .val (.long (((p3 &&& (2147483647 : Int32)).toInt64) + (1 : Int64))), .second, .val (.long (q4 &&& (9223372036854775807 : Int64))), .second, .val (.ref b1), .val (.int (F5 (p0.toInt64) (q1 &&& (4611686018427387903 : Int64)) (((p3 &&& (2147483647 : Int32)).toInt64) + (1 : Int64)) (q2 &&& (9223372036854775807 : Int64)))), .val (.long ((q1 &&& (4611686018427387903 : Int64)) + (q2 &&& (9223372036854775807 : Int64)))), .second, .unset] [(.int (lcmpW (p0.toInt64) (((q1 &&& (4611686018427387903 : Int64)) + (q2 &&& (9223372036854775807 : Int64))) / (((p3 &&& (2147483647 : Int32)).toInt64) + (1 : Int64)))))])) _
        refine XS.ifNo X27.here hx rfl (hb hby at_102) rfl (lcN_gt hc102) ?_
        show Steps p.tables e below (T27.setTop (mkF m 105 #[.val (.int p0), .val (.long q1), .second, .val (.long q2), .second, .val (.int p3), .val (.long q4), .second, .val (.long (p0.toInt64)), .second, .val (.long (q1 &&& (4611686018427387903 : Int64))), .second, .val (.long (q2 &&& (9223372036854775807 : Int64))), .second, .val (.long (((p3 &&& (2147483647 : Int32)).toInt64) + (1 : Int64))), .second, .val (.long (q4 &&& (9223372036854775807 : Int64))), .second, .val (.ref b1), .val (.int (F5 (p0.toInt64) (q1 &&& (4611686018427387903 : Int64)) (((p3 &&& (2147483647 : Int32)).toInt64) + (1 : Int64)) (q2 &&& (9223372036854775807 : Int64)))), .val (.long ((q1 &&& (4611686018427387903 : Int64)) + (q2 &&& (9223372036854775807 : Int64)))), .second, .unset] [])) _
        refine XS.iconst X27.here hx rfl (hb hby at_105) ?_
        show Steps p.tables e below (T27.setTop (mkF m 106 #[.val (.int p0), .val (.long q1), .second, .val (.long q2), .second, .val (.int p3), .val (.long q4), .second, .val (.long (p0.toInt64)), .second, .val (.long (q1 &&& (4611686018427387903 : Int64))), .second, .val (.long (q2 &&& (9223372036854775807 : Int64))), .second, .val (.long (((p3 &&& (2147483647 : Int32)).toInt64) + (1 : Int64))), .second, .val (.long (q4 &&& (9223372036854775807 : Int64))), .second, .val (.ref b1), .val (.int (F5 (p0.toInt64) (q1 &&& (4611686018427387903 : Int64)) (((p3 &&& (2147483647 : Int32)).toInt64) + (1 : Int64)) (q2 &&& (9223372036854775807 : Int64)))), .val (.long ((q1 &&& (4611686018427387903 : Int64)) + (q2 &&& (9223372036854775807 : Int64)))), .second, .unset] [(.int (1 : Int32))])) _
        refine XS.goto X27.here hx rfl (pc0 := 106) (pc' := 110) rfl (hb hby at_106) (by decide) (by decide) ?_
        show Steps p.tables e below (T27.setTop (mkF m 110 #[.val (.int p0), .val (.long q1), .second, .val (.long q2), .second, .val (.int p3), .val (.long q4), .second, .val (.long (p0.toInt64)), .second, .val (.long (q1 &&& (4611686018427387903 : Int64))), .second, .val (.long (q2 &&& (9223372036854775807 : Int64))), .second, .val (.long (((p3 &&& (2147483647 : Int32)).toInt64) + (1 : Int64))), .second, .val (.long (q4 &&& (9223372036854775807 : Int64))), .second, .val (.ref b1), .val (.int (F5 (p0.toInt64) (q1 &&& (4611686018427387903 : Int64)) (((p3 &&& (2147483647 : Int32)).toInt64) + (1 : Int64)) (q2 &&& (9223372036854775807 : Int64)))), .val (.long ((q1 &&& (4611686018427387903 : Int64)) + (q2 &&& (9223372036854775807 : Int64)))), .second, .unset] [(.int (1 : Int32))])) _
        refine XS.istore X27.here hx rfl (hb hby at_110) rfl (l' := #[.val (.int p0), .val (.long q1), .second, .val (.long q2), .second, .val (.int p3), .val (.long q4), .second, .val (.long (p0.toInt64)), .second, .val (.long (q1 &&& (4611686018427387903 : Int64))), .second, .val (.long (q2 &&& (9223372036854775807 : Int64))), .second, .val (.long (((p3 &&& (2147483647 : Int32)).toInt64) + (1 : Int64))), .second, .val (.long (q4 &&& (9223372036854775807 : Int64))), .second, .val (.ref b1), .val (.int (F5 (p0.toInt64) (q1 &&& (4611686018427387903 : Int64)) (((p3 &&& (2147483647 : Int32)).toInt64) + (1 : Int64)) (q2 &&& (9223372036854775807 : Int64)))), .val (.long ((q1 &&& (4611686018427387903 : Int64)) + (q2 &&& (9223372036854775807 : Int64)))), .second, .val (.int (1 : Int32))]) rfl ?_
        show Steps p.tables e below (T27.setTop (mkF m 112 #[.val (.int p0), .val (.long q1), .second, .val (.long q2), .second, .val (.int p3), .val (.long q4), .second, .val (.long (p0.toInt64)), .second, .val (.long (q1 &&& (4611686018427387903 : Int64))), .second, .val (.long (q2 &&& (9223372036854775807 : Int64))), .second, .val (.long (((p3 &&& (2147483647 : Int32)).toInt64) + (1 : Int64))), .second, .val (.long (q4 &&& (9223372036854775807 : Int64))), .second, .val (.ref b1), .val (.int (F5 (p0.toInt64) (q1 &&& (4611686018427387903 : Int64)) (((p3 &&& (2147483647 : Int32)).toInt64) + (1 : Int64)) (q2 &&& (9223372036854775807 : Int64)))), .val (.long ((q1 &&& (4611686018427387903 : Int64)) + (q2 &&& (9223372036854775807 : Int64)))), .second, .val (.int (1 : Int32))] [])) _
        refine XS.iload X27.here hx rfl (hb hby at_112) rfl ?_
        show Steps p.tables e below (T27.setTop (mkF m 114 #[.val (.int p0), .val (.long q1), .second, .val (.long q2), .second, .val (.int p3), .val (.long q4), .second, .val (.long (p0.toInt64)), .second, .val (.long (q1 &&& (4611686018427387903 : Int64))), .second, .val (.long (q2 &&& (9223372036854775807 : Int64))), .second, .val (.long (((p3 &&& (2147483647 : Int32)).toInt64) + (1 : Int64))), .second, .val (.long (q4 &&& (9223372036854775807 : Int64))), .second, .val (.ref b1), .val (.int (F5 (p0.toInt64) (q1 &&& (4611686018427387903 : Int64)) (((p3 &&& (2147483647 : Int32)).toInt64) + (1 : Int64)) (q2 &&& (9223372036854775807 : Int64)))), .val (.long ((q1 &&& (4611686018427387903 : Int64)) + (q2 &&& (9223372036854775807 : Int64)))), .second, .val (.int (1 : Int32))] [(.int (F5 (p0.toInt64) (q1 &&& (4611686018427387903 : Int64)) (((p3 &&& (2147483647 : Int32)).toInt64) + (1 : Int64)) (q2 &&& (9223372036854775807 : Int64))))])) _
        refine XS.iload X27.here hx rfl (hb hby at_114) rfl ?_
        show Steps p.tables e below (T27.setTop (mkF m 116 #[.val (.int p0), .val (.long q1), .second, .val (.long q2), .second, .val (.int p3), .val (.long q4), .second, .val (.long (p0.toInt64)), .second, .val (.long (q1 &&& (4611686018427387903 : Int64))), .second, .val (.long (q2 &&& (9223372036854775807 : Int64))), .second, .val (.long (((p3 &&& (2147483647 : Int32)).toInt64) + (1 : Int64))), .second, .val (.long (q4 &&& (9223372036854775807 : Int64))), .second, .val (.ref b1), .val (.int (F5 (p0.toInt64) (q1 &&& (4611686018427387903 : Int64)) (((p3 &&& (2147483647 : Int32)).toInt64) + (1 : Int64)) (q2 &&& (9223372036854775807 : Int64)))), .val (.long ((q1 &&& (4611686018427387903 : Int64)) + (q2 &&& (9223372036854775807 : Int64)))), .second, .val (.int (1 : Int32))] [(.int (1 : Int32)), (.int (F5 (p0.toInt64) (q1 &&& (4611686018427387903 : Int64)) (((p3 &&& (2147483647 : Int32)).toInt64) + (1 : Int64)) (q2 &&& (9223372036854775807 : Int64))))])) _
        refine XS.icmpNo X27.here hx rfl (hb hby at_116) rfl (teq hc116).2 ?_
        show Steps p.tables e below (T27.setTop (mkF m 119 #[.val (.int p0), .val (.long q1), .second, .val (.long q2), .second, .val (.int p3), .val (.long q4), .second, .val (.long (p0.toInt64)), .second, .val (.long (q1 &&& (4611686018427387903 : Int64))), .second, .val (.long (q2 &&& (9223372036854775807 : Int64))), .second, .val (.long (((p3 &&& (2147483647 : Int32)).toInt64) + (1 : Int64))), .second, .val (.long (q4 &&& (9223372036854775807 : Int64))), .second, .val (.ref b1), .val (.int (F5 (p0.toInt64) (q1 &&& (4611686018427387903 : Int64)) (((p3 &&& (2147483647 : Int32)).toInt64) + (1 : Int64)) (q2 &&& (9223372036854775807 : Int64)))), .val (.long ((q1 &&& (4611686018427387903 : Int64)) + (q2 &&& (9223372036854775807 : Int64)))), .second, .val (.int (1 : Int32))] [])) _
        refine XS.iconst X27.here hx rfl (hb hby at_119) ?_
        show Steps p.tables e below (T27.setTop (mkF m 120 #[.val (.int p0), .val (.long q1), .second, .val (.long q2), .second, .val (.int p3), .val (.long q4), .second, .val (.long (p0.toInt64)), .second, .val (.long (q1 &&& (4611686018427387903 : Int64))), .second, .val (.long (q2 &&& (9223372036854775807 : Int64))), .second, .val (.long (((p3 &&& (2147483647 : Int32)).toInt64) + (1 : Int64))), .second, .val (.long (q4 &&& (9223372036854775807 : Int64))), .second, .val (.ref b1), .val (.int (F5 (p0.toInt64) (q1 &&& (4611686018427387903 : Int64)) (((p3 &&& (2147483647 : Int32)).toInt64) + (1 : Int64)) (q2 &&& (9223372036854775807 : Int64)))), .val (.long ((q1 &&& (4611686018427387903 : Int64)) + (q2 &&& (9223372036854775807 : Int64)))), .second, .val (.int (1 : Int32))] [(.int (1 : Int32))])) _
        refine XS.goto X27.here hx rfl (pc0 := 120) (pc' := 124) rfl (hb hby at_120) (by decide) (by decide) ?_
        show Steps p.tables e below (T27.setTop (mkF m 124 #[.val (.int p0), .val (.long q1), .second, .val (.long q2), .second, .val (.int p3), .val (.long q4), .second, .val (.long (p0.toInt64)), .second, .val (.long (q1 &&& (4611686018427387903 : Int64))), .second, .val (.long (q2 &&& (9223372036854775807 : Int64))), .second, .val (.long (((p3 &&& (2147483647 : Int32)).toInt64) + (1 : Int64))), .second, .val (.long (q4 &&& (9223372036854775807 : Int64))), .second, .val (.ref b1), .val (.int (F5 (p0.toInt64) (q1 &&& (4611686018427387903 : Int64)) (((p3 &&& (2147483647 : Int32)).toInt64) + (1 : Int64)) (q2 &&& (9223372036854775807 : Int64)))), .val (.long ((q1 &&& (4611686018427387903 : Int64)) + (q2 &&& (9223372036854775807 : Int64)))), .second, .val (.int (1 : Int32))] [(.int (1 : Int32))])) _
        exact retN X27 hx (t := .boolean) Bd.returns (by simp) (hb hby at_124) hr
      · show Q0 Z p0 q1 q2 p3 q4 h0 n0 _ T27.heap _
        rw [e27]
        exact ⟨rfl, N27⟩
set_option maxRecDepth 65536 in
set_option maxHeartbeats 40000000 in
theorem comes_1 {Post : Tables → Env → Array Value → State → Outcome → State → Prop} (hpost : ∀ tb e args s v u, (limb_1_1.after args s (.returned v) u = true ∧ limb_1_2.after args s (.returned v) u = true ∧ True) → FrameEnd s (.returned v) u (Jvm.fieldLocs frame_1_writes args s ++ Jvm.arrayLocs frame_1_arrays args s ++ Jvm.staticLocs frame_1_statics s) 16 128 → Post tb e args s (.returned v) u) :
    ArmFor flags0 classFile x code maxLocals ret World_1 tables_1 room_1 Calls_1 rest_1 Pre_1 Post := by
  intro l hfl _ _ p e ha hc hk s m args below hf hA hF happ hP
  obtain ⟨hcalls, hrest, hpre⟩ := hP
  obtain ⟨-, -, -, hnamed, -, -, -, hat⟩ := (Spec.applies_iff hf).mp happ
  obtain ⟨hg, hn⟩ := and_e (Cond.before_iff.mp (show (Jvm.Cond.and given_1 narrow_1).before args s = true from hpre))
  obtain ⟨g1, g2⟩ := and_e hg
  obtain ⟨g3, g4⟩ := and_e g2
  obtain ⟨g5, g6⟩ := and_e g4
  obtain ⟨g7, g8⟩ := and_e g6
  obtain ⟨g9, g10⟩ := and_e g8
  obtain ⟨w0, w1, w2, w3, w4, rfl⟩ : ∃ w0 w1 w2 w3 w4 : Value, args = #[w0, w1, w2, w3, w4] := by
    have hs : args.size = 5 := by simpa [Cond.value, given_1] using g1
    obtain ⟨L⟩ := args
    match L, hs with
    | [w0, w1, w2, w3, w4], _ => exact ⟨w0, w1, w2, w3, w4, rfl⟩
  have hw := fun d (hd : d ∈ tables_1) => atoms_spec (ws := Jvm.Cond.code x code maxLocals ret :: tables_1) hat d (List.mem_cons_of_mem _ hd)
  obtain ⟨i0, ei0⟩ := is_v g3
  obtain rfl : w0 = (.int i0) := Option.some.inj ei0
  obtain ⟨i1, ei1⟩ := isL_v g5
  obtain rfl : w1 = (.long i1) := Option.some.inj ei1
  obtain ⟨i2, ei2⟩ := isL_v g7
  obtain rfl : w2 = (.long i2) := Option.some.inj ei2
  obtain ⟨i3, ei3⟩ := is_v g9
  obtain rfl : w3 = (.int i3) := Option.some.inj ei3
  obtain ⟨i4, ei4⟩ := isL_v g10
  obtain rfl : w4 = (.long i4) := Option.some.inj ei4
  obtain ⟨n, o, h1, h2, h3, _, L, rfl, ⟨rfl, N⟩, hq⟩ := rm0 l s _ hw tables_1 i0 i1 i2 i3 i4  s.heap s.heap.size (Nat.le_refl _)  p e ha hc hk s m _ below hf ((Spec.applies_iff_loose hf).mp happ).1 ⟨rfl, State.Warmed39.refl s, rfl⟩ trivial
  refine ⟨n, _, h1, h2, h3, hpost _ _ _ _ _ _ ⟨Cond.after_iff.mpr rfl, Cond.after_iff.mpr (eq_i res_at (Term.int_eval (1)) rfl), trivial⟩ ⟨hq.1, hq.2.1, (hq.2.2.sift fun y hy => Or.inr (N y hy)).mono (by decide) (by decide)⟩⟩
theorem main_1_1 : Claimed_1_1 := comes_1 fun _ _ _ _ _ _ h hF => ⟨h.1, hF⟩
theorem main_1_2 : Claimed_1_2 := comes_1 fun _ _ _ _ _ _ h hF => ⟨h.2.1, hF⟩
end Jvm.Pilot.@@N@@
namespace Jvm.Pilot.@@N@@
open Jvm Jvm.ClassFile Sem Op Lib Jvm.Free Jvm.Stand Jvm.Pilot.@@N@@.Jvm.D
/-! MADE BY PROGRAM (witnessworld.py) out of the Statement's table words and the real class files: 10 classes; the members and pool entries that the words name. The judged class is class 1, her method 1. -/
namespace start1
open Jvm.ClassFile
def u (s : String) : CpInfo := .utf8 (stringToUtf16 s)
/-- a pool by its gaps: so many unusable entries, then the entry; so many at the end -/
def gap : Nat → List CpInfo → List CpInfo
  | 0, r => r
  | n + 1, r => .unusable :: gap n r
def poolList (es : List (Nat × CpInfo)) (last : Nat) : List CpInfo := es.foldr (fun e r => gap e.1 (e.2 :: r)) (gap last [])
def pool (es : List (Nat × CpInfo)) (last : Nat) : Array CpInfo := ⟨poolList es last⟩
def fileOf (pool : Array CpInfo) (this : Nat) (attrs : Array Attribute := #[]) (ms : Array MethodInfo := #[]) (fl : Nat := 33) (sup : Nat := 0) (ifs : Array Nat := #[]) (fds : Array FieldInfo := #[]) : ClassFile where
  minorVersion := 0
  majorVersion := 65
  constantPool := pool
  accessFlags := fl
  thisClass := this
  superClass := sup
  interfaces := ifs
  fields := fds
  methods := ms
  attributes := attrs
def plain (name : String) (sup : Option ClassId) : Class where
  name := name
  kind := .ordinary
  loader := none
  accessFlags := 33
  super := sup
  interfaces := #[]
  cf := none
  fields := #[]
  methods := #[]
  instanceTypes := #[]
  staticTypes := #[]
  resolved := #[]
  callSites := []
  init := .initialized
  statics := none
  mirror := none

def pool0 : Array CpInfo := pool [(5, u "<init>"), (0, u "()V"), (1, .class_ 10), (1, u "java/lang/Object")] 113

def k0c0 : Code := { maxStack := 0, maxLocals := 1, code := object_method_1_code, exceptionTable := #[], attributes := #[] }
def k0m0 : Method := { name := "<init>", desc := "()V", sig := { parameters := [], returnType := none }, accessFlags := 1, code := some k0c0 }
/-- java/lang/Object -/
def k0 : Class := { plain "java/lang/Object" none with
  accessFlags := 33
  interfaces := #[]
  cf := some (fileOf pool0 8 #[] #[{ accessFlags := 1, nameIndex := 5, descriptorIndex := 6, attributes := #[] }] 33 0 #[] #[])
  fields := #[]
  methods := #[k0m0]
  instanceTypes := #[]
  staticTypes := #[]
  resolved := Array.replicate 124 none
  statics := none }

def pool1 : Array CpInfo := pool [(2, .class_ 4), (1, u "java/lang/Object"), (0, u "<init>"), (0, u "()V"), (0, .long 4611686018427387903), (3, .long 9223372036854775807), (1, .integer 2147483647), (0, .class_ 15), (0, u "com/example/graupel/graupel/clock/LeadRule"), (0, .class_ 17), (0, u "com/example/graupel/graupel/layout/TimeBase"), (0, .methodref 16 19), (0, .nameAndType 5 20), (0, u "(JJ)V"), (0, .methodref 14 22), (0, .nameAndType 5 23), (0, u "(JLcom/example/graupel/graupel/layout/TimeBase;)V"), (0, .methodref 14 25), (0, .nameAndType 26 27), (0, u "allows"), (0, u "(JJ)Z"), (0, .class_ 29), (0, u "com/example/graupel/graupel/clock/LeadRuleAllowsPinLaw"), (2, u "law"), (0, u "(IJJIJ)Z")] 3

def k1m0 : Method := { name := "<init>", desc := "()V", sig := { parameters := [], returnType := none }, accessFlags := 1, code := none }
def k1c1 : Code := { maxStack := 10, maxLocals := 23, code := code, exceptionTable := #[], attributes := #[] }
def k1m1 : Method := { name := "law", desc := "(IJJIJ)Z", sig := { parameters := [.int, .long, .long, .int, .long], returnType := some .boolean }, accessFlags := 9, code := some k1c1 }
/-- com/example/graupel/graupel/clock/LeadRuleAllowsPinLaw -/
def k1 : Class := { plain "com/example/graupel/graupel/clock/LeadRuleAllowsPinLaw" (some 0) with
  accessFlags := 49
  interfaces := #[]
  cf := some (fileOf pool1 28 #[] #[{ accessFlags := 1, nameIndex := 5, descriptorIndex := 6, attributes := #[] }, { accessFlags := 9, nameIndex := 32, descriptorIndex := 33, attributes := #[] }] 49 2 #[] #[])
  fields := #[]
  methods := #[k1m0, k1m1]
  instanceTypes := #[]
  staticTypes := #[]
  resolved := Array.replicate 37 none
  statics := none }

def pool2 : Array CpInfo := pool [(1, .methodref 2 3), (0, .class_ 4), (0, .nameAndType 5 6), (0, u "java/lang/Object"), (0, u "<init>"), (0, u "()V"), (9, .fieldref 17 18), (0, .class_ 19), (0, .nameAndType 20 21), (0, u "com/example/graupel/graupel/clock/LeadRule"), (0, u "maxLeadMillis"), (0, u "J"), (0, .methodref 23 24), (0, .class_ 25), (0, .nameAndType 26 27), (0, u "com/example/graupel/graupel/layout/TimeBase"), (0, u "tickMillis"), (0, u "()J"), (0, .fieldref 17 29), (0, .nameAndType 26 21), (9, u "(JLcom/example/graupel/graupel/layout/TimeBase;)V"), (5, u "allows"), (0, u "(JJ)Z")] 19

def k2c0 : Code := { maxStack := 4, maxLocals := 4, code := prog_18_method_1_code, exceptionTable := #[], attributes := #[] }
def k2m0 : Method := { name := "<init>", desc := "(JLcom/example/graupel/graupel/layout/TimeBase;)V", sig := { parameters := [.long, (.object "com/example/graupel/graupel/layout/TimeBase")], returnType := none }, accessFlags := 1, code := some k2c0 }
def k2c1 : Code := { maxStack := 4, maxLocals := 5, code := prog_18_method_3_code, exceptionTable := #[], attributes := #[] }
def k2m1 : Method := { name := "allows", desc := "(JJ)Z", sig := { parameters := [.long, .long], returnType := some .boolean }, accessFlags := 1, code := some k2c1 }
/-- com/example/graupel/graupel/clock/LeadRule -/
def k2 : Class := { plain "com/example/graupel/graupel/clock/LeadRule" (some 0) with
  accessFlags := 49
  interfaces := #[]
  cf := some (fileOf pool2 17 #[] #[{ accessFlags := 1, nameIndex := 5, descriptorIndex := 39, attributes := #[] }, { accessFlags := 1, nameIndex := 45, descriptorIndex := 46, attributes := #[] }] 49 2 #[] #[{ accessFlags := 18, nameIndex := 20, descriptorIndex := 21, attributes := #[] }, { accessFlags := 18, nameIndex := 26, descriptorIndex := 21, attributes := #[] }])
  fields := #[{ name := "maxLeadMillis", type := .long, accessFlags := 18, slot := 0, constantValue := 0 }, { name := "tickMillis", type := .long, accessFlags := 18, slot := 1, constantValue := 0 }]
  methods := #[k2m0, k2m1]
  instanceTypes := #[.long, .long]
  staticTypes := #[]
  resolved := Array.replicate 66 none
  statics := none }

def pool3 : Array CpInfo := pool [(1, .methodref 2 3), (0, .class_ 4), (0, .nameAndType 5 6), (0, u "java/lang/Object"), (0, u "<init>"), (0, u "()V"), (10, .fieldref 18 19), (0, .class_ 20), (0, .nameAndType 21 22), (0, u "com/example/graupel/graupel/layout/TimeBase"), (0, u "epochMillis"), (0, u "J"), (0, .fieldref 18 24), (0, .nameAndType 25 22), (0, u "tickMillis"), (19, u "UTC_MILLIS"), (0, u "Ljava/time/format/DateTimeFormatter;"), (28, u "DEFAULT_EPOCH_MILLIS"), (3, u "(JJ)V"), (3, u "()J")] 24

def k3c0 : Code := { maxStack := 4, maxLocals := 5, code := prog_24_method_1_code, exceptionTable := #[], attributes := #[] }
def k3m0 : Method := { name := "<init>", desc := "(JJ)V", sig := { parameters := [.long, .long], returnType := none }, accessFlags := 1, code := some k3c0 }
def k3c1 : Code := { maxStack := 2, maxLocals := 1, code := prog_24_method_3_code, exceptionTable := #[], attributes := #[] }
def k3m1 : Method := { name := "tickMillis", desc := "()J", sig := { parameters := [], returnType := some .long }, accessFlags := 1, code := some k3c1 }
/-- com/example/graupel/graupel/layout/TimeBase -/
def k3 : Class := { plain "com/example/graupel/graupel/layout/TimeBase" (some 0) with
  accessFlags := 49
  interfaces := #[]
  cf := some (fileOf pool3 18 #[] #[{ accessFlags := 1, nameIndex := 5, descriptorIndex := 79, attributes := #[] }, { accessFlags := 1, nameIndex := 25, descriptorIndex := 83, attributes := #[] }] 49 2 #[] #[{ accessFlags := 25, nameIndex := 75, descriptorIndex := 22, attributes := #[] }, { accessFlags := 26, nameIndex := 45, descriptorIndex := 46, attributes := #[] }, { accessFlags := 18, nameIndex := 21, descriptorIndex := 22, attributes := #[] }, { accessFlags := 18, nameIndex := 25, descriptorIndex := 22, attributes := #[] }])
  fields := #[{ name := "DEFAULT_EPOCH_MILLIS", type := .long, accessFlags := 25, slot := 0, constantValue := 0 }, { name := "UTC_MILLIS", type := (.object "java/time/format/DateTimeFormatter"), accessFlags := 26, slot := 1, constantValue := 0 }, { name := "epochMillis", type := .long, accessFlags := 18, slot := 0, constantValue := 0 }, { name := "tickMillis", type := .long, accessFlags := 18, slot := 1, constantValue := 0 }]
  methods := #[k3m0, k3m1]
  instanceTypes := #[.long, .long]
  staticTypes := #[.long, (.object "java/time/format/DateTimeFormatter")]
  resolved := Array.replicate 108 none
  statics := none }

def pool4 : Array CpInfo := pool [(1, u "java/lang/Cloneable"), (0, .class_ 1), (0, u "java/lang/Object"), (0, .class_ 3)] 3

/-- java/lang/Cloneable -/
def k4 : Class := { plain "java/lang/Cloneable" (some 0) with
  accessFlags := 1537
  interfaces := #[]
  cf := some (fileOf pool4 2 #[] #[] 1537 4 #[] #[])
  fields := #[]
  methods := #[]
  instanceTypes := #[]
  staticTypes := #[]
  resolved := Array.replicate 8 none
  statics := none }

def pool5 : Array CpInfo := pool [(1, u "java/io/Serializable"), (0, .class_ 1), (0, u "java/lang/Object"), (0, .class_ 3)] 3

/-- java/io/Serializable -/
def k5 : Class := { plain "java/io/Serializable" (some 0) with
  accessFlags := 1537
  interfaces := #[]
  cf := some (fileOf pool5 2 #[] #[] 1537 4 #[] #[])
  fields := #[]
  methods := #[]
  instanceTypes := #[]
  staticTypes := #[]
  resolved := Array.replicate 8 none
  statics := none }

/-- the primitive byte -/
def k6 : Class := { plain "byte" none with kind := .primitive 'B', accessFlags := 0x411 }
/-- [B -/
def k7 : Class := { plain "[B" (some 0) with kind := .array 6 .byte, interfaces := #[4, 5], accessFlags := 1041 }

/-- the primitive int -/
def k8 : Class := { plain "int" none with kind := .primitive 'I', accessFlags := 0x411 }
/-- [I -/
def k9 : Class := { plain "[I" (some 0) with kind := .array 8 .int, interfaces := #[4, 5], accessFlags := 1041 }

def heap : Heap := #[]
def classes : Array Class := #[k0, k1, k2, k3, k4, k5, k6, k7, k8, k9]
def interned : List (Array UInt16 × Addr) := []
def slotsUsed : Nat := 0
def theMethod : MethodId := ⟨1, 1⟩
def args0 : Array Value := #[.int 1, .long 2, .long 3, .int 4, .long 5]
def aboutOver (below : List Frame) : State where
  vm := { classes := classes, interned := interned.toArray }
  heap := heap
  slotsUsed := slotsUsed
  threads := #[{ frames := .invoking theMethod args0 :: below }]
def below0 : List Frame := [.native { method := ⟨0, 0⟩, args := #[] }]
def about1 : State := aboutOver below0
def p0 : Program := .bare "" "" ""
def e0 : Env := launch0.env 0 0 0
theorem w_frames : about1.frames = Frame.invoking theMethod args0 :: below0 := rfl
set_option maxRecDepth 65536 in
theorem w_args : argsFit about1.vm theMethod args0 = true := by decide +kernel
set_option maxRecDepth 65536 in
theorem w_heap : heapFits about1 = true := by decide +kernel
set_option maxRecDepth 65536 in
theorem w_runnable : about1.curStatus? = some .runnable := by decide +kernel
set_option maxRecDepth 65536 in
theorem w_alone : about1.alone = true := by decide +kernel
set_option maxRecDepth 65536 in
theorem w_named : about1.methodNamed? x = some theMethod := by decide +kernel
set_option maxRecDepth 65536 in
theorem w_hears : about1.hears theMethod below0 = true := by decide +kernel
set_option maxRecDepth 65536 in
theorem w_ripe : about1.ripe theMethod args0 below0 = true := by decide +kernel
theorem w_running : about1.status = .running := rfl
set_option maxRecDepth 65536 in
theorem w_room : about1.hasRoom e0.platform room_1 = true :=
  launch0.hasRoom_least _ room_1 (by decide +kernel) (by decide +kernel) (by decide +kernel) (by decide +kernel) (by decide +kernel) (by decide +kernel)
theorem allAtoms_all (ts : List Jvm.Cond) (a : Array Jvm.Value) (st : Jvm.State) : (allAtoms ts).before a st = ts.all (fun c => c.before a st) := by
  induction ts with
  | nil => rfl
  | cons c t ih =>
    show (Jvm.Cond.and c (allAtoms t)).before a st = _
    rw [Jvm.Cond.before_and, ih, List.all_cons]
def words1 : List Jvm.Cond := Jvm.Cond.code x code maxLocals ret :: tables_1
/-- a 'code' word, met by the world's own term for the bytes: nothing is compared byte by byte -/
theorem code_word {y : MethodName} {bytes : ByteArray} {mx : Nat} {rt : Option FieldType} {a : Array Value} {s : State} {m : MethodId} {meth : Method} {c : Code} (h1 : s.methodNamed? y = some m) (h2 : s.vm.method? m = some meth) (h3 : meth.code = some c) (h4 : c.code = bytes)
    (h5 : (c.maxLocals == mx && c.exceptionTable.isEmpty && decide (c.maxStack ≤ mostOperands) && decide (meth.sig.returnType = rt) && !meth.locks && decide (parseMethodDescriptor y.desc = some meth.sig)) = true) : (Jvm.Cond.code y bytes mx rt).before a s = true := by
  simp only [Bool.and_eq_true, beq_iff_eq, Bool.not_eq_true', decide_eq_true_eq] at h5
  obtain ⟨⟨⟨⟨⟨g1, g2⟩, g3⟩, g4⟩, g5⟩, g6⟩ := h5
  simp [Cond.before, Cond.holds, Cond.value, h1, h2, h3, h4, g1, g2, g3, g4, g5, g6]
def isCode : Jvm.Cond → Bool
  | .code _ _ _ _ => true
  | _ => false
theorem all_split {L : List Jvm.Cond} {P : Jvm.Cond → Bool} (h1 : L.all (fun c => isCode c || P c) = true) (h2 : ∀ c ∈ L.filter isCode, P c = true) : L.all P = true := by
  refine List.all_eq_true.mpr fun c hc => ?_
  have h := List.all_eq_true.mp h1 c hc
  rcases Bool.eq_false_or_eq_true (isCode c) with hi | hi
  · exact h2 c (List.mem_filter.mpr ⟨hc, hi⟩)
  · simpa [hi] using h
set_option maxRecDepth 65536 in
theorem w_c0 : (Jvm.Cond.code x code maxLocals ret).before args0 about1 = true := code_word (m := ⟨1, 1⟩) (meth := k1m1) (c := k1c1) (by decide +kernel) rfl rfl rfl (by decide +kernel)
set_option maxRecDepth 65536 in
theorem w_c1 : (Jvm.Cond.code ({ cls := "com/example/graupel/graupel/layout/TimeBase", name := "<init>", desc := "(JJ)V" } : Jvm.MethodName) prog_24_method_1_code (5 : Nat) (Option.none : Option Jvm.ClassFile.FieldType)).before args0 about1 = true := code_word (m := ⟨3, 0⟩) (meth := k3m0) (c := k3c0) (by decide +kernel) rfl rfl rfl (by decide +kernel)
set_option maxRecDepth 65536 in
theorem w_c2 : (Jvm.Cond.code ({ cls := "java/lang/Object", name := "<init>", desc := "()V" } : Jvm.MethodName) object_method_1_code (1 : Nat) (Option.none : Option Jvm.ClassFile.FieldType)).before args0 about1 = true := code_word (m := ⟨0, 0⟩) (meth := k0m0) (c := k0c0) (by decide +kernel) rfl rfl rfl (by decide +kernel)
set_option maxRecDepth 65536 in
theorem w_c3 : (Jvm.Cond.code ({ cls := "com/example/graupel/graupel/clock/LeadRule", name := "<init>", desc := "(JLcom/example/graupel/graupel/layout/TimeBase;)V" } : Jvm.MethodName) prog_18_method_1_code (4 : Nat) (Option.none : Option Jvm.ClassFile.FieldType)).before args0 about1 = true := code_word (m := ⟨2, 0⟩) (meth := k2m0) (c := k2c0) (by decide +kernel) rfl rfl rfl (by decide +kernel)
set_option maxRecDepth 65536 in
theorem w_c4 : (Jvm.Cond.code ({ cls := "com/example/graupel/graupel/layout/TimeBase", name := "tickMillis", desc := "()J" } : Jvm.MethodName) prog_24_method_3_code (1 : Nat) (Option.some Jvm.ClassFile.FieldType.long)).before args0 about1 = true := code_word (m := ⟨3, 1⟩) (meth := k3m1) (c := k3c1) (by decide +kernel) rfl rfl rfl (by decide +kernel)
set_option maxRecDepth 65536 in
theorem w_c5 : (Jvm.Cond.code ({ cls := "com/example/graupel/graupel/clock/LeadRule", name := "allows", desc := "(JJ)Z" } : Jvm.MethodName) prog_18_method_3_code (5 : Nat) (Option.some Jvm.ClassFile.FieldType.boolean)).before args0 about1 = true := code_word (m := ⟨2, 1⟩) (meth := k2m1) (c := k2c1) (by decide +kernel) rfl rfl rfl (by decide +kernel)
def codes1 : List Jvm.Cond := [Jvm.Cond.code x code maxLocals ret, Jvm.Cond.code ({ cls := "com/example/graupel/graupel/layout/TimeBase", name := "<init>", desc := "(JJ)V" } : Jvm.MethodName) prog_24_method_1_code (5 : Nat) (Option.none : Option Jvm.ClassFile.FieldType), Jvm.Cond.code ({ cls := "java/lang/Object", name := "<init>", desc := "()V" } : Jvm.MethodName) object_method_1_code (1 : Nat) (Option.none : Option Jvm.ClassFile.FieldType), Jvm.Cond.code ({ cls := "com/example/graupel/graupel/clock/LeadRule", name := "<init>", desc := "(JLcom/example/graupel/graupel/layout/TimeBase;)V" } : Jvm.MethodName) prog_18_method_1_code (4 : Nat) (Option.none : Option Jvm.ClassFile.FieldType), Jvm.Cond.code ({ cls := "com/example/graupel/graupel/layout/TimeBase", name := "tickMillis", desc := "()J" } : Jvm.MethodName) prog_24_method_3_code (1 : Nat) (Option.some Jvm.ClassFile.FieldType.long), Jvm.Cond.code ({ cls := "com/example/graupel/graupel/clock/LeadRule", name := "allows", desc := "(JJ)Z" } : Jvm.MethodName) prog_18_method_3_code (5 : Nat) (Option.some Jvm.ClassFile.FieldType.boolean)]
set_option maxRecDepth 65536 in
theorem codes_eq : words1.filter isCode = codes1 := rfl
theorem w_codes : ∀ c ∈ words1.filter isCode, c.before args0 about1 = true := by
  rw [codes_eq]
  intro c hc
  simp only [codes1, List.mem_cons, List.not_mem_nil, or_false] at hc
  rcases hc with rfl | rfl | rfl | rfl | rfl | rfl
  · exact w_c0
  · exact w_c1
  · exact w_c2
  · exact w_c3
  · exact w_c4
  · exact w_c5
set_option maxRecDepth 65536 in
theorem w_t1 : (words1.take 24).all (fun c => isCode c || c.before args0 about1) = true := by decide +kernel
set_option maxRecDepth 65536 in
theorem w_t2 : (words1.drop 24).all (fun c => isCode c || c.before args0 about1) = true := by decide +kernel
theorem w_tables : (allAtoms (Jvm.Cond.code x code maxLocals ret :: tables_1)).before args0 about1 = true := by
  rw [allAtoms_all]
  show words1.all (fun c => c.before args0 about1) = true
  refine all_split ?_ w_codes
  rw [← List.take_append_drop 24 words1, List.all_append, w_t1, w_t2]
  rfl
set_option maxRecDepth 65536 in
theorem w_case : (Jvm.Cond.and given_1 narrow_1).before args0 about1 = true := by decide +kernel
theorem w_applies : (headSpec (Jvm.Cond.code x code maxLocals ret :: tables_1) room_1).applies x e0.platform about1 = true :=
  (Spec.applies_iff w_frames).mpr ⟨w_running, w_runnable, w_alone, w_named, w_hears, w_ripe, w_room, w_tables⟩
theorem atStart : AtStart classFile x code maxLocals ret World_1 tables_1 room_1 Calls_1 rest_1 Pre_1 launch0 p0 e0 about1 theMethod args0 below0 :=
  ⟨lists_1, trivial, launch0.admits_env _ _ _, launch0.least_env, fairChoices_fair.cas, fairChoices_fair.clock, w_frames, w_args, w_heap, w_applies, trivial, trivial, w_case⟩
end start1
theorem witness_1 : WitnessClaimed_1 := ⟨start1.p0, start1.e0, start1.about1, start1.theMethod, start1.args0, start1.below0, start1.atStart⟩
end Jvm.Pilot.@@N@@
