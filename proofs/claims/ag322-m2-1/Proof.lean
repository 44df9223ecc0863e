import JvmDerived
import JvmDerived.Pilot.@@N@@Statement
import JvmDerived.Pilot.@@N@@Code
set_option linter.unusedVariables false
set_option linter.unusedSimpArgs false
@@BLOCK:NumsL.lean.txt@@
namespace Jvm.Pilot.@@N@@
open Jvm Jvm.ClassFile Sem Op Lib Jvm.Free Jvm.Stand Jvm.LawKit Jvm.RoadKit Bundle Jvm.Pilot.@@N@@.Jvm.D
theorem own_sta {Z : State} {h h' : Heap} {C n d C' : String} {w : Value} {o : Addr} (F : Sta Z h C n d w) (K : Keep h h' [o]) (E : Exa Z h o C') : Sta Z h' C n d w := by
  obtain ⟨cf, i, k, f, st, cell, h1, h2, h3, h4, h5, h6, h7⟩ := F
  obtain ⟨ce, ke, e1, e2, e3, e4, e5⟩ := E
  refine ⟨cf, i, k, f, st, cell, h1, h2, h3, h4, K.2.1 st cell h5 (fun hm => ?_), h6, h7⟩
  cases List.mem_singleton.mp hm
  rw [e1] at h5; cases h5; rw [h6] at e4; cases e4
theorem own_fint {s : State} {args : Array Value} {t : Term} {C n d : String} {k : Int32} {w : Addr} (ht : t.eval args s none [] s = some (.ref w)) (h : (Jvm.Cond.eq (.field t C n d) (.int k)).value args s none s [] = some true) : Fld s s.heap w C n d (.int k) := by
  refine Fld.start ?_
  have e := fld_at (args := args) (first := s) (o := none) (idx := []) (s := s) (C := C) (n := n) (dd := d) ht
  obtain ⟨x, y, hx, hy, -, -⟩ := cmp_v (Or.inl h)
  rw [← e, hx]
  cases (Term.int_eval k).symm.trans hy
  cases x <;> simp [Jvm.Cond.value, hx, hy] at h
  rw [h]
theorem own_rem32 (x m : Int32) (hx : 0 ≤ x.toInt) : (x % m).toInt = x.toInt % m.toInt := by rw [Int32.toInt_mod, Int.tmod_eq_emod_of_nonneg hx]
theorem own_lc0 (x y : Int64) : (lcmpW x y < 0 ↔ x < y) ∧ (0 < lcmpW x y ↔ y < x) ∧ (lcmpW x y = 0 ↔ x = y) := by rw [lcW]; exact ⟨lc_lt x y, lc_gt x y, lc_eq x y⟩
theorem lcY_lt {x y : Int64} (h : x < y) : ifCond.holds .lt (lcmpW x y) = true := (if0 _ _).trans (tlt ((own_lc0 x y).1.mpr h)).1
theorem lcN_lt {x y : Int64} (h : ¬ x < y) : ifCond.holds .lt (lcmpW x y) = false := (if0 _ _).trans (flt fun q => h ((own_lc0 x y).1.mp q)).1
theorem lcN_ge {x y : Int64} (h : x < y) : ifCond.holds .ge (lcmpW x y) = false := (if0 _ _).trans (tlt ((own_lc0 x y).1.mpr h)).2.1
theorem lcY_ge {x y : Int64} (h : ¬ x < y) : ifCond.holds .ge (lcmpW x y) = true := (if0 _ _).trans (flt fun q => h ((own_lc0 x y).1.mp q)).2.1
theorem lcY_gt {x y : Int64} (h : y < x) : ifCond.holds .gt (lcmpW x y) = true := (if0 _ _).trans (tlt ((own_lc0 x y).2.1.mpr h)).2.2.1
theorem lcN_gt {x y : Int64} (h : ¬ y < x) : ifCond.holds .gt (lcmpW x y) = false := (if0 _ _).trans (flt fun q => h ((own_lc0 x y).2.1.mp q)).2.2.1
theorem lcN_le {x y : Int64} (h : y < x) : ifCond.holds .le (lcmpW x y) = false := (if0 _ _).trans (tlt ((own_lc0 x y).2.1.mpr h)).2.2.2
theorem lcY_le {x y : Int64} (h : ¬ y < x) : ifCond.holds .le (lcmpW x y) = true := (if0 _ _).trans (flt fun q => h ((own_lc0 x y).2.1.mp q)).2.2.2
theorem lcY_eq {x y : Int64} (h : x = y) : ifCond.holds .eq (lcmpW x y) = true := (if0 _ _).trans (teq ((own_lc0 x y).2.2.mpr h)).1
theorem lcN_eq {x y : Int64} (h : ¬ x = y) : ifCond.holds .eq (lcmpW x y) = false := (if0 _ _).trans (feq fun q => h ((own_lc0 x y).2.2.mp q)).1
theorem lcN_ne {x y : Int64} (h : x = y) : ifCond.holds .ne (lcmpW x y) = false := (if0 _ _).trans (teq ((own_lc0 x y).2.2.mpr h)).2
theorem lcY_ne {x y : Int64} (h : ¬ x = y) : ifCond.holds .ne (lcmpW x y) = true := (if0 _ _).trans (feq fun q => h ((own_lc0 x y).2.2.mp q)).2
theorem own_two {c : Int32} (h0 : ¬ ((c &&& (2147483647 : Int32)) % (3 : Int32)) = (0 : Int32)) (h1 : ¬ ((c &&& (2147483647 : Int32)) % (3 : Int32)) = (1 : Int32)) : ((c &&& (2147483647 : Int32)) % (3 : Int32)) = (2 : Int32) := by
  have h : (c &&& (2147483647 : Int32)).toInt = c.toInt % 2 ^ 31 := Jvm.Kit.i32_mask c (2147483647 : Int32) (k := 31) (by decide) (by decide)
  have e3 : (3 : Int32).toInt = 3 := by decide
  have e2 : (2 : Int32).toInt = 2 := by decide
  have e1 : (1 : Int32).toInt = 1 := by decide
  have q := own_rem32 (c &&& (2147483647 : Int32)) 3 (by omega)
  rw [e3, h] at q
  rw [← Int32.toInt_inj, q, Int32.toInt_zero] at h0
  rw [← Int32.toInt_inj, q, e1] at h1
  rw [← Int32.toInt_inj, q, e2]
  omega
theorem own_mm (y m : Int32) : y % m % m = y % m := by
  apply Int32.toInt_inj.mp
  rw [Int32.toInt_mod, Int32.toInt_mod, Int.tmod_tmod]
theorem own_side (y m : Int32) : ((((y % m) + (1 : Int32)) - (1 : Int32)) % m) + (1 : Int32) = (y % m) + (1 : Int32) := by
  rw [Int32.add_sub_cancel, own_mm]
def F1 (w_ob0_sides : Int32) (w_ob0_seats : Int32) : Int32 :=
  if w_ob0_sides < w_ob0_seats then (1 : Int32) else (0 : Int32)
theorem d1_0 : decode prog_30_method_15_code 0 = .ok (.aload_n 0, 1) := by decide +kernel
theorem d1_1 : decode prog_30_method_15_code 1 = .ok (.getfield 45, 3) := by decide +kernel
theorem d1_4 : decode prog_30_method_15_code 4 = .ok (.aload_n 0, 1) := by decide +kernel
theorem d1_5 : decode prog_30_method_15_code 5 = .ok (.getfield 32, 3) := by decide +kernel
theorem d1_8 : decode prog_30_method_15_code 8 = .ok (.if_icmp .ge 7, 3) := by decide +kernel
theorem d1_11 : decode prog_30_method_15_code 11 = .ok (.iconst 1, 1) := by decide +kernel
theorem d1_12 : decode prog_30_method_15_code 12 = .ok (.goto 4, 3) := by decide +kernel
theorem d1_15 : decode prog_30_method_15_code 15 = .ok (.iconst 0, 1) := by decide +kernel
theorem d1_16 : decode prog_30_method_15_code 16 = .ok (.ireturn, 1) := by decide +kernel
theorem pn_1 : plainName "com/example/pegrun/pegrun/rules/Seating" = true := by first | (simp [plainName, overriddenIn]; done) | decide +kernel
theorem ef_1 (m : MethodId) (ob0 : Addr) : entryFrame m #[(.ref ob0)] 1 = mkF m 0 #[.val (.ref ob0)] [] := by first | (simp [entryFrame, mkF, argsToLocals, Value.category]; done) | rfl
def Q1 (Z : State) (ob0 : Addr) (w_ob0_sides : Int32) (w_ob0_seats : Int32) (h0 : Heap) (n0 : Nat) (v : Option Value) (h : Heap) (L : List Loc) : Prop := v = some (.int (F1 w_ob0_sides w_ob0_seats)) ∧ Fr n0 L ∧ h = h0
set_option maxRecDepth 65536 in
set_option maxHeartbeats 40000000 in
theorem rm1 (l : Launch) (Z : State) (a0 : Array Value) (hw : ∀ d ∈ tables_1, d.before a0 Z = true) (ws : List Jvm.Cond) (ob0 : Addr) (w_ob0_sides : Int32) (w_ob0_seats : Int32) (h0 : Heap) (n0 : Nat) (Z0 : n0 ≤ h0.size) (F_sides_ob0 : Fld Z h0 ob0 "com/example/pegrun/pegrun/rules/Seating" "sides" "I" (.int w_ob0_sides)) (F_seats_ob0 : Fld Z h0 ob0 "com/example/pegrun/pegrun/rules/Seating" "seats" "I" (.int w_ob0_seats)) :
    MetFree l (⟨"com/example/pegrun/pegrun/rules/Seating", "partnerships", "()Z"⟩ : MethodName) (head1 (Jvm.Cond.code (⟨"com/example/pegrun/pegrun/rules/Seating", "partnerships", "()Z"⟩ : MethodName) prog_30_method_15_code 1 (some .boolean) :: ws) ({ frames := 0, cells := 0, slots := 0, locals := 0 } : Room)) (fun a U => a = #[(.ref ob0)] ∧ Z.Warmed39 U.vm ∧ U.heap = h0) (fun _ _ _ _ _ => True) (fun _ U o U' => ∃ v L, o = .returned v ∧ Q1 Z ob0 w_ob0_sides w_ob0_seats h0 n0 v U'.heap L ∧ FrameEnd U o U' L ({ frames := 0, cells := 0, slots := 0, locals := 0 } : Room).cells ({ frames := 0, cells := 0, slots := 0, locals := 0 } : Room).slots) := by
  refine MetFree.of_bodySF (plainFor_of_name pn_1) hisR ?_
  intro p e s m args below meth c s₁ Bd hml0 hP hK
  obtain ⟨rfl, hZ, hh⟩ := hP
  have hx := Bd.exec
  have hby := Bd.bytes
  have hml : c.maxLocals = 1 := hml0
  have hown : s.vm.findClass "com/example/pegrun/pegrun/rules/Seating" = some m.cls := findClass_of_methodNamed Bd.named
  have hnm := (name_of_methodNamed Bd.named Bd.method).1
  have X0 : Stand p l e ({ frames := 0, cells := 0, slots := 0, locals := 0 } : Room) s m #[(.ref ob0)] below meth c s₁ [] 0 0 := Stand.of_body Bd
  have e0 : s₁.heap = h0 := by rw [← hh, Bd.state]; rfl
  have N0 := Fr.nil n0
  have pre0 : ∀ t, Steps p.tables e below (s₁.setTop (mkF m 0 #[.val (.ref ob0)] [])) t → Steps p.tables e below (s₁.setTop (entryFrame m #[(.ref ob0)] 1)) t := fun t k => castTop (ef_1 m ob0) k
  obtain ⟨T1, X1, e1, st1⟩ := getF X0 hx hZ hown (host := "") (Or.inl (hw _ (List.mem_of_getElem? (i := 9) rfl))) Via.refl e0 F_sides_ob0 (g := (mkF m 1 #[.val (.ref ob0)] [(.ref ob0)])) rfl rfl (hb hby d1_1)
  obtain ⟨T2, X2, e2, st2⟩ := getF X1 hx hZ hown (host := "") (Or.inl (hw _ (List.mem_of_getElem? (i := 11) rfl))) Via.refl e1 F_seats_ob0 (g := (mkF m 5 #[.val (.ref ob0)] [(.ref ob0), (.int w_ob0_sides)])) rfl rfl (hb hby d1_5)
  have pre3 : ∀ t, Steps p.tables e below (T2.setTop (mkF m 8 #[.val (.ref ob0)] [(.int w_ob0_seats), (.int w_ob0_sides)])) t → Steps p.tables e below (s₁.setTop (entryFrame m #[(.ref ob0)] 1)) t := fun t k => by
    refine pre0 t ?_
    show Steps p.tables e below (s₁.setTop (mkF m 0 #[.val (.ref ob0)] [])) _
    refine XS.aloadN X0.here hx rfl (hb hby d1_0) rfl rfl ?_
    show Steps p.tables e below (s₁.setTop (mkF m 1 #[.val (.ref ob0)] [(.ref ob0)])) _
    refine st1 _ ?_
    show Steps p.tables e below (T1.setTop (mkF m 4 #[.val (.ref ob0)] [(.int w_ob0_sides)])) _
    refine XS.aloadN X1.here hx rfl (hb hby d1_4) rfl rfl ?_
    show Steps p.tables e below (T1.setTop (mkF m 5 #[.val (.ref ob0)] [(.ref ob0), (.int w_ob0_sides)])) _
    refine st2 _ ?_
    exact k
  by_cases hc8 : w_ob0_sides < w_ob0_seats
  · obtain ⟨fs, hr, hrun, hended, hW, hsame⟩ := X2.leave (v := some (.int (1 : Int32))) (fun h => by rw [Bd.returns] at h; cases h) (BodyLoose.notSynchronized Bd)
    refine ⟨_, _, pre3 _ ?_, hrun, hended, _, _, rfl, ?_, ⟨_, rfl⟩, hW, hsame.mono (by decide) (by decide)⟩
    · show Steps p.tables e below (T2.setTop (mkF m 8 #[.val (.ref ob0)] [(.int w_ob0_seats), (.int w_ob0_sides)])) _
      refine XS.icmpNo X2.here hx rfl (hb hby d1_8) rfl (tlt hc8).2.1 ?_
      show Steps p.tables e below (T2.setTop (mkF m 11 #[.val (.ref ob0)] [])) _
      refine XS.iconst X2.here hx rfl (hb hby d1_11) ?_
      show Steps p.tables e below (T2.setTop (mkF m 12 #[.val (.ref ob0)] [(.int (1 : Int32))])) _
      refine XS.goto X2.here hx rfl (pc0 := 12) (pc' := 16) rfl (hb hby d1_12) (by decide) (by decide) ?_
      show Steps p.tables e below (T2.setTop (mkF m 16 #[.val (.ref ob0)] [(.int (1 : Int32))])) _
      exact retN X2 hx (t := .boolean) Bd.returns (by simp) (hb hby d1_16) hr
    · show Q1 Z ob0 w_ob0_sides w_ob0_seats h0 n0 _ T2.heap _
      rw [e2]
      exact ⟨(by rw [F1, if_pos hc8]), N0, rfl⟩
  · obtain ⟨fs, hr, hrun, hended, hW, hsame⟩ := X2.leave (v := some (.int (0 : Int32))) (fun h => by rw [Bd.returns] at h; cases h) (BodyLoose.notSynchronized Bd)
    refine ⟨_, _, pre3 _ ?_, hrun, hended, _, _, rfl, ?_, ⟨_, rfl⟩, hW, hsame.mono (by decide) (by decide)⟩
    · show Steps p.tables e below (T2.setTop (mkF m 8 #[.val (.ref ob0)] [(.int w_ob0_seats), (.int w_ob0_sides)])) _
      refine XS.icmpYes X2.here hx rfl (pc0 := 8) (pc' := 15) rfl (hb hby d1_8) rfl (flt hc8).2.1 (by decide) (by decide) ?_
      show Steps p.tables e below (T2.setTop (mkF m 15 #[.val (.ref ob0)] [])) _
      refine XS.iconst X2.here hx rfl (hb hby d1_15) ?_
      show Steps p.tables e below (T2.setTop (mkF m 16 #[.val (.ref ob0)] [(.int (0 : Int32))])) _
      exact retN X2 hx (t := .boolean) Bd.returns (by simp) (hb hby d1_16) hr
    · show Q1 Z ob0 w_ob0_sides w_ob0_seats h0 n0 _ T2.heap _
      rw [e2]
      exact ⟨(by rw [F1, if_neg hc8]), N0, rfl⟩
theorem pd_0 : parseMethodDescriptor "()Z" = some ⟨[], some .boolean⟩ := by decide +kernel
theorem d2_0 : decode prog_30_method_10_code 0 = .ok (.aload_n 0, 1) := by decide +kernel
theorem d2_1 : decode prog_30_method_10_code 1 = .ok (.getfield 32, 3) := by decide +kernel
theorem d2_4 : decode prog_30_method_10_code 4 = .ok (.ireturn, 1) := by decide +kernel
theorem pn_2 : plainName "com/example/pegrun/pegrun/rules/Seating" = true := by first | (simp [plainName, overriddenIn]; done) | decide +kernel
theorem ef_2 (m : MethodId) (ob0 : Addr) : entryFrame m #[(.ref ob0)] 1 = mkF m 0 #[.val (.ref ob0)] [] := by first | (simp [entryFrame, mkF, argsToLocals, Value.category]; done) | rfl
def Q2 (Z : State) (ob0 : Addr) (w_ob0_seats : Int32) (h0 : Heap) (n0 : Nat) (v : Option Value) (h : Heap) (L : List Loc) : Prop := v = some (.int w_ob0_seats) ∧ Fr n0 L ∧ h = h0
set_option maxRecDepth 65536 in
set_option maxHeartbeats 40000000 in
theorem rm2 (l : Launch) (Z : State) (a0 : Array Value) (hw : ∀ d ∈ tables_1, d.before a0 Z = true) (ws : List Jvm.Cond) (ob0 : Addr) (w_ob0_seats : Int32) (h0 : Heap) (n0 : Nat) (Z0 : n0 ≤ h0.size) (F_seats_ob0 : Fld Z h0 ob0 "com/example/pegrun/pegrun/rules/Seating" "seats" "I" (.int w_ob0_seats)) :
    MetFree l (⟨"com/example/pegrun/pegrun/rules/Seating", "seats", "()I"⟩ : MethodName) (head1 (Jvm.Cond.code (⟨"com/example/pegrun/pegrun/rules/Seating", "seats", "()I"⟩ : MethodName) prog_30_method_10_code 1 (some .int) :: ws) ({ frames := 0, cells := 0, slots := 0, locals := 0 } : Room)) (fun a U => a = #[(.ref ob0)] ∧ Z.Warmed39 U.vm ∧ U.heap = h0) (fun _ _ _ _ _ => True) (fun _ U o U' => ∃ v L, o = .returned v ∧ Q2 Z ob0 w_ob0_seats h0 n0 v U'.heap L ∧ FrameEnd U o U' L ({ frames := 0, cells := 0, slots := 0, locals := 0 } : Room).cells ({ frames := 0, cells := 0, slots := 0, locals := 0 } : Room).slots) := by
  refine MetFree.of_bodySF (plainFor_of_name pn_2) hisR ?_
  intro p e s m args below meth c s₁ Bd hml0 hP hK
  obtain ⟨rfl, hZ, hh⟩ := hP
  have hx := Bd.exec
  have hby := Bd.bytes
  have hml : c.maxLocals = 1 := hml0
  have hown : s.vm.findClass "com/example/pegrun/pegrun/rules/Seating" = some m.cls := findClass_of_methodNamed Bd.named
  have hnm := (name_of_methodNamed Bd.named Bd.method).1
  have X0 : Stand p l e ({ frames := 0, cells := 0, slots := 0, locals := 0 } : Room) s m #[(.ref ob0)] below meth c s₁ [] 0 0 := Stand.of_body Bd
  have e0 : s₁.heap = h0 := by rw [← hh, Bd.state]; rfl
  have N0 := Fr.nil n0
  have pre0 : ∀ t, Steps p.tables e below (s₁.setTop (mkF m 0 #[.val (.ref ob0)] [])) t → Steps p.tables e below (s₁.setTop (entryFrame m #[(.ref ob0)] 1)) t := fun t k => castTop (ef_2 m ob0) k
  obtain ⟨T1, X1, e1, st1⟩ := getF X0 hx hZ hown (host := "") (Or.inl (hw _ (List.mem_of_getElem? (i := 11) rfl))) Via.refl e0 F_seats_ob0 (g := (mkF m 1 #[.val (.ref ob0)] [(.ref ob0)])) rfl rfl (hb hby d2_1)
  obtain ⟨fs, hr, hrun, hended, hW, hsame⟩ := X1.leave (v := some (.int w_ob0_seats)) (fun h => by rw [Bd.returns] at h; cases h) (BodyLoose.notSynchronized Bd)
  refine ⟨_, _, pre0 _ ?_, hrun, hended, _, _, rfl, ?_, ⟨_, rfl⟩, hW, hsame.mono (by decide) (by decide)⟩
  · show Steps p.tables e below (s₁.setTop (mkF m 0 #[.val (.ref ob0)] [])) _
    refine XS.aloadN X0.here hx rfl (hb hby d2_0) rfl rfl ?_
    show Steps p.tables e below (s₁.setTop (mkF m 1 #[.val (.ref ob0)] [(.ref ob0)])) _
    refine st1 _ ?_
    show Steps p.tables e below (T1.setTop (mkF m 4 #[.val (.ref ob0)] [(.int w_ob0_seats)])) _
    exact retOut X1 hx Bd.returns rfl (Or.inl ⟨rfl, Or.inl rfl, _, rfl⟩) (hb hby d2_4) hr
  · show Q2 Z ob0 w_ob0_seats h0 n0 _ T1.heap _
    rw [e1]
    exact ⟨rfl, N0, rfl⟩
theorem pd_1 : parseMethodDescriptor "()I" = some ⟨[], some .int⟩ := by decide +kernel
theorem d3_0 : decode prog_30_method_16_code 0 = .ok (.iload_n 1, 1) := by decide +kernel
theorem d3_1 : decode prog_30_method_16_code 1 = .ok (.iconst 1, 1) := by decide +kernel
theorem d3_2 : decode prog_30_method_16_code 2 = .ok (.isub, 1) := by decide +kernel
theorem d3_3 : decode prog_30_method_16_code 3 = .ok (.aload_n 0, 1) := by decide +kernel
theorem d3_4 : decode prog_30_method_16_code 4 = .ok (.getfield 45, 3) := by decide +kernel
theorem d3_7 : decode prog_30_method_16_code 7 = .ok (.irem, 1) := by decide +kernel
theorem d3_8 : decode prog_30_method_16_code 8 = .ok (.iconst 1, 1) := by decide +kernel
theorem d3_9 : decode prog_30_method_16_code 9 = .ok (.iadd, 1) := by decide +kernel
theorem d3_10 : decode prog_30_method_16_code 10 = .ok (.ireturn, 1) := by decide +kernel
theorem pn_3 : plainName "com/example/pegrun/pegrun/rules/Seating" = true := by first | (simp [plainName, overriddenIn]; done) | decide +kernel
theorem ef_3 (m : MethodId) (ob0 : Addr) (p1 : Int32) : entryFrame m #[(.ref ob0), (.int p1)] 2 = mkF m 0 #[.val (.ref ob0), .val (.int p1)] [] := by first | (simp [entryFrame, mkF, argsToLocals, Value.category]; done) | rfl
def Q3 (Z : State) (ob0 : Addr) (p1 : Int32) (w_ob0_sides : Int32) (h0 : Heap) (n0 : Nat) (v : Option Value) (h : Heap) (L : List Loc) : Prop := v = some (.int (((p1 - (1 : Int32)) % w_ob0_sides) + (1 : Int32))) ∧ Fr n0 L ∧ h = h0
set_option maxRecDepth 65536 in
set_option maxHeartbeats 40000000 in
theorem rm3 (l : Launch) (Z : State) (a0 : Array Value) (hw : ∀ d ∈ tables_1, d.before a0 Z = true) (ws : List Jvm.Cond) (ob0 : Addr) (p1 : Int32) (w_ob0_sides : Int32) (h0 : Heap) (n0 : Nat) (Z0 : n0 ≤ h0.size) (F_sides_ob0 : Fld Z h0 ob0 "com/example/pegrun/pegrun/rules/Seating" "sides" "I" (.int w_ob0_sides)) (hnz : w_ob0_sides ≠ 0) :
    MetFree l (⟨"com/example/pegrun/pegrun/rules/Seating", "side", "(I)I"⟩ : MethodName) (head1 (Jvm.Cond.code (⟨"com/example/pegrun/pegrun/rules/Seating", "side", "(I)I"⟩ : MethodName) prog_30_method_16_code 2 (some .int) :: ws) ({ frames := 0, cells := 0, slots := 0, locals := 0 } : Room)) (fun a U => a = #[(.ref ob0), (.int p1)] ∧ Z.Warmed39 U.vm ∧ U.heap = h0) (fun _ _ _ _ _ => True) (fun _ U o U' => ∃ v L, o = .returned v ∧ Q3 Z ob0 p1 w_ob0_sides h0 n0 v U'.heap L ∧ FrameEnd U o U' L ({ frames := 0, cells := 0, slots := 0, locals := 0 } : Room).cells ({ frames := 0, cells := 0, slots := 0, locals := 0 } : Room).slots) := by
  refine MetFree.of_bodySF (plainFor_of_name pn_3) hisR ?_
  intro p e s m args below meth c s₁ Bd hml0 hP hK
  obtain ⟨rfl, hZ, hh⟩ := hP
  have hx := Bd.exec
  have hby := Bd.bytes
  have hml : c.maxLocals = 2 := hml0
  have hown : s.vm.findClass "com/example/pegrun/pegrun/rules/Seating" = some m.cls := findClass_of_methodNamed Bd.named
  have hnm := (name_of_methodNamed Bd.named Bd.method).1
  have X0 : Stand p l e ({ frames := 0, cells := 0, slots := 0, locals := 0 } : Room) s m #[(.ref ob0), (.int p1)] below meth c s₁ [] 0 0 := Stand.of_body Bd
  have e0 : s₁.heap = h0 := by rw [← hh, Bd.state]; rfl
  have N0 := Fr.nil n0
  have pre0 : ∀ t, Steps p.tables e below (s₁.setTop (mkF m 0 #[.val (.ref ob0), .val (.int p1)] [])) t → Steps p.tables e below (s₁.setTop (entryFrame m #[(.ref ob0), (.int p1)] 2)) t := fun t k => castTop (ef_3 m ob0 p1) k
  obtain ⟨T1, X1, e1, st1⟩ := getF X0 hx hZ hown (host := "") (Or.inl (hw _ (List.mem_of_getElem? (i := 9) rfl))) Via.refl e0 F_sides_ob0 (g := (mkF m 4 #[.val (.ref ob0), .val (.int p1)] [(.ref ob0), (.int (p1 - (1 : Int32)))])) rfl rfl (hb hby d3_4)
  obtain ⟨fs, hr, hrun, hended, hW, hsame⟩ := X1.leave (v := some (.int (((p1 - (1 : Int32)) % w_ob0_sides) + (1 : Int32)))) (fun h => by rw [Bd.returns] at h; cases h) (BodyLoose.notSynchronized Bd)
  refine ⟨_, _, pre0 _ ?_, hrun, hended, _, _, rfl, ?_, ⟨_, rfl⟩, hW, hsame.mono (by decide) (by decide)⟩
  · show Steps p.tables e below (s₁.setTop (mkF m 0 #[.val (.ref ob0), .val (.int p1)] [])) _
    refine XS.iloadN X0.here hx rfl (hb hby d3_0) rfl ?_
    show Steps p.tables e below (s₁.setTop (mkF m 1 #[.val (.ref ob0), .val (.int p1)] [(.int p1)])) _
    refine XS.iconst X0.here hx rfl (hb hby d3_1) ?_
    show Steps p.tables e below (s₁.setTop (mkF m 2 #[.val (.ref ob0), .val (.int p1)] [(.int (1 : Int32)), (.int p1)])) _
    refine XS.isub X0.here hx rfl (hb hby d3_2) rfl ?_
    show Steps p.tables e below (s₁.setTop (mkF m 3 #[.val (.ref ob0), .val (.int p1)] [(.int (p1 - (1 : Int32)))])) _
    refine XS.aloadN X0.here hx rfl (hb hby d3_3) rfl rfl ?_
    show Steps p.tables e below (s₁.setTop (mkF m 4 #[.val (.ref ob0), .val (.int p1)] [(.ref ob0), (.int (p1 - (1 : Int32)))])) _
    refine st1 _ ?_
    show Steps p.tables e below (T1.setTop (mkF m 7 #[.val (.ref ob0), .val (.int p1)] [(.int w_ob0_sides), (.int (p1 - (1 : Int32)))])) _
    refine iremM X1 hx rfl (hb hby d3_7) rfl hnz ?_
    show Steps p.tables e below (T1.setTop (mkF m 8 #[.val (.ref ob0), .val (.int p1)] [(.int ((p1 - (1 : Int32)) % w_ob0_sides))])) _
    refine XS.iconst X1.here hx rfl (hb hby d3_8) ?_
    show Steps p.tables e below (T1.setTop (mkF m 9 #[.val (.ref ob0), .val (.int p1)] [(.int (1 : Int32)), (.int ((p1 - (1 : Int32)) % w_ob0_sides))])) _
    refine XS.iadd X1.here hx rfl (hb hby d3_9) rfl ?_
    show Steps p.tables e below (T1.setTop (mkF m 10 #[.val (.ref ob0), .val (.int p1)] [(.int (((p1 - (1 : Int32)) % w_ob0_sides) + (1 : Int32)))])) _
    exact retOut X1 hx Bd.returns rfl (Or.inl ⟨rfl, Or.inl rfl, _, rfl⟩) (hb hby d3_10) hr
  · show Q3 Z ob0 p1 w_ob0_sides h0 n0 _ T1.heap _
    rw [e1]
    exact ⟨rfl, N0, rfl⟩
theorem pd_2 : parseMethodDescriptor "(I)I" = some ⟨[.int], some .int⟩ := by decide +kernel
theorem pn_0 : plainName "com/example/pegrun/pegrun/rules/SeatingPartnershipsPinLaw" = true := by first | (simp [plainName, overriddenIn]; done) | decide +kernel
theorem ef_0 (m : MethodId) (p0 : Int32) (p1 : Int32) : entryFrame m #[(.int p0), (.int p1)] maxLocals = mkF m 0 #[.val (.int p0), .val (.int p1), .unset, .unset, .unset, .unset, .unset, .unset] [] := by first | (simp [entryFrame, mkF, argsToLocals, Value.category, maxLocals]; done) | rfl
def Q0 (Z : State) (p0 : Int32) (p1 : Int32) (w_TWO : Addr) (w_THREE : Addr) (w_FOUR : Addr) (h0 : Heap) (n0 : Nat) (v : Option Value) (h : Heap) (L : List Loc) : Prop := v = some (.int 1) ∧ Fr n0 L
set_option maxRecDepth 65536 in
set_option maxHeartbeats 40000000 in
theorem rm0 (l : Launch) (Z : State) (a0 : Array Value) (hw : ∀ d ∈ tables_1, d.before a0 Z = true) (ws : List Jvm.Cond) (p0 : Int32) (p1 : Int32) (w_TWO : Addr) (w_THREE : Addr) (w_FOUR : Addr) (h0 : Heap) (n0 : Nat) (Z0 : n0 ≤ h0.size) (S_TWO : Sta Z h0 "com/example/pegrun/pegrun/rules/Seating" "TWO" "Lcom/example/pegrun/pegrun/rules/Seating;" (.ref w_TWO)) (E_TWO : Exa Z h0 w_TWO "com/example/pegrun/pegrun/rules/Seating") (F_sides_TWO : Fld Z h0 w_TWO "com/example/pegrun/pegrun/rules/Seating" "sides" "I" (.int (2 : Int32))) (F_seats_TWO : Fld Z h0 w_TWO "com/example/pegrun/pegrun/rules/Seating" "seats" "I" (.int (2 : Int32))) (S_THREE : Sta Z h0 "com/example/pegrun/pegrun/rules/Seating" "THREE" "Lcom/example/pegrun/pegrun/rules/Seating;" (.ref w_THREE)) (E_THREE : Exa Z h0 w_THREE "com/example/pegrun/pegrun/rules/Seating") (F_sides_THREE : Fld Z h0 w_THREE "com/example/pegrun/pegrun/rules/Seating" "sides" "I" (.int (3 : Int32))) (F_seats_THREE : Fld Z h0 w_THREE "com/example/pegrun/pegrun/rules/Seating" "seats" "I" (.int (3 : Int32))) (S_FOUR : Sta Z h0 "com/example/pegrun/pegrun/rules/Seating" "FOUR" "Lcom/example/pegrun/pegrun/rules/Seating;" (.ref w_FOUR)) (E_FOUR : Exa Z h0 w_FOUR "com/example/pegrun/pegrun/rules/Seating") (F_sides_FOUR : Fld Z h0 w_FOUR "com/example/pegrun/pegrun/rules/Seating" "sides" "I" (.int (2 : Int32))) (F_seats_FOUR : Fld Z h0 w_FOUR "com/example/pegrun/pegrun/rules/Seating" "seats" "I" (.int (4 : Int32))) :
    MetFree l x (head1 (Jvm.Cond.code x code maxLocals ret :: ws) room_1) (fun a U => a = #[(.int p0), (.int p1)] ∧ Z.Warmed39 U.vm ∧ U.heap = h0) (fun _ _ _ _ _ => True) (fun _ U o U' => ∃ v L, o = .returned v ∧ Q0 Z p0 p1 w_TWO w_THREE w_FOUR h0 n0 v U'.heap L ∧ FrameEnd U o U' L room_1.cells room_1.slots) := by
  refine MetFree.of_bodySF (plainFor_of_name pn_0) hisR ?_
  intro p e s m args below meth c s₁ Bd hml0 hP hK
  obtain ⟨rfl, hZ, hh⟩ := hP
  have hx := Bd.exec
  have hby := Bd.bytes
  have hml : c.maxLocals = 8 := hml0
  have hown : s.vm.findClass "com/example/pegrun/pegrun/rules/SeatingPartnershipsPinLaw" = some m.cls := findClass_of_methodNamed Bd.named
  have hnm := (name_of_methodNamed Bd.named Bd.method).1
  have X0 : Stand p l e room_1 s m #[(.int p0), (.int p1)] below meth c s₁ [] 0 0 := Stand.of_body Bd
  have e0 : s₁.heap = h0 := by rw [← hh, Bd.state]; rfl
  have N0 := Fr.nil n0
  have pre0 : ∀ t, Steps p.tables e below (s₁.setTop (mkF m 0 #[.val (.int p0), .val (.int p1), .unset, .unset, .unset, .unset, .unset, .unset] [])) t → Steps p.tables e below (s₁.setTop (entryFrame m #[(.int p0), (.int p1)] maxLocals)) t := fun t k => castTop (ef_0 m p0 p1) k
  have pre1 : ∀ t, Steps p.tables e below (s₁.setTop (mkF m 8 #[.val (.int p0), .val (.int p1), .val (.int ((p0 &&& (2147483647 : Int32)) % (3 : Int32))), .unset, .unset, .unset, .unset, .unset] [(.int ((p0 &&& (2147483647 : Int32)) % (3 : Int32)))])) t → Steps p.tables e below (s₁.setTop (entryFrame m #[(.int p0), (.int p1)] maxLocals)) t := fun t k => by
    refine pre0 t ?_
    show Steps p.tables e below (s₁.setTop (mkF m 0 #[.val (.int p0), .val (.int p1), .unset, .unset, .unset, .unset, .unset, .unset] [])) _
    refine XS.iloadN X0.here hx rfl (hb hby at_0) rfl ?_
    show Steps p.tables e below (s₁.setTop (mkF m 1 #[.val (.int p0), .val (.int p1), .unset, .unset, .unset, .unset, .unset, .unset] [(.int p0)])) _
    refine X0.ldcInt hx hown (mvT hZ (hw _ (List.mem_of_getElem? (i := 0) rfl))) (g := (mkF m 1 #[.val (.int p0), .val (.int p1), .unset, .unset, .unset, .unset, .unset, .unset] [(.int p0)])) rfl (hb hby at_1) _ ?_
    show Steps p.tables e below (s₁.setTop (mkF m 3 #[.val (.int p0), .val (.int p1), .unset, .unset, .unset, .unset, .unset, .unset] [(.int (2147483647 : Int32)), (.int p0)])) _
    refine XS.iand X0.here hx rfl (hb hby at_3) rfl ?_
    show Steps p.tables e below (s₁.setTop (mkF m 4 #[.val (.int p0), .val (.int p1), .unset, .unset, .unset, .unset, .unset, .unset] [(.int (p0 &&& (2147483647 : Int32)))])) _
    refine XS.iconst X0.here hx rfl (hb hby at_4) ?_
    show Steps p.tables e below (s₁.setTop (mkF m 5 #[.val (.int p0), .val (.int p1), .unset, .unset, .unset, .unset, .unset, .unset] [(.int (3 : Int32)), (.int (p0 &&& (2147483647 : Int32)))])) _
    refine iremM X0 hx rfl (hb hby at_5) rfl (by decide) ?_
    show Steps p.tables e below (s₁.setTop (mkF m 6 #[.val (.int p0), .val (.int p1), .unset, .unset, .unset, .unset, .unset, .unset] [(.int ((p0 &&& (2147483647 : Int32)) % (3 : Int32)))])) _
    refine XS.istoreN X0.here hx rfl (hb hby at_6) rfl (l' := #[.val (.int p0), .val (.int p1), .val (.int ((p0 &&& (2147483647 : Int32)) % (3 : Int32))), .unset, .unset, .unset, .unset, .unset]) rfl ?_
    show Steps p.tables e below (s₁.setTop (mkF m 7 #[.val (.int p0), .val (.int p1), .val (.int ((p0 &&& (2147483647 : Int32)) % (3 : Int32))), .unset, .unset, .unset, .unset, .unset] [])) _
    refine XS.iloadN X0.here hx rfl (hb hby at_7) rfl ?_
    exact k
  by_cases hc8 : ((p0 &&& (2147483647 : Int32)) % (3 : Int32)) = (0 : Int32)
  · obtain ⟨T2, X2, e2, st2⟩ := getS2 X0 hx hZ hown (host := "") (Or.inl (hw _ (List.mem_of_getElem? (i := 1) rfl))) Via.refl e0 S_TWO (g := (mkF m 11 #[.val (.int p0), .val (.int p1), .val (.int ((p0 &&& (2147483647 : Int32)) % (3 : Int32))), .unset, .unset, .unset, .unset, .unset] [])) rfl (hb hby at_11)
    have hc36 : ¬ (((p0 &&& (2147483647 : Int32)) % (3 : Int32)) = (2 : Int32)) := by rw [hc8]; decide
    obtain ⟨cq3, kq3, q3a, q3b, q3c⟩ := isOf hZ e2 E_TWO
    obtain ⟨_, _, ⟨T3, L3, k3, n3⟩, -, X3, ⟨Lc3, hQ3, l3, y3, z3⟩, st3⟩ := X2.virtualBack hx (y := (⟨"com/example/pegrun/pegrun/rules/Seating", "partnerships", "()Z"⟩ : MethodName)) (z := (⟨"com/example/pegrun/pegrun/rules/Seating", "partnerships", "()Z"⟩ : MethodName)) hown (mvT hZ (hw _ (List.mem_of_getElem? (i := 4) rfl))) (mvT hZ (hw _ (List.mem_of_getElem? (i := 5) rfl))) (notFace_of_selects (args := #[]) (mvT hZ (hw _ (List.mem_of_getElem? (i := 7) rfl)))) (mvT hZ (hw _ (List.mem_of_getElem? (i := 7) rfl))) (mvT hZ (hw _ (List.mem_of_getElem? (i := 6) rfl))) (by decide) (backOf (W := 0) (rm1 l Z a0 hw [] w_TWO (2 : Int32) (2 : Int32) h0 n0 Z0 F_sides_TWO F_seats_TWO) hZ (hw _ (List.mem_of_getElem? (i := 8) rfl)) (hw _ (List.mem_of_getElem? (i := 2) rfl)) (by decide) (by decide)) q3a q3c (g := (mkF m 47 #[.val (.int p0), .val (.int p1), .val (.int ((p0 &&& (2147483647 : Int32)) % (3 : Int32))), .val (.ref w_TWO), .val (.int (0 : Int32)), .unset, .unset, .unset] [(.ref w_TWO)])) rfl (by rw [hml]; rfl) (Steps.refl _) (argsL := []) (rest := []) (lenOf pd_0 rfl) rfl (by show 2 * 0 + _ ≤ _; exact Nat.le_of_eq rfl) (hb hby at_47) (fun _ _ => ⟨rfl, e2, (by decide : 0 + 0 ≤ _), (by decide : 0 + 0 ≤ _)⟩)
    dsimp only [Pt.U, Pt.locs, Pt.cells, Pt.slots] at X3 l3 y3 z3 st3 hQ3
    subst l3 y3 z3
    obtain ⟨rfl, N3q, e3⟩ := hQ3
    have N3 := Fr.app N0 N3q
    have hc56 : (F1 (2 : Int32) (2 : Int32)) = (0 : Int32) := by decide
    obtain ⟨cq4, kq4, q4a, q4b, q4c⟩ := isOf hZ e3 E_TWO
    obtain ⟨_, _, ⟨T4, L4, k4, n4⟩, -, X4, ⟨Lc4, hQ4, l4, y4, z4⟩, st4⟩ := X3.virtualBack hx (y := (⟨"com/example/pegrun/pegrun/rules/Seating", "seats", "()I"⟩ : MethodName)) (z := (⟨"com/example/pegrun/pegrun/rules/Seating", "seats", "()I"⟩ : MethodName)) hown (mvT hZ (hw _ (List.mem_of_getElem? (i := 13) rfl))) (mvT hZ (hw _ (List.mem_of_getElem? (i := 14) rfl))) (notFace_of_selects (args := #[]) (mvT hZ (hw _ (List.mem_of_getElem? (i := 16) rfl)))) (mvT hZ (hw _ (List.mem_of_getElem? (i := 16) rfl))) (mvT hZ (hw _ (List.mem_of_getElem? (i := 15) rfl))) (by decide) (backOf (W := 0) (rm2 l Z a0 hw [] w_TWO (2 : Int32) h0 n0 Z0 F_seats_TWO) hZ (hw _ (List.mem_of_getElem? (i := 17) rfl)) (hw _ (List.mem_of_getElem? (i := 2) rfl)) (by decide) (by decide)) q4a q4c (g := (mkF m 62 #[.val (.int p0), .val (.int p1), .val (.int ((p0 &&& (2147483647 : Int32)) % (3 : Int32))), .val (.ref w_TWO), .val (.int (0 : Int32)), .val (.int (F1 (2 : Int32) (2 : Int32))), .unset, .unset] [(.ref w_TWO)])) rfl (by rw [hml]; rfl) (Steps.refl _) (argsL := []) (rest := []) (lenOf pd_1 rfl) rfl (by show 2 * 0 + _ ≤ _; exact Nat.le_of_eq rfl) (hb hby at_62) (fun _ _ => ⟨rfl, e3, (by decide : 0 + 0 ≤ _), (by decide : 0 + 0 ≤ _)⟩)
    dsimp only [Pt.U, Pt.locs, Pt.cells, Pt.slots] at X4 l4 y4 z4 st4 hQ4
    subst l4 y4 z4
    obtain ⟨rfl, N4q, e4⟩ := hQ4
    have N4 := Fr.app N3 N4q
    have hp5 : (2 : Int32) ≠ 0 := by decide
    obtain ⟨cq6, kq6, q6a, q6b, q6c⟩ := isOf hZ e4 E_TWO
    obtain ⟨_, _, ⟨T6, L6, k6, n6⟩, -, X6, ⟨Lc6, hQ6, l6, y6, z6⟩, st6⟩ := X4.virtualBack hx (y := (⟨"com/example/pegrun/pegrun/rules/Seating", "side", "(I)I"⟩ : MethodName)) (z := (⟨"com/example/pegrun/pegrun/rules/Seating", "side", "(I)I"⟩ : MethodName)) hown (mvT hZ (hw _ (List.mem_of_getElem? (i := 18) rfl))) (mvT hZ (hw _ (List.mem_of_getElem? (i := 19) rfl))) (notFace_of_selects (args := #[]) (mvT hZ (hw _ (List.mem_of_getElem? (i := 21) rfl)))) (mvT hZ (hw _ (List.mem_of_getElem? (i := 21) rfl))) (mvT hZ (hw _ (List.mem_of_getElem? (i := 20) rfl))) (by decide) (backOf (W := 0) (rm3 l Z a0 hw [] w_TWO (((p1 &&& (2147483647 : Int32)) % (2 : Int32)) + (1 : Int32)) (2 : Int32) h0 n0 Z0 F_sides_TWO hp5) hZ (hw _ (List.mem_of_getElem? (i := 22) rfl)) (hw _ (List.mem_of_getElem? (i := 2) rfl)) (by decide) (by decide)) q6a q6c (g := (mkF m 86 #[.val (.int p0), .val (.int p1), .val (.int ((p0 &&& (2147483647 : Int32)) % (3 : Int32))), .val (.ref w_TWO), .val (.int (0 : Int32)), .val (.int (F1 (2 : Int32) (2 : Int32))), .val (.int (2 : Int32)), .val (.int (((p1 &&& (2147483647 : Int32)) % (2 : Int32)) + (1 : Int32)))] [(.int (((p1 &&& (2147483647 : Int32)) % (2 : Int32)) + (1 : Int32))), (.ref w_TWO)])) rfl (by rw [hml]; rfl) (Steps.refl _) (argsL := [(.int (((p1 &&& (2147483647 : Int32)) % (2 : Int32)) + (1 : Int32)))]) (rest := []) (lenOf pd_2 rfl) rfl (by show 2 * 0 + _ ≤ _; exact Nat.le_of_eq rfl) (hb hby at_86) (fun _ _ => ⟨rfl, e4, (by decide : 0 + 0 ≤ _), (by decide : 0 + 0 ≤ _)⟩)
    dsimp only [Pt.U, Pt.locs, Pt.cells, Pt.slots] at X6 l6 y6 z6 st6 hQ6
    subst l6 y6 z6
    obtain ⟨rfl, N6q, e6⟩ := hQ6
    have N6 := Fr.app N4 N6q
    have hc91 : ((((((p1 &&& (2147483647 : Int32)) % (2 : Int32)) + (1 : Int32)) - (1 : Int32)) % (2 : Int32)) + (1 : Int32)) = (((p1 &&& (2147483647 : Int32)) % (2 : Int32)) + (1 : Int32)) := own_side _ _
    have hp7 : (2 : Int32) ≠ 0 := by decide
    obtain ⟨cq8, kq8, q8a, q8b, q8c⟩ := isOf hZ e6 E_TWO
    obtain ⟨_, _, ⟨T8, L8, k8, n8⟩, -, X8, ⟨Lc8, hQ8, l8, y8, z8⟩, st8⟩ := X6.virtualBack hx (y := (⟨"com/example/pegrun/pegrun/rules/Seating", "side", "(I)I"⟩ : MethodName)) (z := (⟨"com/example/pegrun/pegrun/rules/Seating", "side", "(I)I"⟩ : MethodName)) hown (mvT hZ (hw _ (List.mem_of_getElem? (i := 18) rfl))) (mvT hZ (hw _ (List.mem_of_getElem? (i := 19) rfl))) (notFace_of_selects (args := #[]) (mvT hZ (hw _ (List.mem_of_getElem? (i := 21) rfl)))) (mvT hZ (hw _ (List.mem_of_getElem? (i := 21) rfl))) (mvT hZ (hw _ (List.mem_of_getElem? (i := 20) rfl))) (by decide) (backOf (W := 1) (rm3 l Z a0 hw [] w_TWO (2 : Int32) (2 : Int32) h0 n0 Z0 F_sides_TWO hp7) hZ (hw _ (List.mem_of_getElem? (i := 22) rfl)) (hw _ (List.mem_of_getElem? (i := 2) rfl)) (by decide) (by decide)) q8a q8c (g := (mkF m 101 #[.val (.int p0), .val (.int p1), .val (.int ((p0 &&& (2147483647 : Int32)) % (3 : Int32))), .val (.ref w_TWO), .val (.int (0 : Int32)), .val (.int (F1 (2 : Int32) (2 : Int32))), .val (.int (2 : Int32)), .val (.int (((p1 &&& (2147483647 : Int32)) % (2 : Int32)) + (1 : Int32)))] [(.int (2 : Int32)), (.ref w_TWO), (.int (F1 (2 : Int32) (2 : Int32)))])) rfl (by rw [hml]; rfl) (Steps.refl _) (argsL := [(.int (2 : Int32))]) (rest := [(.int (F1 (2 : Int32) (2 : Int32)))]) (lenOf pd_2 rfl) rfl (by show 2 * 0 + _ ≤ _; exact Nat.le_of_eq rfl) (hb hby at_101) (fun _ _ => ⟨rfl, e6, (by decide : 0 + 0 ≤ _), (by decide : 0 + 0 ≤ _)⟩)
    dsimp only [Pt.U, Pt.locs, Pt.cells, Pt.slots] at X8 l8 y8 z8 st8 hQ8
    subst l8 y8 z8
    obtain ⟨rfl, N8q, e8⟩ := hQ8
    have N8 := Fr.app N6 N8q
    have hc106 : ((((2 : Int32) - (1 : Int32)) % (2 : Int32)) + (1 : Int32)) = (2 : Int32) := by decide
    obtain ⟨fs, hr, hrun, hended, hW, hsame⟩ := X8.leave (v := some (.int (1 : Int32))) (fun h => by rw [Bd.returns] at h; cases h) (BodyLoose.notSynchronized Bd)
    refine ⟨_, _, pre1 _ ?_, hrun, hended, _, _, rfl, ?_, ⟨_, rfl⟩, hW, hsame.mono (by decide) (by decide)⟩
    · show Steps p.tables e below (s₁.setTop (mkF m 8 #[.val (.int p0), .val (.int p1), .val (.int ((p0 &&& (2147483647 : Int32)) % (3 : Int32))), .unset, .unset, .unset, .unset, .unset] [(.int ((p0 &&& (2147483647 : Int32)) % (3 : Int32)))])) _
      refine XS.ifNo X0.here hx rfl (hb hby at_8) rfl ((if0 _ _).trans (teq hc8).2) ?_
      show Steps p.tables e below (s₁.setTop (mkF m 11 #[.val (.int p0), .val (.int p1), .val (.int ((p0 &&& (2147483647 : Int32)) % (3 : Int32))), .unset, .unset, .unset, .unset, .unset] [])) _
      refine st2 _ ?_
      show Steps p.tables e below (T2.setTop (mkF m 14 #[.val (.int p0), .val (.int p1), .val (.int ((p0 &&& (2147483647 : Int32)) % (3 : Int32))), .unset, .unset, .unset, .unset, .unset] [(.ref w_TWO)])) _
      refine XS.astoreN X2.here hx rfl (hb hby at_14) rfl rfl (l' := #[.val (.int p0), .val (.int p1), .val (.int ((p0 &&& (2147483647 : Int32)) % (3 : Int32))), .val (.ref w_TWO), .unset, .unset, .unset, .unset]) rfl ?_
      show Steps p.tables e below (T2.setTop (mkF m 15 #[.val (.int p0), .val (.int p1), .val (.int ((p0 &&& (2147483647 : Int32)) % (3 : Int32))), .val (.ref w_TWO), .unset, .unset, .unset, .unset] [])) _
      refine XS.goto X2.here hx rfl (pc0 := 15) (pc' := 34) rfl (hb hby at_15) (by decide) (by decide) ?_
      show Steps p.tables e below (T2.setTop (mkF m 34 #[.val (.int p0), .val (.int p1), .val (.int ((p0 &&& (2147483647 : Int32)) % (3 : Int32))), .val (.ref w_TWO), .unset, .unset, .unset, .unset] [])) _
      refine XS.iloadN X2.here hx rfl (hb hby at_34) rfl ?_
      show Steps p.tables e below (T2.setTop (mkF m 35 #[.val (.int p0), .val (.int p1), .val (.int ((p0 &&& (2147483647 : Int32)) % (3 : Int32))), .val (.ref w_TWO), .unset, .unset, .unset, .unset] [(.int ((p0 &&& (2147483647 : Int32)) % (3 : Int32)))])) _
      refine XS.iconst X2.here hx rfl (hb hby at_35) ?_
      show Steps p.tables e below (T2.setTop (mkF m 36 #[.val (.int p0), .val (.int p1), .val (.int ((p0 &&& (2147483647 : Int32)) % (3 : Int32))), .val (.ref w_TWO), .unset, .unset, .unset, .unset] [(.int (2 : Int32)), (.int ((p0 &&& (2147483647 : Int32)) % (3 : Int32)))])) _
      refine XS.icmpYes X2.here hx rfl (pc0 := 36) (pc' := 43) rfl (hb hby at_36) rfl (feq hc36).2 (by decide) (by decide) ?_
      show Steps p.tables e below (T2.setTop (mkF m 43 #[.val (.int p0), .val (.int p1), .val (.int ((p0 &&& (2147483647 : Int32)) % (3 : Int32))), .val (.ref w_TWO), .unset, .unset, .unset, .unset] [])) _
      refine XS.iconst X2.here hx rfl (hb hby at_43) ?_
      show Steps p.tables e below (T2.setTop (mkF m 44 #[.val (.int p0), .val (.int p1), .val (.int ((p0 &&& (2147483647 : Int32)) % (3 : Int32))), .val (.ref w_TWO), .unset, .unset, .unset, .unset] [(.int (0 : Int32))])) _
      refine XS.istore X2.here hx rfl (hb hby at_44) rfl (l' := #[.val (.int p0), .val (.int p1), .val (.int ((p0 &&& (2147483647 : Int32)) % (3 : Int32))), .val (.ref w_TWO), .val (.int (0 : Int32)), .unset, .unset, .unset]) rfl ?_
      show Steps p.tables e below (T2.setTop (mkF m 46 #[.val (.int p0), .val (.int p1), .val (.int ((p0 &&& (2147483647 : Int32)) % (3 : Int32))), .val (.ref w_TWO), .val (.int (0 : Int32)), .unset, .unset, .unset] [])) _
      refine XS.aloadN X2.here hx rfl (hb hby at_46) rfl rfl ?_
      show Steps p.tables e below (T2.setTop (mkF m 47 #[.val (.int p0), .val (.int p1), .val (.int ((p0 &&& (2147483647 : Int32)) % (3 : Int32))), .val (.ref w_TWO), .val (.int (0 : Int32)), .unset, .unset, .unset] [(.ref w_TWO)])) _
      refine st3.trans ?_
      show Steps p.tables e below (T3.setTop (mkF m 50 #[.val (.int p0), .val (.int p1), .val (.int ((p0 &&& (2147483647 : Int32)) % (3 : Int32))), .val (.ref w_TWO), .val (.int (0 : Int32)), .unset, .unset, .unset] [(.int (F1 (2 : Int32) (2 : Int32)))])) _
      refine XS.istore X3.here hx rfl (hb hby at_50) rfl (l' := #[.val (.int p0), .val (.int p1), .val (.int ((p0 &&& (2147483647 : Int32)) % (3 : Int32))), .val (.ref w_TWO), .val (.int (0 : Int32)), .val (.int (F1 (2 : Int32) (2 : Int32))), .unset, .unset]) rfl ?_
      show Steps p.tables e below (T3.setTop (mkF m 52 #[.val (.int p0), .val (.int p1), .val (.int ((p0 &&& (2147483647 : Int32)) % (3 : Int32))), .val (.ref w_TWO), .val (.int (0 : Int32)), .val (.int (F1 (2 : Int32) (2 : Int32))), .unset, .unset] [])) _
      refine XS.iload X3.here hx rfl (hb hby at_52) rfl ?_
      show Steps p.tables e below (T3.setTop (mkF m 54 #[.val (.int p0), .val (.int p1), .val (.int ((p0 &&& (2147483647 : Int32)) % (3 : Int32))), .val (.ref w_TWO), .val (.int (0 : Int32)), .val (.int (F1 (2 : Int32) (2 : Int32))), .unset, .unset] [(.int (F1 (2 : Int32) (2 : Int32)))])) _
      refine XS.iload X3.here hx rfl (hb hby at_54) rfl ?_
      show Steps p.tables e below (T3.setTop (mkF m 56 #[.val (.int p0), .val (.int p1), .val (.int ((p0 &&& (2147483647 : Int32)) % (3 : Int32))), .val (.ref w_TWO), .val (.int (0 : Int32)), .val (.int (F1 (2 : Int32) (2 : Int32))), .unset, .unset] [(.int (0 : Int32)), (.int (F1 (2 : Int32) (2 : Int32)))])) _
      refine XS.icmpYes X3.here hx rfl (pc0 := 56) (pc' := 61) rfl (hb hby at_56) rfl (teq hc56).1 (by decide) (by decide) ?_
      show Steps p.tables e below (T3.setTop (mkF m 61 #[.val (.int p0), .val (.int p1), .val (.int ((p0 &&& (2147483647 : Int32)) % (3 : Int32))), .val (.ref w_TWO), .val (.int (0 : Int32)), .val (.int (F1 (2 : Int32) (2 : Int32))), .unset, .unset] [])) _
      refine XS.aloadN X3.here hx rfl (hb hby at_61) rfl rfl ?_
      show Steps p.tables e below (T3.setTop (mkF m 62 #[.val (.int p0), .val (.int p1), .val (.int ((p0 &&& (2147483647 : Int32)) % (3 : Int32))), .val (.ref w_TWO), .val (.int (0 : Int32)), .val (.int (F1 (2 : Int32) (2 : Int32))), .unset, .unset] [(.ref w_TWO)])) _
      refine st4.trans ?_
      show Steps p.tables e below (T4.setTop (mkF m 65 #[.val (.int p0), .val (.int p1), .val (.int ((p0 &&& (2147483647 : Int32)) % (3 : Int32))), .val (.ref w_TWO), .val (.int (0 : Int32)), .val (.int (F1 (2 : Int32) (2 : Int32))), .unset, .unset] [(.int (2 : Int32))])) _
      refine XS.istore X4.here hx rfl (hb hby at_65) rfl (l' := #[.val (.int p0), .val (.int p1), .val (.int ((p0 &&& (2147483647 : Int32)) % (3 : Int32))), .val (.ref w_TWO), .val (.int (0 : Int32)), .val (.int (F1 (2 : Int32) (2 : Int32))), .val (.int (2 : Int32)), .unset]) rfl ?_
      show Steps p.tables e below (T4.setTop (mkF m 67 #[.val (.int p0), .val (.int p1), .val (.int ((p0 &&& (2147483647 : Int32)) % (3 : Int32))), .val (.ref w_TWO), .val (.int (0 : Int32)), .val (.int (F1 (2 : Int32) (2 : Int32))), .val (.int (2 : Int32)), .unset] [])) _
      refine XS.iloadN X4.here hx rfl (hb hby at_67) rfl ?_
      show Steps p.tables e below (T4.setTop (mkF m 68 #[.val (.int p0), .val (.int p1), .val (.int ((p0 &&& (2147483647 : Int32)) % (3 : Int32))), .val (.ref w_TWO), .val (.int (0 : Int32)), .val (.int (F1 (2 : Int32) (2 : Int32))), .val (.int (2 : Int32)), .unset] [(.int p1)])) _
      refine X4.ldcInt hx hown (mvT hZ (hw _ (List.mem_of_getElem? (i := 0) rfl))) (g := (mkF m 68 #[.val (.int p0), .val (.int p1), .val (.int ((p0 &&& (2147483647 : Int32)) % (3 : Int32))), .val (.ref w_TWO), .val (.int (0 : Int32)), .val (.int (F1 (2 : Int32) (2 : Int32))), .val (.int (2 : Int32)), .unset] [(.int p1)])) rfl (hb hby at_68) _ ?_
      show Steps p.tables e below (T4.setTop (mkF m 70 #[.val (.int p0), .val (.int p1), .val (.int ((p0 &&& (2147483647 : Int32)) % (3 : Int32))), .val (.ref w_TWO), .val (.int (0 : Int32)), .val (.int (F1 (2 : Int32) (2 : Int32))), .val (.int (2 : Int32)), .unset] [(.int (2147483647 : Int32)), (.int p1)])) _
      refine XS.iand X4.here hx rfl (hb hby at_70) rfl ?_
      show Steps p.tables e below (T4.setTop (mkF m 71 #[.val (.int p0), .val (.int p1), .val (.int ((p0 &&& (2147483647 : Int32)) % (3 : Int32))), .val (.ref w_TWO), .val (.int (0 : Int32)), .val (.int (F1 (2 : Int32) (2 : Int32))), .val (.int (2 : Int32)), .unset] [(.int (p1 &&& (2147483647 : Int32)))])) _
      refine XS.iload X4.here hx rfl (hb hby at_71) rfl ?_
      show Steps p.tables e below (T4.setTop (mkF m 73 #[.val (.int p0), .val (.int p1), .val (.int ((p0 &&& (2147483647 : Int32)) % (3 : Int32))), .val (.ref w_TWO), .val (.int (0 : Int32)), .val (.int (F1 (2 : Int32) (2 : Int32))), .val (.int (2 : Int32)), .unset] [(.int (2 : Int32)), (.int (p1 &&& (2147483647 : Int32)))])) _
      refine iremM X4 hx rfl (hb hby at_73) rfl (by decide) ?_
      show Steps p.tables e below (T4.setTop (mkF m 74 #[.val (.int p0), .val (.int p1), .val (.int ((p0 &&& (2147483647 : Int32)) % (3 : Int32))), .val (.ref w_TWO), .val (.int (0 : Int32)), .val (.int (F1 (2 : Int32) (2 : Int32))), .val (.int (2 : Int32)), .unset] [(.int ((p1 &&& (2147483647 : Int32)) % (2 : Int32)))])) _
      refine XS.iconst X4.here hx rfl (hb hby at_74) ?_
      show Steps p.tables e below (T4.setTop (mkF m 75 #[.val (.int p0), .val (.int p1), .val (.int ((p0 &&& (2147483647 : Int32)) % (3 : Int32))), .val (.ref w_TWO), .val (.int (0 : Int32)), .val (.int (F1 (2 : Int32) (2 : Int32))), .val (.int (2 : Int32)), .unset] [(.int (1 : Int32)), (.int ((p1 &&& (2147483647 : Int32)) % (2 : Int32)))])) _
      refine XS.iadd X4.here hx rfl (hb hby at_75) rfl ?_
      show Steps p.tables e below (T4.setTop (mkF m 76 #[.val (.int p0), .val (.int p1), .val (.int ((p0 &&& (2147483647 : Int32)) % (3 : Int32))), .val (.ref w_TWO), .val (.int (0 : Int32)), .val (.int (F1 (2 : Int32) (2 : Int32))), .val (.int (2 : Int32)), .unset] [(.int (((p1 &&& (2147483647 : Int32)) % (2 : Int32)) + (1 : Int32)))])) _
      refine XS.istore X4.here hx rfl (hb hby at_76) rfl (l' := #[.val (.int p0), .val (.int p1), .val (.int ((p0 &&& (2147483647 : Int32)) % (3 : Int32))), .val (.ref w_TWO), .val (.int (0 : Int32)), .val (.int (F1 (2 : Int32) (2 : Int32))), .val (.int (2 : Int32)), .val (.int (((p1 &&& (2147483647 : Int32)) % (2 : Int32)) + (1 : Int32)))]) rfl ?_
      show Steps p.tables e below (T4.setTop (mkF m 78 #[.val (.int p0), .val (.int p1), .val (.int ((p0 &&& (2147483647 : Int32)) % (3 : Int32))), .val (.ref w_TWO), .val (.int (0 : Int32)), .val (.int (F1 (2 : Int32) (2 : Int32))), .val (.int (2 : Int32)), .val (.int (((p1 &&& (2147483647 : Int32)) % (2 : Int32)) + (1 : Int32)))] [])) _
      refine XS.iload X4.here hx rfl (hb hby at_78) rfl ?_
      show Steps p.tables e below (T4.setTop (mkF m 80 #[.val (.int p0), .val (.int p1), .val (.int ((p0 &&& (2147483647 : Int32)) % (3 : Int32))), .val (.ref w_TWO), .val (.int (0 : Int32)), .val (.int (F1 (2 : Int32) (2 : Int32))), .val (.int (2 : Int32)), .val (.int (((p1 &&& (2147483647 : Int32)) % (2 : Int32)) + (1 : Int32)))] [(.int (F1 (2 : Int32) (2 : Int32)))])) _
      refine XS.ifNo X4.here hx rfl (hb hby at_80) rfl ((if0 _ _).trans (teq hc56).2) ?_
      show Steps p.tables e below (T4.setTop (mkF m 83 #[.val (.int p0), .val (.int p1), .val (.int ((p0 &&& (2147483647 : Int32)) % (3 : Int32))), .val (.ref w_TWO), .val (.int (0 : Int32)), .val (.int (F1 (2 : Int32) (2 : Int32))), .val (.int (2 : Int32)), .val (.int (((p1 &&& (2147483647 : Int32)) % (2 : Int32)) + (1 : Int32)))] [])) _
      refine XS.aloadN X4.here hx rfl (hb hby at_83) rfl rfl ?_
      show Steps p.tables e below (T4.setTop (mkF m 84 #[.val (.int p0), .val (.int p1), .val (.int ((p0 &&& (2147483647 : Int32)) % (3 : Int32))), .val (.ref w_TWO), .val (.int (0 : Int32)), .val (.int (F1 (2 : Int32) (2 : Int32))), .val (.int (2 : Int32)), .val (.int (((p1 &&& (2147483647 : Int32)) % (2 : Int32)) + (1 : Int32)))] [(.ref w_TWO)])) _
      refine XS.iload X4.here hx rfl (hb hby at_84) rfl ?_
      show Steps p.tables e below (T4.setTop (mkF m 86 #[.val (.int p0), .val (.int p1), .val (.int ((p0 &&& (2147483647 : Int32)) % (3 : Int32))), .val (.ref w_TWO), .val (.int (0 : Int32)), .val (.int (F1 (2 : Int32) (2 : Int32))), .val (.int (2 : Int32)), .val (.int (((p1 &&& (2147483647 : Int32)) % (2 : Int32)) + (1 : Int32)))] [(.int (((p1 &&& (2147483647 : Int32)) % (2 : Int32)) + (1 : Int32))), (.ref w_TWO)])) _
      refine st6.trans ?_
      show Steps p.tables e below (T6.setTop (mkF m 89 #[.val (.int p0), .val (.int p1), .val (.int ((p0 &&& (2147483647 : Int32)) % (3 : Int32))), .val (.ref w_TWO), .val (.int (0 : Int32)), .val (.int (F1 (2 : Int32) (2 : Int32))), .val (.int (2 : Int32)), .val (.int (((p1 &&& (2147483647 : Int32)) % (2 : Int32)) + (1 : Int32)))] [(.int ((((((p1 &&& (2147483647 : Int32)) % (2 : Int32)) + (1 : Int32)) - (1 : Int32)) % (2 : Int32)) + (1 : Int32)))])) _
      refine XS.iload X6.here hx rfl (hb hby at_89) rfl ?_
      show Steps p.tables e below (T6.setTop (mkF m 91 #[.val (.int p0), .val (.int p1), .val (.int ((p0 &&& (2147483647 : Int32)) % (3 : Int32))), .val (.ref w_TWO), .val (.int (0 : Int32)), .val (.int (F1 (2 : Int32) (2 : Int32))), .val (.int (2 : Int32)), .val (.int (((p1 &&& (2147483647 : Int32)) % (2 : Int32)) + (1 : Int32)))] [(.int (((p1 &&& (2147483647 : Int32)) % (2 : Int32)) + (1 : Int32))), (.int ((((((p1 &&& (2147483647 : Int32)) % (2 : Int32)) + (1 : Int32)) - (1 : Int32)) % (2 : Int32)) + (1 : Int32)))])) _
      refine XS.icmpYes X6.here hx rfl (pc0 := 91) (pc' := 96) rfl (hb hby at_91) rfl (teq hc91).1 (by decide) (by decide) ?_
      show Steps p.tables e below (T6.setTop (mkF m 96 #[.val (.int p0), .val (.int p1), .val (.int ((p0 &&& (2147483647 : Int32)) % (3 : Int32))), .val (.ref w_TWO), .val (.int (0 : Int32)), .val (.int (F1 (2 : Int32) (2 : Int32))), .val (.int (2 : Int32)), .val (.int (((p1 &&& (2147483647 : Int32)) % (2 : Int32)) + (1 : Int32)))] [])) _
      refine XS.iload X6.here hx rfl (hb hby at_96) rfl ?_
      show Steps p.tables e below (T6.setTop (mkF m 98 #[.val (.int p0), .val (.int p1), .val (.int ((p0 &&& (2147483647 : Int32)) % (3 : Int32))), .val (.ref w_TWO), .val (.int (0 : Int32)), .val (.int (F1 (2 : Int32) (2 : Int32))), .val (.int (2 : Int32)), .val (.int (((p1 &&& (2147483647 : Int32)) % (2 : Int32)) + (1 : Int32)))] [(.int (F1 (2 : Int32) (2 : Int32)))])) _
      refine XS.aloadN X6.here hx rfl (hb hby at_98) rfl rfl ?_
      show Steps p.tables e below (T6.setTop (mkF m 99 #[.val (.int p0), .val (.int p1), .val (.int ((p0 &&& (2147483647 : Int32)) % (3 : Int32))), .val (.ref w_TWO), .val (.int (0 : Int32)), .val (.int (F1 (2 : Int32) (2 : Int32))), .val (.int (2 : Int32)), .val (.int (((p1 &&& (2147483647 : Int32)) % (2 : Int32)) + (1 : Int32)))] [(.ref w_TWO), (.int (F1 (2 : Int32) (2 : Int32)))])) _
      refine XS.iload X6.here hx rfl (hb hby at_99) rfl ?_
      show Steps p.tables e below (T6.setTop (mkF m 101 #[.val (.int p0), .val (.int p1), .val (.int ((p0 &&& (2147483647 : Int32)) % (3 : Int32))), .val (.ref w_TWO), .val (.int (0 : Int32)), .val (.int (F1 (2 : Int32) (2 : Int32))), .val (.int (2 : Int32)), .val (.int (((p1 &&& (2147483647 : Int32)) % (2 : Int32)) + (1 : Int32)))] [(.int (2 : Int32)), (.ref w_TWO), (.int (F1 (2 : Int32) (2 : Int32)))])) _
      refine st8.trans ?_
      show Steps p.tables e below (T8.setTop (mkF m 104 #[.val (.int p0), .val (.int p1), .val (.int ((p0 &&& (2147483647 : Int32)) % (3 : Int32))), .val (.ref w_TWO), .val (.int (0 : Int32)), .val (.int (F1 (2 : Int32) (2 : Int32))), .val (.int (2 : Int32)), .val (.int (((p1 &&& (2147483647 : Int32)) % (2 : Int32)) + (1 : Int32)))] [(.int ((((2 : Int32) - (1 : Int32)) % (2 : Int32)) + (1 : Int32))), (.int (F1 (2 : Int32) (2 : Int32)))])) _
      refine XS.iload X8.here hx rfl (hb hby at_104) rfl ?_
      show Steps p.tables e below (T8.setTop (mkF m 106 #[.val (.int p0), .val (.int p1), .val (.int ((p0 &&& (2147483647 : Int32)) % (3 : Int32))), .val (.ref w_TWO), .val (.int (0 : Int32)), .val (.int (F1 (2 : Int32) (2 : Int32))), .val (.int (2 : Int32)), .val (.int (((p1 &&& (2147483647 : Int32)) % (2 : Int32)) + (1 : Int32)))] [(.int (2 : Int32)), (.int ((((2 : Int32) - (1 : Int32)) % (2 : Int32)) + (1 : Int32))), (.int (F1 (2 : Int32) (2 : Int32)))])) _
      refine XS.icmpYes X8.here hx rfl (pc0 := 106) (pc' := 113) rfl (hb hby at_106) rfl (teq hc106).1 (by decide) (by decide) ?_
      show Steps p.tables e below (T8.setTop (mkF m 113 #[.val (.int p0), .val (.int p1), .val (.int ((p0 &&& (2147483647 : Int32)) % (3 : Int32))), .val (.ref w_TWO), .val (.int (0 : Int32)), .val (.int (F1 (2 : Int32) (2 : Int32))), .val (.int (2 : Int32)), .val (.int (((p1 &&& (2147483647 : Int32)) % (2 : Int32)) + (1 : Int32)))] [(.int (F1 (2 : Int32) (2 : Int32)))])) _
      refine XS.iconst X8.here hx rfl (hb hby at_113) ?_
      show Steps p.tables e below (T8.setTop (mkF m 114 #[.val (.int p0), .val (.int p1), .val (.int ((p0 &&& (2147483647 : Int32)) % (3 : Int32))), .val (.ref w_TWO), .val (.int (0 : Int32)), .val (.int (F1 (2 : Int32) (2 : Int32))), .val (.int (2 : Int32)), .val (.int (((p1 &&& (2147483647 : Int32)) % (2 : Int32)) + (1 : Int32)))] [(.int (0 : Int32)), (.int (F1 (2 : Int32) (2 : Int32)))])) _
      refine XS.icmpNo X8.here hx rfl (hb hby at_114) rfl (teq hc56).2 ?_
      show Steps p.tables e below (T8.setTop (mkF m 117 #[.val (.int p0), .val (.int p1), .val (.int ((p0 &&& (2147483647 : Int32)) % (3 : Int32))), .val (.ref w_TWO), .val (.int (0 : Int32)), .val (.int (F1 (2 : Int32) (2 : Int32))), .val (.int (2 : Int32)), .val (.int (((p1 &&& (2147483647 : Int32)) % (2 : Int32)) + (1 : Int32)))] [])) _
      refine XS.iconst X8.here hx rfl (hb hby at_117) ?_
      show Steps p.tables e below (T8.setTop (mkF m 118 #[.val (.int p0), .val (.int p1), .val (.int ((p0 &&& (2147483647 : Int32)) % (3 : Int32))), .val (.ref w_TWO), .val (.int (0 : Int32)), .val (.int (F1 (2 : Int32) (2 : Int32))), .val (.int (2 : Int32)), .val (.int (((p1 &&& (2147483647 : Int32)) % (2 : Int32)) + (1 : Int32)))] [(.int (1 : Int32))])) _
      refine XS.goto X8.here hx rfl (pc0 := 118) (pc' := 122) rfl (hb hby at_118) (by decide) (by decide) ?_
      show Steps p.tables e below (T8.setTop (mkF m 122 #[.val (.int p0), .val (.int p1), .val (.int ((p0 &&& (2147483647 : Int32)) % (3 : Int32))), .val (.ref w_TWO), .val (.int (0 : Int32)), .val (.int (F1 (2 : Int32) (2 : Int32))), .val (.int (2 : Int32)), .val (.int (((p1 &&& (2147483647 : Int32)) % (2 : Int32)) + (1 : Int32)))] [(.int (1 : Int32))])) _
      exact retN X8 hx (t := .boolean) Bd.returns (by simp) (hb hby at_122) hr
    · show Q0 Z p0 p1 w_TWO w_THREE w_FOUR h0 n0 _ T8.heap _
      rw [e8]
      exact ⟨rfl, N8⟩
  · have pre9 : ∀ t, Steps p.tables e below (s₁.setTop (mkF m 20 #[.val (.int p0), .val (.int p1), .val (.int ((p0 &&& (2147483647 : Int32)) % (3 : Int32))), .unset, .unset, .unset, .unset, .unset] [(.int (1 : Int32)), (.int ((p0 &&& (2147483647 : Int32)) % (3 : Int32)))])) t → Steps p.tables e below (s₁.setTop (entryFrame m #[(.int p0), (.int p1)] maxLocals)) t := fun t k => by
      refine pre1 t ?_
      show Steps p.tables e below (s₁.setTop (mkF m 8 #[.val (.int p0), .val (.int p1), .val (.int ((p0 &&& (2147483647 : Int32)) % (3 : Int32))), .unset, .unset, .unset, .unset, .unset] [(.int ((p0 &&& (2147483647 : Int32)) % (3 : Int32)))])) _
      refine XS.ifYes X0.here hx rfl (pc0 := 8) (pc' := 18) rfl (hb hby at_8) rfl ((if0 _ _).trans (feq hc8).2) (by decide) (by decide) ?_
      show Steps p.tables e below (s₁.setTop (mkF m 18 #[.val (.int p0), .val (.int p1), .val (.int ((p0 &&& (2147483647 : Int32)) % (3 : Int32))), .unset, .unset, .unset, .unset, .unset] [])) _
      refine XS.iloadN X0.here hx rfl (hb hby at_18) rfl ?_
      show Steps p.tables e below (s₁.setTop (mkF m 19 #[.val (.int p0), .val (.int p1), .val (.int ((p0 &&& (2147483647 : Int32)) % (3 : Int32))), .unset, .unset, .unset, .unset, .unset] [(.int ((p0 &&& (2147483647 : Int32)) % (3 : Int32)))])) _
      refine XS.iconst X0.here hx rfl (hb hby at_19) ?_
      exact k
    by_cases hc20 : ((p0 &&& (2147483647 : Int32)) % (3 : Int32)) = (1 : Int32)
    · obtain ⟨T10, X10, e10, st10⟩ := getS2 X0 hx hZ hown (host := "") (Or.inl (hw _ (List.mem_of_getElem? (i := 25) rfl))) Via.refl e0 S_THREE (g := (mkF m 23 #[.val (.int p0), .val (.int p1), .val (.int ((p0 &&& (2147483647 : Int32)) % (3 : Int32))), .unset, .unset, .unset, .unset, .unset] [])) rfl (hb hby at_23)
      have hc36 : ¬ (((p0 &&& (2147483647 : Int32)) % (3 : Int32)) = (2 : Int32)) := by rw [hc20]; decide
      obtain ⟨cq11, kq11, q11a, q11b, q11c⟩ := isOf hZ e10 E_THREE
      obtain ⟨_, _, ⟨T11, L11, k11, n11⟩, -, X11, ⟨Lc11, hQ11, l11, y11, z11⟩, st11⟩ := X10.virtualBack hx (y := (⟨"com/example/pegrun/pegrun/rules/Seating", "partnerships", "()Z"⟩ : MethodName)) (z := (⟨"com/example/pegrun/pegrun/rules/Seating", "partnerships", "()Z"⟩ : MethodName)) hown (mvT hZ (hw _ (List.mem_of_getElem? (i := 4) rfl))) (mvT hZ (hw _ (List.mem_of_getElem? (i := 5) rfl))) (notFace_of_selects (args := #[]) (mvT hZ (hw _ (List.mem_of_getElem? (i := 7) rfl)))) (mvT hZ (hw _ (List.mem_of_getElem? (i := 7) rfl))) (mvT hZ (hw _ (List.mem_of_getElem? (i := 6) rfl))) (by decide) (backOf (W := 0) (rm1 l Z a0 hw [] w_THREE (3 : Int32) (3 : Int32) h0 n0 Z0 F_sides_THREE F_seats_THREE) hZ (hw _ (List.mem_of_getElem? (i := 8) rfl)) (hw _ (List.mem_of_getElem? (i := 2) rfl)) (by decide) (by decide)) q11a q11c (g := (mkF m 47 #[.val (.int p0), .val (.int p1), .val (.int ((p0 &&& (2147483647 : Int32)) % (3 : Int32))), .val (.ref w_THREE), .val (.int (0 : Int32)), .unset, .unset, .unset] [(.ref w_THREE)])) rfl (by rw [hml]; rfl) (Steps.refl _) (argsL := []) (rest := []) (lenOf pd_0 rfl) rfl (by show 2 * 0 + _ ≤ _; exact Nat.le_of_eq rfl) (hb hby at_47) (fun _ _ => ⟨rfl, e10, (by decide : 0 + 0 ≤ _), (by decide : 0 + 0 ≤ _)⟩)
      dsimp only [Pt.U, Pt.locs, Pt.cells, Pt.slots] at X11 l11 y11 z11 st11 hQ11
      subst l11 y11 z11
      obtain ⟨rfl, N11q, e11⟩ := hQ11
      have N11 := Fr.app N0 N11q
      have hc56 : (F1 (3 : Int32) (3 : Int32)) = (0 : Int32) := by decide
      obtain ⟨cq12, kq12, q12a, q12b, q12c⟩ := isOf hZ e11 E_THREE
      obtain ⟨_, _, ⟨T12, L12, k12, n12⟩, -, X12, ⟨Lc12, hQ12, l12, y12, z12⟩, st12⟩ := X11.virtualBack hx (y := (⟨"com/example/pegrun/pegrun/rules/Seating", "seats", "()I"⟩ : MethodName)) (z := (⟨"com/example/pegrun/pegrun/rules/Seating", "seats", "()I"⟩ : MethodName)) hown (mvT hZ (hw _ (List.mem_of_getElem? (i := 13) rfl))) (mvT hZ (hw _ (List.mem_of_getElem? (i := 14) rfl))) (notFace_of_selects (args := #[]) (mvT hZ (hw _ (List.mem_of_getElem? (i := 16) rfl)))) (mvT hZ (hw _ (List.mem_of_getElem? (i := 16) rfl))) (mvT hZ (hw _ (List.mem_of_getElem? (i := 15) rfl))) (by decide) (backOf (W := 0) (rm2 l Z a0 hw [] w_THREE (3 : Int32) h0 n0 Z0 F_seats_THREE) hZ (hw _ (List.mem_of_getElem? (i := 17) rfl)) (hw _ (List.mem_of_getElem? (i := 2) rfl)) (by decide) (by decide)) q12a q12c (g := (mkF m 62 #[.val (.int p0), .val (.int p1), .val (.int ((p0 &&& (2147483647 : Int32)) % (3 : Int32))), .val (.ref w_THREE), .val (.int (0 : Int32)), .val (.int (F1 (3 : Int32) (3 : Int32))), .unset, .unset] [(.ref w_THREE)])) rfl (by rw [hml]; rfl) (Steps.refl _) (argsL := []) (rest := []) (lenOf pd_1 rfl) rfl (by show 2 * 0 + _ ≤ _; exact Nat.le_of_eq rfl) (hb hby at_62) (fun _ _ => ⟨rfl, e11, (by decide : 0 + 0 ≤ _), (by decide : 0 + 0 ≤ _)⟩)
      dsimp only [Pt.U, Pt.locs, Pt.cells, Pt.slots] at X12 l12 y12 z12 st12 hQ12
      subst l12 y12 z12
      obtain ⟨rfl, N12q, e12⟩ := hQ12
      have N12 := Fr.app N11 N12q
      have hp13 : (3 : Int32) ≠ 0 := by decide
      obtain ⟨cq14, kq14, q14a, q14b, q14c⟩ := isOf hZ e12 E_THREE
      obtain ⟨_, _, ⟨T14, L14, k14, n14⟩, -, X14, ⟨Lc14, hQ14, l14, y14, z14⟩, st14⟩ := X12.virtualBack hx (y := (⟨"com/example/pegrun/pegrun/rules/Seating", "side", "(I)I"⟩ : MethodName)) (z := (⟨"com/example/pegrun/pegrun/rules/Seating", "side", "(I)I"⟩ : MethodName)) hown (mvT hZ (hw _ (List.mem_of_getElem? (i := 18) rfl))) (mvT hZ (hw _ (List.mem_of_getElem? (i := 19) rfl))) (notFace_of_selects (args := #[]) (mvT hZ (hw _ (List.mem_of_getElem? (i := 21) rfl)))) (mvT hZ (hw _ (List.mem_of_getElem? (i := 21) rfl))) (mvT hZ (hw _ (List.mem_of_getElem? (i := 20) rfl))) (by decide) (backOf (W := 0) (rm3 l Z a0 hw [] w_THREE (((p1 &&& (2147483647 : Int32)) % (3 : Int32)) + (1 : Int32)) (3 : Int32) h0 n0 Z0 F_sides_THREE hp13) hZ (hw _ (List.mem_of_getElem? (i := 22) rfl)) (hw _ (List.mem_of_getElem? (i := 2) rfl)) (by decide) (by decide)) q14a q14c (g := (mkF m 86 #[.val (.int p0), .val (.int p1), .val (.int ((p0 &&& (2147483647 : Int32)) % (3 : Int32))), .val (.ref w_THREE), .val (.int (0 : Int32)), .val (.int (F1 (3 : Int32) (3 : Int32))), .val (.int (3 : Int32)), .val (.int (((p1 &&& (2147483647 : Int32)) % (3 : Int32)) + (1 : Int32)))] [(.int (((p1 &&& (2147483647 : Int32)) % (3 : Int32)) + (1 : Int32))), (.ref w_THREE)])) rfl (by rw [hml]; rfl) (Steps.refl _) (argsL := [(.int (((p1 &&& (2147483647 : Int32)) % (3 : Int32)) + (1 : Int32)))]) (rest := []) (lenOf pd_2 rfl) rfl (by show 2 * 0 + _ ≤ _; exact Nat.le_of_eq rfl) (hb hby at_86) (fun _ _ => ⟨rfl, e12, (by decide : 0 + 0 ≤ _), (by decide : 0 + 0 ≤ _)⟩)
      dsimp only [Pt.U, Pt.locs, Pt.cells, Pt.slots] at X14 l14 y14 z14 st14 hQ14
      subst l14 y14 z14
      obtain ⟨rfl, N14q, e14⟩ := hQ14
      have N14 := Fr.app N12 N14q
      have hc91 : ((((((p1 &&& (2147483647 : Int32)) % (3 : Int32)) + (1 : Int32)) - (1 : Int32)) % (3 : Int32)) + (1 : Int32)) = (((p1 &&& (2147483647 : Int32)) % (3 : Int32)) + (1 : Int32)) := own_side _ _
      have hp15 : (3 : Int32) ≠ 0 := by decide
      obtain ⟨cq16, kq16, q16a, q16b, q16c⟩ := isOf hZ e14 E_THREE
      obtain ⟨_, _, ⟨T16, L16, k16, n16⟩, -, X16, ⟨Lc16, hQ16, l16, y16, z16⟩, st16⟩ := X14.virtualBack hx (y := (⟨"com/example/pegrun/pegrun/rules/Seating", "side", "(I)I"⟩ : MethodName)) (z := (⟨"com/example/pegrun/pegrun/rules/Seating", "side", "(I)I"⟩ : MethodName)) hown (mvT hZ (hw _ (List.mem_of_getElem? (i := 18) rfl))) (mvT hZ (hw _ (List.mem_of_getElem? (i := 19) rfl))) (notFace_of_selects (args := #[]) (mvT hZ (hw _ (List.mem_of_getElem? (i := 21) rfl)))) (mvT hZ (hw _ (List.mem_of_getElem? (i := 21) rfl))) (mvT hZ (hw _ (List.mem_of_getElem? (i := 20) rfl))) (by decide) (backOf (W := 1) (rm3 l Z a0 hw [] w_THREE (3 : Int32) (3 : Int32) h0 n0 Z0 F_sides_THREE hp15) hZ (hw _ (List.mem_of_getElem? (i := 22) rfl)) (hw _ (List.mem_of_getElem? (i := 2) rfl)) (by decide) (by decide)) q16a q16c (g := (mkF m 101 #[.val (.int p0), .val (.int p1), .val (.int ((p0 &&& (2147483647 : Int32)) % (3 : Int32))), .val (.ref w_THREE), .val (.int (0 : Int32)), .val (.int (F1 (3 : Int32) (3 : Int32))), .val (.int (3 : Int32)), .val (.int (((p1 &&& (2147483647 : Int32)) % (3 : Int32)) + (1 : Int32)))] [(.int (3 : Int32)), (.ref w_THREE), (.int (F1 (3 : Int32) (3 : Int32)))])) rfl (by rw [hml]; rfl) (Steps.refl _) (argsL := [(.int (3 : Int32))]) (rest := [(.int (F1 (3 : Int32) (3 : Int32)))]) (lenOf pd_2 rfl) rfl (by show 2 * 0 + _ ≤ _; exact Nat.le_of_eq rfl) (hb hby at_101) (fun _ _ => ⟨rfl, e14, (by decide : 0 + 0 ≤ _), (by decide : 0 + 0 ≤ _)⟩)
      dsimp only [Pt.U, Pt.locs, Pt.cells, Pt.slots] at X16 l16 y16 z16 st16 hQ16
      subst l16 y16 z16
      obtain ⟨rfl, N16q, e16⟩ := hQ16
      have N16 := Fr.app N14 N16q
      have hc106 : ((((3 : Int32) - (1 : Int32)) % (3 : Int32)) + (1 : Int32)) = (3 : Int32) := by decide
      obtain ⟨fs, hr, hrun, hended, hW, hsame⟩ := X16.leave (v := some (.int (1 : Int32))) (fun h => by rw [Bd.returns] at h; cases h) (BodyLoose.notSynchronized Bd)
      refine ⟨_, _, pre9 _ ?_, hrun, hended, _, _, rfl, ?_, ⟨_, rfl⟩, hW, hsame.mono (by decide) (by decide)⟩
      · show Steps p.tables e below (s₁.setTop (mkF m 20 #[.val (.int p0), .val (.int p1), .val (.int ((p0 &&& (2147483647 : Int32)) % (3 : Int32))), .unset, .unset, .unset, .unset, .unset] [(.int (1 : Int32)), (.int ((p0 &&& (2147483647 : Int32)) % (3 : Int32)))])) _
        refine XS.icmpNo X0.here hx rfl (hb hby at_20) rfl (teq hc20).2 ?_
        show Steps p.tables e below (s₁.setTop (mkF m 23 #[.val (.int p0), .val (.int p1), .val (.int ((p0 &&& (2147483647 : Int32)) % (3 : Int32))), .unset, .unset, .unset, .unset, .unset] [])) _
        refine st10 _ ?_
        show Steps p.tables e below (T10.setTop (mkF m 26 #[.val (.int p0), .val (.int p1), .val (.int ((p0 &&& (2147483647 : Int32)) % (3 : Int32))), .unset, .unset, .unset, .unset, .unset] [(.ref w_THREE)])) _
        refine XS.astoreN X10.here hx rfl (hb hby at_26) rfl rfl (l' := #[.val (.int p0), .val (.int p1), .val (.int ((p0 &&& (2147483647 : Int32)) % (3 : Int32))), .val (.ref w_THREE), .unset, .unset, .unset, .unset]) rfl ?_
        show Steps p.tables e below (T10.setTop (mkF m 27 #[.val (.int p0), .val (.int p1), .val (.int ((p0 &&& (2147483647 : Int32)) % (3 : Int32))), .val (.ref w_THREE), .unset, .unset, .unset, .unset] [])) _
        refine XS.goto X10.here hx rfl (pc0 := 27) (pc' := 34) rfl (hb hby at_27) (by decide) (by decide) ?_
        show Steps p.tables e below (T10.setTop (mkF m 34 #[.val (.int p0), .val (.int p1), .val (.int ((p0 &&& (2147483647 : Int32)) % (3 : Int32))), .val (.ref w_THREE), .unset, .unset, .unset, .unset] [])) _
        refine XS.iloadN X10.here hx rfl (hb hby at_34) rfl ?_
        show Steps p.tables e below (T10.setTop (mkF m 35 #[.val (.int p0), .val (.int p1), .val (.int ((p0 &&& (2147483647 : Int32)) % (3 : Int32))), .val (.ref w_THREE), .unset, .unset, .unset, .unset] [(.int ((p0 &&& (2147483647 : Int32)) % (3 : Int32)))])) _
        refine XS.iconst X10.here hx rfl (hb hby at_35) ?_
        show Steps p.tables e below (T10.setTop (mkF m 36 #[.val (.int p0), .val (.int p1), .val (.int ((p0 &&& (2147483647 : Int32)) % (3 : Int32))), .val (.ref w_THREE), .unset, .unset, .unset, .unset] [(.int (2 : Int32)), (.int ((p0 &&& (2147483647 : Int32)) % (3 : Int32)))])) _
        refine XS.icmpYes X10.here hx rfl (pc0 := 36) (pc' := 43) rfl (hb hby at_36) rfl (feq hc36).2 (by decide) (by decide) ?_
        show Steps p.tables e below (T10.setTop (mkF m 43 #[.val (.int p0), .val (.int p1), .val (.int ((p0 &&& (2147483647 : Int32)) % (3 : Int32))), .val (.ref w_THREE), .unset, .unset, .unset, .unset] [])) _
        refine XS.iconst X10.here hx rfl (hb hby at_43) ?_
        show Steps p.tables e below (T10.setTop (mkF m 44 #[.val (.int p0), .val (.int p1), .val (.int ((p0 &&& (2147483647 : Int32)) % (3 : Int32))), .val (.ref w_THREE), .unset, .unset, .unset, .unset] [(.int (0 : Int32))])) _
        refine XS.istore X10.here hx rfl (hb hby at_44) rfl (l' := #[.val (.int p0), .val (.int p1), .val (.int ((p0 &&& (2147483647 : Int32)) % (3 : Int32))), .val (.ref w_THREE), .val (.int (0 : Int32)), .unset, .unset, .unset]) rfl ?_
        show Steps p.tables e below (T10.setTop (mkF m 46 #[.val (.int p0), .val (.int p1), .val (.int ((p0 &&& (2147483647 : Int32)) % (3 : Int32))), .val (.ref w_THREE), .val (.int (0 : Int32)), .unset, .unset, .unset] [])) _
        refine XS.aloadN X10.here hx rfl (hb hby at_46) rfl rfl ?_
        show Steps p.tables e below (T10.setTop (mkF m 47 #[.val (.int p0), .val (.int p1), .val (.int ((p0 &&& (2147483647 : Int32)) % (3 : Int32))), .val (.ref w_THREE), .val (.int (0 : Int32)), .unset, .unset, .unset] [(.ref w_THREE)])) _
        refine st11.trans ?_
        show Steps p.tables e below (T11.setTop (mkF m 50 #[.val (.int p0), .val (.int p1), .val (.int ((p0 &&& (2147483647 : Int32)) % (3 : Int32))), .val (.ref w_THREE), .val (.int (0 : Int32)), .unset, .unset, .unset] [(.int (F1 (3 : Int32) (3 : Int32)))])) _
        refine XS.istore X11.here hx rfl (hb hby at_50) rfl (l' := #[.val (.int p0), .val (.int p1), .val (.int ((p0 &&& (2147483647 : Int32)) % (3 : Int32))), .val (.ref w_THREE), .val (.int (0 : Int32)), .val (.int (F1 (3 : Int32) (3 : Int32))), .unset, .unset]) rfl ?_
        show Steps p.tables e below (T11.setTop (mkF m 52 #[.val (.int p0), .val (.int p1), .val (.int ((p0 &&& (2147483647 : Int32)) % (3 : Int32))), .val (.ref w_THREE), .val (.int (0 : Int32)), .val (.int (F1 (3 : Int32) (3 : Int32))), .unset, .unset] [])) _
        refine XS.iload X11.here hx rfl (hb hby at_52) rfl ?_
        show Steps p.tables e below (T11.setTop (mkF m 54 #[.val (.int p0), .val (.int p1), .val (.int ((p0 &&& (2147483647 : Int32)) % (3 : Int32))), .val (.ref w_THREE), .val (.int (0 : Int32)), .val (.int (F1 (3 : Int32) (3 : Int32))), .unset, .unset] [(.int (F1 (3 : Int32) (3 : Int32)))])) _
        refine XS.iload X11.here hx rfl (hb hby at_54) rfl ?_
        show Steps p.tables e below (T11.setTop (mkF m 56 #[.val (.int p0), .val (.int p1), .val (.int ((p0 &&& (2147483647 : Int32)) % (3 : Int32))), .val (.ref w_THREE), .val (.int (0 : Int32)), .val (.int (F1 (3 : Int32) (3 : Int32))), .unset, .unset] [(.int (0 : Int32)), (.int (F1 (3 : Int32) (3 : Int32)))])) _
        refine XS.icmpYes X11.here hx rfl (pc0 := 56) (pc' := 61) rfl (hb hby at_56) rfl (teq hc56).1 (by decide) (by decide) ?_
        show Steps p.tables e below (T11.setTop (mkF m 61 #[.val (.int p0), .val (.int p1), .val (.int ((p0 &&& (2147483647 : Int32)) % (3 : Int32))), .val (.ref w_THREE), .val (.int (0 : Int32)), .val (.int (F1 (3 : Int32) (3 : Int32))), .unset, .unset] [])) _
        refine XS.aloadN X11.here hx rfl (hb hby at_61) rfl rfl ?_
        show Steps p.tables e below (T11.setTop (mkF m 62 #[.val (.int p0), .val (.int p1), .val (.int ((p0 &&& (2147483647 : Int32)) % (3 : Int32))), .val (.ref w_THREE), .val (.int (0 : Int32)), .val (.int (F1 (3 : Int32) (3 : Int32))), .unset, .unset] [(.ref w_THREE)])) _
        refine st12.trans ?_
        show Steps p.tables e below (T12.setTop (mkF m 65 #[.val (.int p0), .val (.int p1), .val (.int ((p0 &&& (2147483647 : Int32)) % (3 : Int32))), .val (.ref w_THREE), .val (.int (0 : Int32)), .val (.int (F1 (3 : Int32) (3 : Int32))), .unset, .unset] [(.int (3 : Int32))])) _
        refine XS.istore X12.here hx rfl (hb hby at_65) rfl (l' := #[.val (.int p0), .val (.int p1), .val (.int ((p0 &&& (2147483647 : Int32)) % (3 : Int32))), .val (.ref w_THREE), .val (.int (0 : Int32)), .val (.int (F1 (3 : Int32) (3 : Int32))), .val (.int (3 : Int32)), .unset]) rfl ?_
        show Steps p.tables e below (T12.setTop (mkF m 67 #[.val (.int p0), .val (.int p1), .val (.int ((p0 &&& (2147483647 : Int32)) % (3 : Int32))), .val (.ref w_THREE), .val (.int (0 : Int32)), .val (.int (F1 (3 : Int32) (3 : Int32))), .val (.int (3 : Int32)), .unset] [])) _
        refine XS.iloadN X12.here hx rfl (hb hby at_67) rfl ?_
        show Steps p.tables e below (T12.setTop (mkF m 68 #[.val (.int p0), .val (.int p1), .val (.int ((p0 &&& (2147483647 : Int32)) % (3 : Int32))), .val (.ref w_THREE), .val (.int (0 : Int32)), .val (.int (F1 (3 : Int32) (3 : Int32))), .val (.int (3 : Int32)), .unset] [(.int p1)])) _
        refine X12.ldcInt hx hown (mvT hZ (hw _ (List.mem_of_getElem? (i := 0) rfl))) (g := (mkF m 68 #[.val (.int p0), .val (.int p1), .val (.int ((p0 &&& (2147483647 : Int32)) % (3 : Int32))), .val (.ref w_THREE), .val (.int (0 : Int32)), .val (.int (F1 (3 : Int32) (3 : Int32))), .val (.int (3 : Int32)), .unset] [(.int p1)])) rfl (hb hby at_68) _ ?_
        show Steps p.tables e below (T12.setTop (mkF m 70 #[.val (.int p0), .val (.int p1), .val (.int ((p0 &&& (2147483647 : Int32)) % (3 : Int32))), .val (.ref w_THREE), .val (.int (0 : Int32)), .val (.int (F1 (3 : Int32) (3 : Int32))), .val (.int (3 : Int32)), .unset] [(.int (2147483647 : Int32)), (.int p1)])) _
        refine XS.iand X12.here hx rfl (hb hby at_70) rfl ?_
        show Steps p.tables e below (T12.setTop (mkF m 71 #[.val (.int p0), .val (.int p1), .val (.int ((p0 &&& (2147483647 : Int32)) % (3 : Int32))), .val (.ref w_THREE), .val (.int (0 : Int32)), .val (.int (F1 (3 : Int32) (3 : Int32))), .val (.int (3 : Int32)), .unset] [(.int (p1 &&& (2147483647 : Int32)))])) _
        refine XS.iload X12.here hx rfl (hb hby at_71) rfl ?_
        show Steps p.tables e below (T12.setTop (mkF m 73 #[.val (.int p0), .val (.int p1), .val (.int ((p0 &&& (2147483647 : Int32)) % (3 : Int32))), .val (.ref w_THREE), .val (.int (0 : Int32)), .val (.int (F1 (3 : Int32) (3 : Int32))), .val (.int (3 : Int32)), .unset] [(.int (3 : Int32)), (.int (p1 &&& (2147483647 : Int32)))])) _
        refine iremM X12 hx rfl (hb hby at_73) rfl (by decide) ?_
        show Steps p.tables e below (T12.setTop (mkF m 74 #[.val (.int p0), .val (.int p1), .val (.int ((p0 &&& (2147483647 : Int32)) % (3 : Int32))), .val (.ref w_THREE), .val (.int (0 : Int32)), .val (.int (F1 (3 : Int32) (3 : Int32))), .val (.int (3 : Int32)), .unset] [(.int ((p1 &&& (2147483647 : Int32)) % (3 : Int32)))])) _
        refine XS.iconst X12.here hx rfl (hb hby at_74) ?_
        show Steps p.tables e below (T12.setTop (mkF m 75 #[.val (.int p0), .val (.int p1), .val (.int ((p0 &&& (2147483647 : Int32)) % (3 : Int32))), .val (.ref w_THREE), .val (.int (0 : Int32)), .val (.int (F1 (3 : Int32) (3 : Int32))), .val (.int (3 : Int32)), .unset] [(.int (1 : Int32)), (.int ((p1 &&& (2147483647 : Int32)) % (3 : Int32)))])) _
        refine XS.iadd X12.here hx rfl (hb hby at_75) rfl ?_
        show Steps p.tables e below (T12.setTop (mkF m 76 #[.val (.int p0), .val (.int p1), .val (.int ((p0 &&& (2147483647 : Int32)) % (3 : Int32))), .val (.ref w_THREE), .val (.int (0 : Int32)), .val (.int (F1 (3 : Int32) (3 : Int32))), .val (.int (3 : Int32)), .unset] [(.int (((p1 &&& (2147483647 : Int32)) % (3 : Int32)) + (1 : Int32)))])) _
        refine XS.istore X12.here hx rfl (hb hby at_76) rfl (l' := #[.val (.int p0), .val (.int p1), .val (.int ((p0 &&& (2147483647 : Int32)) % (3 : Int32))), .val (.ref w_THREE), .val (.int (0 : Int32)), .val (.int (F1 (3 : Int32) (3 : Int32))), .val (.int (3 : Int32)), .val (.int (((p1 &&& (2147483647 : Int32)) % (3 : Int32)) + (1 : Int32)))]) rfl ?_
        show Steps p.tables e below (T12.setTop (mkF m 78 #[.val (.int p0), .val (.int p1), .val (.int ((p0 &&& (2147483647 : Int32)) % (3 : Int32))), .val (.ref w_THREE), .val (.int (0 : Int32)), .val (.int (F1 (3 : Int32) (3 : Int32))), .val (.int (3 : Int32)), .val (.int (((p1 &&& (2147483647 : Int32)) % (3 : Int32)) + (1 : Int32)))] [])) _
        refine XS.iload X12.here hx rfl (hb hby at_78) rfl ?_
        show Steps p.tables e below (T12.setTop (mkF m 80 #[.val (.int p0), .val (.int p1), .val (.int ((p0 &&& (2147483647 : Int32)) % (3 : Int32))), .val (.ref w_THREE), .val (.int (0 : Int32)), .val (.int (F1 (3 : Int32) (3 : Int32))), .val (.int (3 : Int32)), .val (.int (((p1 &&& (2147483647 : Int32)) % (3 : Int32)) + (1 : Int32)))] [(.int (F1 (3 : Int32) (3 : Int32)))])) _
        refine XS.ifNo X12.here hx rfl (hb hby at_80) rfl ((if0 _ _).trans (teq hc56).2) ?_
        show Steps p.tables e below (T12.setTop (mkF m 83 #[.val (.int p0), .val (.int p1), .val (.int ((p0 &&& (2147483647 : Int32)) % (3 : Int32))), .val (.ref w_THREE), .val (.int (0 : Int32)), .val (.int (F1 (3 : Int32) (3 : Int32))), .val (.int (3 : Int32)), .val (.int (((p1 &&& (2147483647 : Int32)) % (3 : Int32)) + (1 : Int32)))] [])) _
        refine XS.aloadN X12.here hx rfl (hb hby at_83) rfl rfl ?_
        show Steps p.tables e below (T12.setTop (mkF m 84 #[.val (.int p0), .val (.int p1), .val (.int ((p0 &&& (2147483647 : Int32)) % (3 : Int32))), .val (.ref w_THREE), .val (.int (0 : Int32)), .val (.int (F1 (3 : Int32) (3 : Int32))), .val (.int (3 : Int32)), .val (.int (((p1 &&& (2147483647 : Int32)) % (3 : Int32)) + (1 : Int32)))] [(.ref w_THREE)])) _
        refine XS.iload X12.here hx rfl (hb hby at_84) rfl ?_
        show Steps p.tables e below (T12.setTop (mkF m 86 #[.val (.int p0), .val (.int p1), .val (.int ((p0 &&& (2147483647 : Int32)) % (3 : Int32))), .val (.ref w_THREE), .val (.int (0 : Int32)), .val (.int (F1 (3 : Int32) (3 : Int32))), .val (.int (3 : Int32)), .val (.int (((p1 &&& (2147483647 : Int32)) % (3 : Int32)) + (1 : Int32)))] [(.int (((p1 &&& (2147483647 : Int32)) % (3 : Int32)) + (1 : Int32))), (.ref w_THREE)])) _
        refine st14.trans ?_
        show Steps p.tables e below (T14.setTop (mkF m 89 #[.val (.int p0), .val (.int p1), .val (.int ((p0 &&& (2147483647 : Int32)) % (3 : Int32))), .val (.ref w_THREE), .val (.int (0 : Int32)), .val (.int (F1 (3 : Int32) (3 : Int32))), .val (.int (3 : Int32)), .val (.int (((p1 &&& (2147483647 : Int32)) % (3 : Int32)) + (1 : Int32)))] [(.int ((((((p1 &&& (2147483647 : Int32)) % (3 : Int32)) + (1 : Int32)) - (1 : Int32)) % (3 : Int32)) + (1 : Int32)))])) _
        refine XS.iload X14.here hx rfl (hb hby at_89) rfl ?_
        show Steps p.tables e below (T14.setTop (mkF m 91 #[.val (.int p0), .val (.int p1), .val (.int ((p0 &&& (2147483647 : Int32)) % (3 : Int32))), .val (.ref w_THREE), .val (.int (0 : Int32)), .val (.int (F1 (3 : Int32) (3 : Int32))), .val (.int (3 : Int32)), .val (.int (((p1 &&& (2147483647 : Int32)) % (3 : Int32)) + (1 : Int32)))] [(.int (((p1 &&& (2147483647 : Int32)) % (3 : Int32)) + (1 : Int32))), (.int ((((((p1 &&& (2147483647 : Int32)) % (3 : Int32)) + (1 : Int32)) - (1 : Int32)) % (3 : Int32)) + (1 : Int32)))])) _
        refine XS.icmpYes X14.here hx rfl (pc0 := 91) (pc' := 96) rfl (hb hby at_91) rfl (teq hc91).1 (by decide) (by decide) ?_
        show Steps p.tables e below (T14.setTop (mkF m 96 #[.val (.int p0), .val (.int p1), .val (.int ((p0 &&& (2147483647 : Int32)) % (3 : Int32))), .val (.ref w_THREE), .val (.int (0 : Int32)), .val (.int (F1 (3 : Int32) (3 : Int32))), .val (.int (3 : Int32)), .val (.int (((p1 &&& (2147483647 : Int32)) % (3 : Int32)) + (1 : Int32)))] [])) _
        refine XS.iload X14.here hx rfl (hb hby at_96) rfl ?_
        show Steps p.tables e below (T14.setTop (mkF m 98 #[.val (.int p0), .val (.int p1), .val (.int ((p0 &&& (2147483647 : Int32)) % (3 : Int32))), .val (.ref w_THREE), .val (.int (0 : Int32)), .val (.int (F1 (3 : Int32) (3 : Int32))), .val (.int (3 : Int32)), .val (.int (((p1 &&& (2147483647 : Int32)) % (3 : Int32)) + (1 : Int32)))] [(.int (F1 (3 : Int32) (3 : Int32)))])) _
        refine XS.aloadN X14.here hx rfl (hb hby at_98) rfl rfl ?_
        show Steps p.tables e below (T14.setTop (mkF m 99 #[.val (.int p0), .val (.int p1), .val (.int ((p0 &&& (2147483647 : Int32)) % (3 : Int32))), .val (.ref w_THREE), .val (.int (0 : Int32)), .val (.int (F1 (3 : Int32) (3 : Int32))), .val (.int (3 : Int32)), .val (.int (((p1 &&& (2147483647 : Int32)) % (3 : Int32)) + (1 : Int32)))] [(.ref w_THREE), (.int (F1 (3 : Int32) (3 : Int32)))])) _
        refine XS.iload X14.here hx rfl (hb hby at_99) rfl ?_
        show Steps p.tables e below (T14.setTop (mkF m 101 #[.val (.int p0), .val (.int p1), .val (.int ((p0 &&& (2147483647 : Int32)) % (3 : Int32))), .val (.ref w_THREE), .val (.int (0 : Int32)), .val (.int (F1 (3 : Int32) (3 : Int32))), .val (.int (3 : Int32)), .val (.int (((p1 &&& (2147483647 : Int32)) % (3 : Int32)) + (1 : Int32)))] [(.int (3 : Int32)), (.ref w_THREE), (.int (F1 (3 : Int32) (3 : Int32)))])) _
        refine st16.trans ?_
        show Steps p.tables e below (T16.setTop (mkF m 104 #[.val (.int p0), .val (.int p1), .val (.int ((p0 &&& (2147483647 : Int32)) % (3 : Int32))), .val (.ref w_THREE), .val (.int (0 : Int32)), .val (.int (F1 (3 : Int32) (3 : Int32))), .val (.int (3 : Int32)), .val (.int (((p1 &&& (2147483647 : Int32)) % (3 : Int32)) + (1 : Int32)))] [(.int ((((3 : Int32) - (1 : Int32)) % (3 : Int32)) + (1 : Int32))), (.int (F1 (3 : Int32) (3 : Int32)))])) _
        refine XS.iload X16.here hx rfl (hb hby at_104) rfl ?_
        show Steps p.tables e below (T16.setTop (mkF m 106 #[.val (.int p0), .val (.int p1), .val (.int ((p0 &&& (2147483647 : Int32)) % (3 : Int32))), .val (.ref w_THREE), .val (.int (0 : Int32)), .val (.int (F1 (3 : Int32) (3 : Int32))), .val (.int (3 : Int32)), .val (.int (((p1 &&& (2147483647 : Int32)) % (3 : Int32)) + (1 : Int32)))] [(.int (3 : Int32)), (.int ((((3 : Int32) - (1 : Int32)) % (3 : Int32)) + (1 : Int32))), (.int (F1 (3 : Int32) (3 : Int32)))])) _
        refine XS.icmpYes X16.here hx rfl (pc0 := 106) (pc' := 113) rfl (hb hby at_106) rfl (teq hc106).1 (by decide) (by decide) ?_
        show Steps p.tables e below (T16.setTop (mkF m 113 #[.val (.int p0), .val (.int p1), .val (.int ((p0 &&& (2147483647 : Int32)) % (3 : Int32))), .val (.ref w_THREE), .val (.int (0 : Int32)), .val (.int (F1 (3 : Int32) (3 : Int32))), .val (.int (3 : Int32)), .val (.int (((p1 &&& (2147483647 : Int32)) % (3 : Int32)) + (1 : Int32)))] [(.int (F1 (3 : Int32) (3 : Int32)))])) _
        refine XS.iconst X16.here hx rfl (hb hby at_113) ?_
        show Steps p.tables e below (T16.setTop (mkF m 114 #[.val (.int p0), .val (.int p1), .val (.int ((p0 &&& (2147483647 : Int32)) % (3 : Int32))), .val (.ref w_THREE), .val (.int (0 : Int32)), .val (.int (F1 (3 : Int32) (3 : Int32))), .val (.int (3 : Int32)), .val (.int (((p1 &&& (2147483647 : Int32)) % (3 : Int32)) + (1 : Int32)))] [(.int (0 : Int32)), (.int (F1 (3 : Int32) (3 : Int32)))])) _
        refine XS.icmpNo X16.here hx rfl (hb hby at_114) rfl (teq hc56).2 ?_
        show Steps p.tables e below (T16.setTop (mkF m 117 #[.val (.int p0), .val (.int p1), .val (.int ((p0 &&& (2147483647 : Int32)) % (3 : Int32))), .val (.ref w_THREE), .val (.int (0 : Int32)), .val (.int (F1 (3 : Int32) (3 : Int32))), .val (.int (3 : Int32)), .val (.int (((p1 &&& (2147483647 : Int32)) % (3 : Int32)) + (1 : Int32)))] [])) _
        refine XS.iconst X16.here hx rfl (hb hby at_117) ?_
        show Steps p.tables e below (T16.setTop (mkF m 118 #[.val (.int p0), .val (.int p1), .val (.int ((p0 &&& (2147483647 : Int32)) % (3 : Int32))), .val (.ref w_THREE), .val (.int (0 : Int32)), .val (.int (F1 (3 : Int32) (3 : Int32))), .val (.int (3 : Int32)), .val (.int (((p1 &&& (2147483647 : Int32)) % (3 : Int32)) + (1 : Int32)))] [(.int (1 : Int32))])) _
        refine XS.goto X16.here hx rfl (pc0 := 118) (pc' := 122) rfl (hb hby at_118) (by decide) (by decide) ?_
        show Steps p.tables e below (T16.setTop (mkF m 122 #[.val (.int p0), .val (.int p1), .val (.int ((p0 &&& (2147483647 : Int32)) % (3 : Int32))), .val (.ref w_THREE), .val (.int (0 : Int32)), .val (.int (F1 (3 : Int32) (3 : Int32))), .val (.int (3 : Int32)), .val (.int (((p1 &&& (2147483647 : Int32)) % (3 : Int32)) + (1 : Int32)))] [(.int (1 : Int32))])) _
        exact retN X16 hx (t := .boolean) Bd.returns (by simp) (hb hby at_122) hr
      · show Q0 Z p0 p1 w_TWO w_THREE w_FOUR h0 n0 _ T16.heap _
        rw [e16]
        exact ⟨rfl, N16⟩
    · obtain ⟨T17, X17, e17, st17⟩ := getS2 X0 hx hZ hown (host := "") (Or.inl (hw _ (List.mem_of_getElem? (i := 23) rfl))) Via.refl e0 S_FOUR (g := (mkF m 30 #[.val (.int p0), .val (.int p1), .val (.int ((p0 &&& (2147483647 : Int32)) % (3 : Int32))), .unset, .unset, .unset, .unset, .unset] [])) rfl (hb hby at_30)
      have hc36 : ((p0 &&& (2147483647 : Int32)) % (3 : Int32)) = (2 : Int32) := own_two hc8 hc20
      obtain ⟨cq18, kq18, q18a, q18b, q18c⟩ := isOf hZ e17 E_FOUR
      obtain ⟨_, _, ⟨T18, L18, k18, n18⟩, -, X18, ⟨Lc18, hQ18, l18, y18, z18⟩, st18⟩ := X17.virtualBack hx (y := (⟨"com/example/pegrun/pegrun/rules/Seating", "partnerships", "()Z"⟩ : MethodName)) (z := (⟨"com/example/pegrun/pegrun/rules/Seating", "partnerships", "()Z"⟩ : MethodName)) hown (mvT hZ (hw _ (List.mem_of_getElem? (i := 4) rfl))) (mvT hZ (hw _ (List.mem_of_getElem? (i := 5) rfl))) (notFace_of_selects (args := #[]) (mvT hZ (hw _ (List.mem_of_getElem? (i := 7) rfl)))) (mvT hZ (hw _ (List.mem_of_getElem? (i := 7) rfl))) (mvT hZ (hw _ (List.mem_of_getElem? (i := 6) rfl))) (by decide) (backOf (W := 0) (rm1 l Z a0 hw [] w_FOUR (2 : Int32) (4 : Int32) h0 n0 Z0 F_sides_FOUR F_seats_FOUR) hZ (hw _ (List.mem_of_getElem? (i := 8) rfl)) (hw _ (List.mem_of_getElem? (i := 2) rfl)) (by decide) (by decide)) q18a q18c (g := (mkF m 47 #[.val (.int p0), .val (.int p1), .val (.int ((p0 &&& (2147483647 : Int32)) % (3 : Int32))), .val (.ref w_FOUR), .val (.int (1 : Int32)), .unset, .unset, .unset] [(.ref w_FOUR)])) rfl (by rw [hml]; rfl) (Steps.refl _) (argsL := []) (rest := []) (lenOf pd_0 rfl) rfl (by show 2 * 0 + _ ≤ _; exact Nat.le_of_eq rfl) (hb hby at_47) (fun _ _ => ⟨rfl, e17, (by decide : 0 + 0 ≤ _), (by decide : 0 + 0 ≤ _)⟩)
      dsimp only [Pt.U, Pt.locs, Pt.cells, Pt.slots] at X18 l18 y18 z18 st18 hQ18
      subst l18 y18 z18
      obtain ⟨rfl, N18q, e18⟩ := hQ18
      have N18 := Fr.app N0 N18q
      have hc56 : (F1 (2 : Int32) (4 : Int32)) = (1 : Int32) := by decide
      obtain ⟨cq19, kq19, q19a, q19b, q19c⟩ := isOf hZ e18 E_FOUR
      obtain ⟨_, _, ⟨T19, L19, k19, n19⟩, -, X19, ⟨Lc19, hQ19, l19, y19, z19⟩, st19⟩ := X18.virtualBack hx (y := (⟨"com/example/pegrun/pegrun/rules/Seating", "seats", "()I"⟩ : MethodName)) (z := (⟨"com/example/pegrun/pegrun/rules/Seating", "seats", "()I"⟩ : MethodName)) hown (mvT hZ (hw _ (List.mem_of_getElem? (i := 13) rfl))) (mvT hZ (hw _ (List.mem_of_getElem? (i := 14) rfl))) (notFace_of_selects (args := #[]) (mvT hZ (hw _ (List.mem_of_getElem? (i := 16) rfl)))) (mvT hZ (hw _ (List.mem_of_getElem? (i := 16) rfl))) (mvT hZ (hw _ (List.mem_of_getElem? (i := 15) rfl))) (by decide) (backOf (W := 0) (rm2 l Z a0 hw [] w_FOUR (4 : Int32) h0 n0 Z0 F_seats_FOUR) hZ (hw _ (List.mem_of_getElem? (i := 17) rfl)) (hw _ (List.mem_of_getElem? (i := 2) rfl)) (by decide) (by decide)) q19a q19c (g := (mkF m 62 #[.val (.int p0), .val (.int p1), .val (.int ((p0 &&& (2147483647 : Int32)) % (3 : Int32))), .val (.ref w_FOUR), .val (.int (1 : Int32)), .val (.int (F1 (2 : Int32) (4 : Int32))), .unset, .unset] [(.ref w_FOUR)])) rfl (by rw [hml]; rfl) (Steps.refl _) (argsL := []) (rest := []) (lenOf pd_1 rfl) rfl (by show 2 * 0 + _ ≤ _; exact Nat.le_of_eq rfl) (hb hby at_62) (fun _ _ => ⟨rfl, e18, (by decide : 0 + 0 ≤ _), (by decide : 0 + 0 ≤ _)⟩)
      dsimp only [Pt.U, Pt.locs, Pt.cells, Pt.slots] at X19 l19 y19 z19 st19 hQ19
      subst l19 y19 z19
      obtain ⟨rfl, N19q, e19⟩ := hQ19
      have N19 := Fr.app N18 N19q
      have hc80 : ¬ ((F1 (2 : Int32) (4 : Int32)) = (0 : Int32)) := by decide
      have hp20 : (2 : Int32) ≠ 0 := by decide
      obtain ⟨cq21, kq21, q21a, q21b, q21c⟩ := isOf hZ e19 E_FOUR
      obtain ⟨_, _, ⟨T21, L21, k21, n21⟩, -, X21, ⟨Lc21, hQ21, l21, y21, z21⟩, st21⟩ := X19.virtualBack hx (y := (⟨"com/example/pegrun/pegrun/rules/Seating", "side", "(I)I"⟩ : MethodName)) (z := (⟨"com/example/pegrun/pegrun/rules/Seating", "side", "(I)I"⟩ : MethodName)) hown (mvT hZ (hw _ (List.mem_of_getElem? (i := 18) rfl))) (mvT hZ (hw _ (List.mem_of_getElem? (i := 19) rfl))) (notFace_of_selects (args := #[]) (mvT hZ (hw _ (List.mem_of_getElem? (i := 21) rfl)))) (mvT hZ (hw _ (List.mem_of_getElem? (i := 21) rfl))) (mvT hZ (hw _ (List.mem_of_getElem? (i := 20) rfl))) (by decide) (backOf (W := 1) (rm3 l Z a0 hw [] w_FOUR (4 : Int32) (2 : Int32) h0 n0 Z0 F_sides_FOUR hp20) hZ (hw _ (List.mem_of_getElem? (i := 22) rfl)) (hw _ (List.mem_of_getElem? (i := 2) rfl)) (by decide) (by decide)) q21a q21c (g := (mkF m 101 #[.val (.int p0), .val (.int p1), .val (.int ((p0 &&& (2147483647 : Int32)) % (3 : Int32))), .val (.ref w_FOUR), .val (.int (1 : Int32)), .val (.int (F1 (2 : Int32) (4 : Int32))), .val (.int (4 : Int32)), .val (.int (((p1 &&& (2147483647 : Int32)) % (4 : Int32)) + (1 : Int32)))] [(.int (4 : Int32)), (.ref w_FOUR), (.int (F1 (2 : Int32) (4 : Int32)))])) rfl (by rw [hml]; rfl) (Steps.refl _) (argsL := [(.int (4 : Int32))]) (rest := [(.int (F1 (2 : Int32) (4 : Int32)))]) (lenOf pd_2 rfl) rfl (by show 2 * 0 + _ ≤ _; exact Nat.le_of_eq rfl) (hb hby at_101) (fun _ _ => ⟨rfl, e19, (by decide : 0 + 0 ≤ _), (by decide : 0 + 0 ≤ _)⟩)
      dsimp only [Pt.U, Pt.locs, Pt.cells, Pt.slots] at X21 l21 y21 z21 st21 hQ21
      subst l21 y21 z21
      obtain ⟨rfl, N21q, e21⟩ := hQ21
      have N21 := Fr.app N19 N21q
      have hc106 : ¬ (((((4 : Int32) - (1 : Int32)) % (2 : Int32)) + (1 : Int32)) = (4 : Int32)) := by decide
      obtain ⟨fs, hr, hrun, hended, hW, hsame⟩ := X21.leave (v := some (.int (1 : Int32))) (fun h => by rw [Bd.returns] at h; cases h) (BodyLoose.notSynchronized Bd)
      refine ⟨_, _, pre9 _ ?_, hrun, hended, _, _, rfl, ?_, ⟨_, rfl⟩, hW, hsame.mono (by decide) (by decide)⟩
      · show Steps p.tables e below (s₁.setTop (mkF m 20 #[.val (.int p0), .val (.int p1), .val (.int ((p0 &&& (2147483647 : Int32)) % (3 : Int32))), .unset, .unset, .unset, .unset, .unset] [(.int (1 : Int32)), (.int ((p0 &&& (2147483647 : Int32)) % (3 : Int32)))])) _
        refine XS.icmpYes X0.here hx rfl (pc0 := 20) (pc' := 30) rfl (hb hby at_20) rfl (feq hc20).2 (by decide) (by decide) ?_
        show Steps p.tables e below (s₁.setTop (mkF m 30 #[.val (.int p0), .val (.int p1), .val (.int ((p0 &&& (2147483647 : Int32)) % (3 : Int32))), .unset, .unset, .unset, .unset, .unset] [])) _
        refine st17 _ ?_
        show Steps p.tables e below (T17.setTop (mkF m 33 #[.val (.int p0), .val (.int p1), .val (.int ((p0 &&& (2147483647 : Int32)) % (3 : Int32))), .unset, .unset, .unset, .unset, .unset] [(.ref w_FOUR)])) _
        refine XS.astoreN X17.here hx rfl (hb hby at_33) rfl rfl (l' := #[.val (.int p0), .val (.int p1), .val (.int ((p0 &&& (2147483647 : Int32)) % (3 : Int32))), .val (.ref w_FOUR), .unset, .unset, .unset, .unset]) rfl ?_
        show Steps p.tables e below (T17.setTop (mkF m 34 #[.val (.int p0), .val (.int p1), .val (.int ((p0 &&& (2147483647 : Int32)) % (3 : Int32))), .val (.ref w_FOUR), .unset, .unset, .unset, .unset] [])) _
        refine XS.iloadN X17.here hx rfl (hb hby at_34) rfl ?_
        show Steps p.tables e below (T17.setTop (mkF m 35 #[.val (.int p0), .val (.int p1), .val (.int ((p0 &&& (2147483647 : Int32)) % (3 : Int32))), .val (.ref w_FOUR), .unset, .unset, .unset, .unset] [(.int ((p0 &&& (2147483647 : Int32)) % (3 : Int32)))])) _
        refine XS.iconst X17.here hx rfl (hb hby at_35) ?_
        show Steps p.tables e below (T17.setTop (mkF m 36 #[.val (.int p0), .val (.int p1), .val (.int ((p0 &&& (2147483647 : Int32)) % (3 : Int32))), .val (.ref w_FOUR), .unset, .unset, .unset, .unset] [(.int (2 : Int32)), (.int ((p0 &&& (2147483647 : Int32)) % (3 : Int32)))])) _
        refine XS.icmpNo X17.here hx rfl (hb hby at_36) rfl (teq hc36).2 ?_
        show Steps p.tables e below (T17.setTop (mkF m 39 #[.val (.int p0), .val (.int p1), .val (.int ((p0 &&& (2147483647 : Int32)) % (3 : Int32))), .val (.ref w_FOUR), .unset, .unset, .unset, .unset] [])) _
        refine XS.iconst X17.here hx rfl (hb hby at_39) ?_
        show Steps p.tables e below (T17.setTop (mkF m 40 #[.val (.int p0), .val (.int p1), .val (.int ((p0 &&& (2147483647 : Int32)) % (3 : Int32))), .val (.ref w_FOUR), .unset, .unset, .unset, .unset] [(.int (1 : Int32))])) _
        refine XS.goto X17.here hx rfl (pc0 := 40) (pc' := 44) rfl (hb hby at_40) (by decide) (by decide) ?_
        show Steps p.tables e below (T17.setTop (mkF m 44 #[.val (.int p0), .val (.int p1), .val (.int ((p0 &&& (2147483647 : Int32)) % (3 : Int32))), .val (.ref w_FOUR), .unset, .unset, .unset, .unset] [(.int (1 : Int32))])) _
        refine XS.istore X17.here hx rfl (hb hby at_44) rfl (l' := #[.val (.int p0), .val (.int p1), .val (.int ((p0 &&& (2147483647 : Int32)) % (3 : Int32))), .val (.ref w_FOUR), .val (.int (1 : Int32)), .unset, .unset, .unset]) rfl ?_
        show Steps p.tables e below (T17.setTop (mkF m 46 #[.val (.int p0), .val (.int p1), .val (.int ((p0 &&& (2147483647 : Int32)) % (3 : Int32))), .val (.ref w_FOUR), .val (.int (1 : Int32)), .unset, .unset, .unset] [])) _
        refine XS.aloadN X17.here hx rfl (hb hby at_46) rfl rfl ?_
        show Steps p.tables e below (T17.setTop (mkF m 47 #[.val (.int p0), .val (.int p1), .val (.int ((p0 &&& (2147483647 : Int32)) % (3 : Int32))), .val (.ref w_FOUR), .val (.int (1 : Int32)), .unset, .unset, .unset] [(.ref w_FOUR)])) _
        refine st18.trans ?_
        show Steps p.tables e below (T18.setTop (mkF m 50 #[.val (.int p0), .val (.int p1), .val (.int ((p0 &&& (2147483647 : Int32)) % (3 : Int32))), .val (.ref w_FOUR), .val (.int (1 : Int32)), .unset, .unset, .unset] [(.int (F1 (2 : Int32) (4 : Int32)))])) _
        refine XS.istore X18.here hx rfl (hb hby at_50) rfl (l' := #[.val (.int p0), .val (.int p1), .val (.int ((p0 &&& (2147483647 : Int32)) % (3 : Int32))), .val (.ref w_FOUR), .val (.int (1 : Int32)), .val (.int (F1 (2 : Int32) (4 : Int32))), .unset, .unset]) rfl ?_
        show Steps p.tables e below (T18.setTop (mkF m 52 #[.val (.int p0), .val (.int p1), .val (.int ((p0 &&& (2147483647 : Int32)) % (3 : Int32))), .val (.ref w_FOUR), .val (.int (1 : Int32)), .val (.int (F1 (2 : Int32) (4 : Int32))), .unset, .unset] [])) _
        refine XS.iload X18.here hx rfl (hb hby at_52) rfl ?_
        show Steps p.tables e below (T18.setTop (mkF m 54 #[.val (.int p0), .val (.int p1), .val (.int ((p0 &&& (2147483647 : Int32)) % (3 : Int32))), .val (.ref w_FOUR), .val (.int (1 : Int32)), .val (.int (F1 (2 : Int32) (4 : Int32))), .unset, .unset] [(.int (F1 (2 : Int32) (4 : Int32)))])) _
        refine XS.iload X18.here hx rfl (hb hby at_54) rfl ?_
        show Steps p.tables e below (T18.setTop (mkF m 56 #[.val (.int p0), .val (.int p1), .val (.int ((p0 &&& (2147483647 : Int32)) % (3 : Int32))), .val (.ref w_FOUR), .val (.int (1 : Int32)), .val (.int (F1 (2 : Int32) (4 : Int32))), .unset, .unset] [(.int (1 : Int32)), (.int (F1 (2 : Int32) (4 : Int32)))])) _
        refine XS.icmpYes X18.here hx rfl (pc0 := 56) (pc' := 61) rfl (hb hby at_56) rfl (teq hc56).1 (by decide) (by decide) ?_
        show Steps p.tables e below (T18.setTop (mkF m 61 #[.val (.int p0), .val (.int p1), .val (.int ((p0 &&& (2147483647 : Int32)) % (3 : Int32))), .val (.ref w_FOUR), .val (.int (1 : Int32)), .val (.int (F1 (2 : Int32) (4 : Int32))), .unset, .unset] [])) _
        refine XS.aloadN X18.here hx rfl (hb hby at_61) rfl rfl ?_
        show Steps p.tables e below (T18.setTop (mkF m 62 #[.val (.int p0), .val (.int p1), .val (.int ((p0 &&& (2147483647 : Int32)) % (3 : Int32))), .val (.ref w_FOUR), .val (.int (1 : Int32)), .val (.int (F1 (2 : Int32) (4 : Int32))), .unset, .unset] [(.ref w_FOUR)])) _
        refine st19.trans ?_
        show Steps p.tables e below (T19.setTop (mkF m 65 #[.val (.int p0), .val (.int p1), .val (.int ((p0 &&& (2147483647 : Int32)) % (3 : Int32))), .val (.ref w_FOUR), .val (.int (1 : Int32)), .val (.int (F1 (2 : Int32) (4 : Int32))), .unset, .unset] [(.int (4 : Int32))])) _
        refine XS.istore X19.here hx rfl (hb hby at_65) rfl (l' := #[.val (.int p0), .val (.int p1), .val (.int ((p0 &&& (2147483647 : Int32)) % (3 : Int32))), .val (.ref w_FOUR), .val (.int (1 : Int32)), .val (.int (F1 (2 : Int32) (4 : Int32))), .val (.int (4 : Int32)), .unset]) rfl ?_
        show Steps p.tables e below (T19.setTop (mkF m 67 #[.val (.int p0), .val (.int p1), .val (.int ((p0 &&& (2147483647 : Int32)) % (3 : Int32))), .val (.ref w_FOUR), .val (.int (1 : Int32)), .val (.int (F1 (2 : Int32) (4 : Int32))), .val (.int (4 : Int32)), .unset] [])) _
        refine XS.iloadN X19.here hx rfl (hb hby at_67) rfl ?_
        show Steps p.tables e below (T19.setTop (mkF m 68 #[.val (.int p0), .val (.int p1), .val (.int ((p0 &&& (2147483647 : Int32)) % (3 : Int32))), .val (.ref w_FOUR), .val (.int (1 : Int32)), .val (.int (F1 (2 : Int32) (4 : Int32))), .val (.int (4 : Int32)), .unset] [(.int p1)])) _
        refine X19.ldcInt hx hown (mvT hZ (hw _ (List.mem_of_getElem? (i := 0) rfl))) (g := (mkF m 68 #[.val (.int p0), .val (.int p1), .val (.int ((p0 &&& (2147483647 : Int32)) % (3 : Int32))), .val (.ref w_FOUR), .val (.int (1 : Int32)), .val (.int (F1 (2 : Int32) (4 : Int32))), .val (.int (4 : Int32)), .unset] [(.int p1)])) rfl (hb hby at_68) _ ?_
        show Steps p.tables e below (T19.setTop (mkF m 70 #[.val (.int p0), .val (.int p1), .val (.int ((p0 &&& (2147483647 : Int32)) % (3 : Int32))), .val (.ref w_FOUR), .val (.int (1 : Int32)), .val (.int (F1 (2 : Int32) (4 : Int32))), .val (.int (4 : Int32)), .unset] [(.int (2147483647 : Int32)), (.int p1)])) _
        refine XS.iand X19.here hx rfl (hb hby at_70) rfl ?_
        show Steps p.tables e below (T19.setTop (mkF m 71 #[.val (.int p0), .val (.int p1), .val (.int ((p0 &&& (2147483647 : Int32)) % (3 : Int32))), .val (.ref w_FOUR), .val (.int (1 : Int32)), .val (.int (F1 (2 : Int32) (4 : Int32))), .val (.int (4 : Int32)), .unset] [(.int (p1 &&& (2147483647 : Int32)))])) _
        refine XS.iload X19.here hx rfl (hb hby at_71) rfl ?_
        show Steps p.tables e below (T19.setTop (mkF m 73 #[.val (.int p0), .val (.int p1), .val (.int ((p0 &&& (2147483647 : Int32)) % (3 : Int32))), .val (.ref w_FOUR), .val (.int (1 : Int32)), .val (.int (F1 (2 : Int32) (4 : Int32))), .val (.int (4 : Int32)), .unset] [(.int (4 : Int32)), (.int (p1 &&& (2147483647 : Int32)))])) _
        refine iremM X19 hx rfl (hb hby at_73) rfl (by decide) ?_
        show Steps p.tables e below (T19.setTop (mkF m 74 #[.val (.int p0), .val (.int p1), .val (.int ((p0 &&& (2147483647 : Int32)) % (3 : Int32))), .val (.ref w_FOUR), .val (.int (1 : Int32)), .val (.int (F1 (2 : Int32) (4 : Int32))), .val (.int (4 : Int32)), .unset] [(.int ((p1 &&& (2147483647 : Int32)) % (4 : Int32)))])) _
        refine XS.iconst X19.here hx rfl (hb hby at_74) ?_
        show Steps p.tables e below (T19.setTop (mkF m 75 #[.val (.int p0), .val (.int p1), .val (.int ((p0 &&& (2147483647 : Int32)) % (3 : Int32))), .val (.ref w_FOUR), .val (.int (1 : Int32)), .val (.int (F1 (2 : Int32) (4 : Int32))), .val (.int (4 : Int32)), .unset] [(.int (1 : Int32)), (.int ((p1 &&& (2147483647 : Int32)) % (4 : Int32)))])) _
        refine XS.iadd X19.here hx rfl (hb hby at_75) rfl ?_
        show Steps p.tables e below (T19.setTop (mkF m 76 #[.val (.int p0), .val (.int p1), .val (.int ((p0 &&& (2147483647 : Int32)) % (3 : Int32))), .val (.ref w_FOUR), .val (.int (1 : Int32)), .val (.int (F1 (2 : Int32) (4 : Int32))), .val (.int (4 : Int32)), .unset] [(.int (((p1 &&& (2147483647 : Int32)) % (4 : Int32)) + (1 : Int32)))])) _
        refine XS.istore X19.here hx rfl (hb hby at_76) rfl (l' := #[.val (.int p0), .val (.int p1), .val (.int ((p0 &&& (2147483647 : Int32)) % (3 : Int32))), .val (.ref w_FOUR), .val (.int (1 : Int32)), .val (.int (F1 (2 : Int32) (4 : Int32))), .val (.int (4 : Int32)), .val (.int (((p1 &&& (2147483647 : Int32)) % (4 : Int32)) + (1 : Int32)))]) rfl ?_
        show Steps p.tables e below (T19.setTop (mkF m 78 #[.val (.int p0), .val (.int p1), .val (.int ((p0 &&& (2147483647 : Int32)) % (3 : Int32))), .val (.ref w_FOUR), .val (.int (1 : Int32)), .val (.int (F1 (2 : Int32) (4 : Int32))), .val (.int (4 : Int32)), .val (.int (((p1 &&& (2147483647 : Int32)) % (4 : Int32)) + (1 : Int32)))] [])) _
        refine XS.iload X19.here hx rfl (hb hby at_78) rfl ?_
        show Steps p.tables e below (T19.setTop (mkF m 80 #[.val (.int p0), .val (.int p1), .val (.int ((p0 &&& (2147483647 : Int32)) % (3 : Int32))), .val (.ref w_FOUR), .val (.int (1 : Int32)), .val (.int (F1 (2 : Int32) (4 : Int32))), .val (.int (4 : Int32)), .val (.int (((p1 &&& (2147483647 : Int32)) % (4 : Int32)) + (1 : Int32)))] [(.int (F1 (2 : Int32) (4 : Int32)))])) _
        refine XS.ifYes X19.here hx rfl (pc0 := 80) (pc' := 96) rfl (hb hby at_80) rfl ((if0 _ _).trans (feq hc80).2) (by decide) (by decide) ?_
        show Steps p.tables e below (T19.setTop (mkF m 96 #[.val (.int p0), .val (.int p1), .val (.int ((p0 &&& (2147483647 : Int32)) % (3 : Int32))), .val (.ref w_FOUR), .val (.int (1 : Int32)), .val (.int (F1 (2 : Int32) (4 : Int32))), .val (.int (4 : Int32)), .val (.int (((p1 &&& (2147483647 : Int32)) % (4 : Int32)) + (1 : Int32)))] [])) _
        refine XS.iload X19.here hx rfl (hb hby at_96) rfl ?_
        show Steps p.tables e below (T19.setTop (mkF m 98 #[.val (.int p0), .val (.int p1), .val (.int ((p0 &&& (2147483647 : Int32)) % (3 : Int32))), .val (.ref w_FOUR), .val (.int (1 : Int32)), .val (.int (F1 (2 : Int32) (4 : Int32))), .val (.int (4 : Int32)), .val (.int (((p1 &&& (2147483647 : Int32)) % (4 : Int32)) + (1 : Int32)))] [(.int (F1 (2 : Int32) (4 : Int32)))])) _
        refine XS.aloadN X19.here hx rfl (hb hby at_98) rfl rfl ?_
        show Steps p.tables e below (T19.setTop (mkF m 99 #[.val (.int p0), .val (.int p1), .val (.int ((p0 &&& (2147483647 : Int32)) % (3 : Int32))), .val (.ref w_FOUR), .val (.int (1 : Int32)), .val (.int (F1 (2 : Int32) (4 : Int32))), .val (.int (4 : Int32)), .val (.int (((p1 &&& (2147483647 : Int32)) % (4 : Int32)) + (1 : Int32)))] [(.ref w_FOUR), (.int (F1 (2 : Int32) (4 : Int32)))])) _
        refine XS.iload X19.here hx rfl (hb hby at_99) rfl ?_
        show Steps p.tables e below (T19.setTop (mkF m 101 #[.val (.int p0), .val (.int p1), .val (.int ((p0 &&& (2147483647 : Int32)) % (3 : Int32))), .val (.ref w_FOUR), .val (.int (1 : Int32)), .val (.int (F1 (2 : Int32) (4 : Int32))), .val (.int (4 : Int32)), .val (.int (((p1 &&& (2147483647 : Int32)) % (4 : Int32)) + (1 : Int32)))] [(.int (4 : Int32)), (.ref w_FOUR), (.int (F1 (2 : Int32) (4 : Int32)))])) _
        refine st21.trans ?_
        show Steps p.tables e below (T21.setTop (mkF m 104 #[.val (.int p0), .val (.int p1), .val (.int ((p0 &&& (2147483647 : Int32)) % (3 : Int32))), .val (.ref w_FOUR), .val (.int (1 : Int32)), .val (.int (F1 (2 : Int32) (4 : Int32))), .val (.int (4 : Int32)), .val (.int (((p1 &&& (2147483647 : Int32)) % (4 : Int32)) + (1 : Int32)))] [(.int ((((4 : Int32) - (1 : Int32)) % (2 : Int32)) + (1 : Int32))), (.int (F1 (2 : Int32) (4 : Int32)))])) _
        refine XS.iload X21.here hx rfl (hb hby at_104) rfl ?_
        show Steps p.tables e below (T21.setTop (mkF m 106 #[.val (.int p0), .val (.int p1), .val (.int ((p0 &&& (2147483647 : Int32)) % (3 : Int32))), .val (.ref w_FOUR), .val (.int (1 : Int32)), .val (.int (F1 (2 : Int32) (4 : Int32))), .val (.int (4 : Int32)), .val (.int (((p1 &&& (2147483647 : Int32)) % (4 : Int32)) + (1 : Int32)))] [(.int (4 : Int32)), (.int ((((4 : Int32) - (1 : Int32)) % (2 : Int32)) + (1 : Int32))), (.int (F1 (2 : Int32) (4 : Int32)))])) _
        refine XS.icmpNo X21.here hx rfl (hb hby at_106) rfl (feq hc106).1 ?_
        show Steps p.tables e below (T21.setTop (mkF m 109 #[.val (.int p0), .val (.int p1), .val (.int ((p0 &&& (2147483647 : Int32)) % (3 : Int32))), .val (.ref w_FOUR), .val (.int (1 : Int32)), .val (.int (F1 (2 : Int32) (4 : Int32))), .val (.int (4 : Int32)), .val (.int (((p1 &&& (2147483647 : Int32)) % (4 : Int32)) + (1 : Int32)))] [(.int (F1 (2 : Int32) (4 : Int32)))])) _
        refine XS.iconst X21.here hx rfl (hb hby at_109) ?_
        show Steps p.tables e below (T21.setTop (mkF m 110 #[.val (.int p0), .val (.int p1), .val (.int ((p0 &&& (2147483647 : Int32)) % (3 : Int32))), .val (.ref w_FOUR), .val (.int (1 : Int32)), .val (.int (F1 (2 : Int32) (4 : Int32))), .val (.int (4 : Int32)), .val (.int (((p1 &&& (2147483647 : Int32)) % (4 : Int32)) + (1 : Int32)))] [(.int (1 : Int32)), (.int (F1 (2 : Int32) (4 : Int32)))])) _
        refine XS.goto X21.here hx rfl (pc0 := 110) (pc' := 114) rfl (hb hby at_110) (by decide) (by decide) ?_
        show Steps p.tables e below (T21.setTop (mkF m 114 #[.val (.int p0), .val (.int p1), .val (.int ((p0 &&& (2147483647 : Int32)) % (3 : Int32))), .val (.ref w_FOUR), .val (.int (1 : Int32)), .val (.int (F1 (2 : Int32) (4 : Int32))), .val (.int (4 : Int32)), .val (.int (((p1 &&& (2147483647 : Int32)) % (4 : Int32)) + (1 : Int32)))] [(.int (1 : Int32)), (.int (F1 (2 : Int32) (4 : Int32)))])) _
        refine XS.icmpNo X21.here hx rfl (hb hby at_114) rfl (teq hc56).2 ?_
        show Steps p.tables e below (T21.setTop (mkF m 117 #[.val (.int p0), .val (.int p1), .val (.int ((p0 &&& (2147483647 : Int32)) % (3 : Int32))), .val (.ref w_FOUR), .val (.int (1 : Int32)), .val (.int (F1 (2 : Int32) (4 : Int32))), .val (.int (4 : Int32)), .val (.int (((p1 &&& (2147483647 : Int32)) % (4 : Int32)) + (1 : Int32)))] [])) _
        refine XS.iconst X21.here hx rfl (hb hby at_117) ?_
        show Steps p.tables e below (T21.setTop (mkF m 118 #[.val (.int p0), .val (.int p1), .val (.int ((p0 &&& (2147483647 : Int32)) % (3 : Int32))), .val (.ref w_FOUR), .val (.int (1 : Int32)), .val (.int (F1 (2 : Int32) (4 : Int32))), .val (.int (4 : Int32)), .val (.int (((p1 &&& (2147483647 : Int32)) % (4 : Int32)) + (1 : Int32)))] [(.int (1 : Int32))])) _
        refine XS.goto X21.here hx rfl (pc0 := 118) (pc' := 122) rfl (hb hby at_118) (by decide) (by decide) ?_
        show Steps p.tables e below (T21.setTop (mkF m 122 #[.val (.int p0), .val (.int p1), .val (.int ((p0 &&& (2147483647 : Int32)) % (3 : Int32))), .val (.ref w_FOUR), .val (.int (1 : Int32)), .val (.int (F1 (2 : Int32) (4 : Int32))), .val (.int (4 : Int32)), .val (.int (((p1 &&& (2147483647 : Int32)) % (4 : Int32)) + (1 : Int32)))] [(.int (1 : Int32))])) _
        exact retN X21 hx (t := .boolean) Bd.returns (by simp) (hb hby at_122) hr
      · show Q0 Z p0 p1 w_TWO w_THREE w_FOUR h0 n0 _ T21.heap _
        rw [e21]
        exact ⟨rfl, N21⟩
set_option maxRecDepth 65536 in
set_option maxHeartbeats 40000000 in
theorem comes_1 {Post : Tables → Env → Array Value → State → Outcome → State → Prop} (hpost : ∀ tb e args s v u, (limb_1_1.after args s (.returned v) u = true ∧ limb_1_2.after args s (.returned v) u = true ∧ True) → FrameEnd s (.returned v) u (Jvm.fieldLocs frame_1_writes args s ++ Jvm.arrayLocs frame_1_arrays args s ++ Jvm.staticLocs frame_1_statics s) 0 0 → Post tb e args s (.returned v) u) :
    ArmFor flags0 classFile x code maxLocals ret World_1 tables_1 room_1 Calls_1 rest_1 Pre_1 Post := by
  intro l hfl _ _ p e ha hc hk s m args below hf hA hF happ hP
  obtain ⟨hcalls, hrest, hpre⟩ := hP
  obtain ⟨-, -, -, hnamed, -, -, -, hat⟩ := (Spec.applies_iff hf).mp happ
  obtain ⟨hg, hn⟩ := and_e (Cond.before_iff.mp (show (Jvm.Cond.and given_1 narrow_1).before args s = true from hpre))
  obtain ⟨g1, g2⟩ := and_e hg
  obtain ⟨g3, g4⟩ := and_e g2
  obtain ⟨w0, w1, rfl⟩ : ∃ w0 w1 : Value, args = #[w0, w1] := by
    have hs : args.size = 2 := by simpa [Cond.value, given_1] using g1
    obtain ⟨L⟩ := args
    match L, hs with
    | [w0, w1], _ => exact ⟨w0, w1, rfl⟩
  have hw := fun d (hd : d ∈ tables_1) => atoms_spec (ws := Jvm.Cond.code x code maxLocals ret :: tables_1) hat d (List.mem_cons_of_mem _ hd)
  obtain ⟨i0, ei0⟩ := is_v g3
  obtain rfl : w0 = (.int i0) := Option.some.inj ei0
  obtain ⟨i1, ei1⟩ := is_v g4
  obtain rfl : w1 = (.int i1) := Option.some.inj ei1
  obtain ⟨nl1, nr1⟩ := and_e hn
  obtain ⟨nl2, nr2⟩ := and_e nr1
  obtain ⟨nl3, nr3⟩ := and_e nr2
  obtain ⟨nl4, nr4⟩ := and_e nr3
  obtain ⟨nl5, nr5⟩ := and_e nr4
  obtain ⟨nl6, nr6⟩ := and_e nr5
  obtain ⟨nl7, nr7⟩ := and_e nr6
  obtain ⟨nl8, nr8⟩ := and_e nr7
  obtain ⟨w_TWO, ev_TWO⟩ := exa_v nl1
  have E_TWO := Exa.start ev_TWO nl1
  have S_TWO := Sta.start ev_TWO (Or.inr ⟨(hw _ (List.mem_of_getElem? (i := 2) rfl)), (hw _ (List.mem_of_getElem? (i := 3) rfl))⟩)
  have F_sides_TWO := own_fint ev_TWO nl2
  have F_seats_TWO := own_fint ev_TWO nl3
  obtain ⟨w_THREE, ev_THREE⟩ := exa_v nl7
  have E_THREE := Exa.start ev_THREE nl7
  have S_THREE := Sta.start ev_THREE (Or.inr ⟨(hw _ (List.mem_of_getElem? (i := 2) rfl)), (hw _ (List.mem_of_getElem? (i := 26) rfl))⟩)
  have F_sides_THREE := own_fint ev_THREE nl8
  have F_seats_THREE := own_fint ev_THREE nr8
  obtain ⟨w_FOUR, ev_FOUR⟩ := exa_v nl4
  have E_FOUR := Exa.start ev_FOUR nl4
  have S_FOUR := Sta.start ev_FOUR (Or.inr ⟨(hw _ (List.mem_of_getElem? (i := 2) rfl)), (hw _ (List.mem_of_getElem? (i := 24) rfl))⟩)
  have F_sides_FOUR := own_fint ev_FOUR nl5
  have F_seats_FOUR := own_fint ev_FOUR nl6
  obtain ⟨n, o, h1, h2, h3, _, L, rfl, ⟨rfl, N⟩, hq⟩ := rm0 l s _ hw tables_1 i0 i1 w_TWO w_THREE w_FOUR s.heap s.heap.size (Nat.le_refl _) S_TWO E_TWO F_sides_TWO F_seats_TWO S_THREE E_THREE F_sides_THREE F_seats_THREE S_FOUR E_FOUR F_sides_FOUR F_seats_FOUR p e ha hc hk s m _ below hf ((Spec.applies_iff_loose hf).mp happ).1 ⟨rfl, State.Warmed39.refl s, rfl⟩ trivial
  refine ⟨n, _, h1, h2, h3, hpost _ _ _ _ _ _ ⟨Cond.after_iff.mpr rfl, Cond.after_iff.mpr (eq_i res_at (Term.int_eval (1)) rfl), trivial⟩ ⟨hq.1, hq.2.1, (hq.2.2.sift fun y hy => Or.inr (N y hy)).mono (by decide) (by decide)⟩⟩
theorem main_1_1 : Claimed_1_1 := comes_1 fun _ _ _ _ _ _ h hF => ⟨h.1, hF⟩
theorem main_1_2 : Claimed_1_2 := comes_1 fun _ _ _ _ _ _ h hF => ⟨h.2.1, hF⟩
end Jvm.Pilot.@@N@@
namespace Jvm.Pilot.@@N@@
open Jvm Jvm.ClassFile Sem Op Lib Jvm.Free Jvm.Stand Jvm.Pilot.@@N@@.Jvm.D
/-! MADE BY PROGRAM (witnessworld.py) out of the Statement's table words and the real class files: 12 classes; the members and pool entries that the words name. The judged class is class 1, her method 1. -/
namespace start1
open Jvm.ClassFile
def u (s : String) : CpInfo := .utf8 (stringToUtf16 s)
/-- a pool by its gaps: so many unusable entries, then the entry; so many at the end -/
def gap : Nat → List CpInfo → List CpInfo
  | 0, r => r
  | n + 1, r => .unusable :: gap n r
def poolList (es : List (Nat × CpInfo)) (last : Nat) : List CpInfo := es.foldr (fun e r => gap e.1 (e.2 :: r)) (gap last [])
def pool (es : List (Nat × CpInfo)) (last : Nat) : Array CpInfo := ⟨poolList es last⟩
def fileOf (pool : Array CpInfo) (this : Nat) (attrs : Array Attribute := #[]) (ms : Array MethodInfo := #[]) (fl : Nat := 33) (sup : Nat := 0) (ifs : Array Nat := #[]) (fds : Array FieldInfo := #[]) : ClassFile where
  minorVersion := 0
  majorVersion := 65
  constantPool := pool
  accessFlags := fl
  thisClass := this
  superClass := sup
  interfaces := ifs
  fields := fds
  methods := ms
  attributes := attrs
def plain (name : String) (sup : Option ClassId) : Class where
  name := name
  kind := .ordinary
  loader := none
  accessFlags := 33
  super := sup
  interfaces := #[]
  cf := none
  fields := #[]
  methods := #[]
  instanceTypes := #[]
  staticTypes := #[]
  resolved := #[]
  callSites := []
  init := .initialized
  statics := none
  mirror := none

def pool0 : Array CpInfo := pool [(5, u "<init>"), (0, u "()V"), (1, .class_ 10), (1, u "java/lang/Object")] 113

def k0m0 : Method := { name := "<init>", desc := "()V", sig := { parameters := [], returnType := none }, accessFlags := 1, code := none }
/-- java/lang/Object -/
def k0 : Class := { plain "java/lang/Object" none with
  accessFlags := 33
  interfaces := #[]
  cf := some (fileOf pool0 8 #[] #[{ accessFlags := 1, nameIndex := 5, descriptorIndex := 6, attributes := #[] }] 33 0 #[] #[])
  fields := #[]
  methods := #[k0m0]
  instanceTypes := #[]
  staticTypes := #[]
  resolved := Array.replicate 124 none
  statics := none }

def pool1 : Array CpInfo := pool [(2, .class_ 4), (1, u "java/lang/Object"), (0, u "<init>"), (0, u "()V"), (0, .integer 2147483647), (0, .fieldref 9 10), (0, .class_ 11), (0, .nameAndType 12 13), (0, u "com/example/pegrun/pegrun/rules/Seating"), (0, u "TWO"), (0, u "Lcom/example/pegrun/pegrun/rules/Seating;"), (0, .fieldref 9 15), (0, .nameAndType 16 13), (0, u "THREE"), (0, .fieldref 9 18), (0, .nameAndType 19 13), (0, u "FOUR"), (0, .methodref 9 21), (0, .nameAndType 22 23), (0, u "partnerships"), (0, u "()Z"), (0, .methodref 9 25), (0, .nameAndType 26 27), (0, u "seats"), (0, u "()I"), (0, .methodref 9 29), (0, .nameAndType 30 31), (0, u "side"), (0, u "(I)I"), (0, .class_ 33), (0, u "com/example/pegrun/pegrun/rules/SeatingPartnershipsPinLaw"), (2, u "law"), (0, u "(II)Z")] 3

def k1m0 : Method := { name := "<init>", desc := "()V", sig := { parameters := [], returnType := none }, accessFlags := 2, code := none }
def k1c1 : Code := { maxStack := 3, maxLocals := 8, code := code, exceptionTable := #[], attributes := #[] }
def k1m1 : Method := { name := "law", desc := "(II)Z", sig := { parameters := [.int, .int], returnType := some .boolean }, accessFlags := 9, code := some k1c1 }
/-- com/example/pegrun/pegrun/rules/SeatingPartnershipsPinLaw -/
def k1 : Class := { plain "com/example/pegrun/pegrun/rules/SeatingPartnershipsPinLaw" (some 0) with
  accessFlags := 49
  interfaces := #[]
  cf := some (fileOf pool1 32 #[] #[{ accessFlags := 2, nameIndex := 5, descriptorIndex := 6, attributes := #[] }, { accessFlags := 9, nameIndex := 36, descriptorIndex := 37, attributes := #[] }] 49 2 #[] #[])
  fields := #[]
  methods := #[k1m0, k1m1]
  instanceTypes := #[]
  staticTypes := #[]
  resolved := Array.replicate 41 none
  statics := none }

def pool2 : Array CpInfo := pool [(1, .class_ 2), (0, u "java/lang/constant/Constable"), (0, .class_ 4), (0, u "java/lang/Object")] 6

/-- java/lang/constant/Constable -/
def k2 : Class := { plain "java/lang/constant/Constable" (some 0) with
  accessFlags := 1537
  interfaces := #[]
  cf := some (fileOf pool2 1 #[] #[] 1537 3 #[] #[])
  fields := #[]
  methods := #[]
  instanceTypes := #[]
  staticTypes := #[]
  resolved := Array.replicate 11 none
  statics := none }

def pool3 : Array CpInfo := pool [(1, .class_ 2), (0, u "java/lang/Comparable"), (0, .class_ 4), (0, u "java/lang/Object")] 7

/-- java/lang/Comparable -/
def k3 : Class := { plain "java/lang/Comparable" (some 0) with
  accessFlags := 1537
  interfaces := #[]
  cf := some (fileOf pool3 1 #[] #[] 1537 3 #[] #[])
  fields := #[]
  methods := #[]
  instanceTypes := #[]
  staticTypes := #[]
  resolved := Array.replicate 12 none
  statics := none }

def pool4 : Array CpInfo := pool [(1, .class_ 2), (0, u "java/io/Serializable"), (0, .class_ 4), (0, u "java/lang/Object")] 2

/-- java/io/Serializable -/
def k4 : Class := { plain "java/io/Serializable" (some 0) with
  accessFlags := 1537
  interfaces := #[]
  cf := some (fileOf pool4 1 #[] #[] 1537 3 #[] #[])
  fields := #[]
  methods := #[]
  instanceTypes := #[]
  staticTypes := #[]
  resolved := Array.replicate 7 none
  statics := none }

def pool5 : Array CpInfo := pool [(2, .class_ 4), (1, u "java/lang/Enum"), (0, u "name"), (0, u "Ljava/lang/String;"), (2, u "ordinal"), (0, u "I"), (1, .class_ 14), (1, u "java/lang/Object"), (4, u "hash"), (86, .class_ 108), (1, u "java/lang/Enum$EnumDesc"), (2, .class_ 112), (0, u "java/lang/constant/Constable"), (0, .class_ 114), (0, u "java/lang/Comparable"), (0, .class_ 116), (0, u "java/io/Serializable")] 87

/-- java/lang/Enum -/
def k5 : Class := { plain "java/lang/Enum" (some 0) with
  accessFlags := 1057
  interfaces := #[2, 3, 4]
  cf := some (fileOf pool5 2 #[.nestMembers #[106]] #[] 1057 12 #[111, 113, 115] #[{ accessFlags := 18, nameIndex := 5, descriptorIndex := 6, attributes := #[] }, { accessFlags := 18, nameIndex := 9, descriptorIndex := 10, attributes := #[] }, { accessFlags := 2, nameIndex := 19, descriptorIndex := 10, attributes := #[] }])
  fields := #[{ name := "name", type := (.object "java/lang/String"), accessFlags := 18, slot := 0, constantValue := 0 }, { name := "ordinal", type := .int, accessFlags := 18, slot := 1, constantValue := 0 }, { name := "hash", type := .int, accessFlags := 2, slot := 2, constantValue := 0 }]
  methods := #[]
  instanceTypes := #[(.object "java/lang/String"), .int, .int]
  staticTypes := #[]
  resolved := Array.replicate 204 none
  statics := none }

def pool6 : Array CpInfo := pool [(1, .class_ 2), (0, u "com/example/pegrun/pegrun/rules/Seating"), (2, u "TWO"), (0, u "Lcom/example/pegrun/pegrun/rules/Seating;"), (2, u "THREE"), (2, u "FOUR"), (2, u "$VALUES"), (0, u "[Lcom/example/pegrun/pegrun/rules/Seating;"), (6, .class_ 25), (1, u "java/lang/Enum"), (6, .fieldref 1 33), (0, .nameAndType 34 35), (0, u "seats"), (0, u "I"), (2, u "dealt"), (2, u "laidAway"), (2, u "fromPack"), (0, .fieldref 1 46), (0, .nameAndType 47 35), (0, u "sides"), (17, u "()I"), (134, u "partnerships"), (0, u "()Z"), (0, u "side"), (0, u "(I)I")] 75

def k6c0 : Code := { maxStack := 1, maxLocals := 1, code := prog_30_method_10_code, exceptionTable := #[], attributes := #[] }
def k6m0 : Method := { name := "seats", desc := "()I", sig := { parameters := [], returnType := some .int }, accessFlags := 1, code := some k6c0 }
def k6c1 : Code := { maxStack := 2, maxLocals := 1, code := prog_30_method_15_code, exceptionTable := #[], attributes := #[] }
def k6m1 : Method := { name := "partnerships", desc := "()Z", sig := { parameters := [], returnType := some .boolean }, accessFlags := 1, code := some k6c1 }
def k6c2 : Code := { maxStack := 2, maxLocals := 2, code := prog_30_method_16_code, exceptionTable := #[], attributes := #[] }
def k6m2 : Method := { name := "side", desc := "(I)I", sig := { parameters := [.int], returnType := some .int }, accessFlags := 1, code := some k6c2 }
/-- com/example/pegrun/pegrun/rules/Seating -/
def k6 : Class := { plain "com/example/pegrun/pegrun/rules/Seating" (some 5) with
  accessFlags := 16433
  interfaces := #[]
  cf := some (fileOf pool6 1 #[] #[{ accessFlags := 1, nameIndex := 34, descriptorIndex := 65, attributes := #[] }, { accessFlags := 1, nameIndex := 200, descriptorIndex := 201, attributes := #[] }, { accessFlags := 1, nameIndex := 202, descriptorIndex := 203, attributes := #[] }] 16433 23 #[] #[{ accessFlags := 16409, nameIndex := 5, descriptorIndex := 6, attributes := #[] }, { accessFlags := 16409, nameIndex := 9, descriptorIndex := 6, attributes := #[] }, { accessFlags := 16409, nameIndex := 12, descriptorIndex := 6, attributes := #[] }, { accessFlags := 18, nameIndex := 34, descriptorIndex := 35, attributes := #[] }, { accessFlags := 18, nameIndex := 38, descriptorIndex := 35, attributes := #[] }, { accessFlags := 18, nameIndex := 41, descriptorIndex := 35, attributes := #[] }, { accessFlags := 18, nameIndex := 44, descriptorIndex := 35, attributes := #[] }, { accessFlags := 18, nameIndex := 47, descriptorIndex := 35, attributes := #[] }, { accessFlags := 4122, nameIndex := 15, descriptorIndex := 16, attributes := #[] }])
  fields := #[{ name := "TWO", type := (.object "com/example/pegrun/pegrun/rules/Seating"), accessFlags := 16409, slot := 0, constantValue := 0 }, { name := "THREE", type := (.object "com/example/pegrun/pegrun/rules/Seating"), accessFlags := 16409, slot := 1, constantValue := 0 }, { name := "FOUR", type := (.object "com/example/pegrun/pegrun/rules/Seating"), accessFlags := 16409, slot := 2, constantValue := 0 }, { name := "seats", type := .int, accessFlags := 18, slot := 3, constantValue := 0 }, { name := "dealt", type := .int, accessFlags := 18, slot := 4, constantValue := 0 }, { name := "laidAway", type := .int, accessFlags := 18, slot := 5, constantValue := 0 }, { name := "fromPack", type := .int, accessFlags := 18, slot := 6, constantValue := 0 }, { name := "sides", type := .int, accessFlags := 18, slot := 7, constantValue := 0 }, { name := "$VALUES", type := (.array (.object "com/example/pegrun/pegrun/rules/Seating")), accessFlags := 4122, slot := 3, constantValue := 0 }]
  methods := #[k6m0, k6m1, k6m2]
  instanceTypes := #[(.object "java/lang/String"), .int, .int, .int, .int, .int, .int, .int]
  staticTypes := #[(.object "com/example/pegrun/pegrun/rules/Seating"), (.object "com/example/pegrun/pegrun/rules/Seating"), (.object "com/example/pegrun/pegrun/rules/Seating"), (.array (.object "com/example/pegrun/pegrun/rules/Seating"))]
  resolved := Array.replicate 279 none
  statics := some 0 }

def pool7 : Array CpInfo := pool [(1, u "java/lang/Cloneable"), (0, .class_ 1), (0, u "java/lang/Object"), (0, .class_ 3)] 3

/-- java/lang/Cloneable -/
def k7 : Class := { plain "java/lang/Cloneable" (some 0) with
  accessFlags := 1537
  interfaces := #[]
  cf := some (fileOf pool7 2 #[] #[] 1537 4 #[] #[])
  fields := #[]
  methods := #[]
  instanceTypes := #[]
  staticTypes := #[]
  resolved := Array.replicate 8 none
  statics := none }

/-- the primitive byte -/
def k8 : Class := { plain "byte" none with kind := .primitive 'B', accessFlags := 0x411 }
/-- [B -/
def k9 : Class := { plain "[B" (some 0) with kind := .array 8 .byte, interfaces := #[7, 4], accessFlags := 1041 }

/-- the primitive int -/
def k10 : Class := { plain "int" none with kind := .primitive 'I', accessFlags := 0x411 }
/-- [I -/
def k11 : Class := { plain "[I" (some 0) with kind := .array 10 .int, interfaces := #[7, 4], accessFlags := 1041 }

def heap : Heap := #[{ cls := 6, slots := #[.ref 1, .ref 2, .ref 3, .null], vm := .statics 6 },
  { cls := 6, slots := #[.null, .int 0, .int 0, .int 2, .int 0, .int 0, .int 0, .int 2], vm := .none },
  { cls := 6, slots := #[.null, .int 1, .int 0, .int 3, .int 0, .int 0, .int 0, .int 3], vm := .none },
  { cls := 6, slots := #[.null, .int 2, .int 0, .int 4, .int 0, .int 0, .int 0, .int 2], vm := .none }]
def classes : Array Class := #[k0, k1, k2, k3, k4, k5, k6, k7, k8, k9, k10, k11]
def interned : List (Array UInt16 × Addr) := []
def slotsUsed : Nat := 28
def theMethod : MethodId := ⟨1, 1⟩
def args0 : Array Value := #[.int 5, .int 1]
def aboutOver (below : List Frame) : State where
  vm := { classes := classes, interned := interned.toArray }
  heap := heap
  slotsUsed := slotsUsed
  threads := #[{ frames := .invoking theMethod args0 :: below }]
def below0 : List Frame := [.native { method := ⟨0, 0⟩, args := #[] }]
def about1 : State := aboutOver below0
def p0 : Program := .bare "" "" ""
def e0 : Env := launch0.env 0 0 0
theorem w_frames : about1.frames = Frame.invoking theMethod args0 :: below0 := rfl
set_option maxRecDepth 65536 in
theorem w_args : argsFit about1.vm theMethod args0 = true := by decide +kernel
set_option maxRecDepth 65536 in
theorem w_heap : heapFits about1 = true := by decide +kernel
set_option maxRecDepth 65536 in
theorem w_runnable : about1.curStatus? = some .runnable := by decide +kernel
set_option maxRecDepth 65536 in
theorem w_alone : about1.alone = true := by decide +kernel
set_option maxRecDepth 65536 in
theorem w_named : about1.methodNamed? x = some theMethod := by decide +kernel
set_option maxRecDepth 65536 in
theorem w_hears : about1.hears theMethod below0 = true := by decide +kernel
set_option maxRecDepth 65536 in
theorem w_ripe : about1.ripe theMethod args0 below0 = true := by decide +kernel
theorem w_running : about1.status = .running := rfl
set_option maxRecDepth 65536 in
theorem w_room : about1.hasRoom e0.platform room_1 = true :=
  launch0.hasRoom_least _ room_1 (by decide +kernel) (by decide +kernel) (by decide +kernel) (by decide +kernel) (by decide +kernel) (by decide +kernel)
theorem allAtoms_all (ts : List Jvm.Cond) (a : Array Jvm.Value) (st : Jvm.State) : (allAtoms ts).before a st = ts.all (fun c => c.before a st) := by
  induction ts with
  | nil => rfl
  | cons c t ih =>
    show (Jvm.Cond.and c (allAtoms t)).before a st = _
    rw [Jvm.Cond.before_and, ih, List.all_cons]
def words1 : List Jvm.Cond := Jvm.Cond.code x code maxLocals ret :: tables_1
/-- a 'code' word, met by the world's own term for the bytes: nothing is compared byte by byte -/
theorem code_word {y : MethodName} {bytes : ByteArray} {mx : Nat} {rt : Option FieldType} {a : Array Value} {s : State} {m : MethodId} {meth : Method} {c : Code} (h1 : s.methodNamed? y = some m) (h2 : s.vm.method? m = some meth) (h3 : meth.code = some c) (h4 : c.code = bytes)
    (h5 : (c.maxLocals == mx && c.exceptionTable.isEmpty && decide (c.maxStack ≤ mostOperands) && decide (meth.sig.returnType = rt) && !meth.locks && decide (parseMethodDescriptor y.desc = some meth.sig)) = true) : (Jvm.Cond.code y bytes mx rt).before a s = true := by
  simp only [Bool.and_eq_true, beq_iff_eq, Bool.not_eq_true', decide_eq_true_eq] at h5
  obtain ⟨⟨⟨⟨⟨g1, g2⟩, g3⟩, g4⟩, g5⟩, g6⟩ := h5
  simp [Cond.before, Cond.holds, Cond.value, h1, h2, h3, h4, g1, g2, g3, g4, g5, g6]
def isCode : Jvm.Cond → Bool
  | .code _ _ _ _ => true
  | _ => false
theorem all_split {L : List Jvm.Cond} {P : Jvm.Cond → Bool} (h1 : L.all (fun c => isCode c || P c) = true) (h2 : ∀ c ∈ L.filter isCode, P c = true) : L.all P = true := by
  refine List.all_eq_true.mpr fun c hc => ?_
  have h := List.all_eq_true.mp h1 c hc
  rcases Bool.eq_false_or_eq_true (isCode c) with hi | hi
  · exact h2 c (List.mem_filter.mpr ⟨hc, hi⟩)
  · simpa [hi] using h
set_option maxRecDepth 65536 in
theorem w_c0 : (Jvm.Cond.code x code maxLocals ret).before args0 about1 = true := code_word (m := ⟨1, 1⟩) (meth := k1m1) (c := k1c1) (by decide +kernel) rfl rfl rfl (by decide +kernel)
set_option maxRecDepth 65536 in
theorem w_c1 : (Jvm.Cond.code ({ cls := "com/example/pegrun/pegrun/rules/Seating", name := "partnerships", desc := "()Z" } : Jvm.MethodName) prog_30_method_15_code (1 : Nat) (Option.some Jvm.ClassFile.FieldType.boolean)).before args0 about1 = true := code_word (m := ⟨6, 1⟩) (meth := k6m1) (c := k6c1) (by decide +kernel) rfl rfl rfl (by decide +kernel)
set_option maxRecDepth 65536 in
theorem w_c2 : (Jvm.Cond.code ({ cls := "com/example/pegrun/pegrun/rules/Seating", name := "seats", desc := "()I" } : Jvm.MethodName) prog_30_method_10_code (1 : Nat) (Option.some Jvm.ClassFile.FieldType.int)).before args0 about1 = true := code_word (m := ⟨6, 0⟩) (meth := k6m0) (c := k6c0) (by decide +kernel) rfl rfl rfl (by decide +kernel)
set_option maxRecDepth 65536 in
theorem w_c3 : (Jvm.Cond.code ({ cls := "com/example/pegrun/pegrun/rules/Seating", name := "side", desc := "(I)I" } : Jvm.MethodName) prog_30_method_16_code (2 : Nat) (Option.some Jvm.ClassFile.FieldType.int)).before args0 about1 = true := code_word (m := ⟨6, 2⟩) (meth := k6m2) (c := k6c2) (by decide +kernel) rfl rfl rfl (by decide +kernel)
def codes1 : List Jvm.Cond := [Jvm.Cond.code x code maxLocals ret, Jvm.Cond.code ({ cls := "com/example/pegrun/pegrun/rules/Seating", name := "partnerships", desc := "()Z" } : Jvm.MethodName) prog_30_method_15_code (1 : Nat) (Option.some Jvm.ClassFile.FieldType.boolean), Jvm.Cond.code ({ cls := "com/example/pegrun/pegrun/rules/Seating", name := "seats", desc := "()I" } : Jvm.MethodName) prog_30_method_10_code (1 : Nat) (Option.some Jvm.ClassFile.FieldType.int), Jvm.Cond.code ({ cls := "com/example/pegrun/pegrun/rules/Seating", name := "side", desc := "(I)I" } : Jvm.MethodName) prog_30_method_16_code (2 : Nat) (Option.some Jvm.ClassFile.FieldType.int)]
set_option maxRecDepth 65536 in
theorem codes_eq : words1.filter isCode = codes1 := rfl
theorem w_codes : ∀ c ∈ words1.filter isCode, c.before args0 about1 = true := by
  rw [codes_eq]
  intro c hc
  simp only [codes1, List.mem_cons, List.not_mem_nil, or_false] at hc
  rcases hc with rfl | rfl | rfl | rfl
  · exact w_c0
  · exact w_c1
  · exact w_c2
  · exact w_c3
set_option maxRecDepth 65536 in
theorem w_t1 : (words1.take 24).all (fun c => isCode c || c.before args0 about1) = true := by decide +kernel
set_option maxRecDepth 65536 in
theorem w_t2 : (words1.drop 24).all (fun c => isCode c || c.before args0 about1) = true := by decide +kernel
theorem w_tables : (allAtoms (Jvm.Cond.code x code maxLocals ret :: tables_1)).before args0 about1 = true := by
  rw [allAtoms_all]
  show words1.all (fun c => c.before args0 about1) = true
  refine all_split ?_ w_codes
  rw [← List.take_append_drop 24 words1, List.all_append, w_t1, w_t2]
  rfl
set_option maxRecDepth 65536 in
theorem w_case : (Jvm.Cond.and given_1 narrow_1).before args0 about1 = true := by decide +kernel
theorem w_applies : (headSpec (Jvm.Cond.code x code maxLocals ret :: tables_1) room_1).applies x e0.platform about1 = true :=
  (Spec.applies_iff w_frames).mpr ⟨w_running, w_runnable, w_alone, w_named, w_hears, w_ripe, w_room, w_tables⟩
theorem atStart : AtStart classFile x code maxLocals ret World_1 tables_1 room_1 Calls_1 rest_1 Pre_1 launch0 p0 e0 about1 theMethod args0 below0 :=
  ⟨lists_1, trivial, launch0.admits_env _ _ _, launch0.least_env, fairChoices_fair.cas, fairChoices_fair.clock, w_frames, w_args, w_heap, w_applies, trivial, trivial, w_case⟩
end start1
theorem witness_1 : WitnessClaimed_1 := ⟨start1.p0, start1.e0, start1.about1, start1.theMethod, start1.args0, start1.below0, start1.atStart⟩
end Jvm.Pilot.@@N@@
