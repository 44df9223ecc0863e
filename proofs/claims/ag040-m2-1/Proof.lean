import JvmDerived
import JvmDerived.Pilot.@@N@@Statement
import JvmDerived.Pilot.@@N@@Code
set_option linter.unusedVariables false
set_option linter.unusedSimpArgs false
namespace Jvm.Pilot.@@N@@
open Jvm Jvm.ClassFile Sem Op Lib Jvm.Free Jvm.Stand Jvm.LawKit Jvm.RoadKit Bundle Jvm.Pilot.@@N@@.Jvm.D
theorem own_sta {Z : State} {h h' : Heap} {C n d C' : String} {w : Value} {o : Addr} (F : Sta Z h C n d w) (K : Keep h h' [o]) (E : Exa Z h o C') : Sta Z h' C n d w := by
  obtain ⟨cf, i, k, f, st, cell, h1, h2, h3, h4, h5, h6, h7⟩ := F
  obtain ⟨ce, ke, e1, e2, e3, e4, e5⟩ := E
  refine ⟨cf, i, k, f, st, cell, h1, h2, h3, h4, K.2.1 st cell h5 (fun hm => ?_), h6, h7⟩
  cases List.mem_singleton.mp hm
  rw [e1] at h5; cases h5; rw [h6] at e4; cases e4
theorem own_fint {s : State} {args : Array Value} {t : Term} {C n d : String} {k : Int32} {w : Addr} (ht : t.eval args s none [] s = some (.ref w)) (h : (Jvm.Cond.eq (.field t C n d) (.int k)).value args s none s [] = some true) : Fld s s.heap w C n d (.int k) := by
  refine Fld.start ?_
  have e := fld_at (args := args) (first := s) (o := none) (idx := []) (s := s) (C := C) (n := n) (dd := d) ht
  obtain ⟨x, y, hx, hy, -, -⟩ := cmp_v (Or.inl h)
  rw [← e, hx]
  cases (Term.int_eval k).symm.trans hy
  cases x <;> simp [Jvm.Cond.value, hx, hy] at h
  rw [h]
theorem own_rem32 (x m : Int32) (hx : 0 ≤ x.toInt) : (x % m).toInt = x.toInt % m.toInt := by rw [Int32.toInt_mod, Int.tmod_eq_emod_of_nonneg hx]
theorem own_lc0 (x y : Int64) : (lcmpW x y < 0 ↔ x < y) ∧ (0 < lcmpW x y ↔ y < x) ∧ (lcmpW x y = 0 ↔ x = y) := by rw [lcW]; exact ⟨lc_lt x y, lc_gt x y, lc_eq x y⟩
theorem lcY_lt {x y : Int64} (h : x < y) : ifCond.holds .lt (lcmpW x y) = true := (if0 _ _).trans (tlt ((own_lc0 x y).1.mpr h)).1
theorem lcN_lt {x y : Int64} (h : ¬ x < y) : ifCond.holds .lt (lcmpW x y) = false := (if0 _ _).trans (flt fun q => h ((own_lc0 x y).1.mp q)).1
theorem lcN_ge {x y : Int64} (h : x < y) : ifCond.holds .ge (lcmpW x y) = false := (if0 _ _).trans (tlt ((own_lc0 x y).1.mpr h)).2.1
theorem lcY_ge {x y : Int64} (h : ¬ x < y) : ifCond.holds .ge (lcmpW x y) = true := (if0 _ _).trans (flt fun q => h ((own_lc0 x y).1.mp q)).2.1
theorem lcY_gt {x y : Int64} (h : y < x) : ifCond.holds .gt (lcmpW x y) = true := (if0 _ _).trans (tlt ((own_lc0 x y).2.1.mpr h)).2.2.1
theorem lcN_gt {x y : Int64} (h : ¬ y < x) : ifCond.holds .gt (lcmpW x y) = false := (if0 _ _).trans (flt fun q => h ((own_lc0 x y).2.1.mp q)).2.2.1
theorem lcN_le {x y : Int64} (h : y < x) : ifCond.holds .le (lcmpW x y) = false := (if0 _ _).trans (tlt ((own_lc0 x y).2.1.mpr h)).2.2.2
theorem lcY_le {x y : Int64} (h : ¬ y < x) : ifCond.holds .le (lcmpW x y) = true := (if0 _ _).trans (flt fun q => h ((own_lc0 x y).2.1.mp q)).2.2.2
theorem lcY_eq {x y : Int64} (h : x = y) : ifCond.holds .eq (lcmpW x y) = true := (if0 _ _).trans (teq ((own_lc0 x y).2.2.mpr h)).1
theorem lcN_eq {x y : Int64} (h : ¬ x = y) : ifCond.holds .eq (lcmpW x y) = false := (if0 _ _).trans (feq fun q => h ((own_lc0 x y).2.2.mp q)).1
theorem lcN_ne {x y : Int64} (h : x = y) : ifCond.holds .ne (lcmpW x y) = false := (if0 _ _).trans (teq ((own_lc0 x y).2.2.mpr h)).2
theorem lcY_ne {x y : Int64} (h : ¬ x = y) : ifCond.holds .ne (lcmpW x y) = true := (if0 _ _).trans (feq fun q => h ((own_lc0 x y).2.2.mp q)).2
theorem own_back (a b : Int64) : a + b - a = b := by rw [Int64.add_comm, Int64.add_sub_cancel]
def F1 (q0 : Int64) (q1 : Int64) : Int64 :=
  if (2592000 : Int64) < q0 then q0 else (q1 + q0)
theorem d1_0 : decode prog_14_method_3_code 0 = .ok (.lload_n 0, 1) := by decide +kernel
theorem d1_1 : decode prog_14_method_3_code 1 = .ok (.ldc2_w 17, 3) := by decide +kernel
theorem d1_4 : decode prog_14_method_3_code 4 = .ok (.lcmp, 1) := by decide +kernel
theorem d1_5 : decode prog_14_method_3_code 5 = .ok (.ifCond .gt 9, 3) := by decide +kernel
theorem d1_8 : decode prog_14_method_3_code 8 = .ok (.lload_n 2, 1) := by decide +kernel
theorem d1_9 : decode prog_14_method_3_code 9 = .ok (.lload_n 0, 1) := by decide +kernel
theorem d1_10 : decode prog_14_method_3_code 10 = .ok (.ladd, 1) := by decide +kernel
theorem d1_11 : decode prog_14_method_3_code 11 = .ok (.goto 4, 3) := by decide +kernel
theorem d1_14 : decode prog_14_method_3_code 14 = .ok (.lload_n 0, 1) := by decide +kernel
theorem d1_15 : decode prog_14_method_3_code 15 = .ok (.lreturn, 1) := by decide +kernel
theorem pn_1 : plainName "com/example/keys_over_wire/keysoverwire/ExpirationTime" = true := by first | (simp [plainName, overriddenIn]; done) | decide +kernel
theorem ef_1 (m : MethodId) (q0 : Int64) (q1 : Int64) : entryFrame m #[(.long q0), (.long q1)] 4 = mkF m 0 #[.val (.long q0), .second, .val (.long q1), .second] [] := by first | (simp [entryFrame, mkF, argsToLocals, Value.category]; done) | rfl
def Q1 (Z : State) (q0 : Int64) (q1 : Int64) (h0 : Heap) (n0 : Nat) (v : Option Value) (h : Heap) (L : List Loc) : Prop := v = some (.long (F1 q0 q1)) ∧ Fr n0 L ∧ h = h0
set_option maxRecDepth 65536 in
set_option maxHeartbeats 40000000 in
theorem rm1 (l : Launch) (Z : State) (a0 : Array Value) (hw : ∀ d ∈ tables_1, d.before a0 Z = true) (ws : List Jvm.Cond) (q0 : Int64) (q1 : Int64) (h0 : Heap) (n0 : Nat) (Z0 : n0 ≤ h0.size) :
    MetFree l (⟨"com/example/keys_over_wire/keysoverwire/ExpirationTime", "moment", "(JJ)J"⟩ : MethodName) (head1 (Jvm.Cond.code (⟨"com/example/keys_over_wire/keysoverwire/ExpirationTime", "moment", "(JJ)J"⟩ : MethodName) prog_14_method_3_code 4 (some .long) :: ws) ({ frames := 0, cells := 0, slots := 0, locals := 0 } : Room)) (fun a U => a = #[(.long q0), (.long q1)] ∧ Z.Warmed39 U.vm ∧ U.heap = h0) (fun _ _ _ _ _ => True) (fun _ U o U' => ∃ v L, o = .returned v ∧ Q1 Z q0 q1 h0 n0 v U'.heap L ∧ FrameEnd U o U' L ({ frames := 0, cells := 0, slots := 0, locals := 0 } : Room).cells ({ frames := 0, cells := 0, slots := 0, locals := 0 } : Room).slots) := by
  refine MetFree.of_bodySF (plainFor_of_name pn_1) hisR ?_
  intro p e s m args below meth c s₁ Bd hml0 hP hK
  obtain ⟨rfl, hZ, hh⟩ := hP
  have hx := Bd.exec
  have hby := Bd.bytes
  have hml : c.maxLocals = 4 := hml0
  have hown : s.vm.findClass "com/example/keys_over_wire/keysoverwire/ExpirationTime" = some m.cls := findClass_of_methodNamed Bd.named
  have hnm := (name_of_methodNamed Bd.named Bd.method).1
  have X0 : Stand p l e ({ frames := 0, cells := 0, slots := 0, locals := 0 } : Room) s m #[(.long q0), (.long q1)] below meth c s₁ [] 0 0 := Stand.of_body Bd
  have e0 : s₁.heap = h0 := by rw [← hh, Bd.state]; rfl
  have N0 := Fr.nil n0
  have pre0 : ∀ t, Steps p.tables e below (s₁.setTop (mkF m 0 #[.val (.long q0), .second, .val (.long q1), .second] [])) t → Steps p.tables e below (s₁.setTop (entryFrame m #[(.long q0), (.long q1)] 4)) t := fun t k => castTop (ef_1 m q0 q1) k
  have pre1 : ∀ t, Steps p.tables e below (s₁.setTop (mkF m 5 #[.val (.long q0), .second, .val (.long q1), .second] [(.int (lcmpW q0 (2592000 : Int64)))])) t → Steps p.tables e below (s₁.setTop (entryFrame m #[(.long q0), (.long q1)] 4)) t := fun t k => by
    refine pre0 t ?_
    show Steps p.tables e below (s₁.setTop (mkF m 0 #[.val (.long q0), .second, .val (.long q1), .second] [])) _
    refine XS.lloadN X0.here hx rfl (hb hby d1_0) rfl ?_
    show Steps p.tables e below (s₁.setTop (mkF m 1 #[.val (.long q0), .second, .val (.long q1), .second] [(.long q0)])) _
    refine X0.ldc2Long hx hown (mvT hZ (hw _ (List.mem_of_getElem? (i := 4) rfl))) (g := (mkF m 1 #[.val (.long q0), .second, .val (.long q1), .second] [(.long q0)])) rfl (hb hby d1_1) _ ?_
    show Steps p.tables e below (s₁.setTop (mkF m 4 #[.val (.long q0), .second, .val (.long q1), .second] [(.long (2592000 : Int64)), (.long q0)])) _
    refine XS.lcmp X0.here hx rfl (hb hby d1_4) rfl ?_
    exact k
  by_cases hc5 : (2592000 : Int64) < q0
  · obtain ⟨fs, hr, hrun, hended, hW, hsame⟩ := X0.leave (v := some (.long q0)) (fun h => by rw [Bd.returns] at h; cases h)
    refine ⟨_, _, pre1 _ ?_, hrun, hended, _, _, rfl, ?_, ⟨_, rfl⟩, hW, hsame.mono (by decide) (by decide)⟩
    · show Steps p.tables e below (s₁.setTop (mkF m 5 #[.val (.long q0), .second, .val (.long q1), .second] [(.int (lcmpW q0 (2592000 : Int64)))])) _
      refine XS.ifYes X0.here hx rfl (pc0 := 5) (pc' := 14) rfl (hb hby d1_5) rfl (lcY_gt hc5) (by decide) (by decide) ?_
      show Steps p.tables e below (s₁.setTop (mkF m 14 #[.val (.long q0), .second, .val (.long q1), .second] [])) _
      refine XS.lloadN X0.here hx rfl (hb hby d1_14) rfl ?_
      show Steps p.tables e below (s₁.setTop (mkF m 15 #[.val (.long q0), .second, .val (.long q1), .second] [(.long q0)])) _
      exact retOut X0 hx Bd.returns rfl (Or.inr (Or.inl ⟨rfl, rfl, _, rfl⟩)) (hb hby d1_15) hr
    · show Q1 Z q0 q1 h0 n0 _ s₁.heap _
      rw [e0]
      exact ⟨(by rw [F1, if_pos hc5]), N0, rfl⟩
  · obtain ⟨fs, hr, hrun, hended, hW, hsame⟩ := X0.leave (v := some (.long (q1 + q0))) (fun h => by rw [Bd.returns] at h; cases h)
    refine ⟨_, _, pre1 _ ?_, hrun, hended, _, _, rfl, ?_, ⟨_, rfl⟩, hW, hsame.mono (by decide) (by decide)⟩
    · show Steps p.tables e below (s₁.setTop (mkF m 5 #[.val (.long q0), .second, .val (.long q1), .second] [(.int (lcmpW q0 (2592000 : Int64)))])) _
      refine XS.ifNo X0.here hx rfl (hb hby d1_5) rfl (lcN_gt hc5) ?_
      show Steps p.tables e below (s₁.setTop (mkF m 8 #[.val (.long q0), .second, .val (.long q1), .second] [])) _
      refine XS.lloadN X0.here hx rfl (hb hby d1_8) rfl ?_
      show Steps p.tables e below (s₁.setTop (mkF m 9 #[.val (.long q0), .second, .val (.long q1), .second] [(.long q1)])) _
      refine XS.lloadN X0.here hx rfl (hb hby d1_9) rfl ?_
      show Steps p.tables e below (s₁.setTop (mkF m 10 #[.val (.long q0), .second, .val (.long q1), .second] [(.long q0), (.long q1)])) _
      refine XS.ladd X0.here hx rfl (hb hby d1_10) rfl ?_
      show Steps p.tables e below (s₁.setTop (mkF m 11 #[.val (.long q0), .second, .val (.long q1), .second] [(.long (q1 + q0))])) _
      refine XS.goto X0.here hx rfl (pc0 := 11) (pc' := 15) rfl (hb hby d1_11) (by decide) (by decide) ?_
      show Steps p.tables e below (s₁.setTop (mkF m 15 #[.val (.long q0), .second, .val (.long q1), .second] [(.long (q1 + q0))])) _
      exact retOut X0 hx Bd.returns rfl (Or.inr (Or.inl ⟨rfl, rfl, _, rfl⟩)) (hb hby d1_15) hr
    · show Q1 Z q0 q1 h0 n0 _ s₁.heap _
      rw [e0]
      exact ⟨(by rw [F1, if_neg hc5]), N0, rfl⟩
theorem pd_0 : parseMethodDescriptor "(JJ)J" = some ⟨[.long, .long], some .long⟩ := by decide +kernel
theorem pn_0 : plainName "com/example/keys_over_wire/keysoverwire/ExpirationTimeMomentPinLaw" = true := by first | (simp [plainName, overriddenIn]; done) | decide +kernel
theorem ef_0 (m : MethodId) (q0 : Int64) (q1 : Int64) (q2 : Int64) (p3 : Int32) : entryFrame m #[(.long q0), (.long q1), (.long q2), (.int p3)] maxLocals = mkF m 0 #[.val (.long q0), .second, .val (.long q1), .second, .val (.long q2), .second, .val (.int p3), .unset, .unset, .unset, .unset, .unset, .unset] [] := by first | (simp [entryFrame, mkF, argsToLocals, Value.category, maxLocals]; done) | rfl
def Q0 (Z : State) (q0 : Int64) (q1 : Int64) (q2 : Int64) (p3 : Int32) (h0 : Heap) (n0 : Nat) (v : Option Value) (h : Heap) (L : List Loc) : Prop := v = some (.int 1) ∧ Fr n0 L
set_option maxRecDepth 65536 in
set_option maxHeartbeats 40000000 in
theorem rm0 (l : Launch) (Z : State) (a0 : Array Value) (hw : ∀ d ∈ tables_1, d.before a0 Z = true) (ws : List Jvm.Cond) (q0 : Int64) (q1 : Int64) (q2 : Int64) (p3 : Int32) (h0 : Heap) (n0 : Nat) (Z0 : n0 ≤ h0.size) :
    MetFree l x (head1 (Jvm.Cond.code x code maxLocals ret :: ws) room_1) (fun a U => a = #[(.long q0), (.long q1), (.long q2), (.int p3)] ∧ Z.Warmed39 U.vm ∧ U.heap = h0) (fun _ _ _ _ _ => True) (fun _ U o U' => ∃ v L, o = .returned v ∧ Q0 Z q0 q1 q2 p3 h0 n0 v U'.heap L ∧ FrameEnd U o U' L room_1.cells room_1.slots) := by
  refine MetFree.of_bodySF (plainFor_of_name pn_0) hisR ?_
  intro p e s m args below meth c s₁ Bd hml0 hP hK
  obtain ⟨rfl, hZ, hh⟩ := hP
  have hx := Bd.exec
  have hby := Bd.bytes
  have hml : c.maxLocals = 13 := hml0
  have hown : s.vm.findClass "com/example/keys_over_wire/keysoverwire/ExpirationTimeMomentPinLaw" = some m.cls := findClass_of_methodNamed Bd.named
  have hnm := (name_of_methodNamed Bd.named Bd.method).1
  have X0 : Stand p l e room_1 s m #[(.long q0), (.long q1), (.long q2), (.int p3)] below meth c s₁ [] 0 0 := Stand.of_body Bd
  have e0 : s₁.heap = h0 := by rw [← hh, Bd.state]; rfl
  have N0 := Fr.nil n0
  have pre0 : ∀ t, Steps p.tables e below (s₁.setTop (mkF m 0 #[.val (.long q0), .second, .val (.long q1), .second, .val (.long q2), .second, .val (.int p3), .unset, .unset, .unset, .unset, .unset, .unset] [])) t → Steps p.tables e below (s₁.setTop (entryFrame m #[(.long q0), (.long q1), (.long q2), (.int p3)] maxLocals)) t := fun t k => castTop (ef_0 m q0 q1 q2 p3) k
  have pre1 : ∀ t, Steps p.tables e below (s₁.setTop (mkF m 4 #[.val (.long q0), .second, .val (.long q1), .second, .val (.long q2), .second, .val (.int p3), .unset, .unset, .unset, .unset, .unset, .unset] [(.int (p3 &&& (1 : Int32)))])) t → Steps p.tables e below (s₁.setTop (entryFrame m #[(.long q0), (.long q1), (.long q2), (.int p3)] maxLocals)) t := fun t k => by
    refine pre0 t ?_
    show Steps p.tables e below (s₁.setTop (mkF m 0 #[.val (.long q0), .second, .val (.long q1), .second, .val (.long q2), .second, .val (.int p3), .unset, .unset, .unset, .unset, .unset, .unset] [])) _
    refine XS.iload X0.here hx rfl (hb hby at_0) rfl ?_
    show Steps p.tables e below (s₁.setTop (mkF m 2 #[.val (.long q0), .second, .val (.long q1), .second, .val (.long q2), .second, .val (.int p3), .unset, .unset, .unset, .unset, .unset, .unset] [(.int p3)])) _
    refine XS.iconst X0.here hx rfl (hb hby at_2) ?_
    show Steps p.tables e below (s₁.setTop (mkF m 3 #[.val (.long q0), .second, .val (.long q1), .second, .val (.long q2), .second, .val (.int p3), .unset, .unset, .unset, .unset, .unset, .unset] [(.int (1 : Int32)), (.int p3)])) _
    refine XS.iand X0.here hx rfl (hb hby at_3) rfl ?_
    exact k
  by_cases hc4 : (p3 &&& (1 : Int32)) = (0 : Int32)
  · obtain ⟨_, _, ⟨T2, L2, k2, n2⟩, -, X2, ⟨Lc2, hQ2, l2, y2, z2⟩, st2⟩ := Jvm.LawKit.callS X0 hx (y := (⟨"com/example/keys_over_wire/keysoverwire/ExpirationTime", "moment", "(JJ)J"⟩ : MethodName)) hown (mvT hZ (hw _ (List.mem_of_getElem? (i := 0) rfl))) (mvT hZ (hw _ (List.mem_of_getElem? (i := 1) rfl))) (mvT hZ (hw _ (List.mem_of_getElem? (i := 2) rfl))) (mvT hZ (hw _ (List.mem_of_getElem? (i := 3) rfl))) (by decide) (backOf (W := 0) (rm1 l Z a0 hw [] q0 q1 h0 n0 Z0) hZ (hw _ (List.mem_of_getElem? (i := 3) rfl)) (hw _ (List.mem_of_getElem? (i := 2) rfl)) (by decide) (by decide)) (g := (mkF m 27 #[.val (.long q0), .second, .val (.long q1), .second, .val (.long q2), .second, .val (.int p3), .val (.long q0), .second, .unset, .unset, .unset, .unset] [(.long q1), (.long q0)])) rfl (by rw [hml]; rfl) (argsL := [(.long q0), (.long q1)]) (rest := []) (lenOf pd_0 rfl) rfl (by show 2 * 0 + _ ≤ _; exact Nat.le_of_eq rfl) (hb hby at_27) (fun _ _ => ⟨rfl, e0, (by decide : 0 + 0 ≤ _), (by decide : 0 + 0 ≤ _)⟩)
    dsimp only [Pt.U, Pt.locs, Pt.cells, Pt.slots] at X2 l2 y2 z2 st2 hQ2
    subst l2 y2 z2
    obtain ⟨rfl, N2q, e2⟩ := hQ2
    have N2 := Fr.app N0 N2q
    obtain ⟨_, _, ⟨T3, L3, k3, n3⟩, -, X3, ⟨Lc3, hQ3, l3, y3, z3⟩, st3⟩ := Jvm.LawKit.callS X2 hx (y := (⟨"com/example/keys_over_wire/keysoverwire/ExpirationTime", "moment", "(JJ)J"⟩ : MethodName)) hown (mvT hZ (hw _ (List.mem_of_getElem? (i := 0) rfl))) (mvT hZ (hw _ (List.mem_of_getElem? (i := 1) rfl))) (mvT hZ (hw _ (List.mem_of_getElem? (i := 2) rfl))) (mvT hZ (hw _ (List.mem_of_getElem? (i := 3) rfl))) (by decide) (backOf (W := 0) (rm1 l Z a0 hw [] q0 q2 h0 n0 Z0) hZ (hw _ (List.mem_of_getElem? (i := 3) rfl)) (hw _ (List.mem_of_getElem? (i := 2) rfl)) (by decide) (by decide)) (g := (mkF m 36 #[.val (.long q0), .second, .val (.long q1), .second, .val (.long q2), .second, .val (.int p3), .val (.long q0), .second, .val (.long (F1 q0 q1)), .second, .unset, .unset] [(.long q2), (.long q0)])) rfl (by rw [hml]; rfl) (argsL := [(.long q0), (.long q2)]) (rest := []) (lenOf pd_0 rfl) rfl (by show 2 * 0 + _ ≤ _; exact Nat.le_of_eq rfl) (hb hby at_36) (fun _ _ => ⟨rfl, e2, (by decide : 0 + 0 ≤ _), (by decide : 0 + 0 ≤ _)⟩)
    dsimp only [Pt.U, Pt.locs, Pt.cells, Pt.slots] at X3 l3 y3 z3 st3 hQ3
    subst l3 y3 z3
    obtain ⟨rfl, N3q, e3⟩ := hQ3
    have N3 := Fr.app N2 N3q
    have pre4 : ∀ t, Steps p.tables e below (T3.setTop (mkF m 47 #[.val (.long q0), .second, .val (.long q1), .second, .val (.long q2), .second, .val (.int p3), .val (.long q0), .second, .val (.long (F1 q0 q1)), .second, .val (.long (F1 q0 q2)), .second] [(.int (lcmpW q0 (2592000 : Int64)))])) t → Steps p.tables e below (s₁.setTop (entryFrame m #[(.long q0), (.long q1), (.long q2), (.int p3)] maxLocals)) t := fun t k => by
      refine pre1 t ?_
      show Steps p.tables e below (s₁.setTop (mkF m 4 #[.val (.long q0), .second, .val (.long q1), .second, .val (.long q2), .second, .val (.int p3), .unset, .unset, .unset, .unset, .unset, .unset] [(.int (p3 &&& (1 : Int32)))])) _
      refine XS.ifYes X0.here hx rfl (pc0 := 4) (pc' := 21) rfl (hb hby at_4) rfl ((if0 _ _).trans (teq hc4).1) (by decide) (by decide) ?_
      show Steps p.tables e below (s₁.setTop (mkF m 21 #[.val (.long q0), .second, .val (.long q1), .second, .val (.long q2), .second, .val (.int p3), .unset, .unset, .unset, .unset, .unset, .unset] [])) _
      refine XS.lloadN X0.here hx rfl (hb hby at_21) rfl ?_
      show Steps p.tables e below (s₁.setTop (mkF m 22 #[.val (.long q0), .second, .val (.long q1), .second, .val (.long q2), .second, .val (.int p3), .unset, .unset, .unset, .unset, .unset, .unset] [(.long q0)])) _
      refine XS.lstore X0.here hx rfl (hb hby at_22) rfl (l' := #[.val (.long q0), .second, .val (.long q1), .second, .val (.long q2), .second, .val (.int p3), .val (.long q0), .second, .unset, .unset, .unset, .unset]) rfl ?_
      show Steps p.tables e below (s₁.setTop (mkF m 24 #[.val (.long q0), .second, .val (.long q1), .second, .val (.long q2), .second, .val (.int p3), .val (.long q0), .second, .unset, .unset, .unset, .unset] [])) _
      refine XS.lload X0.here hx rfl (hb hby at_24) rfl ?_
      show Steps p.tables e below (s₁.setTop (mkF m 26 #[.val (.long q0), .second, .val (.long q1), .second, .val (.long q2), .second, .val (.int p3), .val (.long q0), .second, .unset, .unset, .unset, .unset] [(.long q0)])) _
      refine XS.lloadN X0.here hx rfl (hb hby at_26) rfl ?_
      show Steps p.tables e below (s₁.setTop (mkF m 27 #[.val (.long q0), .second, .val (.long q1), .second, .val (.long q2), .second, .val (.int p3), .val (.long q0), .second, .unset, .unset, .unset, .unset] [(.long q1), (.long q0)])) _
      refine st2 _ ?_
      show Steps p.tables e below (T2.setTop (mkF m 30 #[.val (.long q0), .second, .val (.long q1), .second, .val (.long q2), .second, .val (.int p3), .val (.long q0), .second, .unset, .unset, .unset, .unset] [(.long (F1 q0 q1))])) _
      refine XS.lstore X2.here hx rfl (hb hby at_30) rfl (l' := #[.val (.long q0), .second, .val (.long q1), .second, .val (.long q2), .second, .val (.int p3), .val (.long q0), .second, .val (.long (F1 q0 q1)), .second, .unset, .unset]) rfl ?_
      show Steps p.tables e below (T2.setTop (mkF m 32 #[.val (.long q0), .second, .val (.long q1), .second, .val (.long q2), .second, .val (.int p3), .val (.long q0), .second, .val (.long (F1 q0 q1)), .second, .unset, .unset] [])) _
      refine XS.lload X2.here hx rfl (hb hby at_32) rfl ?_
      show Steps p.tables e below (T2.setTop (mkF m 34 #[.val (.long q0), .second, .val (.long q1), .second, .val (.long q2), .second, .val (.int p3), .val (.long q0), .second, .val (.long (F1 q0 q1)), .second, .unset, .unset] [(.long q0)])) _
      refine XS.lload X2.here hx rfl (hb hby at_34) rfl ?_
      show Steps p.tables e below (T2.setTop (mkF m 36 #[.val (.long q0), .second, .val (.long q1), .second, .val (.long q2), .second, .val (.int p3), .val (.long q0), .second, .val (.long (F1 q0 q1)), .second, .unset, .unset] [(.long q2), (.long q0)])) _
      refine st3 _ ?_
      show Steps p.tables e below (T3.setTop (mkF m 39 #[.val (.long q0), .second, .val (.long q1), .second, .val (.long q2), .second, .val (.int p3), .val (.long q0), .second, .val (.long (F1 q0 q1)), .second, .unset, .unset] [(.long (F1 q0 q2))])) _
      refine XS.lstore X3.here hx rfl (hb hby at_39) rfl (l' := #[.val (.long q0), .second, .val (.long q1), .second, .val (.long q2), .second, .val (.int p3), .val (.long q0), .second, .val (.long (F1 q0 q1)), .second, .val (.long (F1 q0 q2)), .second]) rfl ?_
      show Steps p.tables e below (T3.setTop (mkF m 41 #[.val (.long q0), .second, .val (.long q1), .second, .val (.long q2), .second, .val (.int p3), .val (.long q0), .second, .val (.long (F1 q0 q1)), .second, .val (.long (F1 q0 q2)), .second] [])) _
      refine XS.lload X3.here hx rfl (hb hby at_41) rfl ?_
      show Steps p.tables e below (T3.setTop (mkF m 43 #[.val (.long q0), .second, .val (.long q1), .second, .val (.long q2), .second, .val (.int p3), .val (.long q0), .second, .val (.long (F1 q0 q1)), .second, .val (.long (F1 q0 q2)), .second] [(.long q0)])) _
      refine X3.ldc2Long hx hown (mvT hZ (hw _ (List.mem_of_getElem? (i := 5) rfl))) (g := (mkF m 43 #[.val (.long q0), .second, .val (.long q1), .second, .val (.long q2), .second, .val (.int p3), .val (.long q0), .second, .val (.long (F1 q0 q1)), .second, .val (.long (F1 q0 q2)), .second] [(.long q0)])) rfl (hb hby at_43) _ ?_
      show Steps p.tables e below (T3.setTop (mkF m 46 #[.val (.long q0), .second, .val (.long q1), .second, .val (.long q2), .second, .val (.int p3), .val (.long q0), .second, .val (.long (F1 q0 q1)), .second, .val (.long (F1 q0 q2)), .second] [(.long (2592000 : Int64)), (.long q0)])) _
      refine XS.lcmp X3.here hx rfl (hb hby at_46) rfl ?_
      exact k
    by_cases hc47 : (2592000 : Int64) < q0
    · have hc82 : (F1 q0 q1) = q0 := by rw [F1, if_pos hc47]
      have hc90 : (F1 q0 q2) = q0 := by rw [F1, if_pos hc47]
      obtain ⟨fs, hr, hrun, hended, hW, hsame⟩ := X3.leave (v := some (.int (1 : Int32))) (fun h => by rw [Bd.returns] at h; cases h)
      refine ⟨_, _, pre4 _ ?_, hrun, hended, _, _, rfl, ?_, ⟨_, rfl⟩, hW, hsame.mono (by decide) (by decide)⟩
      · show Steps p.tables e below (T3.setTop (mkF m 47 #[.val (.long q0), .second, .val (.long q1), .second, .val (.long q2), .second, .val (.int p3), .val (.long q0), .second, .val (.long (F1 q0 q1)), .second, .val (.long (F1 q0 q2)), .second] [(.int (lcmpW q0 (2592000 : Int64)))])) _
        refine XS.ifYes X3.here hx rfl (pc0 := 47) (pc' := 77) rfl (hb hby at_47) rfl (lcY_gt hc47) (by decide) (by decide) ?_
        show Steps p.tables e below (T3.setTop (mkF m 77 #[.val (.long q0), .second, .val (.long q1), .second, .val (.long q2), .second, .val (.int p3), .val (.long q0), .second, .val (.long (F1 q0 q1)), .second, .val (.long (F1 q0 q2)), .second] [])) _
        refine XS.lload X3.here hx rfl (hb hby at_77) rfl ?_
        show Steps p.tables e below (T3.setTop (mkF m 79 #[.val (.long q0), .second, .val (.long q1), .second, .val (.long q2), .second, .val (.int p3), .val (.long q0), .second, .val (.long (F1 q0 q1)), .second, .val (.long (F1 q0 q2)), .second] [(.long (F1 q0 q1))])) _
        refine XS.lload X3.here hx rfl (hb hby at_79) rfl ?_
        show Steps p.tables e below (T3.setTop (mkF m 81 #[.val (.long q0), .second, .val (.long q1), .second, .val (.long q2), .second, .val (.int p3), .val (.long q0), .second, .val (.long (F1 q0 q1)), .second, .val (.long (F1 q0 q2)), .second] [(.long q0), (.long (F1 q0 q1))])) _
        refine XS.lcmp X3.here hx rfl (hb hby at_81) rfl ?_
        show Steps p.tables e below (T3.setTop (mkF m 82 #[.val (.long q0), .second, .val (.long q1), .second, .val (.long q2), .second, .val (.int p3), .val (.long q0), .second, .val (.long (F1 q0 q1)), .second, .val (.long (F1 q0 q2)), .second] [(.int (lcmpW (F1 q0 q1) q0))])) _
        refine XS.ifNo X3.here hx rfl (hb hby at_82) rfl (lcN_ne hc82) ?_
        show Steps p.tables e below (T3.setTop (mkF m 85 #[.val (.long q0), .second, .val (.long q1), .second, .val (.long q2), .second, .val (.int p3), .val (.long q0), .second, .val (.long (F1 q0 q1)), .second, .val (.long (F1 q0 q2)), .second] [])) _
        refine XS.lload X3.here hx rfl (hb hby at_85) rfl ?_
        show Steps p.tables e below (T3.setTop (mkF m 87 #[.val (.long q0), .second, .val (.long q1), .second, .val (.long q2), .second, .val (.int p3), .val (.long q0), .second, .val (.long (F1 q0 q1)), .second, .val (.long (F1 q0 q2)), .second] [(.long (F1 q0 q2))])) _
        refine XS.lload X3.here hx rfl (hb hby at_87) rfl ?_
        show Steps p.tables e below (T3.setTop (mkF m 89 #[.val (.long q0), .second, .val (.long q1), .second, .val (.long q2), .second, .val (.int p3), .val (.long q0), .second, .val (.long (F1 q0 q1)), .second, .val (.long (F1 q0 q2)), .second] [(.long q0), (.long (F1 q0 q2))])) _
        refine XS.lcmp X3.here hx rfl (hb hby at_89) rfl ?_
        show Steps p.tables e below (T3.setTop (mkF m 90 #[.val (.long q0), .second, .val (.long q1), .second, .val (.long q2), .second, .val (.int p3), .val (.long q0), .second, .val (.long (F1 q0 q1)), .second, .val (.long (F1 q0 q2)), .second] [(.int (lcmpW (F1 q0 q2) q0))])) _
        refine XS.ifNo X3.here hx rfl (hb hby at_90) rfl (lcN_ne hc90) ?_
        show Steps p.tables e below (T3.setTop (mkF m 93 #[.val (.long q0), .second, .val (.long q1), .second, .val (.long q2), .second, .val (.int p3), .val (.long q0), .second, .val (.long (F1 q0 q1)), .second, .val (.long (F1 q0 q2)), .second] [])) _
        refine XS.iconst X3.here hx rfl (hb hby at_93) ?_
        show Steps p.tables e below (T3.setTop (mkF m 94 #[.val (.long q0), .second, .val (.long q1), .second, .val (.long q2), .second, .val (.int p3), .val (.long q0), .second, .val (.long (F1 q0 q1)), .second, .val (.long (F1 q0 q2)), .second] [(.int (1 : Int32))])) _
        refine XS.goto X3.here hx rfl (pc0 := 94) (pc' := 98) rfl (hb hby at_94) (by decide) (by decide) ?_
        show Steps p.tables e below (T3.setTop (mkF m 98 #[.val (.long q0), .second, .val (.long q1), .second, .val (.long q2), .second, .val (.int p3), .val (.long q0), .second, .val (.long (F1 q0 q1)), .second, .val (.long (F1 q0 q2)), .second] [(.int (1 : Int32))])) _
        exact retN X3 hx (t := .boolean) Bd.returns (by simp) (hb hby at_98) hr
      · show Q0 Z q0 q1 q2 p3 h0 n0 _ T3.heap _
        rw [e3]
        exact ⟨rfl, N3⟩
    · have hc57 : ((F1 q0 q1) - q1) = q0 := by rw [F1, if_neg hc47, own_back]
      have hc68 : ((F1 q0 q2) - q2) = q0 := by rw [F1, if_neg hc47, own_back]
      obtain ⟨fs, hr, hrun, hended, hW, hsame⟩ := X3.leave (v := some (.int (1 : Int32))) (fun h => by rw [Bd.returns] at h; cases h)
      refine ⟨_, _, pre4 _ ?_, hrun, hended, _, _, rfl, ?_, ⟨_, rfl⟩, hW, hsame.mono (by decide) (by decide)⟩
      · show Steps p.tables e below (T3.setTop (mkF m 47 #[.val (.long q0), .second, .val (.long q1), .second, .val (.long q2), .second, .val (.int p3), .val (.long q0), .second, .val (.long (F1 q0 q1)), .second, .val (.long (F1 q0 q2)), .second] [(.int (lcmpW q0 (2592000 : Int64)))])) _
        refine XS.ifNo X3.here hx rfl (hb hby at_47) rfl (lcN_gt hc47) ?_
        show Steps p.tables e below (T3.setTop (mkF m 50 #[.val (.long q0), .second, .val (.long q1), .second, .val (.long q2), .second, .val (.int p3), .val (.long q0), .second, .val (.long (F1 q0 q1)), .second, .val (.long (F1 q0 q2)), .second] [])) _
        refine XS.lload X3.here hx rfl (hb hby at_50) rfl ?_
        show Steps p.tables e below (T3.setTop (mkF m 52 #[.val (.long q0), .second, .val (.long q1), .second, .val (.long q2), .second, .val (.int p3), .val (.long q0), .second, .val (.long (F1 q0 q1)), .second, .val (.long (F1 q0 q2)), .second] [(.long (F1 q0 q1))])) _
        refine XS.lloadN X3.here hx rfl (hb hby at_52) rfl ?_
        show Steps p.tables e below (T3.setTop (mkF m 53 #[.val (.long q0), .second, .val (.long q1), .second, .val (.long q2), .second, .val (.int p3), .val (.long q0), .second, .val (.long (F1 q0 q1)), .second, .val (.long (F1 q0 q2)), .second] [(.long q1), (.long (F1 q0 q1))])) _
        refine XS.lsub X3.here hx rfl (hb hby at_53) rfl ?_
        show Steps p.tables e below (T3.setTop (mkF m 54 #[.val (.long q0), .second, .val (.long q1), .second, .val (.long q2), .second, .val (.int p3), .val (.long q0), .second, .val (.long (F1 q0 q1)), .second, .val (.long (F1 q0 q2)), .second] [(.long ((F1 q0 q1) - q1))])) _
        refine XS.lload X3.here hx rfl (hb hby at_54) rfl ?_
        show Steps p.tables e below (T3.setTop (mkF m 56 #[.val (.long q0), .second, .val (.long q1), .second, .val (.long q2), .second, .val (.int p3), .val (.long q0), .second, .val (.long (F1 q0 q1)), .second, .val (.long (F1 q0 q2)), .second] [(.long q0), (.long ((F1 q0 q1) - q1))])) _
        refine XS.lcmp X3.here hx rfl (hb hby at_56) rfl ?_
        show Steps p.tables e below (T3.setTop (mkF m 57 #[.val (.long q0), .second, .val (.long q1), .second, .val (.long q2), .second, .val (.int p3), .val (.long q0), .second, .val (.long (F1 q0 q1)), .second, .val (.long (F1 q0 q2)), .second] [(.int (lcmpW ((F1 q0 q1) - q1) q0))])) _
        refine XS.ifNo X3.here hx rfl (hb hby at_57) rfl (lcN_ne hc57) ?_
        show Steps p.tables e below (T3.setTop (mkF m 60 #[.val (.long q0), .second, .val (.long q1), .second, .val (.long q2), .second, .val (.int p3), .val (.long q0), .second, .val (.long (F1 q0 q1)), .second, .val (.long (F1 q0 q2)), .second] [])) _
        refine XS.lload X3.here hx rfl (hb hby at_60) rfl ?_
        show Steps p.tables e below (T3.setTop (mkF m 62 #[.val (.long q0), .second, .val (.long q1), .second, .val (.long q2), .second, .val (.int p3), .val (.long q0), .second, .val (.long (F1 q0 q1)), .second, .val (.long (F1 q0 q2)), .second] [(.long (F1 q0 q2))])) _
        refine XS.lload X3.here hx rfl (hb hby at_62) rfl ?_
        show Steps p.tables e below (T3.setTop (mkF m 64 #[.val (.long q0), .second, .val (.long q1), .second, .val (.long q2), .second, .val (.int p3), .val (.long q0), .second, .val (.long (F1 q0 q1)), .second, .val (.long (F1 q0 q2)), .second] [(.long q2), (.long (F1 q0 q2))])) _
        refine XS.lsub X3.here hx rfl (hb hby at_64) rfl ?_
        show Steps p.tables e below (T3.setTop (mkF m 65 #[.val (.long q0), .second, .val (.long q1), .second, .val (.long q2), .second, .val (.int p3), .val (.long q0), .second, .val (.long (F1 q0 q1)), .second, .val (.long (F1 q0 q2)), .second] [(.long ((F1 q0 q2) - q2))])) _
        refine XS.lload X3.here hx rfl (hb hby at_65) rfl ?_
        show Steps p.tables e below (T3.setTop (mkF m 67 #[.val (.long q0), .second, .val (.long q1), .second, .val (.long q2), .second, .val (.int p3), .val (.long q0), .second, .val (.long (F1 q0 q1)), .second, .val (.long (F1 q0 q2)), .second] [(.long q0), (.long ((F1 q0 q2) - q2))])) _
        refine XS.lcmp X3.here hx rfl (hb hby at_67) rfl ?_
        show Steps p.tables e below (T3.setTop (mkF m 68 #[.val (.long q0), .second, .val (.long q1), .second, .val (.long q2), .second, .val (.int p3), .val (.long q0), .second, .val (.long (F1 q0 q1)), .second, .val (.long (F1 q0 q2)), .second] [(.int (lcmpW ((F1 q0 q2) - q2) q0))])) _
        refine XS.ifNo X3.here hx rfl (hb hby at_68) rfl (lcN_ne hc68) ?_
        show Steps p.tables e below (T3.setTop (mkF m 71 #[.val (.long q0), .second, .val (.long q1), .second, .val (.long q2), .second, .val (.int p3), .val (.long q0), .second, .val (.long (F1 q0 q1)), .second, .val (.long (F1 q0 q2)), .second] [])) _
        refine XS.iconst X3.here hx rfl (hb hby at_71) ?_
        show Steps p.tables e below (T3.setTop (mkF m 72 #[.val (.long q0), .second, .val (.long q1), .second, .val (.long q2), .second, .val (.int p3), .val (.long q0), .second, .val (.long (F1 q0 q1)), .second, .val (.long (F1 q0 q2)), .second] [(.int (1 : Int32))])) _
        refine XS.goto X3.here hx rfl (pc0 := 72) (pc' := 76) rfl (hb hby at_72) (by decide) (by decide) ?_
        show Steps p.tables e below (T3.setTop (mkF m 76 #[.val (.long q0), .second, .val (.long q1), .second, .val (.long q2), .second, .val (.int p3), .val (.long q0), .second, .val (.long (F1 q0 q1)), .second, .val (.long (F1 q0 q2)), .second] [(.int (1 : Int32))])) _
        exact retN X3 hx (t := .boolean) Bd.returns (by simp) (hb hby at_76) hr
      · show Q0 Z q0 q1 q2 p3 h0 n0 _ T3.heap _
        rw [e3]
        exact ⟨rfl, N3⟩
  · obtain ⟨_, _, ⟨T5, L5, k5, n5⟩, -, X5, ⟨Lc5, hQ5, l5, y5, z5⟩, st5⟩ := Jvm.LawKit.callS X0 hx (y := (⟨"com/example/keys_over_wire/keysoverwire/ExpirationTime", "moment", "(JJ)J"⟩ : MethodName)) hown (mvT hZ (hw _ (List.mem_of_getElem? (i := 0) rfl))) (mvT hZ (hw _ (List.mem_of_getElem? (i := 1) rfl))) (mvT hZ (hw _ (List.mem_of_getElem? (i := 2) rfl))) (mvT hZ (hw _ (List.mem_of_getElem? (i := 3) rfl))) (by decide) (backOf (W := 0) (rm1 l Z a0 hw [] ((2592000 : Int64) + (((p3 >>> ((1 : Int32) &&& 31)) % (4 : Int32)).toInt64)) q1 h0 n0 Z0) hZ (hw _ (List.mem_of_getElem? (i := 3) rfl)) (hw _ (List.mem_of_getElem? (i := 2) rfl)) (by decide) (by decide)) (g := (mkF m 27 #[.val (.long q0), .second, .val (.long q1), .second, .val (.long q2), .second, .val (.int p3), .val (.long ((2592000 : Int64) + (((p3 >>> ((1 : Int32) &&& 31)) % (4 : Int32)).toInt64))), .second, .unset, .unset, .unset, .unset] [(.long q1), (.long ((2592000 : Int64) + (((p3 >>> ((1 : Int32) &&& 31)) % (4 : Int32)).toInt64)))])) rfl (by rw [hml]; rfl) (argsL := [(.long ((2592000 : Int64) + (((p3 >>> ((1 : Int32) &&& 31)) % (4 : Int32)).toInt64))), (.long q1)]) (rest := []) (lenOf pd_0 rfl) rfl (by show 2 * 0 + _ ≤ _; exact Nat.le_of_eq rfl) (hb hby at_27) (fun _ _ => ⟨rfl, e0, (by decide : 0 + 0 ≤ _), (by decide : 0 + 0 ≤ _)⟩)
    dsimp only [Pt.U, Pt.locs, Pt.cells, Pt.slots] at X5 l5 y5 z5 st5 hQ5
    subst l5 y5 z5
    obtain ⟨rfl, N5q, e5⟩ := hQ5
    have N5 := Fr.app N0 N5q
    obtain ⟨_, _, ⟨T6, L6, k6, n6⟩, -, X6, ⟨Lc6, hQ6, l6, y6, z6⟩, st6⟩ := Jvm.LawKit.callS X5 hx (y := (⟨"com/example/keys_over_wire/keysoverwire/ExpirationTime", "moment", "(JJ)J"⟩ : MethodName)) hown (mvT hZ (hw _ (List.mem_of_getElem? (i := 0) rfl))) (mvT hZ (hw _ (List.mem_of_getElem? (i := 1) rfl))) (mvT hZ (hw _ (List.mem_of_getElem? (i := 2) rfl))) (mvT hZ (hw _ (List.mem_of_getElem? (i := 3) rfl))) (by decide) (backOf (W := 0) (rm1 l Z a0 hw [] ((2592000 : Int64) + (((p3 >>> ((1 : Int32) &&& 31)) % (4 : Int32)).toInt64)) q2 h0 n0 Z0) hZ (hw _ (List.mem_of_getElem? (i := 3) rfl)) (hw _ (List.mem_of_getElem? (i := 2) rfl)) (by decide) (by decide)) (g := (mkF m 36 #[.val (.long q0), .second, .val (.long q1), .second, .val (.long q2), .second, .val (.int p3), .val (.long ((2592000 : Int64) + (((p3 >>> ((1 : Int32) &&& 31)) % (4 : Int32)).toInt64))), .second, .val (.long (F1 ((2592000 : Int64) + (((p3 >>> ((1 : Int32) &&& 31)) % (4 : Int32)).toInt64)) q1)), .second, .unset, .unset] [(.long q2), (.long ((2592000 : Int64) + (((p3 >>> ((1 : Int32) &&& 31)) % (4 : Int32)).toInt64)))])) rfl (by rw [hml]; rfl) (argsL := [(.long ((2592000 : Int64) + (((p3 >>> ((1 : Int32) &&& 31)) % (4 : Int32)).toInt64))), (.long q2)]) (rest := []) (lenOf pd_0 rfl) rfl (by show 2 * 0 + _ ≤ _; exact Nat.le_of_eq rfl) (hb hby at_36) (fun _ _ => ⟨rfl, e5, (by decide : 0 + 0 ≤ _), (by decide : 0 + 0 ≤ _)⟩)
    dsimp only [Pt.U, Pt.locs, Pt.cells, Pt.slots] at X6 l6 y6 z6 st6 hQ6
    subst l6 y6 z6
    obtain ⟨rfl, N6q, e6⟩ := hQ6
    have N6 := Fr.app N5 N6q
    have pre7 : ∀ t, Steps p.tables e below (T6.setTop (mkF m 47 #[.val (.long q0), .second, .val (.long q1), .second, .val (.long q2), .second, .val (.int p3), .val (.long ((2592000 : Int64) + (((p3 >>> ((1 : Int32) &&& 31)) % (4 : Int32)).toInt64))), .second, .val (.long (F1 ((2592000 : Int64) + (((p3 >>> ((1 : Int32) &&& 31)) % (4 : Int32)).toInt64)) q1)), .second, .val (.long (F1 ((2592000 : Int64) + (((p3 >>> ((1 : Int32) &&& 31)) % (4 : Int32)).toInt64)) q2)), .second] [(.int (lcmpW ((2592000 : Int64) + (((p3 >>> ((1 : Int32) &&& 31)) % (4 : Int32)).toInt64)) (2592000 : Int64)))])) t → Steps p.tables e below (s₁.setTop (entryFrame m #[(.long q0), (.long q1), (.long q2), (.int p3)] maxLocals)) t := fun t k => by
      refine pre1 t ?_
      show Steps p.tables e below (s₁.setTop (mkF m 4 #[.val (.long q0), .second, .val (.long q1), .second, .val (.long q2), .second, .val (.int p3), .unset, .unset, .unset, .unset, .unset, .unset] [(.int (p3 &&& (1 : Int32)))])) _
      refine XS.ifNo X0.here hx rfl (hb hby at_4) rfl ((if0 _ _).trans (feq hc4).1) ?_
      show Steps p.tables e below (s₁.setTop (mkF m 7 #[.val (.long q0), .second, .val (.long q1), .second, .val (.long q2), .second, .val (.int p3), .unset, .unset, .unset, .unset, .unset, .unset] [])) _
      refine X0.ldc2Long hx hown (mvT hZ (hw _ (List.mem_of_getElem? (i := 5) rfl))) (g := (mkF m 7 #[.val (.long q0), .second, .val (.long q1), .second, .val (.long q2), .second, .val (.int p3), .unset, .unset, .unset, .unset, .unset, .unset] [])) rfl (hb hby at_7) _ ?_
      show Steps p.tables e below (s₁.setTop (mkF m 10 #[.val (.long q0), .second, .val (.long q1), .second, .val (.long q2), .second, .val (.int p3), .unset, .unset, .unset, .unset, .unset, .unset] [(.long (2592000 : Int64))])) _
      refine XS.iload X0.here hx rfl (hb hby at_10) rfl ?_
      show Steps p.tables e below (s₁.setTop (mkF m 12 #[.val (.long q0), .second, .val (.long q1), .second, .val (.long q2), .second, .val (.int p3), .unset, .unset, .unset, .unset, .unset, .unset] [(.int p3), (.long (2592000 : Int64))])) _
      refine XS.iconst X0.here hx rfl (hb hby at_12) ?_
      show Steps p.tables e below (s₁.setTop (mkF m 13 #[.val (.long q0), .second, .val (.long q1), .second, .val (.long q2), .second, .val (.int p3), .unset, .unset, .unset, .unset, .unset, .unset] [(.int (1 : Int32)), (.int p3), (.long (2592000 : Int64))])) _
      refine XS.ishr X0.here hx rfl (hb hby at_13) rfl ?_
      show Steps p.tables e below (s₁.setTop (mkF m 14 #[.val (.long q0), .second, .val (.long q1), .second, .val (.long q2), .second, .val (.int p3), .unset, .unset, .unset, .unset, .unset, .unset] [(.int (p3 >>> ((1 : Int32) &&& 31))), (.long (2592000 : Int64))])) _
      refine XS.iconst X0.here hx rfl (hb hby at_14) ?_
      show Steps p.tables e below (s₁.setTop (mkF m 15 #[.val (.long q0), .second, .val (.long q1), .second, .val (.long q2), .second, .val (.int p3), .unset, .unset, .unset, .unset, .unset, .unset] [(.int (4 : Int32)), (.int (p3 >>> ((1 : Int32) &&& 31))), (.long (2592000 : Int64))])) _
      refine iremM X0 hx rfl (hb hby at_15) rfl (by decide) ?_
      show Steps p.tables e below (s₁.setTop (mkF m 16 #[.val (.long q0), .second, .val (.long q1), .second, .val (.long q2), .second, .val (.int p3), .unset, .unset, .unset, .unset, .unset, .unset] [(.int ((p3 >>> ((1 : Int32) &&& 31)) % (4 : Int32))), (.long (2592000 : Int64))])) _
      refine XS.i2l X0.here hx rfl (hb hby at_16) rfl ?_
      show Steps p.tables e below (s₁.setTop (mkF m 17 #[.val (.long q0), .second, .val (.long q1), .second, .val (.long q2), .second, .val (.int p3), .unset, .unset, .unset, .unset, .unset, .unset] [(.long (((p3 >>> ((1 : Int32) &&& 31)) % (4 : Int32)).toInt64)), (.long (2592000 : Int64))])) _
      refine XS.ladd X0.here hx rfl (hb hby at_17) rfl ?_
      show Steps p.tables e below (s₁.setTop (mkF m 18 #[.val (.long q0), .second, .val (.long q1), .second, .val (.long q2), .second, .val (.int p3), .unset, .unset, .unset, .unset, .unset, .unset] [(.long ((2592000 : Int64) + (((p3 >>> ((1 : Int32) &&& 31)) % (4 : Int32)).toInt64)))])) _
      refine XS.goto X0.here hx rfl (pc0 := 18) (pc' := 22) rfl (hb hby at_18) (by decide) (by decide) ?_
      show Steps p.tables e below (s₁.setTop (mkF m 22 #[.val (.long q0), .second, .val (.long q1), .second, .val (.long q2), .second, .val (.int p3), .unset, .unset, .unset, .unset, .unset, .unset] [(.long ((2592000 : Int64) + (((p3 >>> ((1 : Int32) &&& 31)) % (4 : Int32)).toInt64)))])) _
      refine XS.lstore X0.here hx rfl (hb hby at_22) rfl (l' := #[.val (.long q0), .second, .val (.long q1), .second, .val (.long q2), .second, .val (.int p3), .val (.long ((2592000 : Int64) + (((p3 >>> ((1 : Int32) &&& 31)) % (4 : Int32)).toInt64))), .second, .unset, .unset, .unset, .unset]) rfl ?_
      show Steps p.tables e below (s₁.setTop (mkF m 24 #[.val (.long q0), .second, .val (.long q1), .second, .val (.long q2), .second, .val (.int p3), .val (.long ((2592000 : Int64) + (((p3 >>> ((1 : Int32) &&& 31)) % (4 : Int32)).toInt64))), .second, .unset, .unset, .unset, .unset] [])) _
      refine XS.lload X0.here hx rfl (hb hby at_24) rfl ?_
      show Steps p.tables e below (s₁.setTop (mkF m 26 #[.val (.long q0), .second, .val (.long q1), .second, .val (.long q2), .second, .val (.int p3), .val (.long ((2592000 : Int64) + (((p3 >>> ((1 : Int32) &&& 31)) % (4 : Int32)).toInt64))), .second, .unset, .unset, .unset, .unset] [(.long ((2592000 : Int64) + (((p3 >>> ((1 : Int32) &&& 31)) % (4 : Int32)).toInt64)))])) _
      refine XS.lloadN X0.here hx rfl (hb hby at_26) rfl ?_
      show Steps p.tables e below (s₁.setTop (mkF m 27 #[.val (.long q0), .second, .val (.long q1), .second, .val (.long q2), .second, .val (.int p3), .val (.long ((2592000 : Int64) + (((p3 >>> ((1 : Int32) &&& 31)) % (4 : Int32)).toInt64))), .second, .unset, .unset, .unset, .unset] [(.long q1), (.long ((2592000 : Int64) + (((p3 >>> ((1 : Int32) &&& 31)) % (4 : Int32)).toInt64)))])) _
      refine st5 _ ?_
      show Steps p.tables e below (T5.setTop (mkF m 30 #[.val (.long q0), .second, .val (.long q1), .second, .val (.long q2), .second, .val (.int p3), .val (.long ((2592000 : Int64) + (((p3 >>> ((1 : Int32) &&& 31)) % (4 : Int32)).toInt64))), .second, .unset, .unset, .unset, .unset] [(.long (F1 ((2592000 : Int64) + (((p3 >>> ((1 : Int32) &&& 31)) % (4 : Int32)).toInt64)) q1))])) _
      refine XS.lstore X5.here hx rfl (hb hby at_30) rfl (l' := #[.val (.long q0), .second, .val (.long q1), .second, .val (.long q2), .second, .val (.int p3), .val (.long ((2592000 : Int64) + (((p3 >>> ((1 : Int32) &&& 31)) % (4 : Int32)).toInt64))), .second, .val (.long (F1 ((2592000 : Int64) + (((p3 >>> ((1 : Int32) &&& 31)) % (4 : Int32)).toInt64)) q1)), .second, .unset, .unset]) rfl ?_
      show Steps p.tables e below (T5.setTop (mkF m 32 #[.val (.long q0), .second, .val (.long q1), .second, .val (.long q2), .second, .val (.int p3), .val (.long ((2592000 : Int64) + (((p3 >>> ((1 : Int32) &&& 31)) % (4 : Int32)).toInt64))), .second, .val (.long (F1 ((2592000 : Int64) + (((p3 >>> ((1 : Int32) &&& 31)) % (4 : Int32)).toInt64)) q1)), .second, .unset, .unset] [])) _
      refine XS.lload X5.here hx rfl (hb hby at_32) rfl ?_
      show Steps p.tables e below (T5.setTop (mkF m 34 #[.val (.long q0), .second, .val (.long q1), .second, .val (.long q2), .second, .val (.int p3), .val (.long ((2592000 : Int64) + (((p3 >>> ((1 : Int32) &&& 31)) % (4 : Int32)).toInt64))), .second, .val (.long (F1 ((2592000 : Int64) + (((p3 >>> ((1 : Int32) &&& 31)) % (4 : Int32)).toInt64)) q1)), .second, .unset, .unset] [(.long ((2592000 : Int64) + (((p3 >>> ((1 : Int32) &&& 31)) % (4 : Int32)).toInt64)))])) _
      refine XS.lload X5.here hx rfl (hb hby at_34) rfl ?_
      show Steps p.tables e below (T5.setTop (mkF m 36 #[.val (.long q0), .second, .val (.long q1), .second, .val (.long q2), .second, .val (.int p3), .val (.long ((2592000 : Int64) + (((p3 >>> ((1 : Int32) &&& 31)) % (4 : Int32)).toInt64))), .second, .val (.long (F1 ((2592000 : Int64) + (((p3 >>> ((1 : Int32) &&& 31)) % (4 : Int32)).toInt64)) q1)), .second, .unset, .unset] [(.long q2), (.long ((2592000 : Int64) + (((p3 >>> ((1 : Int32) &&& 31)) % (4 : Int32)).toInt64)))])) _
      refine st6 _ ?_
      show Steps p.tables e below (T6.setTop (mkF m 39 #[.val (.long q0), .second, .val (.long q1), .second, .val (.long q2), .second, .val (.int p3), .val (.long ((2592000 : Int64) + (((p3 >>> ((1 : Int32) &&& 31)) % (4 : Int32)).toInt64))), .second, .val (.long (F1 ((2592000 : Int64) + (((p3 >>> ((1 : Int32) &&& 31)) % (4 : Int32)).toInt64)) q1)), .second, .unset, .unset] [(.long (F1 ((2592000 : Int64) + (((p3 >>> ((1 : Int32) &&& 31)) % (4 : Int32)).toInt64)) q2))])) _
      refine XS.lstore X6.here hx rfl (hb hby at_39) rfl (l' := #[.val (.long q0), .second, .val (.long q1), .second, .val (.long q2), .second, .val (.int p3), .val (.long ((2592000 : Int64) + (((p3 >>> ((1 : Int32) &&& 31)) % (4 : Int32)).toInt64))), .second, .val (.long (F1 ((2592000 : Int64) + (((p3 >>> ((1 : Int32) &&& 31)) % (4 : Int32)).toInt64)) q1)), .second, .val (.long (F1 ((2592000 : Int64) + (((p3 >>> ((1 : Int32) &&& 31)) % (4 : Int32)).toInt64)) q2)), .second]) rfl ?_
      show Steps p.tables e below (T6.setTop (mkF m 41 #[.val (.long q0), .second, .val (.long q1), .second, .val (.long q2), .second, .val (.int p3), .val (.long ((2592000 : Int64) + (((p3 >>> ((1 : Int32) &&& 31)) % (4 : Int32)).toInt64))), .second, .val (.long (F1 ((2592000 : Int64) + (((p3 >>> ((1 : Int32) &&& 31)) % (4 : Int32)).toInt64)) q1)), .second, .val (.long (F1 ((2592000 : Int64) + (((p3 >>> ((1 : Int32) &&& 31)) % (4 : Int32)).toInt64)) q2)), .second] [])) _
      refine XS.lload X6.here hx rfl (hb hby at_41) rfl ?_
      show Steps p.tables e below (T6.setTop (mkF m 43 #[.val (.long q0), .second, .val (.long q1), .second, .val (.long q2), .second, .val (.int p3), .val (.long ((2592000 : Int64) + (((p3 >>> ((1 : Int32) &&& 31)) % (4 : Int32)).toInt64))), .second, .val (.long (F1 ((2592000 : Int64) + (((p3 >>> ((1 : Int32) &&& 31)) % (4 : Int32)).toInt64)) q1)), .second, .val (.long (F1 ((2592000 : Int64) + (((p3 >>> ((1 : Int32) &&& 31)) % (4 : Int32)).toInt64)) q2)), .second] [(.long ((2592000 : Int64) + (((p3 >>> ((1 : Int32) &&& 31)) % (4 : Int32)).toInt64)))])) _
      refine X6.ldc2Long hx hown (mvT hZ (hw _ (List.mem_of_getElem? (i := 5) rfl))) (g := (mkF m 43 #[.val (.long q0), .second, .val (.long q1), .second, .val (.long q2), .second, .val (.int p3), .val (.long ((2592000 : Int64) + (((p3 >>> ((1 : Int32) &&& 31)) % (4 : Int32)).toInt64))), .second, .val (.long (F1 ((2592000 : Int64) + (((p3 >>> ((1 : Int32) &&& 31)) % (4 : Int32)).toInt64)) q1)), .second, .val (.long (F1 ((2592000 : Int64) + (((p3 >>> ((1 : Int32) &&& 31)) % (4 : Int32)).toInt64)) q2)), .second] [(.long ((2592000 : Int64) + (((p3 >>> ((1 : Int32) &&& 31)) % (4 : Int32)).toInt64)))])) rfl (hb hby at_43) _ ?_
      show Steps p.tables e below (T6.setTop (mkF m 46 #[.val (.long q0), .second, .val (.long q1), .second, .val (.long q2), .second, .val (.int p3), .val (.long ((2592000 : Int64) + (((p3 >>> ((1 : Int32) &&& 31)) % (4 : Int32)).toInt64))), .second, .val (.long (F1 ((2592000 : Int64) + (((p3 >>> ((1 : Int32) &&& 31)) % (4 : Int32)).toInt64)) q1)), .second, .val (.long (F1 ((2592000 : Int64) + (((p3 >>> ((1 : Int32) &&& 31)) % (4 : Int32)).toInt64)) q2)), .second] [(.long (2592000 : Int64)), (.long ((2592000 : Int64) + (((p3 >>> ((1 : Int32) &&& 31)) % (4 : Int32)).toInt64)))])) _
      refine XS.lcmp X6.here hx rfl (hb hby at_46) rfl ?_
      exact k
    by_cases hc47 : (2592000 : Int64) < ((2592000 : Int64) + (((p3 >>> ((1 : Int32) &&& 31)) % (4 : Int32)).toInt64))
    · have hc82 : (F1 ((2592000 : Int64) + (((p3 >>> ((1 : Int32) &&& 31)) % (4 : Int32)).toInt64)) q1) = ((2592000 : Int64) + (((p3 >>> ((1 : Int32) &&& 31)) % (4 : Int32)).toInt64)) := by rw [F1, if_pos hc47]
      have hc90 : (F1 ((2592000 : Int64) + (((p3 >>> ((1 : Int32) &&& 31)) % (4 : Int32)).toInt64)) q2) = ((2592000 : Int64) + (((p3 >>> ((1 : Int32) &&& 31)) % (4 : Int32)).toInt64)) := by rw [F1, if_pos hc47]
      obtain ⟨fs, hr, hrun, hended, hW, hsame⟩ := X6.leave (v := some (.int (1 : Int32))) (fun h => by rw [Bd.returns] at h; cases h)
      refine ⟨_, _, pre7 _ ?_, hrun, hended, _, _, rfl, ?_, ⟨_, rfl⟩, hW, hsame.mono (by decide) (by decide)⟩
      · show Steps p.tables e below (T6.setTop (mkF m 47 #[.val (.long q0), .second, .val (.long q1), .second, .val (.long q2), .second, .val (.int p3), .val (.long ((2592000 : Int64) + (((p3 >>> ((1 : Int32) &&& 31)) % (4 : Int32)).toInt64))), .second, .val (.long (F1 ((2592000 : Int64) + (((p3 >>> ((1 : Int32) &&& 31)) % (4 : Int32)).toInt64)) q1)), .second, .val (.long (F1 ((2592000 : Int64) + (((p3 >>> ((1 : Int32) &&& 31)) % (4 : Int32)).toInt64)) q2)), .second] [(.int (lcmpW ((2592000 : Int64) + (((p3 >>> ((1 : Int32) &&& 31)) % (4 : Int32)).toInt64)) (2592000 : Int64)))])) _
        refine XS.ifYes X6.here hx rfl (pc0 := 47) (pc' := 77) rfl (hb hby at_47) rfl (lcY_gt hc47) (by decide) (by decide) ?_
        show Steps p.tables e below (T6.setTop (mkF m 77 #[.val (.long q0), .second, .val (.long q1), .second, .val (.long q2), .second, .val (.int p3), .val (.long ((2592000 : Int64) + (((p3 >>> ((1 : Int32) &&& 31)) % (4 : Int32)).toInt64))), .second, .val (.long (F1 ((2592000 : Int64) + (((p3 >>> ((1 : Int32) &&& 31)) % (4 : Int32)).toInt64)) q1)), .second, .val (.long (F1 ((2592000 : Int64) + (((p3 >>> ((1 : Int32) &&& 31)) % (4 : Int32)).toInt64)) q2)), .second] [])) _
        refine XS.lload X6.here hx rfl (hb hby at_77) rfl ?_
        show Steps p.tables e below (T6.setTop (mkF m 79 #[.val (.long q0), .second, .val (.long q1), .second, .val (.long q2), .second, .val (.int p3), .val (.long ((2592000 : Int64) + (((p3 >>> ((1 : Int32) &&& 31)) % (4 : Int32)).toInt64))), .second, .val (.long (F1 ((2592000 : Int64) + (((p3 >>> ((1 : Int32) &&& 31)) % (4 : Int32)).toInt64)) q1)), .second, .val (.long (F1 ((2592000 : Int64) + (((p3 >>> ((1 : Int32) &&& 31)) % (4 : Int32)).toInt64)) q2)), .second] [(.long (F1 ((2592000 : Int64) + (((p3 >>> ((1 : Int32) &&& 31)) % (4 : Int32)).toInt64)) q1))])) _
        refine XS.lload X6.here hx rfl (hb hby at_79) rfl ?_
        show Steps p.tables e below (T6.setTop (mkF m 81 #[.val (.long q0), .second, .val (.long q1), .second, .val (.long q2), .second, .val (.int p3), .val (.long ((2592000 : Int64) + (((p3 >>> ((1 : Int32) &&& 31)) % (4 : Int32)).toInt64))), .second, .val (.long (F1 ((2592000 : Int64) + (((p3 >>> ((1 : Int32) &&& 31)) % (4 : Int32)).toInt64)) q1)), .second, .val (.long (F1 ((2592000 : Int64) + (((p3 >>> ((1 : Int32) &&& 31)) % (4 : Int32)).toInt64)) q2)), .second] [(.long ((2592000 : Int64) + (((p3 >>> ((1 : Int32) &&& 31)) % (4 : Int32)).toInt64))), (.long (F1 ((2592000 : Int64) + (((p3 >>> ((1 : Int32) &&& 31)) % (4 : Int32)).toInt64)) q1))])) _
        refine XS.lcmp X6.here hx rfl (hb hby at_81) rfl ?_
        show Steps p.tables e below (T6.setTop (mkF m 82 #[.val (.long q0), .second, .val (.long q1), .second, .val (.long q2), .second, .val (.int p3), .val (.long ((2592000 : Int64) + (((p3 >>> ((1 : Int32) &&& 31)) % (4 : Int32)).toInt64))), .second, .val (.long (F1 ((2592000 : Int64) + (((p3 >>> ((1 : Int32) &&& 31)) % (4 : Int32)).toInt64)) q1)), .second, .val (.long (F1 ((2592000 : Int64) + (((p3 >>> ((1 : Int32) &&& 31)) % (4 : Int32)).toInt64)) q2)), .second] [(.int (lcmpW (F1 ((2592000 : Int64) + (((p3 >>> ((1 : Int32) &&& 31)) % (4 : Int32)).toInt64)) q1) ((2592000 : Int64) + (((p3 >>> ((1 : Int32) &&& 31)) % (4 : Int32)).toInt64))))])) _
        refine XS.ifNo X6.here hx rfl (hb hby at_82) rfl (lcN_ne hc82) ?_
        show Steps p.tables e below (T6.setTop (mkF m 85 #[.val (.long q0), .second, .val (.long q1), .second, .val (.long q2), .second, .val (.int p3), .val (.long ((2592000 : Int64) + (((p3 >>> ((1 : Int32) &&& 31)) % (4 : Int32)).toInt64))), .second, .val (.long (F1 ((2592000 : Int64) + (((p3 >>> ((1 : Int32) &&& 31)) % (4 : Int32)).toInt64)) q1)), .second, .val (.long (F1 ((2592000 : Int64) + (((p3 >>> ((1 : Int32) &&& 31)) % (4 : Int32)).toInt64)) q2)), .second] [])) _
        refine XS.lload X6.here hx rfl (hb hby at_85) rfl ?_
        show Steps p.tables e below (T6.setTop (mkF m 87 #[.val (.long q0), .second, .val (.long q1), .second, .val (.long q2), .second, .val (.int p3), .val (.long ((2592000 : Int64) + (((p3 >>> ((1 : Int32) &&& 31)) % (4 : Int32)).toInt64))), .second, .val (.long (F1 ((2592000 : Int64) + (((p3 >>> ((1 : Int32) &&& 31)) % (4 : Int32)).toInt64)) q1)), .second, .val (.long (F1 ((2592000 : Int64) + (((p3 >>> ((1 : Int32) &&& 31)) % (4 : Int32)).toInt64)) q2)), .second] [(.long (F1 ((2592000 : Int64) + (((p3 >>> ((1 : Int32) &&& 31)) % (4 : Int32)).toInt64)) q2))])) _
        refine XS.lload X6.here hx rfl (hb hby at_87) rfl ?_
        show Steps p.tables e below (T6.setTop (mkF m 89 #[.val (.long q0), .second, .val (.long q1), .second, .val (.long q2), .second, .val (.int p3), .val (.long ((2592000 : Int64) + (((p3 >>> ((1 : Int32) &&& 31)) % (4 : Int32)).toInt64))), .second, .val (.long (F1 ((2592000 : Int64) + (((p3 >>> ((1 : Int32) &&& 31)) % (4 : Int32)).toInt64)) q1)), .second, .val (.long (F1 ((2592000 : Int64) + (((p3 >>> ((1 : Int32) &&& 31)) % (4 : Int32)).toInt64)) q2)), .second] [(.long ((2592000 : Int64) + (((p3 >>> ((1 : Int32) &&& 31)) % (4 : Int32)).toInt64))), (.long (F1 ((2592000 : Int64) + (((p3 >>> ((1 : Int32) &&& 31)) % (4 : Int32)).toInt64)) q2))])) _
        refine XS.lcmp X6.here hx rfl (hb hby at_89) rfl ?_
        show Steps p.tables e below (T6.setTop (mkF m 90 #[.val (.long q0), .second, .val (.long q1), .second, .val (.long q2), .second, .val (.int p3), .val (.long ((2592000 : Int64) + (((p3 >>> ((1 : Int32) &&& 31)) % (4 : Int32)).toInt64))), .second, .val (.long (F1 ((2592000 : Int64) + (((p3 >>> ((1 : Int32) &&& 31)) % (4 : Int32)).toInt64)) q1)), .second, .val (.long (F1 ((2592000 : Int64) + (((p3 >>> ((1 : Int32) &&& 31)) % (4 : Int32)).toInt64)) q2)), .second] [(.int (lcmpW (F1 ((2592000 : Int64) + (((p3 >>> ((1 : Int32) &&& 31)) % (4 : Int32)).toInt64)) q2) ((2592000 : Int64) + (((p3 >>> ((1 : Int32) &&& 31)) % (4 : Int32)).toInt64))))])) _
        refine XS.ifNo X6.here hx rfl (hb hby at_90) rfl (lcN_ne hc90) ?_
        show Steps p.tables e below (T6.setTop (mkF m 93 #[.val (.long q0), .second, .val (.long q1), .second, .val (.long q2), .second, .val (.int p3), .val (.long ((2592000 : Int64) + (((p3 >>> ((1 : Int32) &&& 31)) % (4 : Int32)).toInt64))), .second, .val (.long (F1 ((2592000 : Int64) + (((p3 >>> ((1 : Int32) &&& 31)) % (4 : Int32)).toInt64)) q1)), .second, .val (.long (F1 ((2592000 : Int64) + (((p3 >>> ((1 : Int32) &&& 31)) % (4 : Int32)).toInt64)) q2)), .second] [])) _
        refine XS.iconst X6.here hx rfl (hb hby at_93) ?_
        show Steps p.tables e below (T6.setTop (mkF m 94 #[.val (.long q0), .second, .val (.long q1), .second, .val (.long q2), .second, .val (.int p3), .val (.long ((2592000 : Int64) + (((p3 >>> ((1 : Int32) &&& 31)) % (4 : Int32)).toInt64))), .second, .val (.long (F1 ((2592000 : Int64) + (((p3 >>> ((1 : Int32) &&& 31)) % (4 : Int32)).toInt64)) q1)), .second, .val (.long (F1 ((2592000 : Int64) + (((p3 >>> ((1 : Int32) &&& 31)) % (4 : Int32)).toInt64)) q2)), .second] [(.int (1 : Int32))])) _
        refine XS.goto X6.here hx rfl (pc0 := 94) (pc' := 98) rfl (hb hby at_94) (by decide) (by decide) ?_
        show Steps p.tables e below (T6.setTop (mkF m 98 #[.val (.long q0), .second, .val (.long q1), .second, .val (.long q2), .second, .val (.int p3), .val (.long ((2592000 : Int64) + (((p3 >>> ((1 : Int32) &&& 31)) % (4 : Int32)).toInt64))), .second, .val (.long (F1 ((2592000 : Int64) + (((p3 >>> ((1 : Int32) &&& 31)) % (4 : Int32)).toInt64)) q1)), .second, .val (.long (F1 ((2592000 : Int64) + (((p3 >>> ((1 : Int32) &&& 31)) % (4 : Int32)).toInt64)) q2)), .second] [(.int (1 : Int32))])) _
        exact retN X6 hx (t := .boolean) Bd.returns (by simp) (hb hby at_98) hr
      · show Q0 Z q0 q1 q2 p3 h0 n0 _ T6.heap _
        rw [e6]
        exact ⟨rfl, N6⟩
    · have hc57 : ((F1 ((2592000 : Int64) + (((p3 >>> ((1 : Int32) &&& 31)) % (4 : Int32)).toInt64)) q1) - q1) = ((2592000 : Int64) + (((p3 >>> ((1 : Int32) &&& 31)) % (4 : Int32)).toInt64)) := by rw [F1, if_neg hc47, own_back]
      have hc68 : ((F1 ((2592000 : Int64) + (((p3 >>> ((1 : Int32) &&& 31)) % (4 : Int32)).toInt64)) q2) - q2) = ((2592000 : Int64) + (((p3 >>> ((1 : Int32) &&& 31)) % (4 : Int32)).toInt64)) := by rw [F1, if_neg hc47, own_back]
      obtain ⟨fs, hr, hrun, hended, hW, hsame⟩ := X6.leave (v := some (.int (1 : Int32))) (fun h => by rw [Bd.returns] at h; cases h)
      refine ⟨_, _, pre7 _ ?_, hrun, hended, _, _, rfl, ?_, ⟨_, rfl⟩, hW, hsame.mono (by decide) (by decide)⟩
      · show Steps p.tables e below (T6.setTop (mkF m 47 #[.val (.long q0), .second, .val (.long q1), .second, .val (.long q2), .second, .val (.int p3), .val (.long ((2592000 : Int64) + (((p3 >>> ((1 : Int32) &&& 31)) % (4 : Int32)).toInt64))), .second, .val (.long (F1 ((2592000 : Int64) + (((p3 >>> ((1 : Int32) &&& 31)) % (4 : Int32)).toInt64)) q1)), .second, .val (.long (F1 ((2592000 : Int64) + (((p3 >>> ((1 : Int32) &&& 31)) % (4 : Int32)).toInt64)) q2)), .second] [(.int (lcmpW ((2592000 : Int64) + (((p3 >>> ((1 : Int32) &&& 31)) % (4 : Int32)).toInt64)) (2592000 : Int64)))])) _
        refine XS.ifNo X6.here hx rfl (hb hby at_47) rfl (lcN_gt hc47) ?_
        show Steps p.tables e below (T6.setTop (mkF m 50 #[.val (.long q0), .second, .val (.long q1), .second, .val (.long q2), .second, .val (.int p3), .val (.long ((2592000 : Int64) + (((p3 >>> ((1 : Int32) &&& 31)) % (4 : Int32)).toInt64))), .second, .val (.long (F1 ((2592000 : Int64) + (((p3 >>> ((1 : Int32) &&& 31)) % (4 : Int32)).toInt64)) q1)), .second, .val (.long (F1 ((2592000 : Int64) + (((p3 >>> ((1 : Int32) &&& 31)) % (4 : Int32)).toInt64)) q2)), .second] [])) _
        refine XS.lload X6.here hx rfl (hb hby at_50) rfl ?_
        show Steps p.tables e below (T6.setTop (mkF m 52 #[.val (.long q0), .second, .val (.long q1), .second, .val (.long q2), .second, .val (.int p3), .val (.long ((2592000 : Int64) + (((p3 >>> ((1 : Int32) &&& 31)) % (4 : Int32)).toInt64))), .second, .val (.long (F1 ((2592000 : Int64) + (((p3 >>> ((1 : Int32) &&& 31)) % (4 : Int32)).toInt64)) q1)), .second, .val (.long (F1 ((2592000 : Int64) + (((p3 >>> ((1 : Int32) &&& 31)) % (4 : Int32)).toInt64)) q2)), .second] [(.long (F1 ((2592000 : Int64) + (((p3 >>> ((1 : Int32) &&& 31)) % (4 : Int32)).toInt64)) q1))])) _
        refine XS.lloadN X6.here hx rfl (hb hby at_52) rfl ?_
        show Steps p.tables e below (T6.setTop (mkF m 53 #[.val (.long q0), .second, .val (.long q1), .second, .val (.long q2), .second, .val (.int p3), .val (.long ((2592000 : Int64) + (((p3 >>> ((1 : Int32) &&& 31)) % (4 : Int32)).toInt64))), .second, .val (.long (F1 ((2592000 : Int64) + (((p3 >>> ((1 : Int32) &&& 31)) % (4 : Int32)).toInt64)) q1)), .second, .val (.long (F1 ((2592000 : Int64) + (((p3 >>> ((1 : Int32) &&& 31)) % (4 : Int32)).toInt64)) q2)), .second] [(.long q1), (.long (F1 ((2592000 : Int64) + (((p3 >>> ((1 : Int32) &&& 31)) % (4 : Int32)).toInt64)) q1))])) _
        refine XS.lsub X6.here hx rfl (hb hby at_53) rfl ?_
        show Steps p.tables e below (T6.setTop (mkF m 54 #[.val (.long q0), .second, .val (.long q1), .second, .val (.long q2), .second, .val (.int p3), .val (.long ((2592000 : Int64) + (((p3 >>> ((1 : Int32) &&& 31)) % (4 : Int32)).toInt64))), .second, .val (.long (F1 ((2592000 : Int64) + (((p3 >>> ((1 : Int32) &&& 31)) % (4 : Int32)).toInt64)) q1)), .second, .val (.long (F1 ((2592000 : Int64) + (((p3 >>> ((1 : Int32) &&& 31)) % (4 : Int32)).toInt64)) q2)), .second] [(.long ((F1 ((2592000 : Int64) + (((p3 >>> ((1 : Int32) &&& 31)) % (4 : Int32)).toInt64)) q1) - q1))])) _
        refine XS.lload X6.here hx rfl (hb hby at_54) rfl ?_
        show Steps p.tables e below (T6.setTop (mkF m 56 #[.val (.long q0), .second, .val (.long q1), .second, .val (.long q2), .second, .val (.int p3), .val (.long ((2592000 : Int64) + (((p3 >>> ((1 : Int32) &&& 31)) % (4 : Int32)).toInt64))), .second, .val (.long (F1 ((2592000 : Int64) + (((p3 >>> ((1 : Int32) &&& 31)) % (4 : Int32)).toInt64)) q1)), .second, .val (.long (F1 ((2592000 : Int64) + (((p3 >>> ((1 : Int32) &&& 31)) % (4 : Int32)).toInt64)) q2)), .second] [(.long ((2592000 : Int64) + (((p3 >>> ((1 : Int32) &&& 31)) % (4 : Int32)).toInt64))), (.long ((F1 ((2592000 : Int64) + (((p3 >>> ((1 : Int32) &&& 31)) % (4 : Int32)).toInt64)) q1) - q1))])) _
        refine XS.lcmp X6.here hx rfl (hb hby at_56) rfl ?_
        show Steps p.tables e below (T6.setTop (mkF m 57 #[.val (.long q0), .second, .val (.long q1), .second, .val (.long q2), .second, .val (.int p3), .val (.long ((2592000 : Int64) + (((p3 >>> ((1 : Int32) &&& 31)) % (4 : Int32)).toInt64))), .second, .val (.long (F1 ((2592000 : Int64) + (((p3 >>> ((1 : Int32) &&& 31)) % (4 : Int32)).toInt64)) q1)), .second, .val (.long (F1 ((2592000 : Int64) + (((p3 >>> ((1 : Int32) &&& 31)) % (4 : Int32)).toInt64)) q2)), .second] [(.int (lcmpW ((F1 ((2592000 : Int64) + (((p3 >>> ((1 : Int32) &&& 31)) % (4 : Int32)).toInt64)) q1) - q1) ((2592000 : Int64) + (((p3 >>> ((1 : Int32) &&& 31)) % (4 : Int32)).toInt64))))])) _
        refine XS.ifNo X6.here hx rfl (hb hby at_57) rfl (lcN_ne hc57) ?_
        show Steps p.tables e below (T6.setTop (mkF m 60 #[.val (.long q0), .second, .val (.long q1), .second, .val (.long q2), .second, .val (.int p3), .val (.long ((2592000 : Int64) + (((p3 >>> ((1 : Int32) &&& 31)) % (4 : Int32)).toInt64))), .second, .val (.long (F1 ((2592000 : Int64) + (((p3 >>> ((1 : Int32) &&& 31)) % (4 : Int32)).toInt64)) q1)), .second, .val (.long (F1 ((2592000 : Int64) + (((p3 >>> ((1 : Int32) &&& 31)) % (4 : Int32)).toInt64)) q2)), .second] [])) _
        refine XS.lload X6.here hx rfl (hb hby at_60) rfl ?_
        show Steps p.tables e below (T6.setTop (mkF m 62 #[.val (.long q0), .second, .val (.long q1), .second, .val (.long q2), .second, .val (.int p3), .val (.long ((2592000 : Int64) + (((p3 >>> ((1 : Int32) &&& 31)) % (4 : Int32)).toInt64))), .second, .val (.long (F1 ((2592000 : Int64) + (((p3 >>> ((1 : Int32) &&& 31)) % (4 : Int32)).toInt64)) q1)), .second, .val (.long (F1 ((2592000 : Int64) + (((p3 >>> ((1 : Int32) &&& 31)) % (4 : Int32)).toInt64)) q2)), .second] [(.long (F1 ((2592000 : Int64) + (((p3 >>> ((1 : Int32) &&& 31)) % (4 : Int32)).toInt64)) q2))])) _
        refine XS.lload X6.here hx rfl (hb hby at_62) rfl ?_
        show Steps p.tables e below (T6.setTop (mkF m 64 #[.val (.long q0), .second, .val (.long q1), .second, .val (.long q2), .second, .val (.int p3), .val (.long ((2592000 : Int64) + (((p3 >>> ((1 : Int32) &&& 31)) % (4 : Int32)).toInt64))), .second, .val (.long (F1 ((2592000 : Int64) + (((p3 >>> ((1 : Int32) &&& 31)) % (4 : Int32)).toInt64)) q1)), .second, .val (.long (F1 ((2592000 : Int64) + (((p3 >>> ((1 : Int32) &&& 31)) % (4 : Int32)).toInt64)) q2)), .second] [(.long q2), (.long (F1 ((2592000 : Int64) + (((p3 >>> ((1 : Int32) &&& 31)) % (4 : Int32)).toInt64)) q2))])) _
        refine XS.lsub X6.here hx rfl (hb hby at_64) rfl ?_
        show Steps p.tables e below (T6.setTop (mkF m 65 #[.val (.long q0), .second, .val (.long q1), .second, .val (.long q2), .second, .val (.int p3), .val (.long ((2592000 : Int64) + (((p3 >>> ((1 : Int32) &&& 31)) % (4 : Int32)).toInt64))), .second, .val (.long (F1 ((2592000 : Int64) + (((p3 >>> ((1 : Int32) &&& 31)) % (4 : Int32)).toInt64)) q1)), .second, .val (.long (F1 ((2592000 : Int64) + (((p3 >>> ((1 : Int32) &&& 31)) % (4 : Int32)).toInt64)) q2)), .second] [(.long ((F1 ((2592000 : Int64) + (((p3 >>> ((1 : Int32) &&& 31)) % (4 : Int32)).toInt64)) q2) - q2))])) _
        refine XS.lload X6.here hx rfl (hb hby at_65) rfl ?_
        show Steps p.tables e below (T6.setTop (mkF m 67 #[.val (.long q0), .second, .val (.long q1), .second, .val (.long q2), .second, .val (.int p3), .val (.long ((2592000 : Int64) + (((p3 >>> ((1 : Int32) &&& 31)) % (4 : Int32)).toInt64))), .second, .val (.long (F1 ((2592000 : Int64) + (((p3 >>> ((1 : Int32) &&& 31)) % (4 : Int32)).toInt64)) q1)), .second, .val (.long (F1 ((2592000 : Int64) + (((p3 >>> ((1 : Int32) &&& 31)) % (4 : Int32)).toInt64)) q2)), .second] [(.long ((2592000 : Int64) + (((p3 >>> ((1 : Int32) &&& 31)) % (4 : Int32)).toInt64))), (.long ((F1 ((2592000 : Int64) + (((p3 >>> ((1 : Int32) &&& 31)) % (4 : Int32)).toInt64)) q2) - q2))])) _
        refine XS.lcmp X6.here hx rfl (hb hby at_67) rfl ?_
        show Steps p.tables e below (T6.setTop (mkF m 68 #[.val (.long q0), .second, .val (.long q1), .second, .val (.long q2), .second, .val (.int p3), .val (.long ((2592000 : Int64) + (((p3 >>> ((1 : Int32) &&& 31)) % (4 : Int32)).toInt64))), .second, .val (.long (F1 ((2592000 : Int64) + (((p3 >>> ((1 : Int32) &&& 31)) % (4 : Int32)).toInt64)) q1)), .second, .val (.long (F1 ((2592000 : Int64) + (((p3 >>> ((1 : Int32) &&& 31)) % (4 : Int32)).toInt64)) q2)), .second] [(.int (lcmpW ((F1 ((2592000 : Int64) + (((p3 >>> ((1 : Int32) &&& 31)) % (4 : Int32)).toInt64)) q2) - q2) ((2592000 : Int64) + (((p3 >>> ((1 : Int32) &&& 31)) % (4 : Int32)).toInt64))))])) _
        refine XS.ifNo X6.here hx rfl (hb hby at_68) rfl (lcN_ne hc68) ?_
        show Steps p.tables e below (T6.setTop (mkF m 71 #[.val (.long q0), .second, .val (.long q1), .second, .val (.long q2), .second, .val (.int p3), .val (.long ((2592000 : Int64) + (((p3 >>> ((1 : Int32) &&& 31)) % (4 : Int32)).toInt64))), .second, .val (.long (F1 ((2592000 : Int64) + (((p3 >>> ((1 : Int32) &&& 31)) % (4 : Int32)).toInt64)) q1)), .second, .val (.long (F1 ((2592000 : Int64) + (((p3 >>> ((1 : Int32) &&& 31)) % (4 : Int32)).toInt64)) q2)), .second] [])) _
        refine XS.iconst X6.here hx rfl (hb hby at_71) ?_
        show Steps p.tables e below (T6.setTop (mkF m 72 #[.val (.long q0), .second, .val (.long q1), .second, .val (.long q2), .second, .val (.int p3), .val (.long ((2592000 : Int64) + (((p3 >>> ((1 : Int32) &&& 31)) % (4 : Int32)).toInt64))), .second, .val (.long (F1 ((2592000 : Int64) + (((p3 >>> ((1 : Int32) &&& 31)) % (4 : Int32)).toInt64)) q1)), .second, .val (.long (F1 ((2592000 : Int64) + (((p3 >>> ((1 : Int32) &&& 31)) % (4 : Int32)).toInt64)) q2)), .second] [(.int (1 : Int32))])) _
        refine XS.goto X6.here hx rfl (pc0 := 72) (pc' := 76) rfl (hb hby at_72) (by decide) (by decide) ?_
        show Steps p.tables e below (T6.setTop (mkF m 76 #[.val (.long q0), .second, .val (.long q1), .second, .val (.long q2), .second, .val (.int p3), .val (.long ((2592000 : Int64) + (((p3 >>> ((1 : Int32) &&& 31)) % (4 : Int32)).toInt64))), .second, .val (.long (F1 ((2592000 : Int64) + (((p3 >>> ((1 : Int32) &&& 31)) % (4 : Int32)).toInt64)) q1)), .second, .val (.long (F1 ((2592000 : Int64) + (((p3 >>> ((1 : Int32) &&& 31)) % (4 : Int32)).toInt64)) q2)), .second] [(.int (1 : Int32))])) _
        exact retN X6 hx (t := .boolean) Bd.returns (by simp) (hb hby at_76) hr
      · show Q0 Z q0 q1 q2 p3 h0 n0 _ T6.heap _
        rw [e6]
        exact ⟨rfl, N6⟩
set_option maxRecDepth 65536 in
set_option maxHeartbeats 40000000 in
theorem comes_1 {Post : Tables → Env → Array Value → State → Outcome → State → Prop} (hpost : ∀ tb e args s v u, (limb_1_1.after args s (.returned v) u = true ∧ limb_1_2.after args s (.returned v) u = true ∧ True) → FrameEnd s (.returned v) u (Jvm.fieldLocs frame_1_writes args s ++ Jvm.arrayLocs frame_1_arrays args s ++ Jvm.staticLocs frame_1_statics s) 0 0 → Post tb e args s (.returned v) u) :
    ArmFor flags0 classFile x code maxLocals ret World_1 tables_1 room_1 Calls_1 rest_1 Pre_1 Post := by
  intro l hfl _ _ p e ha hc hk s m args below hf hA hF happ hP
  obtain ⟨hcalls, hrest, hpre⟩ := hP
  obtain ⟨-, -, -, hnamed, -, -, -, hat⟩ := (Spec.applies_iff hf).mp happ
  obtain ⟨hg, hn⟩ := and_e (Cond.before_iff.mp (show (Jvm.Cond.and given_1 narrow_1).before args s = true from hpre))
  obtain ⟨g1, g2⟩ := and_e hg
  obtain ⟨g3, g4⟩ := and_e g2
  obtain ⟨g5, g6⟩ := and_e g4
  obtain ⟨g7, g8⟩ := and_e g6
  obtain ⟨w0, w1, w2, w3, rfl⟩ : ∃ w0 w1 w2 w3 : Value, args = #[w0, w1, w2, w3] := by
    have hs : args.size = 4 := by simpa [Cond.value, given_1] using g1
    obtain ⟨L⟩ := args
    match L, hs with
    | [w0, w1, w2, w3], _ => exact ⟨w0, w1, w2, w3, rfl⟩
  have hw := fun d (hd : d ∈ tables_1) => atoms_spec (ws := Jvm.Cond.code x code maxLocals ret :: tables_1) hat d (List.mem_cons_of_mem _ hd)
  obtain ⟨i0, ei0⟩ := isL_v g3
  obtain rfl : w0 = (.long i0) := Option.some.inj ei0
  obtain ⟨i1, ei1⟩ := isL_v g5
  obtain rfl : w1 = (.long i1) := Option.some.inj ei1
  obtain ⟨i2, ei2⟩ := isL_v g7
  obtain rfl : w2 = (.long i2) := Option.some.inj ei2
  obtain ⟨i3, ei3⟩ := is_v g8
  obtain rfl : w3 = (.int i3) := Option.some.inj ei3
  obtain ⟨n, o, h1, h2, h3, _, L, rfl, ⟨rfl, N⟩, hq⟩ := rm0 l s _ hw tables_1 i0 i1 i2 i3  s.heap s.heap.size (Nat.le_refl _)  p e ha hc hk s m _ below hf ((Spec.applies_iff_loose hf).mp happ).1 ⟨rfl, State.Warmed39.refl s, rfl⟩ trivial
  refine ⟨n, _, h1, h2, h3, hpost _ _ _ _ _ _ ⟨Cond.after_iff.mpr rfl, Cond.after_iff.mpr (eq_i res_at (Term.int_eval (1)) rfl), trivial⟩ ⟨hq.1, hq.2.1, (hq.2.2.sift fun y hy => Or.inr (N y hy)).mono (by decide) (by decide)⟩⟩
theorem main_1_1 : Claimed_1_1 := comes_1 fun _ _ _ _ _ _ h hF => ⟨h.1, hF⟩
theorem main_1_2 : Claimed_1_2 := comes_1 fun _ _ _ _ _ _ h hF => ⟨h.2.1, hF⟩
end Jvm.Pilot.@@N@@
namespace Jvm.Pilot.@@N@@
open Jvm Jvm.ClassFile Sem Op Lib Jvm.Free Jvm.Stand Jvm.Pilot.@@N@@.Jvm.D
/-! MADE BY PROGRAM (witnessworld.py) out of the Statement's table words and the real class files: 9 classes; the members and pool entries that the words name. The judged class is class 1, her method 1. -/
namespace start1
open Jvm.ClassFile
def u (s : String) : CpInfo := .utf8 (stringToUtf16 s)
/-- a pool by its gaps: so many unusable entries, then the entry; so many at the end -/
def gap : Nat → List CpInfo → List CpInfo
  | 0, r => r
  | n + 1, r => .unusable :: gap n r
def poolList (es : List (Nat × CpInfo)) (last : Nat) : List CpInfo := es.foldr (fun e r => gap e.1 (e.2 :: r)) (gap last [])
def pool (es : List (Nat × CpInfo)) (last : Nat) : Array CpInfo := ⟨poolList es last⟩
def fileOf (pool : Array CpInfo) (this : Nat) (attrs : Array Attribute := #[]) (ms : Array MethodInfo := #[]) (fl : Nat := 33) (sup : Nat := 0) (ifs : Array Nat := #[]) (fds : Array FieldInfo := #[]) : ClassFile where
  minorVersion := 0
  majorVersion := 65
  constantPool := pool
  accessFlags := fl
  thisClass := this
  superClass := sup
  interfaces := ifs
  fields := fds
  methods := ms
  attributes := attrs
def plain (name : String) (sup : Option ClassId) : Class where
  name := name
  kind := .ordinary
  loader := none
  accessFlags := 33
  super := sup
  interfaces := #[]
  cf := none
  fields := #[]
  methods := #[]
  instanceTypes := #[]
  staticTypes := #[]
  resolved := #[]
  callSites := []
  init := .initialized
  statics := none
  mirror := none

def pool0 : Array CpInfo := pool [(5, u "<init>"), (0, u "()V"), (1, .class_ 10), (1, u "java/lang/Object")] 113

def k0m0 : Method := { name := "<init>", desc := "()V", sig := { parameters := [], returnType := none }, accessFlags := 1, code := none }
/-- java/lang/Object -/
def k0 : Class := { plain "java/lang/Object" none with
  accessFlags := 33
  interfaces := #[]
  cf := some (fileOf pool0 8 #[] #[{ accessFlags := 1, nameIndex := 5, descriptorIndex := 6, attributes := #[] }] 33 0 #[] #[])
  fields := #[]
  methods := #[k0m0]
  instanceTypes := #[]
  staticTypes := #[]
  resolved := Array.replicate 124 none
  statics := none }

def pool1 : Array CpInfo := pool [(2, .class_ 4), (1, u "java/lang/Object"), (0, u "<init>"), (0, u "()V"), (0, .long 2592000), (1, .methodref 10 11), (0, .class_ 12), (0, .nameAndType 13 14), (0, u "com/example/keys_over_wire/keysoverwire/ExpirationTime"), (0, u "moment"), (0, u "(JJ)J"), (0, .class_ 16), (0, u "com/example/keys_over_wire/keysoverwire/ExpirationTimeMomentPinLaw"), (2, u "law"), (0, u "(JJJI)Z")] 3

def k1m0 : Method := { name := "<init>", desc := "()V", sig := { parameters := [], returnType := none }, accessFlags := 2, code := none }
def k1c1 : Code := { maxStack := 4, maxLocals := 13, code := code, exceptionTable := #[], attributes := #[] }
def k1m1 : Method := { name := "law", desc := "(JJJI)Z", sig := { parameters := [.long, .long, .long, .int], returnType := some .boolean }, accessFlags := 9, code := some k1c1 }
/-- com/example/keys_over_wire/keysoverwire/ExpirationTimeMomentPinLaw -/
def k1 : Class := { plain "com/example/keys_over_wire/keysoverwire/ExpirationTimeMomentPinLaw" (some 0) with
  accessFlags := 49
  interfaces := #[]
  cf := some (fileOf pool1 15 #[] #[{ accessFlags := 2, nameIndex := 5, descriptorIndex := 6, attributes := #[] }, { accessFlags := 9, nameIndex := 19, descriptorIndex := 20, attributes := #[] }] 49 2 #[] #[])
  fields := #[]
  methods := #[k1m0, k1m1]
  instanceTypes := #[]
  staticTypes := #[]
  resolved := Array.replicate 24 none
  statics := none }

def pool2 : Array CpInfo := pool [(4, .class_ 6), (1, u "java/lang/Object"), (0, u "<init>"), (0, u "()V"), (0, .class_ 10), (0, u "com/example/keys_over_wire/keysoverwire/ExpirationTime"), (4, u "moment"), (0, u "(JJ)J"), (0, .long 2592000), (1, u "MAX_RELATIVE_SECONDS"), (0, u "J"), (1, u "NEVER")] 10

def k2m0 : Method := { name := "<init>", desc := "()V", sig := { parameters := [], returnType := none }, accessFlags := 2, code := none }
def k2c1 : Code := { maxStack := 4, maxLocals := 4, code := prog_14_method_3_code, exceptionTable := #[], attributes := #[] }
def k2m1 : Method := { name := "moment", desc := "(JJ)J", sig := { parameters := [.long, .long], returnType := some .long }, accessFlags := 8, code := some k2c1 }
/-- com/example/keys_over_wire/keysoverwire/ExpirationTime -/
def k2 : Class := { plain "com/example/keys_over_wire/keysoverwire/ExpirationTime" (some 0) with
  accessFlags := 48
  interfaces := #[]
  cf := some (fileOf pool2 9 #[] #[{ accessFlags := 2, nameIndex := 7, descriptorIndex := 8, attributes := #[] }, { accessFlags := 8, nameIndex := 15, descriptorIndex := 16, attributes := #[] }] 48 4 #[] #[{ accessFlags := 26, nameIndex := 19, descriptorIndex := 20, attributes := #[] }, { accessFlags := 26, nameIndex := 22, descriptorIndex := 20, attributes := #[] }])
  fields := #[{ name := "MAX_RELATIVE_SECONDS", type := .long, accessFlags := 26, slot := 0, constantValue := 0 }, { name := "NEVER", type := .long, accessFlags := 26, slot := 1, constantValue := 0 }]
  methods := #[k2m0, k2m1]
  instanceTypes := #[]
  staticTypes := #[.long, .long]
  resolved := Array.replicate 33 none
  statics := none }

def pool3 : Array CpInfo := pool [(1, u "java/lang/Cloneable"), (0, .class_ 1), (0, u "java/lang/Object"), (0, .class_ 3)] 3

/-- java/lang/Cloneable -/
def k3 : Class := { plain "java/lang/Cloneable" (some 0) with
  accessFlags := 1537
  interfaces := #[]
  cf := some (fileOf pool3 2 #[] #[] 1537 4 #[] #[])
  fields := #[]
  methods := #[]
  instanceTypes := #[]
  staticTypes := #[]
  resolved := Array.replicate 8 none
  statics := none }

def pool4 : Array CpInfo := pool [(1, u "java/io/Serializable"), (0, .class_ 1), (0, u "java/lang/Object"), (0, .class_ 3)] 3

/-- java/io/Serializable -/
def k4 : Class := { plain "java/io/Serializable" (some 0) with
  accessFlags := 1537
  interfaces := #[]
  cf := some (fileOf pool4 2 #[] #[] 1537 4 #[] #[])
  fields := #[]
  methods := #[]
  instanceTypes := #[]
  staticTypes := #[]
  resolved := Array.replicate 8 none
  statics := none }

/-- the primitive byte -/
def k5 : Class := { plain "byte" none with kind := .primitive 'B', accessFlags := 0x411 }
/-- [B -/
def k6 : Class := { plain "[B" (some 0) with kind := .array 5 .byte, interfaces := #[3, 4], accessFlags := 1041 }

/-- the primitive int -/
def k7 : Class := { plain "int" none with kind := .primitive 'I', accessFlags := 0x411 }
/-- [I -/
def k8 : Class := { plain "[I" (some 0) with kind := .array 7 .int, interfaces := #[3, 4], accessFlags := 1041 }

def heap : Heap := #[]
def classes : Array Class := #[k0, k1, k2, k3, k4, k5, k6, k7, k8]
def interned : List (Array UInt16 × Addr) := []
def slotsUsed : Nat := 0
def theMethod : MethodId := ⟨1, 1⟩
def args0 : Array Value := #[.long 1, .long 2, .long 3, .int 4]
def aboutOver (below : List Frame) : State where
  vm := { classes := classes, interned := interned.toArray }
  heap := heap
  slotsUsed := slotsUsed
  threads := #[{ frames := .invoking theMethod args0 :: below }]
def below0 : List Frame := [.native { method := ⟨0, 0⟩, args := #[] }]
def about1 : State := aboutOver below0
def p0 : Program := .bare "" "" ""
def e0 : Env := launch0.env 0 0 0
theorem w_frames : about1.frames = Frame.invoking theMethod args0 :: below0 := rfl
set_option maxRecDepth 65536 in
theorem w_args : argsFit about1.vm theMethod args0 = true := by decide +kernel
set_option maxRecDepth 65536 in
theorem w_heap : heapFits about1 = true := by decide +kernel
set_option maxRecDepth 65536 in
theorem w_runnable : about1.curStatus? = some .runnable := by decide +kernel
set_option maxRecDepth 65536 in
theorem w_alone : about1.alone = true := by decide +kernel
set_option maxRecDepth 65536 in
theorem w_named : about1.methodNamed? x = some theMethod := by decide +kernel
set_option maxRecDepth 65536 in
theorem w_hears : about1.hears theMethod below0 = true := by decide +kernel
set_option maxRecDepth 65536 in
theorem w_ripe : about1.ripe theMethod args0 below0 = true := by decide +kernel
theorem w_running : about1.status = .running := rfl
set_option maxRecDepth 65536 in
theorem w_room : about1.hasRoom e0.platform room_1 = true :=
  launch0.hasRoom_least _ room_1 (by decide +kernel) (by decide +kernel) (by decide +kernel) (by decide +kernel) (by decide +kernel) (by decide +kernel)
theorem allAtoms_all (ts : List Jvm.Cond) (a : Array Jvm.Value) (st : Jvm.State) : (allAtoms ts).before a st = ts.all (fun c => c.before a st) := by
  induction ts with
  | nil => rfl
  | cons c t ih =>
    show (Jvm.Cond.and c (allAtoms t)).before a st = _
    rw [Jvm.Cond.before_and, ih, List.all_cons]
def words1 : List Jvm.Cond := Jvm.Cond.code x code maxLocals ret :: tables_1
/-- a 'code' word, met by the world's own term for the bytes: nothing is compared byte by byte -/
theorem code_word {y : MethodName} {bytes : ByteArray} {mx : Nat} {rt : Option FieldType} {a : Array Value} {s : State} {m : MethodId} {meth : Method} {c : Code} (h1 : s.methodNamed? y = some m) (h2 : s.vm.method? m = some meth) (h3 : meth.code = some c) (h4 : c.code = bytes)
    (h5 : (c.maxLocals == mx && c.exceptionTable.isEmpty && decide (c.maxStack ≤ mostOperands) && decide (meth.sig.returnType = rt) && !meth.locks && decide (parseMethodDescriptor y.desc = some meth.sig)) = true) : (Jvm.Cond.code y bytes mx rt).before a s = true := by
  simp only [Bool.and_eq_true, beq_iff_eq, Bool.not_eq_true', decide_eq_true_eq] at h5
  obtain ⟨⟨⟨⟨⟨g1, g2⟩, g3⟩, g4⟩, g5⟩, g6⟩ := h5
  simp [Cond.before, Cond.holds, Cond.value, h1, h2, h3, h4, g1, g2, g3, g4, g5, g6]
def isCode : Jvm.Cond → Bool
  | .code _ _ _ _ => true
  | _ => false
theorem all_split {L : List Jvm.Cond} {P : Jvm.Cond → Bool} (h1 : L.all (fun c => isCode c || P c) = true) (h2 : ∀ c ∈ L.filter isCode, P c = true) : L.all P = true := by
  refine List.all_eq_true.mpr fun c hc => ?_
  have h := List.all_eq_true.mp h1 c hc
  rcases Bool.eq_false_or_eq_true (isCode c) with hi | hi
  · exact h2 c (List.mem_filter.mpr ⟨hc, hi⟩)
  · simpa [hi] using h
set_option maxRecDepth 65536 in
theorem w_c0 : (Jvm.Cond.code x code maxLocals ret).before args0 about1 = true := code_word (m := ⟨1, 1⟩) (meth := k1m1) (c := k1c1) (by decide +kernel) rfl rfl rfl (by decide +kernel)
set_option maxRecDepth 65536 in
theorem w_c1 : (Jvm.Cond.code ({ cls := "com/example/keys_over_wire/keysoverwire/ExpirationTime", name := "moment", desc := "(JJ)J" } : Jvm.MethodName) prog_14_method_3_code (4 : Nat) (Option.some Jvm.ClassFile.FieldType.long)).before args0 about1 = true := code_word (m := ⟨2, 1⟩) (meth := k2m1) (c := k2c1) (by decide +kernel) rfl rfl rfl (by decide +kernel)
def codes1 : List Jvm.Cond := [Jvm.Cond.code x code maxLocals ret, Jvm.Cond.code ({ cls := "com/example/keys_over_wire/keysoverwire/ExpirationTime", name := "moment", desc := "(JJ)J" } : Jvm.MethodName) prog_14_method_3_code (4 : Nat) (Option.some Jvm.ClassFile.FieldType.long)]
set_option maxRecDepth 65536 in
theorem codes_eq : words1.filter isCode = codes1 := rfl
theorem w_codes : ∀ c ∈ words1.filter isCode, c.before args0 about1 = true := by
  rw [codes_eq]
  intro c hc
  simp only [codes1, List.mem_cons, List.not_mem_nil, or_false] at hc
  rcases hc with rfl | rfl
  · exact w_c0
  · exact w_c1
set_option maxRecDepth 65536 in
theorem w_t1 : words1.all (fun c => isCode c || c.before args0 about1) = true := by decide +kernel
theorem w_tables : (allAtoms (Jvm.Cond.code x code maxLocals ret :: tables_1)).before args0 about1 = true := by
  rw [allAtoms_all]
  show words1.all (fun c => c.before args0 about1) = true
  refine all_split ?_ w_codes
  rw [w_t1]
set_option maxRecDepth 65536 in
theorem w_case : (Jvm.Cond.and given_1 narrow_1).before args0 about1 = true := by decide +kernel
theorem w_applies : (headSpec (Jvm.Cond.code x code maxLocals ret :: tables_1) room_1).applies x e0.platform about1 = true :=
  (Spec.applies_iff w_frames).mpr ⟨w_running, w_runnable, w_alone, w_named, w_hears, w_ripe, w_room, w_tables⟩
theorem atStart : AtStart classFile x code maxLocals ret World_1 tables_1 room_1 Calls_1 rest_1 Pre_1 launch0 p0 e0 about1 theMethod args0 below0 :=
  ⟨lists_1, trivial, launch0.admits_env _ _ _, launch0.least_env, fairChoices_fair.cas, fairChoices_fair.clock, w_frames, w_args, w_heap, w_applies, trivial, trivial, w_case⟩
end start1
theorem witness_1 : WitnessClaimed_1 := ⟨start1.p0, start1.e0, start1.about1, start1.theMethod, start1.args0, start1.below0, start1.atStart⟩
end Jvm.Pilot.@@N@@
