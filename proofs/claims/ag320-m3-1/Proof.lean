import JvmDerived
import JvmDerived.Pilot.@@N@@Statement
import JvmDerived.Pilot.@@N@@Code
set_option linter.unusedVariables false
set_option linter.unusedSimpArgs false
namespace Jvm.Pilot.@@N@@
open Jvm Jvm.ClassFile Sem Op Lib Jvm.Free Jvm.Stand Jvm.LawKit Jvm.RoadKit Bundle Jvm.Pilot.@@N@@.Jvm.D
theorem own_sta {Z : State} {h h' : Heap} {C n d C' : String} {w : Value} {o : Addr} (F : Sta Z h C n d w) (K : Keep h h' [o]) (E : Exa Z h o C') : Sta Z h' C n d w := by
  obtain ⟨cf, i, k, f, st, cell, h1, h2, h3, h4, h5, h6, h7⟩ := F
  obtain ⟨ce, ke, e1, e2, e3, e4, e5⟩ := E
  refine ⟨cf, i, k, f, st, cell, h1, h2, h3, h4, K.2.1 st cell h5 (fun hm => ?_), h6, h7⟩
  cases List.mem_singleton.mp hm
  rw [e1] at h5; cases h5; rw [h6] at e4; cases e4
theorem own_fint {s : State} {args : Array Value} {t : Term} {C n d : String} {k : Int32} {w : Addr} (ht : t.eval args s none [] s = some (.ref w)) (h : (Jvm.Cond.eq (.field t C n d) (.int k)).value args s none s [] = some true) : Fld s s.heap w C n d (.int k) := by
  refine Fld.start ?_
  have e := fld_at (args := args) (first := s) (o := none) (idx := []) (s := s) (C := C) (n := n) (dd := d) ht
  obtain ⟨x, y, hx, hy, -, -⟩ := cmp_v (Or.inl h)
  rw [← e, hx]
  cases (Term.int_eval k).symm.trans hy
  cases x <;> simp [Jvm.Cond.value, hx, hy] at h
  rw [h]
theorem own_rem32 (x m : Int32) (hx : 0 ≤ x.toInt) : (x % m).toInt = x.toInt % m.toInt := by rw [Int32.toInt_mod, Int.tmod_eq_emod_of_nonneg hx]
theorem own_lc0 (x y : Int64) : (lcmpW x y < 0 ↔ x < y) ∧ (0 < lcmpW x y ↔ y < x) ∧ (lcmpW x y = 0 ↔ x = y) := by rw [lcW]; exact ⟨lc_lt x y, lc_gt x y, lc_eq x y⟩
theorem lcY_lt {x y : Int64} (h : x < y) : ifCond.holds .lt (lcmpW x y) = true := (if0 _ _).trans (tlt ((own_lc0 x y).1.mpr h)).1
theorem lcN_lt {x y : Int64} (h : ¬ x < y) : ifCond.holds .lt (lcmpW x y) = false := (if0 _ _).trans (flt fun q => h ((own_lc0 x y).1.mp q)).1
theorem lcN_ge {x y : Int64} (h : x < y) : ifCond.holds .ge (lcmpW x y) = false := (if0 _ _).trans (tlt ((own_lc0 x y).1.mpr h)).2.1
theorem lcY_ge {x y : Int64} (h : ¬ x < y) : ifCond.holds .ge (lcmpW x y) = true := (if0 _ _).trans (flt fun q => h ((own_lc0 x y).1.mp q)).2.1
theorem lcY_gt {x y : Int64} (h : y < x) : ifCond.holds .gt (lcmpW x y) = true := (if0 _ _).trans (tlt ((own_lc0 x y).2.1.mpr h)).2.2.1
theorem lcN_gt {x y : Int64} (h : ¬ y < x) : ifCond.holds .gt (lcmpW x y) = false := (if0 _ _).trans (flt fun q => h ((own_lc0 x y).2.1.mp q)).2.2.1
theorem lcN_le {x y : Int64} (h : y < x) : ifCond.holds .le (lcmpW x y) = false := (if0 _ _).trans (tlt ((own_lc0 x y).2.1.mpr h)).2.2.2
theorem lcY_le {x y : Int64} (h : ¬ y < x) : ifCond.holds .le (lcmpW x y) = true := (if0 _ _).trans (flt fun q => h ((own_lc0 x y).2.1.mp q)).2.2.2
theorem lcY_eq {x y : Int64} (h : x = y) : ifCond.holds .eq (lcmpW x y) = true := (if0 _ _).trans (teq ((own_lc0 x y).2.2.mpr h)).1
theorem lcN_eq {x y : Int64} (h : ¬ x = y) : ifCond.holds .eq (lcmpW x y) = false := (if0 _ _).trans (feq fun q => h ((own_lc0 x y).2.2.mp q)).1
theorem lcN_ne {x y : Int64} (h : x = y) : ifCond.holds .ne (lcmpW x y) = false := (if0 _ _).trans (teq ((own_lc0 x y).2.2.mpr h)).2
theorem lcY_ne {x y : Int64} (h : ¬ x = y) : ifCond.holds .ne (lcmpW x y) = true := (if0 _ _).trans (feq fun q => h ((own_lc0 x y).2.2.mp q)).2
def F1 (p0 : Int32) (w_NONE : Addr) (w_UNAVAILABLE : Addr) (w_TIMEOUT : Addr) : Addr :=
  if p0 = (0 : Int32) then w_NONE else if p0 = (1 : Int32) then w_UNAVAILABLE else w_TIMEOUT
theorem d1_0 : decode method_2_code 0 = .ok (.iload_n 0, 1) := by decide +kernel
theorem d1_1 : decode method_2_code 1 = .ok (.ifCond .ne 7, 3) := by decide +kernel
theorem d1_4 : decode method_2_code 4 = .ok (.getstatic 7, 3) := by decide +kernel
theorem d1_7 : decode method_2_code 7 = .ok (.areturn, 1) := by decide +kernel
theorem d1_8 : decode method_2_code 8 = .ok (.iload_n 0, 1) := by decide +kernel
theorem d1_9 : decode method_2_code 9 = .ok (.iconst 1, 1) := by decide +kernel
theorem d1_10 : decode method_2_code 10 = .ok (.if_icmp .ne 7, 3) := by decide +kernel
theorem d1_13 : decode method_2_code 13 = .ok (.getstatic 13, 3) := by decide +kernel
theorem d1_16 : decode method_2_code 16 = .ok (.areturn, 1) := by decide +kernel
theorem d1_17 : decode method_2_code 17 = .ok (.getstatic 16, 3) := by decide +kernel
theorem d1_20 : decode method_2_code 20 = .ok (.areturn, 1) := by decide +kernel
theorem pn_1 : plainName "com/example/sluis/sluis/model/DecisionDegradedPinLaw" = true := by first | (simp [plainName, overriddenIn]; done) | decide +kernel
theorem ef_1 (m : MethodId) (p0 : Int32) : entryFrame m #[(.int p0)] 1 = mkF m 0 #[.val (.int p0)] [] := by first | (simp [entryFrame, mkF, argsToLocals, Value.category]; done) | rfl
def Q1 (Z : State) (p0 : Int32) (w_NONE : Addr) (w_UNAVAILABLE : Addr) (w_TIMEOUT : Addr) (h0 : Heap) (n0 : Nat) (v : Option Value) (h : Heap) (L : List Loc) : Prop := v = some (.ref (F1 p0 w_NONE w_UNAVAILABLE w_TIMEOUT)) ∧ Fr n0 L ∧ h = h0
set_option maxRecDepth 65536 in
set_option maxHeartbeats 40000000 in
theorem rm1 (l : Launch) (Z : State) (a0 : Array Value) (hw : ∀ d ∈ tables_1, d.before a0 Z = true) (ws : List Jvm.Cond) (p0 : Int32) (w_NONE : Addr) (w_UNAVAILABLE : Addr) (w_TIMEOUT : Addr) (h0 : Heap) (n0 : Nat) (Z0 : n0 ≤ h0.size) (S_NONE : Sta Z h0 "com/example/sluis/sluis/model/Degradation" "NONE" "Lcom/example/sluis/sluis/model/Degradation;" (.ref w_NONE)) (S_UNAVAILABLE : Sta Z h0 "com/example/sluis/sluis/model/Degradation" "UNAVAILABLE" "Lcom/example/sluis/sluis/model/Degradation;" (.ref w_UNAVAILABLE)) (S_TIMEOUT : Sta Z h0 "com/example/sluis/sluis/model/Degradation" "TIMEOUT" "Lcom/example/sluis/sluis/model/Degradation;" (.ref w_TIMEOUT)) :
    MetFree l (⟨"com/example/sluis/sluis/model/DecisionDegradedPinLaw", "pick", "(I)Lcom/example/sluis/sluis/model/Degradation;"⟩ : MethodName) (head1 (Jvm.Cond.code (⟨"com/example/sluis/sluis/model/DecisionDegradedPinLaw", "pick", "(I)Lcom/example/sluis/sluis/model/Degradation;"⟩ : MethodName) method_2_code 1 (some (.object "com/example/sluis/sluis/model/Degradation")) :: ws) ({ frames := 0, cells := 0, slots := 0, locals := 0 } : Room)) (fun a U => a = #[(.int p0)] ∧ Z.Warmed39 U.vm ∧ U.heap = h0) (fun _ _ _ _ _ => True) (fun _ U o U' => ∃ v L, o = .returned v ∧ Q1 Z p0 w_NONE w_UNAVAILABLE w_TIMEOUT h0 n0 v U'.heap L ∧ FrameEnd U o U' L ({ frames := 0, cells := 0, slots := 0, locals := 0 } : Room).cells ({ frames := 0, cells := 0, slots := 0, locals := 0 } : Room).slots) := by
  refine MetFree.of_bodySF (plainFor_of_name pn_1) hisR ?_
  intro p e s m args below meth c s₁ Bd hml0 hP hK
  obtain ⟨rfl, hZ, hh⟩ := hP
  have hx := Bd.exec
  have hby := Bd.bytes
  have hml : c.maxLocals = 1 := hml0
  have hown : s.vm.findClass "com/example/sluis/sluis/model/DecisionDegradedPinLaw" = some m.cls := findClass_of_methodNamed Bd.named
  have hnm := (name_of_methodNamed Bd.named Bd.method).1
  have X0 : Stand p l e ({ frames := 0, cells := 0, slots := 0, locals := 0 } : Room) s m #[(.int p0)] below meth c s₁ [] 0 0 := Stand.of_body Bd
  have e0 : s₁.heap = h0 := by rw [← hh, Bd.state]; rfl
  have N0 := Fr.nil n0
  have pre0 : ∀ t, Steps p.tables e below (s₁.setTop (mkF m 0 #[.val (.int p0)] [])) t → Steps p.tables e below (s₁.setTop (entryFrame m #[(.int p0)] 1)) t := fun t k => castTop (ef_1 m p0) k
  have pre1 : ∀ t, Steps p.tables e below (s₁.setTop (mkF m 1 #[.val (.int p0)] [(.int p0)])) t → Steps p.tables e below (s₁.setTop (entryFrame m #[(.int p0)] 1)) t := fun t k => by
    refine pre0 t ?_
    show Steps p.tables e below (s₁.setTop (mkF m 0 #[.val (.int p0)] [])) _
    refine XS.iloadN X0.here hx rfl (hb hby d1_0) rfl ?_
    exact k
  by_cases hc1 : p0 = (0 : Int32)
  · obtain ⟨T2, X2, e2, st2⟩ := getS2 X0 hx hZ hown (host := "") (Or.inl (hw _ (List.mem_of_getElem? (i := 5) rfl))) Via.refl e0 S_NONE (g := (mkF m 4 #[.val (.int p0)] [])) rfl (hb hby d1_4)
    obtain ⟨fs, hr, hrun, hended, hW, hsame⟩ := X2.leave (v := some (.ref w_NONE)) (fun h => by rw [Bd.returns] at h; cases h) (BodyLoose.notSynchronized Bd)
    refine ⟨_, _, pre1 _ ?_, hrun, hended, _, _, rfl, ?_, ⟨_, rfl⟩, hW, hsame.mono (by decide) (by decide)⟩
    · show Steps p.tables e below (s₁.setTop (mkF m 1 #[.val (.int p0)] [(.int p0)])) _
      refine XS.ifNo X0.here hx rfl (hb hby d1_1) rfl ((if0 _ _).trans (teq hc1).2) ?_
      show Steps p.tables e below (s₁.setTop (mkF m 4 #[.val (.int p0)] [])) _
      refine st2 _ ?_
      show Steps p.tables e below (T2.setTop (mkF m 7 #[.val (.int p0)] [(.ref w_NONE)])) _
      exact retOut X2 hx Bd.returns rfl (Or.inr (Or.inr (Or.inr (Or.inr ⟨rfl, rfl, rfl⟩)))) (hb hby d1_7) hr
    · show Q1 Z p0 w_NONE w_UNAVAILABLE w_TIMEOUT h0 n0 _ T2.heap _
      rw [e2]
      exact ⟨(by rw [F1, if_pos hc1]), N0, rfl⟩
  · have pre3 : ∀ t, Steps p.tables e below (s₁.setTop (mkF m 10 #[.val (.int p0)] [(.int (1 : Int32)), (.int p0)])) t → Steps p.tables e below (s₁.setTop (entryFrame m #[(.int p0)] 1)) t := fun t k => by
      refine pre1 t ?_
      show Steps p.tables e below (s₁.setTop (mkF m 1 #[.val (.int p0)] [(.int p0)])) _
      refine XS.ifYes X0.here hx rfl (pc0 := 1) (pc' := 8) rfl (hb hby d1_1) rfl ((if0 _ _).trans (feq hc1).2) (by decide) (by decide) ?_
      show Steps p.tables e below (s₁.setTop (mkF m 8 #[.val (.int p0)] [])) _
      refine XS.iloadN X0.here hx rfl (hb hby d1_8) rfl ?_
      show Steps p.tables e below (s₁.setTop (mkF m 9 #[.val (.int p0)] [(.int p0)])) _
      refine XS.iconst X0.here hx rfl (hb hby d1_9) ?_
      exact k
    by_cases hc10 : p0 = (1 : Int32)
    · obtain ⟨T4, X4, e4, st4⟩ := getS2 X0 hx hZ hown (host := "") (Or.inl (hw _ (List.mem_of_getElem? (i := 42) rfl))) Via.refl e0 S_UNAVAILABLE (g := (mkF m 13 #[.val (.int p0)] [])) rfl (hb hby d1_13)
      obtain ⟨fs, hr, hrun, hended, hW, hsame⟩ := X4.leave (v := some (.ref w_UNAVAILABLE)) (fun h => by rw [Bd.returns] at h; cases h) (BodyLoose.notSynchronized Bd)
      refine ⟨_, _, pre3 _ ?_, hrun, hended, _, _, rfl, ?_, ⟨_, rfl⟩, hW, hsame.mono (by decide) (by decide)⟩
      · show Steps p.tables e below (s₁.setTop (mkF m 10 #[.val (.int p0)] [(.int (1 : Int32)), (.int p0)])) _
        refine XS.icmpNo X0.here hx rfl (hb hby d1_10) rfl (teq hc10).2 ?_
        show Steps p.tables e below (s₁.setTop (mkF m 13 #[.val (.int p0)] [])) _
        refine st4 _ ?_
        show Steps p.tables e below (T4.setTop (mkF m 16 #[.val (.int p0)] [(.ref w_UNAVAILABLE)])) _
        exact retOut X4 hx Bd.returns rfl (Or.inr (Or.inr (Or.inr (Or.inr ⟨rfl, rfl, rfl⟩)))) (hb hby d1_16) hr
      · show Q1 Z p0 w_NONE w_UNAVAILABLE w_TIMEOUT h0 n0 _ T4.heap _
        rw [e4]
        exact ⟨(by rw [F1, if_neg hc1, if_pos hc10]), N0, rfl⟩
    · obtain ⟨T5, X5, e5, st5⟩ := getS2 X0 hx hZ hown (host := "") (Or.inl (hw _ (List.mem_of_getElem? (i := 40) rfl))) Via.refl e0 S_TIMEOUT (g := (mkF m 17 #[.val (.int p0)] [])) rfl (hb hby d1_17)
      obtain ⟨fs, hr, hrun, hended, hW, hsame⟩ := X5.leave (v := some (.ref w_TIMEOUT)) (fun h => by rw [Bd.returns] at h; cases h) (BodyLoose.notSynchronized Bd)
      refine ⟨_, _, pre3 _ ?_, hrun, hended, _, _, rfl, ?_, ⟨_, rfl⟩, hW, hsame.mono (by decide) (by decide)⟩
      · show Steps p.tables e below (s₁.setTop (mkF m 10 #[.val (.int p0)] [(.int (1 : Int32)), (.int p0)])) _
        refine XS.icmpYes X0.here hx rfl (pc0 := 10) (pc' := 17) rfl (hb hby d1_10) rfl (feq hc10).2 (by decide) (by decide) ?_
        show Steps p.tables e below (s₁.setTop (mkF m 17 #[.val (.int p0)] [])) _
        refine st5 _ ?_
        show Steps p.tables e below (T5.setTop (mkF m 20 #[.val (.int p0)] [(.ref w_TIMEOUT)])) _
        exact retOut X5 hx Bd.returns rfl (Or.inr (Or.inr (Or.inr (Or.inr ⟨rfl, rfl, rfl⟩)))) (hb hby d1_20) hr
      · show Q1 Z p0 w_NONE w_UNAVAILABLE w_TIMEOUT h0 n0 _ T5.heap _
        rw [e5]
        exact ⟨(by rw [F1, if_neg hc1, if_neg hc10]), N0, rfl⟩
theorem pd_0 : parseMethodDescriptor "(I)Lcom/example/sluis/sluis/model/Degradation;" = some ⟨[.int], some (.object "com/example/sluis/sluis/model/Degradation")⟩ := by decide +kernel
theorem d3_0 : decode jdk_30_method_1_code 0 = .ok (.aload_n 0, 1) := by decide +kernel
theorem d3_1 : decode jdk_30_method_1_code 1 = .ok (.invokespecial 1, 3) := by decide +kernel
theorem d3_4 : decode jdk_30_method_1_code 4 = .ok (.return_, 1) := by decide +kernel
theorem pn_3 : plainName "java/lang/Record" = true := by first | (simp [plainName, overriddenIn]; done) | decide +kernel
theorem ef_3 (m : MethodId) (ob0 : Addr) : entryFrame m #[(.ref ob0)] 1 = mkF m 0 #[.val (.ref ob0)] [] := by first | (simp [entryFrame, mkF, argsToLocals, Value.category]; done) | rfl
def Q3 (Z : State) (ob0 : Addr) (h0 : Heap) (n0 : Nat) (v : Option Value) (h : Heap) (L : List Loc) : Prop := v = none ∧ Fr n0 L ∧ h = h0
set_option maxRecDepth 65536 in
set_option maxHeartbeats 40000000 in
theorem rm3 (l : Launch) (Z : State) (a0 : Array Value) (hw : ∀ d ∈ tables_1, d.before a0 Z = true) (ws : List Jvm.Cond) (ob0 : Addr) (h0 : Heap) (n0 : Nat) (Z0 : n0 ≤ h0.size) :
    MetFree l (⟨"java/lang/Record", "<init>", "()V"⟩ : MethodName) (head1 (Jvm.Cond.code (⟨"java/lang/Record", "<init>", "()V"⟩ : MethodName) jdk_30_method_1_code 1 none :: ws) ({ frames := 1, cells := 0, slots := 0, locals := 12 } : Room)) (fun a U => a = #[(.ref ob0)] ∧ Z.Warmed39 U.vm ∧ U.heap = h0) (fun _ _ _ _ _ => True) (fun _ U o U' => ∃ v L, o = .returned v ∧ Q3 Z ob0 h0 n0 v U'.heap L ∧ FrameEnd U o U' L ({ frames := 1, cells := 0, slots := 0, locals := 12 } : Room).cells ({ frames := 1, cells := 0, slots := 0, locals := 12 } : Room).slots) := by
  refine MetFree.of_bodySF (plainFor_of_name pn_3) hisR ?_
  intro p e s m args below meth c s₁ Bd hml0 hP hK
  obtain ⟨rfl, hZ, hh⟩ := hP
  have hx := Bd.exec
  have hby := Bd.bytes
  have hml : c.maxLocals = 1 := hml0
  have hown : s.vm.findClass "java/lang/Record" = some m.cls := findClass_of_methodNamed Bd.named
  have hnm := (name_of_methodNamed Bd.named Bd.method).1
  have X0 : Stand p l e ({ frames := 1, cells := 0, slots := 0, locals := 12 } : Room) s m #[(.ref ob0)] below meth c s₁ [] 0 0 := Stand.of_body Bd
  have e0 : s₁.heap = h0 := by rw [← hh, Bd.state]; rfl
  have N0 := Fr.nil n0
  have pre0 : ∀ t, Steps p.tables e below (s₁.setTop (mkF m 0 #[.val (.ref ob0)] [])) t → Steps p.tables e below (s₁.setTop (entryFrame m #[(.ref ob0)] 1)) t := fun t k => castTop (ef_3 m ob0) k
  obtain ⟨T1, X1, e1, st1⟩ := initO X0 hx hZ hown (hw _ (List.mem_of_getElem? (i := 19) rfl)) (hw _ (List.mem_of_getElem? (i := 20) rfl)) (hw _ (List.mem_of_getElem? (i := 21) rfl)) e0 (g := (mkF m 1 #[.val (.ref ob0)] [(.ref ob0)])) rfl (by rw [hml]; rfl) rfl (hb hby d3_1) (by decide) (W := 0) (by show 2 * 0 + _ ≤ _; exact Nat.le_of_eq rfl) (by decide)
  obtain ⟨fs, hr, hrun, hended, hW, hsame⟩ := X1.leave (v := none) (fun _ => rfl) (BodyLoose.notSynchronized Bd)
  refine ⟨_, _, pre0 _ ?_, hrun, hended, _, _, rfl, ?_, ⟨_, rfl⟩, hW, hsame.mono (by decide) (by decide)⟩
  · show Steps p.tables e below (s₁.setTop (mkF m 0 #[.val (.ref ob0)] [])) _
    refine XS.aloadN X0.here hx rfl (hb hby d3_0) rfl rfl ?_
    show Steps p.tables e below (s₁.setTop (mkF m 1 #[.val (.ref ob0)] [(.ref ob0)])) _
    refine st1 _ ?_
    show Steps p.tables e below (T1.setTop (mkF m 4 #[.val (.ref ob0)] [])) _
    exact X1.returnOut hx Bd.returns (hb hby d3_4) hr
  · show Q3 Z ob0 h0 n0 _ T1.heap _
    rw [e1]
    exact ⟨rfl, N0, rfl⟩
theorem pd_1 : parseMethodDescriptor "()V" = some ⟨[], none⟩ := by decide +kernel
theorem d2_0 : decode prog_17_method_4_code 0 = .ok (.aload_n 0, 1) := by decide +kernel
theorem d2_1 : decode prog_17_method_4_code 1 = .ok (.invokespecial 1, 3) := by decide +kernel
theorem d2_4 : decode prog_17_method_4_code 4 = .ok (.aload_n 0, 1) := by decide +kernel
theorem d2_5 : decode prog_17_method_4_code 5 = .ok (.iload_n 1, 1) := by decide +kernel
theorem d2_6 : decode prog_17_method_4_code 6 = .ok (.putfield 7, 3) := by decide +kernel
theorem d2_9 : decode prog_17_method_4_code 9 = .ok (.aload_n 0, 1) := by decide +kernel
theorem d2_10 : decode prog_17_method_4_code 10 = .ok (.lload_n 2, 1) := by decide +kernel
theorem d2_11 : decode prog_17_method_4_code 11 = .ok (.putfield 13, 3) := by decide +kernel
theorem d2_14 : decode prog_17_method_4_code 14 = .ok (.aload_n 0, 1) := by decide +kernel
theorem d2_15 : decode prog_17_method_4_code 15 = .ok (.lload 4, 2) := by decide +kernel
theorem d2_17 : decode prog_17_method_4_code 17 = .ok (.putfield 17, 3) := by decide +kernel
theorem d2_20 : decode prog_17_method_4_code 20 = .ok (.aload_n 0, 1) := by decide +kernel
theorem d2_21 : decode prog_17_method_4_code 21 = .ok (.lload 6, 2) := by decide +kernel
theorem d2_23 : decode prog_17_method_4_code 23 = .ok (.putfield 20, 3) := by decide +kernel
theorem d2_26 : decode prog_17_method_4_code 26 = .ok (.aload_n 0, 1) := by decide +kernel
theorem d2_27 : decode prog_17_method_4_code 27 = .ok (.aload 8, 2) := by decide +kernel
theorem d2_29 : decode prog_17_method_4_code 29 = .ok (.putfield 23, 3) := by decide +kernel
theorem d2_32 : decode prog_17_method_4_code 32 = .ok (.aload_n 0, 1) := by decide +kernel
theorem d2_33 : decode prog_17_method_4_code 33 = .ok (.iload 9, 2) := by decide +kernel
theorem d2_35 : decode prog_17_method_4_code 35 = .ok (.putfield 27, 3) := by decide +kernel
theorem d2_38 : decode prog_17_method_4_code 38 = .ok (.return_, 1) := by decide +kernel
theorem pn_2 : plainName "com/example/sluis/sluis/model/Decision" = true := by first | (simp [plainName, overriddenIn]; done) | decide +kernel
theorem ef_2 (m : MethodId) (ob0 : Addr) (p1 : Int32) (q2 : Int64) (q3 : Int64) (q4 : Int64) (ob5 : Addr) (p6 : Int32) : entryFrame m #[(.ref ob0), (.int p1), (.long q2), (.long q3), (.long q4), (.ref ob5), (.int p6)] 10 = mkF m 0 #[.val (.ref ob0), .val (.int p1), .val (.long q2), .second, .val (.long q3), .second, .val (.long q4), .second, .val (.ref ob5), .val (.int p6)] [] := by first | (simp [entryFrame, mkF, argsToLocals, Value.category]; done) | rfl
def Q2 (Z : State) (ob0 : Addr) (p1 : Int32) (q2 : Int64) (q3 : Int64) (q4 : Int64) (ob5 : Addr) (p6 : Int32) (u_admitted : Value) (u_remaining : Value) (u_retryAfterMillis : Value) (u_waitMillis : Value) (u_degradation : Value) (u_banned : Value) (h0 : Heap) (n0 : Nat) (v : Option Value) (h : Heap) (L : List Loc) : Prop := v = none ∧ Fr n0 L ∧ Keep h0 h [ob0] ∧ Exa Z h ob0 "com/example/sluis/sluis/model/Decision" ∧ Fld Z h ob0 "com/example/sluis/sluis/model/Decision" "admitted" "Z" (.int (nar .boolean p1)) ∧ Fld Z h ob0 "com/example/sluis/sluis/model/Decision" "remaining" "J" (.long q2) ∧ Fld Z h ob0 "com/example/sluis/sluis/model/Decision" "retryAfterMillis" "J" (.long q3) ∧ Fld Z h ob0 "com/example/sluis/sluis/model/Decision" "waitMillis" "J" (.long q4) ∧ Fld Z h ob0 "com/example/sluis/sluis/model/Decision" "degradation" "Lcom/example/sluis/sluis/model/Degradation;" (.ref ob5) ∧ Fld Z h ob0 "com/example/sluis/sluis/model/Decision" "banned" "Z" (.int (nar .boolean p6))
set_option maxRecDepth 65536 in
set_option maxHeartbeats 40000000 in
theorem rm2 (l : Launch) (Z : State) (a0 : Array Value) (hw : ∀ d ∈ tables_1, d.before a0 Z = true) (ws : List Jvm.Cond) (ob0 : Addr) (p1 : Int32) (q2 : Int64) (q3 : Int64) (q4 : Int64) (ob5 : Addr) (p6 : Int32) (u_admitted : Value) (u_remaining : Value) (u_retryAfterMillis : Value) (u_waitMillis : Value) (u_degradation : Value) (u_banned : Value) (h0 : Heap) (n0 : Nat) (Z0 : n0 ≤ h0.size) (F_admitted_ob0 : Fld Z h0 ob0 "com/example/sluis/sluis/model/Decision" "admitted" "Z" u_admitted) (F_remaining_ob0 : Fld Z h0 ob0 "com/example/sluis/sluis/model/Decision" "remaining" "J" u_remaining) (F_retryAfterMillis_ob0 : Fld Z h0 ob0 "com/example/sluis/sluis/model/Decision" "retryAfterMillis" "J" u_retryAfterMillis) (F_waitMillis_ob0 : Fld Z h0 ob0 "com/example/sluis/sluis/model/Decision" "waitMillis" "J" u_waitMillis) (F_degradation_ob0 : Fld Z h0 ob0 "com/example/sluis/sluis/model/Decision" "degradation" "Lcom/example/sluis/sluis/model/Degradation;" u_degradation) (F_banned_ob0 : Fld Z h0 ob0 "com/example/sluis/sluis/model/Decision" "banned" "Z" u_banned) (E_ob0 : Exa Z h0 ob0 "com/example/sluis/sluis/model/Decision") (g_ob0 : n0 ≤ ob0) :
    MetFree l (⟨"com/example/sluis/sluis/model/Decision", "<init>", "(ZJJJLcom/example/sluis/sluis/model/Degradation;Z)V"⟩ : MethodName) (head1 (Jvm.Cond.code (⟨"com/example/sluis/sluis/model/Decision", "<init>", "(ZJJJLcom/example/sluis/sluis/model/Degradation;Z)V"⟩ : MethodName) prog_17_method_4_code 10 none :: ws) ({ frames := 2, cells := 0, slots := 0, locals := 24 } : Room)) (fun a U => a = #[(.ref ob0), (.int p1), (.long q2), (.long q3), (.long q4), (.ref ob5), (.int p6)] ∧ Z.Warmed39 U.vm ∧ U.heap = h0) (fun _ _ _ _ _ => True) (fun _ U o U' => ∃ v L, o = .returned v ∧ Q2 Z ob0 p1 q2 q3 q4 ob5 p6 u_admitted u_remaining u_retryAfterMillis u_waitMillis u_degradation u_banned h0 n0 v U'.heap L ∧ FrameEnd U o U' L ({ frames := 2, cells := 0, slots := 0, locals := 24 } : Room).cells ({ frames := 2, cells := 0, slots := 0, locals := 24 } : Room).slots) := by
  refine MetFree.of_bodySF (plainFor_of_name pn_2) hisR ?_
  intro p e s m args below meth c s₁ Bd hml0 hP hK
  obtain ⟨rfl, hZ, hh⟩ := hP
  have hx := Bd.exec
  have hby := Bd.bytes
  have hml : c.maxLocals = 10 := hml0
  have hown : s.vm.findClass "com/example/sluis/sluis/model/Decision" = some m.cls := findClass_of_methodNamed Bd.named
  have hnm := (name_of_methodNamed Bd.named Bd.method).1
  have X0 : Stand p l e ({ frames := 2, cells := 0, slots := 0, locals := 24 } : Room) s m #[(.ref ob0), (.int p1), (.long q2), (.long q3), (.long q4), (.ref ob5), (.int p6)] below meth c s₁ [] 0 0 := Stand.of_body Bd
  have e0 : s₁.heap = h0 := by rw [← hh, Bd.state]; rfl
  have N0 := Fr.nil n0
  have pre0 : ∀ t, Steps p.tables e below (s₁.setTop (mkF m 0 #[.val (.ref ob0), .val (.int p1), .val (.long q2), .second, .val (.long q3), .second, .val (.long q4), .second, .val (.ref ob5), .val (.int p6)] [])) t → Steps p.tables e below (s₁.setTop (entryFrame m #[(.ref ob0), (.int p1), (.long q2), (.long q3), (.long q4), (.ref ob5), (.int p6)] 10)) t := fun t k => castTop (ef_2 m ob0 p1 q2 q3 q4 ob5 p6) k
  obtain ⟨_, _, ⟨T1, L1, k1, n1⟩, -, X1, ⟨Lc1, hQ1, l1, y1, z1⟩, st1⟩ := X0.specialBack hx (y := (⟨"java/lang/Record", "<init>", "()V"⟩ : MethodName)) rfl hown (mvT hZ (hw _ (List.mem_of_getElem? (i := 14) rfl))) (mvT hZ (hw _ (List.mem_of_getElem? (i := 15) rfl))) (mvT hZ (hw _ (List.mem_of_getElem? (i := 18) rfl))) (by decide) (backOf (W := 0) (rm3 l Z a0 hw [] ob0 h0 n0 Z0) hZ (hw _ (List.mem_of_getElem? (i := 18) rfl)) (hw _ (List.mem_of_getElem? (i := 17) rfl)) (by decide) (by decide)) (g := (mkF m 1 #[.val (.ref ob0), .val (.int p1), .val (.long q2), .second, .val (.long q3), .second, .val (.long q4), .second, .val (.ref ob5), .val (.int p6)] [(.ref ob0)])) rfl (by rw [hml]; rfl) (Steps.refl _) (a := ob0) (argsL := []) (rest := []) (lenOf pd_1 rfl) rfl (by show 2 * 0 + _ ≤ _; exact Nat.le_of_eq rfl) (hb hby d2_1) (fun _ _ => ⟨rfl, e0, (by decide : 0 + 0 ≤ _), (by decide : 0 + 0 ≤ _)⟩)
  dsimp only [Pt.U, Pt.locs, Pt.cells, Pt.slots] at X1 l1 y1 z1 st1 hQ1
  subst l1 y1 z1
  obtain ⟨rfl, N1q, e1⟩ := hQ1
  have N1 := Fr.app N0 N1q
  obtain ⟨T2, h2, X2, e2, W2, st2⟩ := putFN X1 hx hZ hown (hw _ (List.mem_of_getElem? (i := 22) rfl)) Via.refl e1 F_admitted_ob0 E_ob0 (Or.inr ⟨(hw _ (List.mem_of_getElem? (i := 23) rfl)), rfl, hnm⟩) (hw _ (List.mem_of_getElem? (i := 9) rfl)) (ty := .boolean) (v' := (.int (nar .boolean p1))) (by decide) rfl (fits_nar_bool _) (g := (mkF m 6 #[.val (.ref ob0), .val (.int p1), .val (.long q2), .second, .val (.long q3), .second, .val (.long q4), .second, .val (.ref ob5), .val (.int p6)] [(.int p1), (.ref ob0)])) rfl rfl (hb hby d2_6)
  have fF3 := F_admitted_ob0.same W2
  have fF4 := F_remaining_ob0.other W2 (Or.inr (slot_ne (Or.inr (hw _ (List.mem_of_getElem? (i := 25) rfl))) (Or.inr (hw _ (List.mem_of_getElem? (i := 23) rfl))) (by decide) (t := .long) (t' := .boolean) (by decide) (by decide)))
  have fF5 := F_retryAfterMillis_ob0.other W2 (Or.inr (slot_ne (Or.inr (hw _ (List.mem_of_getElem? (i := 27) rfl))) (Or.inr (hw _ (List.mem_of_getElem? (i := 23) rfl))) (by decide) (t := .long) (t' := .boolean) (by decide) (by decide)))
  have fF6 := F_waitMillis_ob0.other W2 (Or.inr (slot_ne (Or.inr (hw _ (List.mem_of_getElem? (i := 29) rfl))) (Or.inr (hw _ (List.mem_of_getElem? (i := 23) rfl))) (by decide) (t := .long) (t' := .boolean) (by decide) (by decide)))
  have fF7 := F_degradation_ob0.other W2 (Or.inr (slot_ne (Or.inr (hw _ (List.mem_of_getElem? (i := 31) rfl))) (Or.inr (hw _ (List.mem_of_getElem? (i := 23) rfl))) (by decide) (t := (.object "com/example/sluis/sluis/model/Degradation")) (t' := .boolean) (by decide) (by decide)))
  have fF8 := F_banned_ob0.other W2 (Or.inr (slot_ne (Or.inr (hw _ (List.mem_of_getElem? (i := 33) rfl))) (Or.inr (hw _ (List.mem_of_getElem? (i := 23) rfl))) (by decide) (t := .boolean) (t' := .boolean) (by decide) (by decide)))
  have eE9 := E_ob0.wr W2
  have N2 := Fr.snoc X2 N1 g_ob0
  have Z2 := Nat.le_trans Z0 (Keep.of_wr W2).1
  have K2 := (Keep.refl h0 [ob0]).wr W2 (Or.inl (List.mem_of_getElem? (i := 0) rfl))
  obtain ⟨T10, h10, X10, e10, W10, st10⟩ := putF X2 hx hZ hown (host := "") (Or.inl (hw _ (List.mem_of_getElem? (i := 24) rfl))) Via.refl e2 fF4 eE9 (Or.inr ⟨(hw _ (List.mem_of_getElem? (i := 25) rfl)), rfl, hnm⟩) (hw _ (List.mem_of_getElem? (i := 9) rfl)) (ty := .long) (by decide) rfl rfl (g := (mkF m 11 #[.val (.ref ob0), .val (.int p1), .val (.long q2), .second, .val (.long q3), .second, .val (.long q4), .second, .val (.ref ob5), .val (.int p6)] [(.long q2), (.ref ob0)])) rfl rfl (hb hby d2_11)
  have fF11 := fF3.other W10 (Or.inr (slot_ne (Or.inr (hw _ (List.mem_of_getElem? (i := 23) rfl))) (Or.inr (hw _ (List.mem_of_getElem? (i := 25) rfl))) (by decide) (t := .boolean) (t' := .long) (by decide) (by decide)))
  have fF12 := fF4.same W10
  have fF13 := fF5.other W10 (Or.inr (slot_ne (Or.inr (hw _ (List.mem_of_getElem? (i := 27) rfl))) (Or.inr (hw _ (List.mem_of_getElem? (i := 25) rfl))) (by decide) (t := .long) (t' := .long) (by decide) (by decide)))
  have fF14 := fF6.other W10 (Or.inr (slot_ne (Or.inr (hw _ (List.mem_of_getElem? (i := 29) rfl))) (Or.inr (hw _ (List.mem_of_getElem? (i := 25) rfl))) (by decide) (t := .long) (t' := .long) (by decide) (by decide)))
  have fF15 := fF7.other W10 (Or.inr (slot_ne (Or.inr (hw _ (List.mem_of_getElem? (i := 31) rfl))) (Or.inr (hw _ (List.mem_of_getElem? (i := 25) rfl))) (by decide) (t := (.object "com/example/sluis/sluis/model/Degradation")) (t' := .long) (by decide) (by decide)))
  have fF16 := fF8.other W10 (Or.inr (slot_ne (Or.inr (hw _ (List.mem_of_getElem? (i := 33) rfl))) (Or.inr (hw _ (List.mem_of_getElem? (i := 25) rfl))) (by decide) (t := .boolean) (t' := .long) (by decide) (by decide)))
  have eE17 := eE9.wr W10
  have N10 := Fr.snoc X10 N2 g_ob0
  have Z10 := Nat.le_trans Z2 (Keep.of_wr W10).1
  have K10 := K2.wr W10 (Or.inl (List.mem_of_getElem? (i := 0) rfl))
  obtain ⟨T18, h18, X18, e18, W18, st18⟩ := putF X10 hx hZ hown (host := "") (Or.inl (hw _ (List.mem_of_getElem? (i := 26) rfl))) Via.refl e10 fF13 eE17 (Or.inr ⟨(hw _ (List.mem_of_getElem? (i := 27) rfl)), rfl, hnm⟩) (hw _ (List.mem_of_getElem? (i := 9) rfl)) (ty := .long) (by decide) rfl rfl (g := (mkF m 17 #[.val (.ref ob0), .val (.int p1), .val (.long q2), .second, .val (.long q3), .second, .val (.long q4), .second, .val (.ref ob5), .val (.int p6)] [(.long q3), (.ref ob0)])) rfl rfl (hb hby d2_17)
  have fF19 := fF11.other W18 (Or.inr (slot_ne (Or.inr (hw _ (List.mem_of_getElem? (i := 23) rfl))) (Or.inr (hw _ (List.mem_of_getElem? (i := 27) rfl))) (by decide) (t := .boolean) (t' := .long) (by decide) (by decide)))
  have fF20 := fF12.other W18 (Or.inr (slot_ne (Or.inr (hw _ (List.mem_of_getElem? (i := 25) rfl))) (Or.inr (hw _ (List.mem_of_getElem? (i := 27) rfl))) (by decide) (t := .long) (t' := .long) (by decide) (by decide)))
  have fF21 := fF13.same W18
  have fF22 := fF14.other W18 (Or.inr (slot_ne (Or.inr (hw _ (List.mem_of_getElem? (i := 29) rfl))) (Or.inr (hw _ (List.mem_of_getElem? (i := 27) rfl))) (by decide) (t := .long) (t' := .long) (by decide) (by decide)))
  have fF23 := fF15.other W18 (Or.inr (slot_ne (Or.inr (hw _ (List.mem_of_getElem? (i := 31) rfl))) (Or.inr (hw _ (List.mem_of_getElem? (i := 27) rfl))) (by decide) (t := (.object "com/example/sluis/sluis/model/Degradation")) (t' := .long) (by decide) (by decide)))
  have fF24 := fF16.other W18 (Or.inr (slot_ne (Or.inr (hw _ (List.mem_of_getElem? (i := 33) rfl))) (Or.inr (hw _ (List.mem_of_getElem? (i := 27) rfl))) (by decide) (t := .boolean) (t' := .long) (by decide) (by decide)))
  have eE25 := eE17.wr W18
  have N18 := Fr.snoc X18 N10 g_ob0
  have Z18 := Nat.le_trans Z10 (Keep.of_wr W18).1
  have K18 := K10.wr W18 (Or.inl (List.mem_of_getElem? (i := 0) rfl))
  obtain ⟨T26, h26, X26, e26, W26, st26⟩ := putF X18 hx hZ hown (host := "") (Or.inl (hw _ (List.mem_of_getElem? (i := 28) rfl))) Via.refl e18 fF22 eE25 (Or.inr ⟨(hw _ (List.mem_of_getElem? (i := 29) rfl)), rfl, hnm⟩) (hw _ (List.mem_of_getElem? (i := 9) rfl)) (ty := .long) (by decide) rfl rfl (g := (mkF m 23 #[.val (.ref ob0), .val (.int p1), .val (.long q2), .second, .val (.long q3), .second, .val (.long q4), .second, .val (.ref ob5), .val (.int p6)] [(.long q4), (.ref ob0)])) rfl rfl (hb hby d2_23)
  have fF27 := fF19.other W26 (Or.inr (slot_ne (Or.inr (hw _ (List.mem_of_getElem? (i := 23) rfl))) (Or.inr (hw _ (List.mem_of_getElem? (i := 29) rfl))) (by decide) (t := .boolean) (t' := .long) (by decide) (by decide)))
  have fF28 := fF20.other W26 (Or.inr (slot_ne (Or.inr (hw _ (List.mem_of_getElem? (i := 25) rfl))) (Or.inr (hw _ (List.mem_of_getElem? (i := 29) rfl))) (by decide) (t := .long) (t' := .long) (by decide) (by decide)))
  have fF29 := fF21.other W26 (Or.inr (slot_ne (Or.inr (hw _ (List.mem_of_getElem? (i := 27) rfl))) (Or.inr (hw _ (List.mem_of_getElem? (i := 29) rfl))) (by decide) (t := .long) (t' := .long) (by decide) (by decide)))
  have fF30 := fF22.same W26
  have fF31 := fF23.other W26 (Or.inr (slot_ne (Or.inr (hw _ (List.mem_of_getElem? (i := 31) rfl))) (Or.inr (hw _ (List.mem_of_getElem? (i := 29) rfl))) (by decide) (t := (.object "com/example/sluis/sluis/model/Degradation")) (t' := .long) (by decide) (by decide)))
  have fF32 := fF24.other W26 (Or.inr (slot_ne (Or.inr (hw _ (List.mem_of_getElem? (i := 33) rfl))) (Or.inr (hw _ (List.mem_of_getElem? (i := 29) rfl))) (by decide) (t := .boolean) (t' := .long) (by decide) (by decide)))
  have eE33 := eE25.wr W26
  have N26 := Fr.snoc X26 N18 g_ob0
  have Z26 := Nat.le_trans Z18 (Keep.of_wr W26).1
  have K26 := K18.wr W26 (Or.inl (List.mem_of_getElem? (i := 0) rfl))
  obtain ⟨T34, h34, X34, e34, W34, st34⟩ := putF X26 hx hZ hown (host := "") (Or.inl (hw _ (List.mem_of_getElem? (i := 30) rfl))) Via.refl e26 fF31 eE33 (Or.inr ⟨(hw _ (List.mem_of_getElem? (i := 31) rfl)), rfl, hnm⟩) (hw _ (List.mem_of_getElem? (i := 9) rfl)) (ty := (.object "com/example/sluis/sluis/model/Degradation")) (by decide) rfl rfl (g := (mkF m 29 #[.val (.ref ob0), .val (.int p1), .val (.long q2), .second, .val (.long q3), .second, .val (.long q4), .second, .val (.ref ob5), .val (.int p6)] [(.ref ob5), (.ref ob0)])) rfl rfl (hb hby d2_29)
  have fF35 := fF27.other W34 (Or.inr (slot_ne (Or.inr (hw _ (List.mem_of_getElem? (i := 23) rfl))) (Or.inr (hw _ (List.mem_of_getElem? (i := 31) rfl))) (by decide) (t := .boolean) (t' := (.object "com/example/sluis/sluis/model/Degradation")) (by decide) (by decide)))
  have fF36 := fF28.other W34 (Or.inr (slot_ne (Or.inr (hw _ (List.mem_of_getElem? (i := 25) rfl))) (Or.inr (hw _ (List.mem_of_getElem? (i := 31) rfl))) (by decide) (t := .long) (t' := (.object "com/example/sluis/sluis/model/Degradation")) (by decide) (by decide)))
  have fF37 := fF29.other W34 (Or.inr (slot_ne (Or.inr (hw _ (List.mem_of_getElem? (i := 27) rfl))) (Or.inr (hw _ (List.mem_of_getElem? (i := 31) rfl))) (by decide) (t := .long) (t' := (.object "com/example/sluis/sluis/model/Degradation")) (by decide) (by decide)))
  have fF38 := fF30.other W34 (Or.inr (slot_ne (Or.inr (hw _ (List.mem_of_getElem? (i := 29) rfl))) (Or.inr (hw _ (List.mem_of_getElem? (i := 31) rfl))) (by decide) (t := .long) (t' := (.object "com/example/sluis/sluis/model/Degradation")) (by decide) (by decide)))
  have fF39 := fF31.same W34
  have fF40 := fF32.other W34 (Or.inr (slot_ne (Or.inr (hw _ (List.mem_of_getElem? (i := 33) rfl))) (Or.inr (hw _ (List.mem_of_getElem? (i := 31) rfl))) (by decide) (t := .boolean) (t' := (.object "com/example/sluis/sluis/model/Degradation")) (by decide) (by decide)))
  have eE41 := eE33.wr W34
  have N34 := Fr.snoc X34 N26 g_ob0
  have Z34 := Nat.le_trans Z26 (Keep.of_wr W34).1
  have K34 := K26.wr W34 (Or.inl (List.mem_of_getElem? (i := 0) rfl))
  obtain ⟨T42, h42, X42, e42, W42, st42⟩ := putFN X34 hx hZ hown (hw _ (List.mem_of_getElem? (i := 32) rfl)) Via.refl e34 fF40 eE41 (Or.inr ⟨(hw _ (List.mem_of_getElem? (i := 33) rfl)), rfl, hnm⟩) (hw _ (List.mem_of_getElem? (i := 9) rfl)) (ty := .boolean) (v' := (.int (nar .boolean p6))) (by decide) rfl (fits_nar_bool _) (g := (mkF m 35 #[.val (.ref ob0), .val (.int p1), .val (.long q2), .second, .val (.long q3), .second, .val (.long q4), .second, .val (.ref ob5), .val (.int p6)] [(.int p6), (.ref ob0)])) rfl rfl (hb hby d2_35)
  have fF43 := fF35.other W42 (Or.inr (slot_ne (Or.inr (hw _ (List.mem_of_getElem? (i := 23) rfl))) (Or.inr (hw _ (List.mem_of_getElem? (i := 33) rfl))) (by decide) (t := .boolean) (t' := .boolean) (by decide) (by decide)))
  have fF44 := fF36.other W42 (Or.inr (slot_ne (Or.inr (hw _ (List.mem_of_getElem? (i := 25) rfl))) (Or.inr (hw _ (List.mem_of_getElem? (i := 33) rfl))) (by decide) (t := .long) (t' := .boolean) (by decide) (by decide)))
  have fF45 := fF37.other W42 (Or.inr (slot_ne (Or.inr (hw _ (List.mem_of_getElem? (i := 27) rfl))) (Or.inr (hw _ (List.mem_of_getElem? (i := 33) rfl))) (by decide) (t := .long) (t' := .boolean) (by decide) (by decide)))
  have fF46 := fF38.other W42 (Or.inr (slot_ne (Or.inr (hw _ (List.mem_of_getElem? (i := 29) rfl))) (Or.inr (hw _ (List.mem_of_getElem? (i := 33) rfl))) (by decide) (t := .long) (t' := .boolean) (by decide) (by decide)))
  have fF47 := fF39.other W42 (Or.inr (slot_ne (Or.inr (hw _ (List.mem_of_getElem? (i := 31) rfl))) (Or.inr (hw _ (List.mem_of_getElem? (i := 33) rfl))) (by decide) (t := (.object "com/example/sluis/sluis/model/Degradation")) (t' := .boolean) (by decide) (by decide)))
  have fF48 := fF40.same W42
  have eE49 := eE41.wr W42
  have N42 := Fr.snoc X42 N34 g_ob0
  have Z42 := Nat.le_trans Z34 (Keep.of_wr W42).1
  have K42 := K34.wr W42 (Or.inl (List.mem_of_getElem? (i := 0) rfl))
  obtain ⟨fs, hr, hrun, hended, hW, hsame⟩ := X42.leave (v := none) (fun _ => rfl) (BodyLoose.notSynchronized Bd)
  refine ⟨_, _, pre0 _ ?_, hrun, hended, _, _, rfl, ?_, ⟨_, rfl⟩, hW, hsame.mono (by decide) (by decide)⟩
  · show Steps p.tables e below (s₁.setTop (mkF m 0 #[.val (.ref ob0), .val (.int p1), .val (.long q2), .second, .val (.long q3), .second, .val (.long q4), .second, .val (.ref ob5), .val (.int p6)] [])) _
    refine XS.aloadN X0.here hx rfl (hb hby d2_0) rfl rfl ?_
    show Steps p.tables e below (s₁.setTop (mkF m 1 #[.val (.ref ob0), .val (.int p1), .val (.long q2), .second, .val (.long q3), .second, .val (.long q4), .second, .val (.ref ob5), .val (.int p6)] [(.ref ob0)])) _
    refine st1.trans ?_
    show Steps p.tables e below (T1.setTop (mkF m 4 #[.val (.ref ob0), .val (.int p1), .val (.long q2), .second, .val (.long q3), .second, .val (.long q4), .second, .val (.ref ob5), .val (.int p6)] [])) _
    refine XS.aloadN X1.here hx rfl (hb hby d2_4) rfl rfl ?_
    show Steps p.tables e below (T1.setTop (mkF m 5 #[.val (.ref ob0), .val (.int p1), .val (.long q2), .second, .val (.long q3), .second, .val (.long q4), .second, .val (.ref ob5), .val (.int p6)] [(.ref ob0)])) _
    refine XS.iloadN X1.here hx rfl (hb hby d2_5) rfl ?_
    show Steps p.tables e below (T1.setTop (mkF m 6 #[.val (.ref ob0), .val (.int p1), .val (.long q2), .second, .val (.long q3), .second, .val (.long q4), .second, .val (.ref ob5), .val (.int p6)] [(.int p1), (.ref ob0)])) _
    refine st2 _ ?_
    show Steps p.tables e below (T2.setTop (mkF m 9 #[.val (.ref ob0), .val (.int p1), .val (.long q2), .second, .val (.long q3), .second, .val (.long q4), .second, .val (.ref ob5), .val (.int p6)] [])) _
    refine XS.aloadN X2.here hx rfl (hb hby d2_9) rfl rfl ?_
    show Steps p.tables e below (T2.setTop (mkF m 10 #[.val (.ref ob0), .val (.int p1), .val (.long q2), .second, .val (.long q3), .second, .val (.long q4), .second, .val (.ref ob5), .val (.int p6)] [(.ref ob0)])) _
    refine XS.lloadN X2.here hx rfl (hb hby d2_10) rfl ?_
    show Steps p.tables e below (T2.setTop (mkF m 11 #[.val (.ref ob0), .val (.int p1), .val (.long q2), .second, .val (.long q3), .second, .val (.long q4), .second, .val (.ref ob5), .val (.int p6)] [(.long q2), (.ref ob0)])) _
    refine st10 _ ?_
    show Steps p.tables e below (T10.setTop (mkF m 14 #[.val (.ref ob0), .val (.int p1), .val (.long q2), .second, .val (.long q3), .second, .val (.long q4), .second, .val (.ref ob5), .val (.int p6)] [])) _
    refine XS.aloadN X10.here hx rfl (hb hby d2_14) rfl rfl ?_
    show Steps p.tables e below (T10.setTop (mkF m 15 #[.val (.ref ob0), .val (.int p1), .val (.long q2), .second, .val (.long q3), .second, .val (.long q4), .second, .val (.ref ob5), .val (.int p6)] [(.ref ob0)])) _
    refine XS.lload X10.here hx rfl (hb hby d2_15) rfl ?_
    show Steps p.tables e below (T10.setTop (mkF m 17 #[.val (.ref ob0), .val (.int p1), .val (.long q2), .second, .val (.long q3), .second, .val (.long q4), .second, .val (.ref ob5), .val (.int p6)] [(.long q3), (.ref ob0)])) _
    refine st18 _ ?_
    show Steps p.tables e below (T18.setTop (mkF m 20 #[.val (.ref ob0), .val (.int p1), .val (.long q2), .second, .val (.long q3), .second, .val (.long q4), .second, .val (.ref ob5), .val (.int p6)] [])) _
    refine XS.aloadN X18.here hx rfl (hb hby d2_20) rfl rfl ?_
    show Steps p.tables e below (T18.setTop (mkF m 21 #[.val (.ref ob0), .val (.int p1), .val (.long q2), .second, .val (.long q3), .second, .val (.long q4), .second, .val (.ref ob5), .val (.int p6)] [(.ref ob0)])) _
    refine XS.lload X18.here hx rfl (hb hby d2_21) rfl ?_
    show Steps p.tables e below (T18.setTop (mkF m 23 #[.val (.ref ob0), .val (.int p1), .val (.long q2), .second, .val (.long q3), .second, .val (.long q4), .second, .val (.ref ob5), .val (.int p6)] [(.long q4), (.ref ob0)])) _
    refine st26 _ ?_
    show Steps p.tables e below (T26.setTop (mkF m 26 #[.val (.ref ob0), .val (.int p1), .val (.long q2), .second, .val (.long q3), .second, .val (.long q4), .second, .val (.ref ob5), .val (.int p6)] [])) _
    refine XS.aloadN X26.here hx rfl (hb hby d2_26) rfl rfl ?_
    show Steps p.tables e below (T26.setTop (mkF m 27 #[.val (.ref ob0), .val (.int p1), .val (.long q2), .second, .val (.long q3), .second, .val (.long q4), .second, .val (.ref ob5), .val (.int p6)] [(.ref ob0)])) _
    refine XS.aload X26.here hx rfl (hb hby d2_27) rfl rfl ?_
    show Steps p.tables e below (T26.setTop (mkF m 29 #[.val (.ref ob0), .val (.int p1), .val (.long q2), .second, .val (.long q3), .second, .val (.long q4), .second, .val (.ref ob5), .val (.int p6)] [(.ref ob5), (.ref ob0)])) _
    refine st34 _ ?_
    show Steps p.tables e below (T34.setTop (mkF m 32 #[.val (.ref ob0), .val (.int p1), .val (.long q2), .second, .val (.long q3), .second, .val (.long q4), .second, .val (.ref ob5), .val (.int p6)] [])) _
    refine XS.aloadN X34.here hx rfl (hb hby d2_32) rfl rfl ?_
    show Steps p.tables e below (T34.setTop (mkF m 33 #[.val (.ref ob0), .val (.int p1), .val (.long q2), .second, .val (.long q3), .second, .val (.long q4), .second, .val (.ref ob5), .val (.int p6)] [(.ref ob0)])) _
    refine XS.iload X34.here hx rfl (hb hby d2_33) rfl ?_
    show Steps p.tables e below (T34.setTop (mkF m 35 #[.val (.ref ob0), .val (.int p1), .val (.long q2), .second, .val (.long q3), .second, .val (.long q4), .second, .val (.ref ob5), .val (.int p6)] [(.int p6), (.ref ob0)])) _
    refine st42 _ ?_
    show Steps p.tables e below (T42.setTop (mkF m 38 #[.val (.ref ob0), .val (.int p1), .val (.long q2), .second, .val (.long q3), .second, .val (.long q4), .second, .val (.ref ob5), .val (.int p6)] [])) _
    exact X42.returnOut hx Bd.returns (hb hby d2_38) hr
  · show Q2 Z ob0 p1 q2 q3 q4 ob5 p6 u_admitted u_remaining u_retryAfterMillis u_waitMillis u_degradation u_banned h0 n0 _ T42.heap _
    rw [e42]
    exact ⟨rfl, N42, K42, eE49, fF43, fF44, fF45, fF46, fF47, fF48⟩
theorem pd_2 : parseMethodDescriptor "(ZJJJLcom/example/sluis/sluis/model/Degradation;Z)V" = some ⟨[.boolean, .long, .long, .long, (.object "com/example/sluis/sluis/model/Degradation"), .boolean], none⟩ := by decide +kernel
def F5 (w_ob0_degradation : Addr) (w_NONE : Addr) : Int32 :=
  if w_ob0_degradation = w_NONE then (0 : Int32) else (1 : Int32)
theorem d5_0 : decode prog_17_method_7_code 0 = .ok (.aload_n 0, 1) := by decide +kernel
theorem d5_1 : decode prog_17_method_7_code 1 = .ok (.getfield 23, 3) := by decide +kernel
theorem d5_4 : decode prog_17_method_7_code 4 = .ok (.getstatic 33, 3) := by decide +kernel
theorem d5_7 : decode prog_17_method_7_code 7 = .ok (.if_acmp .eq 7, 3) := by decide +kernel
theorem d5_10 : decode prog_17_method_7_code 10 = .ok (.iconst 1, 1) := by decide +kernel
theorem d5_11 : decode prog_17_method_7_code 11 = .ok (.goto 4, 3) := by decide +kernel
theorem d5_14 : decode prog_17_method_7_code 14 = .ok (.iconst 0, 1) := by decide +kernel
theorem d5_15 : decode prog_17_method_7_code 15 = .ok (.ireturn, 1) := by decide +kernel
theorem pn_5 : plainName "com/example/sluis/sluis/model/Decision" = true := by first | (simp [plainName, overriddenIn]; done) | decide +kernel
theorem ef_5 (m : MethodId) (ob0 : Addr) : entryFrame m #[(.ref ob0)] 1 = mkF m 0 #[.val (.ref ob0)] [] := by first | (simp [entryFrame, mkF, argsToLocals, Value.category]; done) | rfl
def Q5 (Z : State) (ob0 : Addr) (w_ob0_degradation : Addr) (w_NONE : Addr) (h0 : Heap) (n0 : Nat) (v : Option Value) (h : Heap) (L : List Loc) : Prop := v = some (.int (F5 w_ob0_degradation w_NONE)) ∧ Fr n0 L ∧ h = h0
set_option maxRecDepth 65536 in
set_option maxHeartbeats 40000000 in
theorem rm5 (l : Launch) (Z : State) (a0 : Array Value) (hw : ∀ d ∈ tables_1, d.before a0 Z = true) (ws : List Jvm.Cond) (ob0 : Addr) (w_ob0_degradation : Addr) (w_NONE : Addr) (h0 : Heap) (n0 : Nat) (Z0 : n0 ≤ h0.size) (F_degradation_ob0 : Fld Z h0 ob0 "com/example/sluis/sluis/model/Decision" "degradation" "Lcom/example/sluis/sluis/model/Degradation;" (.ref w_ob0_degradation)) (S_NONE : Sta Z h0 "com/example/sluis/sluis/model/Degradation" "NONE" "Lcom/example/sluis/sluis/model/Degradation;" (.ref w_NONE)) :
    MetFree l (⟨"com/example/sluis/sluis/model/Decision", "degraded", "()Z"⟩ : MethodName) (head1 (Jvm.Cond.code (⟨"com/example/sluis/sluis/model/Decision", "degraded", "()Z"⟩ : MethodName) prog_17_method_7_code 1 (some .boolean) :: ws) ({ frames := 0, cells := 0, slots := 0, locals := 0 } : Room)) (fun a U => a = #[(.ref ob0)] ∧ Z.Warmed39 U.vm ∧ U.heap = h0) (fun _ _ _ _ _ => True) (fun _ U o U' => ∃ v L, o = .returned v ∧ Q5 Z ob0 w_ob0_degradation w_NONE h0 n0 v U'.heap L ∧ FrameEnd U o U' L ({ frames := 0, cells := 0, slots := 0, locals := 0 } : Room).cells ({ frames := 0, cells := 0, slots := 0, locals := 0 } : Room).slots) := by
  refine MetFree.of_bodySF (plainFor_of_name pn_5) hisR ?_
  intro p e s m args below meth c s₁ Bd hml0 hP hK
  obtain ⟨rfl, hZ, hh⟩ := hP
  have hx := Bd.exec
  have hby := Bd.bytes
  have hml : c.maxLocals = 1 := hml0
  have hown : s.vm.findClass "com/example/sluis/sluis/model/Decision" = some m.cls := findClass_of_methodNamed Bd.named
  have hnm := (name_of_methodNamed Bd.named Bd.method).1
  have X0 : Stand p l e ({ frames := 0, cells := 0, slots := 0, locals := 0 } : Room) s m #[(.ref ob0)] below meth c s₁ [] 0 0 := Stand.of_body Bd
  have e0 : s₁.heap = h0 := by rw [← hh, Bd.state]; rfl
  have N0 := Fr.nil n0
  have pre0 : ∀ t, Steps p.tables e below (s₁.setTop (mkF m 0 #[.val (.ref ob0)] [])) t → Steps p.tables e below (s₁.setTop (entryFrame m #[(.ref ob0)] 1)) t := fun t k => castTop (ef_5 m ob0) k
  obtain ⟨T1, X1, e1, st1⟩ := getF X0 hx hZ hown (host := "") (Or.inl (hw _ (List.mem_of_getElem? (i := 30) rfl))) Via.refl e0 F_degradation_ob0 (g := (mkF m 1 #[.val (.ref ob0)] [(.ref ob0)])) rfl rfl (hb hby d5_1)
  obtain ⟨T2, X2, e2, st2⟩ := getS2 X1 hx hZ hown (host := "") (Or.inl (hw _ (List.mem_of_getElem? (i := 39) rfl))) Via.refl e1 S_NONE (g := (mkF m 4 #[.val (.ref ob0)] [(.ref w_ob0_degradation)])) rfl (hb hby d5_4)
  have pre3 : ∀ t, Steps p.tables e below (T2.setTop (mkF m 7 #[.val (.ref ob0)] [(.ref w_NONE), (.ref w_ob0_degradation)])) t → Steps p.tables e below (s₁.setTop (entryFrame m #[(.ref ob0)] 1)) t := fun t k => by
    refine pre0 t ?_
    show Steps p.tables e below (s₁.setTop (mkF m 0 #[.val (.ref ob0)] [])) _
    refine XS.aloadN X0.here hx rfl (hb hby d5_0) rfl rfl ?_
    show Steps p.tables e below (s₁.setTop (mkF m 1 #[.val (.ref ob0)] [(.ref ob0)])) _
    refine st1 _ ?_
    show Steps p.tables e below (T1.setTop (mkF m 4 #[.val (.ref ob0)] [(.ref w_ob0_degradation)])) _
    refine st2 _ ?_
    exact k
  by_cases ha7 : w_ob0_degradation = w_NONE
  · obtain ⟨fs, hr, hrun, hended, hW, hsame⟩ := X2.leave (v := some (.int (0 : Int32))) (fun h => by rw [Bd.returns] at h; cases h) (BodyLoose.notSynchronized Bd)
    refine ⟨_, _, pre3 _ ?_, hrun, hended, _, _, rfl, ?_, ⟨_, rfl⟩, hW, hsame.mono (by decide) (by decide)⟩
    · show Steps p.tables e below (T2.setTop (mkF m 7 #[.val (.ref ob0)] [(.ref w_NONE), (.ref w_ob0_degradation)])) _
      refine Jvm.RoadKit.acmp (g := (mkF m 7 #[.val (.ref ob0)] [(.ref w_NONE), (.ref w_ob0_degradation)])) X2 hx rfl rfl rfl (pc0 := 7) (pc' := 14) (same := true) rfl (hb hby d5_7) rfl (decide_eq_true (congrArg Value.ref ha7)) (by decide) (by decide) ?_
      show Steps p.tables e below (T2.setTop (mkF m 14 #[.val (.ref ob0)] [])) _
      refine XS.iconst X2.here hx rfl (hb hby d5_14) ?_
      show Steps p.tables e below (T2.setTop (mkF m 15 #[.val (.ref ob0)] [(.int (0 : Int32))])) _
      exact retN X2 hx (t := .boolean) Bd.returns (by simp) (hb hby d5_15) hr
    · show Q5 Z ob0 w_ob0_degradation w_NONE h0 n0 _ T2.heap _
      rw [e2]
      exact ⟨(by rw [F5, if_pos ha7]), N0, rfl⟩
  · obtain ⟨fs, hr, hrun, hended, hW, hsame⟩ := X2.leave (v := some (.int (1 : Int32))) (fun h => by rw [Bd.returns] at h; cases h) (BodyLoose.notSynchronized Bd)
    refine ⟨_, _, pre3 _ ?_, hrun, hended, _, _, rfl, ?_, ⟨_, rfl⟩, hW, hsame.mono (by decide) (by decide)⟩
    · show Steps p.tables e below (T2.setTop (mkF m 7 #[.val (.ref ob0)] [(.ref w_NONE), (.ref w_ob0_degradation)])) _
      refine Jvm.RoadKit.acmp (g := (mkF m 7 #[.val (.ref ob0)] [(.ref w_NONE), (.ref w_ob0_degradation)])) X2 hx rfl rfl rfl (pc0 := 7) (pc' := 10) (same := false) rfl (hb hby d5_7) rfl (decide_eq_false fun q => ha7 (Value.ref.inj q)) (by decide) (by decide) ?_
      show Steps p.tables e below (T2.setTop (mkF m 10 #[.val (.ref ob0)] [])) _
      refine XS.iconst X2.here hx rfl (hb hby d5_10) ?_
      show Steps p.tables e below (T2.setTop (mkF m 11 #[.val (.ref ob0)] [(.int (1 : Int32))])) _
      refine XS.goto X2.here hx rfl (pc0 := 11) (pc' := 15) rfl (hb hby d5_11) (by decide) (by decide) ?_
      show Steps p.tables e below (T2.setTop (mkF m 15 #[.val (.ref ob0)] [(.int (1 : Int32))])) _
      exact retN X2 hx (t := .boolean) Bd.returns (by simp) (hb hby d5_15) hr
    · show Q5 Z ob0 w_ob0_degradation w_NONE h0 n0 _ T2.heap _
      rw [e2]
      exact ⟨(by rw [F5, if_neg ha7]), N0, rfl⟩
theorem pd_3 : parseMethodDescriptor "()Z" = some ⟨[], some .boolean⟩ := by decide +kernel
theorem pn_0 : plainName "com/example/sluis/sluis/model/DecisionDegradedPinLaw" = true := by first | (simp [plainName, overriddenIn]; done) | decide +kernel
theorem ef_0 (m : MethodId) (p0 : Int32) (q1 : Int64) (q2 : Int64) (q3 : Int64) (p4 : Int32) : entryFrame m #[(.int p0), (.long q1), (.long q2), (.long q3), (.int p4)] maxLocals = mkF m 0 #[.val (.int p0), .val (.long q1), .second, .val (.long q2), .second, .val (.long q3), .second, .val (.int p4), .unset, .unset, .unset, .unset, .unset, .unset] [] := by first | (simp [entryFrame, mkF, argsToLocals, Value.category, maxLocals]; done) | rfl
def Q0 (Z : State) (p0 : Int32) (q1 : Int64) (q2 : Int64) (q3 : Int64) (p4 : Int32) (w_NONE : Addr) (w_UNAVAILABLE : Addr) (w_TIMEOUT : Addr) (h0 : Heap) (n0 : Nat) (v : Option Value) (h : Heap) (L : List Loc) : Prop := v = some (.int 1) ∧ Fr n0 L
set_option maxRecDepth 65536 in
set_option maxHeartbeats 40000000 in
theorem rm0 (l : Launch) (Z : State) (a0 : Array Value) (hw : ∀ d ∈ tables_1, d.before a0 Z = true) (ws : List Jvm.Cond) (p0 : Int32) (q1 : Int64) (q2 : Int64) (q3 : Int64) (p4 : Int32) (w_NONE : Addr) (w_UNAVAILABLE : Addr) (w_TIMEOUT : Addr) (h0 : Heap) (n0 : Nat) (Z0 : n0 ≤ h0.size) (S_NONE : Sta Z h0 "com/example/sluis/sluis/model/Degradation" "NONE" "Lcom/example/sluis/sluis/model/Degradation;" (.ref w_NONE)) (E_NONE : Exa Z h0 w_NONE "com/example/sluis/sluis/model/Degradation") (S_UNAVAILABLE : Sta Z h0 "com/example/sluis/sluis/model/Degradation" "UNAVAILABLE" "Lcom/example/sluis/sluis/model/Degradation;" (.ref w_UNAVAILABLE)) (E_UNAVAILABLE : Exa Z h0 w_UNAVAILABLE "com/example/sluis/sluis/model/Degradation") (S_TIMEOUT : Sta Z h0 "com/example/sluis/sluis/model/Degradation" "TIMEOUT" "Lcom/example/sluis/sluis/model/Degradation;" (.ref w_TIMEOUT)) (E_TIMEOUT : Exa Z h0 w_TIMEOUT "com/example/sluis/sluis/model/Degradation") (ne_UNAVAILABLE_NONE : ¬ w_UNAVAILABLE = w_NONE) (ne_TIMEOUT_NONE : ¬ w_TIMEOUT = w_NONE) :
    MetFree l x (head1 (Jvm.Cond.code x code maxLocals ret :: ws) room_1) (fun a U => a = #[(.int p0), (.long q1), (.long q2), (.long q3), (.int p4)] ∧ Z.Warmed39 U.vm ∧ U.heap = h0) (fun _ _ _ _ _ => True) (fun _ U o U' => ∃ v L, o = .returned v ∧ Q0 Z p0 q1 q2 q3 p4 w_NONE w_UNAVAILABLE w_TIMEOUT h0 n0 v U'.heap L ∧ FrameEnd U o U' L room_1.cells room_1.slots) := by
  refine MetFree.of_bodySF (plainFor_of_name pn_0) hisR ?_
  intro p e s m args below meth c s₁ Bd hml0 hP hK
  obtain ⟨rfl, hZ, hh⟩ := hP
  have hx := Bd.exec
  have hby := Bd.bytes
  have hml : c.maxLocals = 14 := hml0
  have hown : s.vm.findClass "com/example/sluis/sluis/model/DecisionDegradedPinLaw" = some m.cls := findClass_of_methodNamed Bd.named
  have hnm := (name_of_methodNamed Bd.named Bd.method).1
  have X0 : Stand p l e room_1 s m #[(.int p0), (.long q1), (.long q2), (.long q3), (.int p4)] below meth c s₁ [] 0 0 := Stand.of_body Bd
  have e0 : s₁.heap = h0 := by rw [← hh, Bd.state]; rfl
  have N0 := Fr.nil n0
  have pre0 : ∀ t, Steps p.tables e below (s₁.setTop (mkF m 0 #[.val (.int p0), .val (.long q1), .second, .val (.long q2), .second, .val (.long q3), .second, .val (.int p4), .unset, .unset, .unset, .unset, .unset, .unset] [])) t → Steps p.tables e below (s₁.setTop (entryFrame m #[(.int p0), (.long q1), (.long q2), (.long q3), (.int p4)] maxLocals)) t := fun t k => castTop (ef_0 m p0 q1 q2 q3 p4) k
  have pre1 : ∀ t, Steps p.tables e below (s₁.setTop (mkF m 3 #[.val (.int p0), .val (.long q1), .second, .val (.long q2), .second, .val (.long q3), .second, .val (.int p4), .unset, .unset, .unset, .unset, .unset, .unset] [(.int (p0 &&& (1 : Int32)))])) t → Steps p.tables e below (s₁.setTop (entryFrame m #[(.int p0), (.long q1), (.long q2), (.long q3), (.int p4)] maxLocals)) t := fun t k => by
    refine pre0 t ?_
    show Steps p.tables e below (s₁.setTop (mkF m 0 #[.val (.int p0), .val (.long q1), .second, .val (.long q2), .second, .val (.long q3), .second, .val (.int p4), .unset, .unset, .unset, .unset, .unset, .unset] [])) _
    refine XS.iloadN X0.here hx rfl (hb hby at_0) rfl ?_
    show Steps p.tables e below (s₁.setTop (mkF m 1 #[.val (.int p0), .val (.long q1), .second, .val (.long q2), .second, .val (.long q3), .second, .val (.int p4), .unset, .unset, .unset, .unset, .unset, .unset] [(.int p0)])) _
    refine XS.iconst X0.here hx rfl (hb hby at_1) ?_
    show Steps p.tables e below (s₁.setTop (mkF m 2 #[.val (.int p0), .val (.long q1), .second, .val (.long q2), .second, .val (.long q3), .second, .val (.int p4), .unset, .unset, .unset, .unset, .unset, .unset] [(.int (1 : Int32)), (.int p0)])) _
    refine XS.iand X0.here hx rfl (hb hby at_2) rfl ?_
    exact k
  by_cases hc3 : (p0 &&& (1 : Int32)) = (0 : Int32)
  · have pre2 : ∀ t, Steps p.tables e below (s₁.setTop (mkF m 16 #[.val (.int p0), .val (.long q1), .second, .val (.long q2), .second, .val (.long q3), .second, .val (.int p4), .val (.int (0 : Int32)), .unset, .unset, .unset, .unset, .unset] [(.int (p0 &&& (2 : Int32)))])) t → Steps p.tables e below (s₁.setTop (entryFrame m #[(.int p0), (.long q1), (.long q2), (.long q3), (.int p4)] maxLocals)) t := fun t k => by
      refine pre1 t ?_
      show Steps p.tables e below (s₁.setTop (mkF m 3 #[.val (.int p0), .val (.long q1), .second, .val (.long q2), .second, .val (.long q3), .second, .val (.int p4), .unset, .unset, .unset, .unset, .unset, .unset] [(.int (p0 &&& (1 : Int32)))])) _
      refine XS.ifYes X0.here hx rfl (pc0 := 3) (pc' := 10) rfl (hb hby at_3) rfl ((if0 _ _).trans (teq hc3).1) (by decide) (by decide) ?_
      show Steps p.tables e below (s₁.setTop (mkF m 10 #[.val (.int p0), .val (.long q1), .second, .val (.long q2), .second, .val (.long q3), .second, .val (.int p4), .unset, .unset, .unset, .unset, .unset, .unset] [])) _
      refine XS.iconst X0.here hx rfl (hb hby at_10) ?_
      show Steps p.tables e below (s₁.setTop (mkF m 11 #[.val (.int p0), .val (.long q1), .second, .val (.long q2), .second, .val (.long q3), .second, .val (.int p4), .unset, .unset, .unset, .unset, .unset, .unset] [(.int (0 : Int32))])) _
      refine XS.istore X0.here hx rfl (hb hby at_11) rfl (l' := #[.val (.int p0), .val (.long q1), .second, .val (.long q2), .second, .val (.long q3), .second, .val (.int p4), .val (.int (0 : Int32)), .unset, .unset, .unset, .unset, .unset]) rfl ?_
      show Steps p.tables e below (s₁.setTop (mkF m 13 #[.val (.int p0), .val (.long q1), .second, .val (.long q2), .second, .val (.long q3), .second, .val (.int p4), .val (.int (0 : Int32)), .unset, .unset, .unset, .unset, .unset] [])) _
      refine XS.iloadN X0.here hx rfl (hb hby at_13) rfl ?_
      show Steps p.tables e below (s₁.setTop (mkF m 14 #[.val (.int p0), .val (.long q1), .second, .val (.long q2), .second, .val (.long q3), .second, .val (.int p4), .val (.int (0 : Int32)), .unset, .unset, .unset, .unset, .unset] [(.int p0)])) _
      refine XS.iconst X0.here hx rfl (hb hby at_14) ?_
      show Steps p.tables e below (s₁.setTop (mkF m 15 #[.val (.int p0), .val (.long q1), .second, .val (.long q2), .second, .val (.long q3), .second, .val (.int p4), .val (.int (0 : Int32)), .unset, .unset, .unset, .unset, .unset] [(.int (2 : Int32)), (.int p0)])) _
      refine XS.iand X0.here hx rfl (hb hby at_15) rfl ?_
      exact k
    by_cases hc16 : (p0 &&& (2 : Int32)) = (0 : Int32)
    · obtain ⟨_, _, ⟨T3, L3, k3, n3⟩, -, X3, ⟨Lc3, hQ3, l3, y3, z3⟩, st3⟩ := Jvm.LawKit.callS X0 hx (y := (⟨"com/example/sluis/sluis/model/DecisionDegradedPinLaw", "pick", "(I)Lcom/example/sluis/sluis/model/Degradation;"⟩ : MethodName)) hown (mvT hZ (hw _ (List.mem_of_getElem? (i := 1) rfl))) (mvT hZ (hw _ (List.mem_of_getElem? (i := 2) rfl))) (mvT hZ (hw _ (List.mem_of_getElem? (i := 3) rfl))) (mvT hZ (hw _ (List.mem_of_getElem? (i := 4) rfl))) (by decide) (backOf (W := 0) (rm1 l Z a0 hw [] ((p4 &&& (2147483647 : Int32)) % (3 : Int32)) w_NONE w_UNAVAILABLE w_TIMEOUT h0 n0 Z0 S_NONE S_UNAVAILABLE S_TIMEOUT) hZ (hw _ (List.mem_of_getElem? (i := 4) rfl)) (hw _ (List.mem_of_getElem? (i := 3) rfl)) (by decide) (by decide)) (g := (mkF m 37 #[.val (.int p0), .val (.long q1), .second, .val (.long q2), .second, .val (.long q3), .second, .val (.int p4), .val (.int (0 : Int32)), .val (.int (0 : Int32)), .val (.int ((p4 &&& (2147483647 : Int32)) % (3 : Int32))), .unset, .unset, .unset] [(.int ((p4 &&& (2147483647 : Int32)) % (3 : Int32)))])) rfl (by rw [hml]; rfl) (argsL := [(.int ((p4 &&& (2147483647 : Int32)) % (3 : Int32)))]) (rest := []) (lenOf pd_0 rfl) rfl (by show 2 * 0 + _ ≤ _; exact Nat.le_of_eq rfl) (hb hby at_37) (fun _ _ => ⟨rfl, e0, (by decide : 0 + 0 ≤ _), (by decide : 0 + 0 ≤ _)⟩)
      dsimp only [Pt.U, Pt.locs, Pt.cells, Pt.slots] at X3 l3 y3 z3 st3 hQ3
      subst l3 y3 z3
      obtain ⟨rfl, N3q, e3⟩ := hQ3
      have N3 := Fr.app N0 N3q
      have pre4 : ∀ t, Steps p.tables e below (T3.setTop (mkF m 40 #[.val (.int p0), .val (.long q1), .second, .val (.long q2), .second, .val (.long q3), .second, .val (.int p4), .val (.int (0 : Int32)), .val (.int (0 : Int32)), .val (.int ((p4 &&& (2147483647 : Int32)) % (3 : Int32))), .unset, .unset, .unset] [(.ref (F1 ((p4 &&& (2147483647 : Int32)) % (3 : Int32)) w_NONE w_UNAVAILABLE w_TIMEOUT))])) t → Steps p.tables e below (s₁.setTop (entryFrame m #[(.int p0), (.long q1), (.long q2), (.long q3), (.int p4)] maxLocals)) t := fun t k => by
        refine pre2 t ?_
        show Steps p.tables e below (s₁.setTop (mkF m 16 #[.val (.int p0), .val (.long q1), .second, .val (.long q2), .second, .val (.long q3), .second, .val (.int p4), .val (.int (0 : Int32)), .unset, .unset, .unset, .unset, .unset] [(.int (p0 &&& (2 : Int32)))])) _
        refine XS.ifYes X0.here hx rfl (pc0 := 16) (pc' := 23) rfl (hb hby at_16) rfl ((if0 _ _).trans (teq hc16).1) (by decide) (by decide) ?_
        show Steps p.tables e below (s₁.setTop (mkF m 23 #[.val (.int p0), .val (.long q1), .second, .val (.long q2), .second, .val (.long q3), .second, .val (.int p4), .val (.int (0 : Int32)), .unset, .unset, .unset, .unset, .unset] [])) _
        refine XS.iconst X0.here hx rfl (hb hby at_23) ?_
        show Steps p.tables e below (s₁.setTop (mkF m 24 #[.val (.int p0), .val (.long q1), .second, .val (.long q2), .second, .val (.long q3), .second, .val (.int p4), .val (.int (0 : Int32)), .unset, .unset, .unset, .unset, .unset] [(.int (0 : Int32))])) _
        refine XS.istore X0.here hx rfl (hb hby at_24) rfl (l' := #[.val (.int p0), .val (.long q1), .second, .val (.long q2), .second, .val (.long q3), .second, .val (.int p4), .val (.int (0 : Int32)), .val (.int (0 : Int32)), .unset, .unset, .unset, .unset]) rfl ?_
        show Steps p.tables e below (s₁.setTop (mkF m 26 #[.val (.int p0), .val (.long q1), .second, .val (.long q2), .second, .val (.long q3), .second, .val (.int p4), .val (.int (0 : Int32)), .val (.int (0 : Int32)), .unset, .unset, .unset, .unset] [])) _
        refine XS.iload X0.here hx rfl (hb hby at_26) rfl ?_
        show Steps p.tables e below (s₁.setTop (mkF m 28 #[.val (.int p0), .val (.long q1), .second, .val (.long q2), .second, .val (.long q3), .second, .val (.int p4), .val (.int (0 : Int32)), .val (.int (0 : Int32)), .unset, .unset, .unset, .unset] [(.int p4)])) _
        refine X0.ldcInt hx hown (mvT hZ (hw _ (List.mem_of_getElem? (i := 0) rfl))) (g := (mkF m 28 #[.val (.int p0), .val (.long q1), .second, .val (.long q2), .second, .val (.long q3), .second, .val (.int p4), .val (.int (0 : Int32)), .val (.int (0 : Int32)), .unset, .unset, .unset, .unset] [(.int p4)])) rfl (hb hby at_28) _ ?_
        show Steps p.tables e below (s₁.setTop (mkF m 30 #[.val (.int p0), .val (.long q1), .second, .val (.long q2), .second, .val (.long q3), .second, .val (.int p4), .val (.int (0 : Int32)), .val (.int (0 : Int32)), .unset, .unset, .unset, .unset] [(.int (2147483647 : Int32)), (.int p4)])) _
        refine XS.iand X0.here hx rfl (hb hby at_30) rfl ?_
        show Steps p.tables e below (s₁.setTop (mkF m 31 #[.val (.int p0), .val (.long q1), .second, .val (.long q2), .second, .val (.long q3), .second, .val (.int p4), .val (.int (0 : Int32)), .val (.int (0 : Int32)), .unset, .unset, .unset, .unset] [(.int (p4 &&& (2147483647 : Int32)))])) _
        refine XS.iconst X0.here hx rfl (hb hby at_31) ?_
        show Steps p.tables e below (s₁.setTop (mkF m 32 #[.val (.int p0), .val (.long q1), .second, .val (.long q2), .second, .val (.long q3), .second, .val (.int p4), .val (.int (0 : Int32)), .val (.int (0 : Int32)), .unset, .unset, .unset, .unset] [(.int (3 : Int32)), (.int (p4 &&& (2147483647 : Int32)))])) _
        refine iremM X0 hx rfl (hb hby at_32) rfl (by decide) ?_
        show Steps p.tables e below (s₁.setTop (mkF m 33 #[.val (.int p0), .val (.long q1), .second, .val (.long q2), .second, .val (.long q3), .second, .val (.int p4), .val (.int (0 : Int32)), .val (.int (0 : Int32)), .unset, .unset, .unset, .unset] [(.int ((p4 &&& (2147483647 : Int32)) % (3 : Int32)))])) _
        refine XS.istore X0.here hx rfl (hb hby at_33) rfl (l' := #[.val (.int p0), .val (.long q1), .second, .val (.long q2), .second, .val (.long q3), .second, .val (.int p4), .val (.int (0 : Int32)), .val (.int (0 : Int32)), .val (.int ((p4 &&& (2147483647 : Int32)) % (3 : Int32))), .unset, .unset, .unset]) rfl ?_
        show Steps p.tables e below (s₁.setTop (mkF m 35 #[.val (.int p0), .val (.long q1), .second, .val (.long q2), .second, .val (.long q3), .second, .val (.int p4), .val (.int (0 : Int32)), .val (.int (0 : Int32)), .val (.int ((p4 &&& (2147483647 : Int32)) % (3 : Int32))), .unset, .unset, .unset] [])) _
        refine XS.iload X0.here hx rfl (hb hby at_35) rfl ?_
        show Steps p.tables e below (s₁.setTop (mkF m 37 #[.val (.int p0), .val (.long q1), .second, .val (.long q2), .second, .val (.long q3), .second, .val (.int p4), .val (.int (0 : Int32)), .val (.int (0 : Int32)), .val (.int ((p4 &&& (2147483647 : Int32)) % (3 : Int32))), .unset, .unset, .unset] [(.int ((p4 &&& (2147483647 : Int32)) % (3 : Int32)))])) _
        refine st3 _ ?_
        exact k
      by_cases hk : ((p4 &&& (2147483647 : Int32)) % (3 : Int32)) = (0 : Int32)
      · rw [show (F1 ((p4 &&& (2147483647 : Int32)) % (3 : Int32)) w_NONE w_UNAVAILABLE w_TIMEOUT) = w_NONE from by rw [F1, if_pos hk]] at pre4
        obtain ⟨T5, h5, X5, e5, E5, A5, D5, -, st5⟩ := newO X3 hx hZ hown (hw _ (List.mem_of_getElem? (i := 8) rfl)) (hw _ (List.mem_of_getElem? (i := 9) rfl)) (hw _ (List.mem_of_getElem? (i := 10) rfl)) e3 (g := (mkF m 42 #[.val (.int p0), .val (.long q1), .second, .val (.long q2), .second, .val (.long q3), .second, .val (.int p4), .val (.int (0 : Int32)), .val (.int (0 : Int32)), .val (.int ((p4 &&& (2147483647 : Int32)) % (3 : Int32))), .val (.ref w_NONE), .unset, .unset] [])) rfl (hb hby at_42) (by decide) (by decide)
        obtain ⟨b5, g5⟩ : ∃ z, z = h0.size := ⟨_, rfl⟩
        rw [← g5] at A5 D5 st5
        have ne_w_NONE_b5 : w_NONE ≠ b5 := Nat.ne_of_lt (Nat.lt_of_lt_of_le E_NONE.lt (Nat.le_of_eq g5.symm))
        have ne_w_UNAVAILABLE_b5 : w_UNAVAILABLE ≠ b5 := Nat.ne_of_lt (Nat.lt_of_lt_of_le E_UNAVAILABLE.lt (Nat.le_of_eq g5.symm))
        have ne_w_TIMEOUT_b5 : w_TIMEOUT ≠ b5 := Nat.ne_of_lt (Nat.lt_of_lt_of_le E_TIMEOUT.lt (Nat.le_of_eq g5.symm))
        have sS6 := S_NONE.ext E5
        have eE7 := E_NONE.ext E5
        have sS8 := S_UNAVAILABLE.ext E5
        have eE9 := E_UNAVAILABLE.ext E5
        have sS10 := S_TIMEOUT.ext E5
        have eE11 := E_TIMEOUT.ext E5
        have g_b5 : n0 ≤ b5 := Nat.le_trans Z0 (Nat.le_of_eq g5.symm)
        have Z5 := Nat.le_trans Z0 E5.1
        have fF12 : Fld Z h5 b5 "com/example/sluis/sluis/model/Decision" "admitted" "Z" (.int (0 : Int32)) := D5 (Or.inr (hw _ (List.mem_of_getElem? (i := 23) rfl))) (ty := .boolean) (by decide)
        have fF13 : Fld Z h5 b5 "com/example/sluis/sluis/model/Decision" "remaining" "J" (.long (0 : Int64)) := D5 (Or.inr (hw _ (List.mem_of_getElem? (i := 25) rfl))) (ty := .long) (by decide)
        have fF14 : Fld Z h5 b5 "com/example/sluis/sluis/model/Decision" "retryAfterMillis" "J" (.long (0 : Int64)) := D5 (Or.inr (hw _ (List.mem_of_getElem? (i := 27) rfl))) (ty := .long) (by decide)
        have fF15 : Fld Z h5 b5 "com/example/sluis/sluis/model/Decision" "waitMillis" "J" (.long (0 : Int64)) := D5 (Or.inr (hw _ (List.mem_of_getElem? (i := 29) rfl))) (ty := .long) (by decide)
        have fF16 : Fld Z h5 b5 "com/example/sluis/sluis/model/Decision" "degradation" "Lcom/example/sluis/sluis/model/Degradation;" .null := D5 (Or.inr (hw _ (List.mem_of_getElem? (i := 31) rfl))) (ty := (.object "com/example/sluis/sluis/model/Degradation")) (by decide)
        have fF17 : Fld Z h5 b5 "com/example/sluis/sluis/model/Decision" "banned" "Z" (.int (0 : Int32)) := D5 (Or.inr (hw _ (List.mem_of_getElem? (i := 33) rfl))) (ty := .boolean) (by decide)
        obtain ⟨_, _, ⟨T18, L18, k18, n18⟩, -, X18, ⟨Lc18, hQ18, l18, y18, z18⟩, st18⟩ := X5.specialBack hx (y := (⟨"com/example/sluis/sluis/model/Decision", "<init>", "(ZJJJLcom/example/sluis/sluis/model/Degradation;Z)V"⟩ : MethodName)) rfl hown (mvT hZ (hw _ (List.mem_of_getElem? (i := 11) rfl))) (mvT hZ (hw _ (List.mem_of_getElem? (i := 12) rfl))) (mvT hZ (hw _ (List.mem_of_getElem? (i := 13) rfl))) (by decide) (backOf (W := 1) (rm2 l Z a0 hw [] b5 (0 : Int32) q1 q2 q3 w_NONE (0 : Int32) (.int (0 : Int32)) (.long (0 : Int64)) (.long (0 : Int64)) (.long (0 : Int64)) .null (.int (0 : Int32)) h5 n0 Z5 fF12 fF13 fF14 fF15 fF16 fF17 A5 g_b5) hZ (hw _ (List.mem_of_getElem? (i := 13) rfl)) (hw _ (List.mem_of_getElem? (i := 10) rfl)) (by decide) (by decide)) (g := (mkF m 56 #[.val (.int p0), .val (.long q1), .second, .val (.long q2), .second, .val (.long q3), .second, .val (.int p4), .val (.int (0 : Int32)), .val (.int (0 : Int32)), .val (.int ((p4 &&& (2147483647 : Int32)) % (3 : Int32))), .val (.ref w_NONE), .unset, .unset] [(.int (0 : Int32)), (.ref w_NONE), (.long q3), (.long q2), (.long q1), (.int (0 : Int32)), (.ref b5), (.ref b5)])) rfl (by rw [hml]; rfl) (Steps.refl _) (a := b5) (argsL := [(.int (0 : Int32)), (.long q1), (.long q2), (.long q3), (.ref w_NONE), (.int (0 : Int32))]) (rest := [(.ref b5)]) (lenOf pd_2 rfl) rfl (by show 2 * 0 + _ ≤ _; exact Nat.le_of_eq rfl) (hb hby at_56) (fun _ _ => ⟨rfl, e5, (by decide : 1 + 0 ≤ _), (by decide : 6 + 0 ≤ _)⟩)
        dsimp only [Pt.U, Pt.locs, Pt.cells, Pt.slots] at X18 l18 y18 z18 st18 hQ18
        subst l18 y18 z18
        obtain ⟨rfl, N18q, K18, G19, G20, G21, G22, G23, G24, G25⟩ := hQ18
        have sS26 := own_sta sS6 K18 A5
        have eE27 := eE7.keep K18
        have sS28 := own_sta sS8 K18 A5
        have eE29 := eE9.keep K18
        have sS30 := own_sta sS10 K18 A5
        have eE31 := eE11.keep K18
        have Z18 := Nat.le_trans Z5 K18.1
        have N18 := Fr.app N3 N18q
        obtain ⟨cq32, kq32, q32a, q32b, q32c⟩ := isOf hZ rfl G19
        obtain ⟨_, _, ⟨T32, L32, k32, n32⟩, -, X32, ⟨Lc32, hQ32, l32, y32, z32⟩, st32⟩ := X18.virtualBack hx (y := (⟨"com/example/sluis/sluis/model/Decision", "degraded", "()Z"⟩ : MethodName)) (z := (⟨"com/example/sluis/sluis/model/Decision", "degraded", "()Z"⟩ : MethodName)) hown (mvT hZ (hw _ (List.mem_of_getElem? (i := 34) rfl))) (mvT hZ (hw _ (List.mem_of_getElem? (i := 35) rfl))) (notFace_of_selects (args := #[]) (mvT hZ (hw _ (List.mem_of_getElem? (i := 37) rfl)))) (mvT hZ (hw _ (List.mem_of_getElem? (i := 37) rfl))) (mvT hZ (hw _ (List.mem_of_getElem? (i := 36) rfl))) (by decide) (backOf (W := 0) (rm5 l Z a0 hw [] b5 w_NONE w_NONE T18.heap n0 Z18 G24 sS26) hZ (hw _ (List.mem_of_getElem? (i := 38) rfl)) (hw _ (List.mem_of_getElem? (i := 10) rfl)) (by decide) (by decide)) q32a q32c (g := (mkF m 77 #[.val (.int p0), .val (.long q1), .second, .val (.long q2), .second, .val (.long q3), .second, .val (.int p4), .val (.int (0 : Int32)), .val (.int (0 : Int32)), .val (.int ((p4 &&& (2147483647 : Int32)) % (3 : Int32))), .val (.ref w_NONE), .val (.ref b5), .val (.int (0 : Int32))] [(.ref b5)])) rfl (by rw [hml]; rfl) (Steps.refl _) (argsL := []) (rest := []) (lenOf pd_3 rfl) rfl (by show 2 * 0 + _ ≤ _; exact Nat.le_of_eq rfl) (hb hby at_77) (fun _ _ => ⟨rfl, rfl, (by decide : 1 + 0 ≤ _), (by decide : 6 + 0 ≤ _)⟩)
        dsimp only [Pt.U, Pt.locs, Pt.cells, Pt.slots] at X32 l32 y32 z32 st32 hQ32
        subst l32 y32 z32
        obtain ⟨rfl, N32q, e32⟩ := hQ32
        have N32 := Fr.app N18 N32q
        have hc82 : (F5 w_NONE w_NONE) = (0 : Int32) := by rw [F5, if_pos rfl]
        obtain ⟨fs, hr, hrun, hended, hW, hsame⟩ := X32.leave (v := some (.int (1 : Int32))) (fun h => by rw [Bd.returns] at h; cases h) (BodyLoose.notSynchronized Bd)
        refine ⟨_, _, pre4 _ ?_, hrun, hended, _, _, rfl, ?_, ⟨_, rfl⟩, hW, hsame.mono (by decide) (by decide)⟩
        · show Steps p.tables e below (T3.setTop (mkF m 40 #[.val (.int p0), .val (.long q1), .second, .val (.long q2), .second, .val (.long q3), .second, .val (.int p4), .val (.int (0 : Int32)), .val (.int (0 : Int32)), .val (.int ((p4 &&& (2147483647 : Int32)) % (3 : Int32))), .unset, .unset, .unset] [(.ref w_NONE)])) _
          refine XS.astore X3.here hx rfl (hb hby at_40) rfl rfl (l' := #[.val (.int p0), .val (.long q1), .second, .val (.long q2), .second, .val (.long q3), .second, .val (.int p4), .val (.int (0 : Int32)), .val (.int (0 : Int32)), .val (.int ((p4 &&& (2147483647 : Int32)) % (3 : Int32))), .val (.ref w_NONE), .unset, .unset]) rfl ?_
          show Steps p.tables e below (T3.setTop (mkF m 42 #[.val (.int p0), .val (.long q1), .second, .val (.long q2), .second, .val (.long q3), .second, .val (.int p4), .val (.int (0 : Int32)), .val (.int (0 : Int32)), .val (.int ((p4 &&& (2147483647 : Int32)) % (3 : Int32))), .val (.ref w_NONE), .unset, .unset] [])) _
          refine st5 _ ?_
          show Steps p.tables e below (T5.setTop (mkF m 45 #[.val (.int p0), .val (.long q1), .second, .val (.long q2), .second, .val (.long q3), .second, .val (.int p4), .val (.int (0 : Int32)), .val (.int (0 : Int32)), .val (.int ((p4 &&& (2147483647 : Int32)) % (3 : Int32))), .val (.ref w_NONE), .unset, .unset] [(.ref b5)])) _
          refine XS.dup X5.here hx rfl (hb hby at_45) rfl rfl ?_
          show Steps p.tables e below (T5.setTop (mkF m 46 #[.val (.int p0), .val (.long q1), .second, .val (.long q2), .second, .val (.long q3), .second, .val (.int p4), .val (.int (0 : Int32)), .val (.int (0 : Int32)), .val (.int ((p4 &&& (2147483647 : Int32)) % (3 : Int32))), .val (.ref w_NONE), .unset, .unset] [(.ref b5), (.ref b5)])) _
          refine XS.iload X5.here hx rfl (hb hby at_46) rfl ?_
          show Steps p.tables e below (T5.setTop (mkF m 48 #[.val (.int p0), .val (.long q1), .second, .val (.long q2), .second, .val (.long q3), .second, .val (.int p4), .val (.int (0 : Int32)), .val (.int (0 : Int32)), .val (.int ((p4 &&& (2147483647 : Int32)) % (3 : Int32))), .val (.ref w_NONE), .unset, .unset] [(.int (0 : Int32)), (.ref b5), (.ref b5)])) _
          refine XS.lloadN X5.here hx rfl (hb hby at_48) rfl ?_
          show Steps p.tables e below (T5.setTop (mkF m 49 #[.val (.int p0), .val (.long q1), .second, .val (.long q2), .second, .val (.long q3), .second, .val (.int p4), .val (.int (0 : Int32)), .val (.int (0 : Int32)), .val (.int ((p4 &&& (2147483647 : Int32)) % (3 : Int32))), .val (.ref w_NONE), .unset, .unset] [(.long q1), (.int (0 : Int32)), (.ref b5), (.ref b5)])) _
          refine XS.lloadN X5.here hx rfl (hb hby at_49) rfl ?_
          show Steps p.tables e below (T5.setTop (mkF m 50 #[.val (.int p0), .val (.long q1), .second, .val (.long q2), .second, .val (.long q3), .second, .val (.int p4), .val (.int (0 : Int32)), .val (.int (0 : Int32)), .val (.int ((p4 &&& (2147483647 : Int32)) % (3 : Int32))), .val (.ref w_NONE), .unset, .unset] [(.long q2), (.long q1), (.int (0 : Int32)), (.ref b5), (.ref b5)])) _
          refine XS.lload X5.here hx rfl (hb hby at_50) rfl ?_
          show Steps p.tables e below (T5.setTop (mkF m 52 #[.val (.int p0), .val (.long q1), .second, .val (.long q2), .second, .val (.long q3), .second, .val (.int p4), .val (.int (0 : Int32)), .val (.int (0 : Int32)), .val (.int ((p4 &&& (2147483647 : Int32)) % (3 : Int32))), .val (.ref w_NONE), .unset, .unset] [(.long q3), (.long q2), (.long q1), (.int (0 : Int32)), (.ref b5), (.ref b5)])) _
          refine XS.aload X5.here hx rfl (hb hby at_52) rfl rfl ?_
          show Steps p.tables e below (T5.setTop (mkF m 54 #[.val (.int p0), .val (.long q1), .second, .val (.long q2), .second, .val (.long q3), .second, .val (.int p4), .val (.int (0 : Int32)), .val (.int (0 : Int32)), .val (.int ((p4 &&& (2147483647 : Int32)) % (3 : Int32))), .val (.ref w_NONE), .unset, .unset] [(.ref w_NONE), (.long q3), (.long q2), (.long q1), (.int (0 : Int32)), (.ref b5), (.ref b5)])) _
          refine XS.iload X5.here hx rfl (hb hby at_54) rfl ?_
          show Steps p.tables e below (T5.setTop (mkF m 56 #[.val (.int p0), .val (.long q1), .second, .val (.long q2), .second, .val (.long q3), .second, .val (.int p4), .val (.int (0 : Int32)), .val (.int (0 : Int32)), .val (.int ((p4 &&& (2147483647 : Int32)) % (3 : Int32))), .val (.ref w_NONE), .unset, .unset] [(.int (0 : Int32)), (.ref w_NONE), (.long q3), (.long q2), (.long q1), (.int (0 : Int32)), (.ref b5), (.ref b5)])) _
          refine st18.trans ?_
          show Steps p.tables e below (T18.setTop (mkF m 59 #[.val (.int p0), .val (.long q1), .second, .val (.long q2), .second, .val (.long q3), .second, .val (.int p4), .val (.int (0 : Int32)), .val (.int (0 : Int32)), .val (.int ((p4 &&& (2147483647 : Int32)) % (3 : Int32))), .val (.ref w_NONE), .unset, .unset] [(.ref b5)])) _
          refine XS.astore X18.here hx rfl (hb hby at_59) rfl rfl (l' := #[.val (.int p0), .val (.long q1), .second, .val (.long q2), .second, .val (.long q3), .second, .val (.int p4), .val (.int (0 : Int32)), .val (.int (0 : Int32)), .val (.int ((p4 &&& (2147483647 : Int32)) % (3 : Int32))), .val (.ref w_NONE), .val (.ref b5), .unset]) rfl ?_
          show Steps p.tables e below (T18.setTop (mkF m 61 #[.val (.int p0), .val (.long q1), .second, .val (.long q2), .second, .val (.long q3), .second, .val (.int p4), .val (.int (0 : Int32)), .val (.int (0 : Int32)), .val (.int ((p4 &&& (2147483647 : Int32)) % (3 : Int32))), .val (.ref w_NONE), .val (.ref b5), .unset] [])) _
          refine XS.iload X18.here hx rfl (hb hby at_61) rfl ?_
          show Steps p.tables e below (T18.setTop (mkF m 63 #[.val (.int p0), .val (.long q1), .second, .val (.long q2), .second, .val (.long q3), .second, .val (.int p4), .val (.int (0 : Int32)), .val (.int (0 : Int32)), .val (.int ((p4 &&& (2147483647 : Int32)) % (3 : Int32))), .val (.ref w_NONE), .val (.ref b5), .unset] [(.int ((p4 &&& (2147483647 : Int32)) % (3 : Int32)))])) _
          refine XS.ifNo X18.here hx rfl (hb hby at_63) rfl ((if0 _ _).trans (teq hk).2) ?_
          show Steps p.tables e below (T18.setTop (mkF m 66 #[.val (.int p0), .val (.long q1), .second, .val (.long q2), .second, .val (.long q3), .second, .val (.int p4), .val (.int (0 : Int32)), .val (.int (0 : Int32)), .val (.int ((p4 &&& (2147483647 : Int32)) % (3 : Int32))), .val (.ref w_NONE), .val (.ref b5), .unset] [])) _
          refine XS.iconst X18.here hx rfl (hb hby at_66) ?_
          show Steps p.tables e below (T18.setTop (mkF m 67 #[.val (.int p0), .val (.long q1), .second, .val (.long q2), .second, .val (.long q3), .second, .val (.int p4), .val (.int (0 : Int32)), .val (.int (0 : Int32)), .val (.int ((p4 &&& (2147483647 : Int32)) % (3 : Int32))), .val (.ref w_NONE), .val (.ref b5), .unset] [(.int (0 : Int32))])) _
          refine XS.istore X18.here hx rfl (hb hby at_67) rfl (l' := #[.val (.int p0), .val (.long q1), .second, .val (.long q2), .second, .val (.long q3), .second, .val (.int p4), .val (.int (0 : Int32)), .val (.int (0 : Int32)), .val (.int ((p4 &&& (2147483647 : Int32)) % (3 : Int32))), .val (.ref w_NONE), .val (.ref b5), .val (.int (0 : Int32))]) rfl ?_
          show Steps p.tables e below (T18.setTop (mkF m 69 #[.val (.int p0), .val (.long q1), .second, .val (.long q2), .second, .val (.long q3), .second, .val (.int p4), .val (.int (0 : Int32)), .val (.int (0 : Int32)), .val (.int ((p4 &&& (2147483647 : Int32)) % (3 : Int32))), .val (.ref w_NONE), .val (.ref b5), .val (.int (0 : Int32))] [])) _
          refine XS.goto X18.here hx rfl (pc0 := 69) (pc' := 75) rfl (hb hby at_69) (by decide) (by decide) ?_
          show Steps p.tables e below (T18.setTop (mkF m 75 #[.val (.int p0), .val (.long q1), .second, .val (.long q2), .second, .val (.long q3), .second, .val (.int p4), .val (.int (0 : Int32)), .val (.int (0 : Int32)), .val (.int ((p4 &&& (2147483647 : Int32)) % (3 : Int32))), .val (.ref w_NONE), .val (.ref b5), .val (.int (0 : Int32))] [])) _
          refine XS.aload X18.here hx rfl (hb hby at_75) rfl rfl ?_
          show Steps p.tables e below (T18.setTop (mkF m 77 #[.val (.int p0), .val (.long q1), .second, .val (.long q2), .second, .val (.long q3), .second, .val (.int p4), .val (.int (0 : Int32)), .val (.int (0 : Int32)), .val (.int ((p4 &&& (2147483647 : Int32)) % (3 : Int32))), .val (.ref w_NONE), .val (.ref b5), .val (.int (0 : Int32))] [(.ref b5)])) _
          refine st32.trans ?_
          show Steps p.tables e below (T32.setTop (mkF m 80 #[.val (.int p0), .val (.long q1), .second, .val (.long q2), .second, .val (.long q3), .second, .val (.int p4), .val (.int (0 : Int32)), .val (.int (0 : Int32)), .val (.int ((p4 &&& (2147483647 : Int32)) % (3 : Int32))), .val (.ref w_NONE), .val (.ref b5), .val (.int (0 : Int32))] [(.int (F5 w_NONE w_NONE))])) _
          refine XS.iload X32.here hx rfl (hb hby at_80) rfl ?_
          show Steps p.tables e below (T32.setTop (mkF m 82 #[.val (.int p0), .val (.long q1), .second, .val (.long q2), .second, .val (.long q3), .second, .val (.int p4), .val (.int (0 : Int32)), .val (.int (0 : Int32)), .val (.int ((p4 &&& (2147483647 : Int32)) % (3 : Int32))), .val (.ref w_NONE), .val (.ref b5), .val (.int (0 : Int32))] [(.int (0 : Int32)), (.int (F5 w_NONE w_NONE))])) _
          refine XS.icmpNo X32.here hx rfl (hb hby at_82) rfl (teq hc82).2 ?_
          show Steps p.tables e below (T32.setTop (mkF m 85 #[.val (.int p0), .val (.long q1), .second, .val (.long q2), .second, .val (.long q3), .second, .val (.int p4), .val (.int (0 : Int32)), .val (.int (0 : Int32)), .val (.int ((p4 &&& (2147483647 : Int32)) % (3 : Int32))), .val (.ref w_NONE), .val (.ref b5), .val (.int (0 : Int32))] [])) _
          refine XS.iconst X32.here hx rfl (hb hby at_85) ?_
          show Steps p.tables e below (T32.setTop (mkF m 86 #[.val (.int p0), .val (.long q1), .second, .val (.long q2), .second, .val (.long q3), .second, .val (.int p4), .val (.int (0 : Int32)), .val (.int (0 : Int32)), .val (.int ((p4 &&& (2147483647 : Int32)) % (3 : Int32))), .val (.ref w_NONE), .val (.ref b5), .val (.int (0 : Int32))] [(.int (1 : Int32))])) _
          refine XS.goto X32.here hx rfl (pc0 := 86) (pc' := 90) rfl (hb hby at_86) (by decide) (by decide) ?_
          show Steps p.tables e below (T32.setTop (mkF m 90 #[.val (.int p0), .val (.long q1), .second, .val (.long q2), .second, .val (.long q3), .second, .val (.int p4), .val (.int (0 : Int32)), .val (.int (0 : Int32)), .val (.int ((p4 &&& (2147483647 : Int32)) % (3 : Int32))), .val (.ref w_NONE), .val (.ref b5), .val (.int (0 : Int32))] [(.int (1 : Int32))])) _
          exact retN X32 hx (t := .boolean) Bd.returns (by simp) (hb hby at_90) hr
        · show Q0 Z p0 q1 q2 q3 p4 w_NONE w_UNAVAILABLE w_TIMEOUT h0 n0 _ T32.heap _
          rw [e32]
          exact ⟨rfl, N32⟩
      · by_cases hk_2 : ((p4 &&& (2147483647 : Int32)) % (3 : Int32)) = (1 : Int32)
        · rw [show (F1 ((p4 &&& (2147483647 : Int32)) % (3 : Int32)) w_NONE w_UNAVAILABLE w_TIMEOUT) = w_UNAVAILABLE from by rw [F1, if_neg hk, if_pos hk_2]] at pre4
          obtain ⟨T33, h33, X33, e33, E33, A33, D33, -, st33⟩ := newO X3 hx hZ hown (hw _ (List.mem_of_getElem? (i := 8) rfl)) (hw _ (List.mem_of_getElem? (i := 9) rfl)) (hw _ (List.mem_of_getElem? (i := 10) rfl)) e3 (g := (mkF m 42 #[.val (.int p0), .val (.long q1), .second, .val (.long q2), .second, .val (.long q3), .second, .val (.int p4), .val (.int (0 : Int32)), .val (.int (0 : Int32)), .val (.int ((p4 &&& (2147483647 : Int32)) % (3 : Int32))), .val (.ref w_UNAVAILABLE), .unset, .unset] [])) rfl (hb hby at_42) (by decide) (by decide)
          obtain ⟨b33, g33⟩ : ∃ z, z = h0.size := ⟨_, rfl⟩
          rw [← g33] at A33 D33 st33
          have ne_w_NONE_b33 : w_NONE ≠ b33 := Nat.ne_of_lt (Nat.lt_of_lt_of_le E_NONE.lt (Nat.le_of_eq g33.symm))
          have ne_w_UNAVAILABLE_b33 : w_UNAVAILABLE ≠ b33 := Nat.ne_of_lt (Nat.lt_of_lt_of_le E_UNAVAILABLE.lt (Nat.le_of_eq g33.symm))
          have ne_w_TIMEOUT_b33 : w_TIMEOUT ≠ b33 := Nat.ne_of_lt (Nat.lt_of_lt_of_le E_TIMEOUT.lt (Nat.le_of_eq g33.symm))
          have sS34 := S_NONE.ext E33
          have eE35 := E_NONE.ext E33
          have sS36 := S_UNAVAILABLE.ext E33
          have eE37 := E_UNAVAILABLE.ext E33
          have sS38 := S_TIMEOUT.ext E33
          have eE39 := E_TIMEOUT.ext E33
          have g_b33 : n0 ≤ b33 := Nat.le_trans Z0 (Nat.le_of_eq g33.symm)
          have Z33 := Nat.le_trans Z0 E33.1
          have fF40 : Fld Z h33 b33 "com/example/sluis/sluis/model/Decision" "admitted" "Z" (.int (0 : Int32)) := D33 (Or.inr (hw _ (List.mem_of_getElem? (i := 23) rfl))) (ty := .boolean) (by decide)
          have fF41 : Fld Z h33 b33 "com/example/sluis/sluis/model/Decision" "remaining" "J" (.long (0 : Int64)) := D33 (Or.inr (hw _ (List.mem_of_getElem? (i := 25) rfl))) (ty := .long) (by decide)
          have fF42 : Fld Z h33 b33 "com/example/sluis/sluis/model/Decision" "retryAfterMillis" "J" (.long (0 : Int64)) := D33 (Or.inr (hw _ (List.mem_of_getElem? (i := 27) rfl))) (ty := .long) (by decide)
          have fF43 : Fld Z h33 b33 "com/example/sluis/sluis/model/Decision" "waitMillis" "J" (.long (0 : Int64)) := D33 (Or.inr (hw _ (List.mem_of_getElem? (i := 29) rfl))) (ty := .long) (by decide)
          have fF44 : Fld Z h33 b33 "com/example/sluis/sluis/model/Decision" "degradation" "Lcom/example/sluis/sluis/model/Degradation;" .null := D33 (Or.inr (hw _ (List.mem_of_getElem? (i := 31) rfl))) (ty := (.object "com/example/sluis/sluis/model/Degradation")) (by decide)
          have fF45 : Fld Z h33 b33 "com/example/sluis/sluis/model/Decision" "banned" "Z" (.int (0 : Int32)) := D33 (Or.inr (hw _ (List.mem_of_getElem? (i := 33) rfl))) (ty := .boolean) (by decide)
          obtain ⟨_, _, ⟨T46, L46, k46, n46⟩, -, X46, ⟨Lc46, hQ46, l46, y46, z46⟩, st46⟩ := X33.specialBack hx (y := (⟨"com/example/sluis/sluis/model/Decision", "<init>", "(ZJJJLcom/example/sluis/sluis/model/Degradation;Z)V"⟩ : MethodName)) rfl hown (mvT hZ (hw _ (List.mem_of_getElem? (i := 11) rfl))) (mvT hZ (hw _ (List.mem_of_getElem? (i := 12) rfl))) (mvT hZ (hw _ (List.mem_of_getElem? (i := 13) rfl))) (by decide) (backOf (W := 1) (rm2 l Z a0 hw [] b33 (0 : Int32) q1 q2 q3 w_UNAVAILABLE (0 : Int32) (.int (0 : Int32)) (.long (0 : Int64)) (.long (0 : Int64)) (.long (0 : Int64)) .null (.int (0 : Int32)) h33 n0 Z33 fF40 fF41 fF42 fF43 fF44 fF45 A33 g_b33) hZ (hw _ (List.mem_of_getElem? (i := 13) rfl)) (hw _ (List.mem_of_getElem? (i := 10) rfl)) (by decide) (by decide)) (g := (mkF m 56 #[.val (.int p0), .val (.long q1), .second, .val (.long q2), .second, .val (.long q3), .second, .val (.int p4), .val (.int (0 : Int32)), .val (.int (0 : Int32)), .val (.int ((p4 &&& (2147483647 : Int32)) % (3 : Int32))), .val (.ref w_UNAVAILABLE), .unset, .unset] [(.int (0 : Int32)), (.ref w_UNAVAILABLE), (.long q3), (.long q2), (.long q1), (.int (0 : Int32)), (.ref b33), (.ref b33)])) rfl (by rw [hml]; rfl) (Steps.refl _) (a := b33) (argsL := [(.int (0 : Int32)), (.long q1), (.long q2), (.long q3), (.ref w_UNAVAILABLE), (.int (0 : Int32))]) (rest := [(.ref b33)]) (lenOf pd_2 rfl) rfl (by show 2 * 0 + _ ≤ _; exact Nat.le_of_eq rfl) (hb hby at_56) (fun _ _ => ⟨rfl, e33, (by decide : 1 + 0 ≤ _), (by decide : 6 + 0 ≤ _)⟩)
          dsimp only [Pt.U, Pt.locs, Pt.cells, Pt.slots] at X46 l46 y46 z46 st46 hQ46
          subst l46 y46 z46
          obtain ⟨rfl, N46q, K46, G47, G48, G49, G50, G51, G52, G53⟩ := hQ46
          have sS54 := own_sta sS34 K46 A33
          have eE55 := eE35.keep K46
          have sS56 := own_sta sS36 K46 A33
          have eE57 := eE37.keep K46
          have sS58 := own_sta sS38 K46 A33
          have eE59 := eE39.keep K46
          have Z46 := Nat.le_trans Z33 K46.1
          have N46 := Fr.app N3 N46q
          obtain ⟨cq60, kq60, q60a, q60b, q60c⟩ := isOf hZ rfl G47
          obtain ⟨_, _, ⟨T60, L60, k60, n60⟩, -, X60, ⟨Lc60, hQ60, l60, y60, z60⟩, st60⟩ := X46.virtualBack hx (y := (⟨"com/example/sluis/sluis/model/Decision", "degraded", "()Z"⟩ : MethodName)) (z := (⟨"com/example/sluis/sluis/model/Decision", "degraded", "()Z"⟩ : MethodName)) hown (mvT hZ (hw _ (List.mem_of_getElem? (i := 34) rfl))) (mvT hZ (hw _ (List.mem_of_getElem? (i := 35) rfl))) (notFace_of_selects (args := #[]) (mvT hZ (hw _ (List.mem_of_getElem? (i := 37) rfl)))) (mvT hZ (hw _ (List.mem_of_getElem? (i := 37) rfl))) (mvT hZ (hw _ (List.mem_of_getElem? (i := 36) rfl))) (by decide) (backOf (W := 0) (rm5 l Z a0 hw [] b33 w_UNAVAILABLE w_NONE T46.heap n0 Z46 G52 sS54) hZ (hw _ (List.mem_of_getElem? (i := 38) rfl)) (hw _ (List.mem_of_getElem? (i := 10) rfl)) (by decide) (by decide)) q60a q60c (g := (mkF m 77 #[.val (.int p0), .val (.long q1), .second, .val (.long q2), .second, .val (.long q3), .second, .val (.int p4), .val (.int (0 : Int32)), .val (.int (0 : Int32)), .val (.int ((p4 &&& (2147483647 : Int32)) % (3 : Int32))), .val (.ref w_UNAVAILABLE), .val (.ref b33), .val (.int (1 : Int32))] [(.ref b33)])) rfl (by rw [hml]; rfl) (Steps.refl _) (argsL := []) (rest := []) (lenOf pd_3 rfl) rfl (by show 2 * 0 + _ ≤ _; exact Nat.le_of_eq rfl) (hb hby at_77) (fun _ _ => ⟨rfl, rfl, (by decide : 1 + 0 ≤ _), (by decide : 6 + 0 ≤ _)⟩)
          dsimp only [Pt.U, Pt.locs, Pt.cells, Pt.slots] at X60 l60 y60 z60 st60 hQ60
          subst l60 y60 z60
          obtain ⟨rfl, N60q, e60⟩ := hQ60
          have N60 := Fr.app N46 N60q
          have hc82 : (F5 w_UNAVAILABLE w_NONE) = (1 : Int32) := by rw [F5, if_neg ne_UNAVAILABLE_NONE]
          obtain ⟨fs, hr, hrun, hended, hW, hsame⟩ := X60.leave (v := some (.int (1 : Int32))) (fun h => by rw [Bd.returns] at h; cases h) (BodyLoose.notSynchronized Bd)
          refine ⟨_, _, pre4 _ ?_, hrun, hended, _, _, rfl, ?_, ⟨_, rfl⟩, hW, hsame.mono (by decide) (by decide)⟩
          · show Steps p.tables e below (T3.setTop (mkF m 40 #[.val (.int p0), .val (.long q1), .second, .val (.long q2), .second, .val (.long q3), .second, .val (.int p4), .val (.int (0 : Int32)), .val (.int (0 : Int32)), .val (.int ((p4 &&& (2147483647 : Int32)) % (3 : Int32))), .unset, .unset, .unset] [(.ref w_UNAVAILABLE)])) _
            refine XS.astore X3.here hx rfl (hb hby at_40) rfl rfl (l' := #[.val (.int p0), .val (.long q1), .second, .val (.long q2), .second, .val (.long q3), .second, .val (.int p4), .val (.int (0 : Int32)), .val (.int (0 : Int32)), .val (.int ((p4 &&& (2147483647 : Int32)) % (3 : Int32))), .val (.ref w_UNAVAILABLE), .unset, .unset]) rfl ?_
            show Steps p.tables e below (T3.setTop (mkF m 42 #[.val (.int p0), .val (.long q1), .second, .val (.long q2), .second, .val (.long q3), .second, .val (.int p4), .val (.int (0 : Int32)), .val (.int (0 : Int32)), .val (.int ((p4 &&& (2147483647 : Int32)) % (3 : Int32))), .val (.ref w_UNAVAILABLE), .unset, .unset] [])) _
            refine st33 _ ?_
            show Steps p.tables e below (T33.setTop (mkF m 45 #[.val (.int p0), .val (.long q1), .second, .val (.long q2), .second, .val (.long q3), .second, .val (.int p4), .val (.int (0 : Int32)), .val (.int (0 : Int32)), .val (.int ((p4 &&& (2147483647 : Int32)) % (3 : Int32))), .val (.ref w_UNAVAILABLE), .unset, .unset] [(.ref b33)])) _
            refine XS.dup X33.here hx rfl (hb hby at_45) rfl rfl ?_
            show Steps p.tables e below (T33.setTop (mkF m 46 #[.val (.int p0), .val (.long q1), .second, .val (.long q2), .second, .val (.long q3), .second, .val (.int p4), .val (.int (0 : Int32)), .val (.int (0 : Int32)), .val (.int ((p4 &&& (2147483647 : Int32)) % (3 : Int32))), .val (.ref w_UNAVAILABLE), .unset, .unset] [(.ref b33), (.ref b33)])) _
            refine XS.iload X33.here hx rfl (hb hby at_46) rfl ?_
            show Steps p.tables e below (T33.setTop (mkF m 48 #[.val (.int p0), .val (.long q1), .second, .val (.long q2), .second, .val (.long q3), .second, .val (.int p4), .val (.int (0 : Int32)), .val (.int (0 : Int32)), .val (.int ((p4 &&& (2147483647 : Int32)) % (3 : Int32))), .val (.ref w_UNAVAILABLE), .unset, .unset] [(.int (0 : Int32)), (.ref b33), (.ref b33)])) _
            refine XS.lloadN X33.here hx rfl (hb hby at_48) rfl ?_
            show Steps p.tables e below (T33.setTop (mkF m 49 #[.val (.int p0), .val (.long q1), .second, .val (.long q2), .second, .val (.long q3), .second, .val (.int p4), .val (.int (0 : Int32)), .val (.int (0 : Int32)), .val (.int ((p4 &&& (2147483647 : Int32)) % (3 : Int32))), .val (.ref w_UNAVAILABLE), .unset, .unset] [(.long q1), (.int (0 : Int32)), (.ref b33), (.ref b33)])) _
            refine XS.lloadN X33.here hx rfl (hb hby at_49) rfl ?_
            show Steps p.tables e below (T33.setTop (mkF m 50 #[.val (.int p0), .val (.long q1), .second, .val (.long q2), .second, .val (.long q3), .second, .val (.int p4), .val (.int (0 : Int32)), .val (.int (0 : Int32)), .val (.int ((p4 &&& (2147483647 : Int32)) % (3 : Int32))), .val (.ref w_UNAVAILABLE), .unset, .unset] [(.long q2), (.long q1), (.int (0 : Int32)), (.ref b33), (.ref b33)])) _
            refine XS.lload X33.here hx rfl (hb hby at_50) rfl ?_
            show Steps p.tables e below (T33.setTop (mkF m 52 #[.val (.int p0), .val (.long q1), .second, .val (.long q2), .second, .val (.long q3), .second, .val (.int p4), .val (.int (0 : Int32)), .val (.int (0 : Int32)), .val (.int ((p4 &&& (2147483647 : Int32)) % (3 : Int32))), .val (.ref w_UNAVAILABLE), .unset, .unset] [(.long q3), (.long q2), (.long q1), (.int (0 : Int32)), (.ref b33), (.ref b33)])) _
            refine XS.aload X33.here hx rfl (hb hby at_52) rfl rfl ?_
            show Steps p.tables e below (T33.setTop (mkF m 54 #[.val (.int p0), .val (.long q1), .second, .val (.long q2), .second, .val (.long q3), .second, .val (.int p4), .val (.int (0 : Int32)), .val (.int (0 : Int32)), .val (.int ((p4 &&& (2147483647 : Int32)) % (3 : Int32))), .val (.ref w_UNAVAILABLE), .unset, .unset] [(.ref w_UNAVAILABLE), (.long q3), (.long q2), (.long q1), (.int (0 : Int32)), (.ref b33), (.ref b33)])) _
            refine XS.iload X33.here hx rfl (hb hby at_54) rfl ?_
            show Steps p.tables e below (T33.setTop (mkF m 56 #[.val (.int p0), .val (.long q1), .second, .val (.long q2), .second, .val (.long q3), .second, .val (.int p4), .val (.int (0 : Int32)), .val (.int (0 : Int32)), .val (.int ((p4 &&& (2147483647 : Int32)) % (3 : Int32))), .val (.ref w_UNAVAILABLE), .unset, .unset] [(.int (0 : Int32)), (.ref w_UNAVAILABLE), (.long q3), (.long q2), (.long q1), (.int (0 : Int32)), (.ref b33), (.ref b33)])) _
            refine st46.trans ?_
            show Steps p.tables e below (T46.setTop (mkF m 59 #[.val (.int p0), .val (.long q1), .second, .val (.long q2), .second, .val (.long q3), .second, .val (.int p4), .val (.int (0 : Int32)), .val (.int (0 : Int32)), .val (.int ((p4 &&& (2147483647 : Int32)) % (3 : Int32))), .val (.ref w_UNAVAILABLE), .unset, .unset] [(.ref b33)])) _
            refine XS.astore X46.here hx rfl (hb hby at_59) rfl rfl (l' := #[.val (.int p0), .val (.long q1), .second, .val (.long q2), .second, .val (.long q3), .second, .val (.int p4), .val (.int (0 : Int32)), .val (.int (0 : Int32)), .val (.int ((p4 &&& (2147483647 : Int32)) % (3 : Int32))), .val (.ref w_UNAVAILABLE), .val (.ref b33), .unset]) rfl ?_
            show Steps p.tables e below (T46.setTop (mkF m 61 #[.val (.int p0), .val (.long q1), .second, .val (.long q2), .second, .val (.long q3), .second, .val (.int p4), .val (.int (0 : Int32)), .val (.int (0 : Int32)), .val (.int ((p4 &&& (2147483647 : Int32)) % (3 : Int32))), .val (.ref w_UNAVAILABLE), .val (.ref b33), .unset] [])) _
            refine XS.iload X46.here hx rfl (hb hby at_61) rfl ?_
            show Steps p.tables e below (T46.setTop (mkF m 63 #[.val (.int p0), .val (.long q1), .second, .val (.long q2), .second, .val (.long q3), .second, .val (.int p4), .val (.int (0 : Int32)), .val (.int (0 : Int32)), .val (.int ((p4 &&& (2147483647 : Int32)) % (3 : Int32))), .val (.ref w_UNAVAILABLE), .val (.ref b33), .unset] [(.int ((p4 &&& (2147483647 : Int32)) % (3 : Int32)))])) _
            refine XS.ifYes X46.here hx rfl (pc0 := 63) (pc' := 72) rfl (hb hby at_63) rfl ((if0 _ _).trans (feq hk).2) (by decide) (by decide) ?_
            show Steps p.tables e below (T46.setTop (mkF m 72 #[.val (.int p0), .val (.long q1), .second, .val (.long q2), .second, .val (.long q3), .second, .val (.int p4), .val (.int (0 : Int32)), .val (.int (0 : Int32)), .val (.int ((p4 &&& (2147483647 : Int32)) % (3 : Int32))), .val (.ref w_UNAVAILABLE), .val (.ref b33), .unset] [])) _
            refine XS.iconst X46.here hx rfl (hb hby at_72) ?_
            show Steps p.tables e below (T46.setTop (mkF m 73 #[.val (.int p0), .val (.long q1), .second, .val (.long q2), .second, .val (.long q3), .second, .val (.int p4), .val (.int (0 : Int32)), .val (.int (0 : Int32)), .val (.int ((p4 &&& (2147483647 : Int32)) % (3 : Int32))), .val (.ref w_UNAVAILABLE), .val (.ref b33), .unset] [(.int (1 : Int32))])) _
            refine XS.istore X46.here hx rfl (hb hby at_73) rfl (l' := #[.val (.int p0), .val (.long q1), .second, .val (.long q2), .second, .val (.long q3), .second, .val (.int p4), .val (.int (0 : Int32)), .val (.int (0 : Int32)), .val (.int ((p4 &&& (2147483647 : Int32)) % (3 : Int32))), .val (.ref w_UNAVAILABLE), .val (.ref b33), .val (.int (1 : Int32))]) rfl ?_
            show Steps p.tables e below (T46.setTop (mkF m 75 #[.val (.int p0), .val (.long q1), .second, .val (.long q2), .second, .val (.long q3), .second, .val (.int p4), .val (.int (0 : Int32)), .val (.int (0 : Int32)), .val (.int ((p4 &&& (2147483647 : Int32)) % (3 : Int32))), .val (.ref w_UNAVAILABLE), .val (.ref b33), .val (.int (1 : Int32))] [])) _
            refine XS.aload X46.here hx rfl (hb hby at_75) rfl rfl ?_
            show Steps p.tables e below (T46.setTop (mkF m 77 #[.val (.int p0), .val (.long q1), .second, .val (.long q2), .second, .val (.long q3), .second, .val (.int p4), .val (.int (0 : Int32)), .val (.int (0 : Int32)), .val (.int ((p4 &&& (2147483647 : Int32)) % (3 : Int32))), .val (.ref w_UNAVAILABLE), .val (.ref b33), .val (.int (1 : Int32))] [(.ref b33)])) _
            refine st60.trans ?_
            show Steps p.tables e below (T60.setTop (mkF m 80 #[.val (.int p0), .val (.long q1), .second, .val (.long q2), .second, .val (.long q3), .second, .val (.int p4), .val (.int (0 : Int32)), .val (.int (0 : Int32)), .val (.int ((p4 &&& (2147483647 : Int32)) % (3 : Int32))), .val (.ref w_UNAVAILABLE), .val (.ref b33), .val (.int (1 : Int32))] [(.int (F5 w_UNAVAILABLE w_NONE))])) _
            refine XS.iload X60.here hx rfl (hb hby at_80) rfl ?_
            show Steps p.tables e below (T60.setTop (mkF m 82 #[.val (.int p0), .val (.long q1), .second, .val (.long q2), .second, .val (.long q3), .second, .val (.int p4), .val (.int (0 : Int32)), .val (.int (0 : Int32)), .val (.int ((p4 &&& (2147483647 : Int32)) % (3 : Int32))), .val (.ref w_UNAVAILABLE), .val (.ref b33), .val (.int (1 : Int32))] [(.int (1 : Int32)), (.int (F5 w_UNAVAILABLE w_NONE))])) _
            refine XS.icmpNo X60.here hx rfl (hb hby at_82) rfl (teq hc82).2 ?_
            show Steps p.tables e below (T60.setTop (mkF m 85 #[.val (.int p0), .val (.long q1), .second, .val (.long q2), .second, .val (.long q3), .second, .val (.int p4), .val (.int (0 : Int32)), .val (.int (0 : Int32)), .val (.int ((p4 &&& (2147483647 : Int32)) % (3 : Int32))), .val (.ref w_UNAVAILABLE), .val (.ref b33), .val (.int (1 : Int32))] [])) _
            refine XS.iconst X60.here hx rfl (hb hby at_85) ?_
            show Steps p.tables e below (T60.setTop (mkF m 86 #[.val (.int p0), .val (.long q1), .second, .val (.long q2), .second, .val (.long q3), .second, .val (.int p4), .val (.int (0 : Int32)), .val (.int (0 : Int32)), .val (.int ((p4 &&& (2147483647 : Int32)) % (3 : Int32))), .val (.ref w_UNAVAILABLE), .val (.ref b33), .val (.int (1 : Int32))] [(.int (1 : Int32))])) _
            refine XS.goto X60.here hx rfl (pc0 := 86) (pc' := 90) rfl (hb hby at_86) (by decide) (by decide) ?_
            show Steps p.tables e below (T60.setTop (mkF m 90 #[.val (.int p0), .val (.long q1), .second, .val (.long q2), .second, .val (.long q3), .second, .val (.int p4), .val (.int (0 : Int32)), .val (.int (0 : Int32)), .val (.int ((p4 &&& (2147483647 : Int32)) % (3 : Int32))), .val (.ref w_UNAVAILABLE), .val (.ref b33), .val (.int (1 : Int32))] [(.int (1 : Int32))])) _
            exact retN X60 hx (t := .boolean) Bd.returns (by simp) (hb hby at_90) hr
          · show Q0 Z p0 q1 q2 q3 p4 w_NONE w_UNAVAILABLE w_TIMEOUT h0 n0 _ T60.heap _
            rw [e60]
            exact ⟨rfl, N60⟩
        · rw [show (F1 ((p4 &&& (2147483647 : Int32)) % (3 : Int32)) w_NONE w_UNAVAILABLE w_TIMEOUT) = w_TIMEOUT from by rw [F1, if_neg hk, if_neg hk_2]] at pre4
          obtain ⟨T61, h61, X61, e61, E61, A61, D61, -, st61⟩ := newO X3 hx hZ hown (hw _ (List.mem_of_getElem? (i := 8) rfl)) (hw _ (List.mem_of_getElem? (i := 9) rfl)) (hw _ (List.mem_of_getElem? (i := 10) rfl)) e3 (g := (mkF m 42 #[.val (.int p0), .val (.long q1), .second, .val (.long q2), .second, .val (.long q3), .second, .val (.int p4), .val (.int (0 : Int32)), .val (.int (0 : Int32)), .val (.int ((p4 &&& (2147483647 : Int32)) % (3 : Int32))), .val (.ref w_TIMEOUT), .unset, .unset] [])) rfl (hb hby at_42) (by decide) (by decide)
          obtain ⟨b61, g61⟩ : ∃ z, z = h0.size := ⟨_, rfl⟩
          rw [← g61] at A61 D61 st61
          have ne_w_NONE_b61 : w_NONE ≠ b61 := Nat.ne_of_lt (Nat.lt_of_lt_of_le E_NONE.lt (Nat.le_of_eq g61.symm))
          have ne_w_UNAVAILABLE_b61 : w_UNAVAILABLE ≠ b61 := Nat.ne_of_lt (Nat.lt_of_lt_of_le E_UNAVAILABLE.lt (Nat.le_of_eq g61.symm))
          have ne_w_TIMEOUT_b61 : w_TIMEOUT ≠ b61 := Nat.ne_of_lt (Nat.lt_of_lt_of_le E_TIMEOUT.lt (Nat.le_of_eq g61.symm))
          have sS62 := S_NONE.ext E61
          have eE63 := E_NONE.ext E61
          have sS64 := S_UNAVAILABLE.ext E61
          have eE65 := E_UNAVAILABLE.ext E61
          have sS66 := S_TIMEOUT.ext E61
          have eE67 := E_TIMEOUT.ext E61
          have g_b61 : n0 ≤ b61 := Nat.le_trans Z0 (Nat.le_of_eq g61.symm)
          have Z61 := Nat.le_trans Z0 E61.1
          have fF68 : Fld Z h61 b61 "com/example/sluis/sluis/model/Decision" "admitted" "Z" (.int (0 : Int32)) := D61 (Or.inr (hw _ (List.mem_of_getElem? (i := 23) rfl))) (ty := .boolean) (by decide)
          have fF69 : Fld Z h61 b61 "com/example/sluis/sluis/model/Decision" "remaining" "J" (.long (0 : Int64)) := D61 (Or.inr (hw _ (List.mem_of_getElem? (i := 25) rfl))) (ty := .long) (by decide)
          have fF70 : Fld Z h61 b61 "com/example/sluis/sluis/model/Decision" "retryAfterMillis" "J" (.long (0 : Int64)) := D61 (Or.inr (hw _ (List.mem_of_getElem? (i := 27) rfl))) (ty := .long) (by decide)
          have fF71 : Fld Z h61 b61 "com/example/sluis/sluis/model/Decision" "waitMillis" "J" (.long (0 : Int64)) := D61 (Or.inr (hw _ (List.mem_of_getElem? (i := 29) rfl))) (ty := .long) (by decide)
          have fF72 : Fld Z h61 b61 "com/example/sluis/sluis/model/Decision" "degradation" "Lcom/example/sluis/sluis/model/Degradation;" .null := D61 (Or.inr (hw _ (List.mem_of_getElem? (i := 31) rfl))) (ty := (.object "com/example/sluis/sluis/model/Degradation")) (by decide)
          have fF73 : Fld Z h61 b61 "com/example/sluis/sluis/model/Decision" "banned" "Z" (.int (0 : Int32)) := D61 (Or.inr (hw _ (List.mem_of_getElem? (i := 33) rfl))) (ty := .boolean) (by decide)
          obtain ⟨_, _, ⟨T74, L74, k74, n74⟩, -, X74, ⟨Lc74, hQ74, l74, y74, z74⟩, st74⟩ := X61.specialBack hx (y := (⟨"com/example/sluis/sluis/model/Decision", "<init>", "(ZJJJLcom/example/sluis/sluis/model/Degradation;Z)V"⟩ : MethodName)) rfl hown (mvT hZ (hw _ (List.mem_of_getElem? (i := 11) rfl))) (mvT hZ (hw _ (List.mem_of_getElem? (i := 12) rfl))) (mvT hZ (hw _ (List.mem_of_getElem? (i := 13) rfl))) (by decide) (backOf (W := 1) (rm2 l Z a0 hw [] b61 (0 : Int32) q1 q2 q3 w_TIMEOUT (0 : Int32) (.int (0 : Int32)) (.long (0 : Int64)) (.long (0 : Int64)) (.long (0 : Int64)) .null (.int (0 : Int32)) h61 n0 Z61 fF68 fF69 fF70 fF71 fF72 fF73 A61 g_b61) hZ (hw _ (List.mem_of_getElem? (i := 13) rfl)) (hw _ (List.mem_of_getElem? (i := 10) rfl)) (by decide) (by decide)) (g := (mkF m 56 #[.val (.int p0), .val (.long q1), .second, .val (.long q2), .second, .val (.long q3), .second, .val (.int p4), .val (.int (0 : Int32)), .val (.int (0 : Int32)), .val (.int ((p4 &&& (2147483647 : Int32)) % (3 : Int32))), .val (.ref w_TIMEOUT), .unset, .unset] [(.int (0 : Int32)), (.ref w_TIMEOUT), (.long q3), (.long q2), (.long q1), (.int (0 : Int32)), (.ref b61), (.ref b61)])) rfl (by rw [hml]; rfl) (Steps.refl _) (a := b61) (argsL := [(.int (0 : Int32)), (.long q1), (.long q2), (.long q3), (.ref w_TIMEOUT), (.int (0 : Int32))]) (rest := [(.ref b61)]) (lenOf pd_2 rfl) rfl (by show 2 * 0 + _ ≤ _; exact Nat.le_of_eq rfl) (hb hby at_56) (fun _ _ => ⟨rfl, e61, (by decide : 1 + 0 ≤ _), (by decide : 6 + 0 ≤ _)⟩)
          dsimp only [Pt.U, Pt.locs, Pt.cells, Pt.slots] at X74 l74 y74 z74 st74 hQ74
          subst l74 y74 z74
          obtain ⟨rfl, N74q, K74, G75, G76, G77, G78, G79, G80, G81⟩ := hQ74
          have sS82 := own_sta sS62 K74 A61
          have eE83 := eE63.keep K74
          have sS84 := own_sta sS64 K74 A61
          have eE85 := eE65.keep K74
          have sS86 := own_sta sS66 K74 A61
          have eE87 := eE67.keep K74
          have Z74 := Nat.le_trans Z61 K74.1
          have N74 := Fr.app N3 N74q
          obtain ⟨cq88, kq88, q88a, q88b, q88c⟩ := isOf hZ rfl G75
          obtain ⟨_, _, ⟨T88, L88, k88, n88⟩, -, X88, ⟨Lc88, hQ88, l88, y88, z88⟩, st88⟩ := X74.virtualBack hx (y := (⟨"com/example/sluis/sluis/model/Decision", "degraded", "()Z"⟩ : MethodName)) (z := (⟨"com/example/sluis/sluis/model/Decision", "degraded", "()Z"⟩ : MethodName)) hown (mvT hZ (hw _ (List.mem_of_getElem? (i := 34) rfl))) (mvT hZ (hw _ (List.mem_of_getElem? (i := 35) rfl))) (notFace_of_selects (args := #[]) (mvT hZ (hw _ (List.mem_of_getElem? (i := 37) rfl)))) (mvT hZ (hw _ (List.mem_of_getElem? (i := 37) rfl))) (mvT hZ (hw _ (List.mem_of_getElem? (i := 36) rfl))) (by decide) (backOf (W := 0) (rm5 l Z a0 hw [] b61 w_TIMEOUT w_NONE T74.heap n0 Z74 G80 sS82) hZ (hw _ (List.mem_of_getElem? (i := 38) rfl)) (hw _ (List.mem_of_getElem? (i := 10) rfl)) (by decide) (by decide)) q88a q88c (g := (mkF m 77 #[.val (.int p0), .val (.long q1), .second, .val (.long q2), .second, .val (.long q3), .second, .val (.int p4), .val (.int (0 : Int32)), .val (.int (0 : Int32)), .val (.int ((p4 &&& (2147483647 : Int32)) % (3 : Int32))), .val (.ref w_TIMEOUT), .val (.ref b61), .val (.int (1 : Int32))] [(.ref b61)])) rfl (by rw [hml]; rfl) (Steps.refl _) (argsL := []) (rest := []) (lenOf pd_3 rfl) rfl (by show 2 * 0 + _ ≤ _; exact Nat.le_of_eq rfl) (hb hby at_77) (fun _ _ => ⟨rfl, rfl, (by decide : 1 + 0 ≤ _), (by decide : 6 + 0 ≤ _)⟩)
          dsimp only [Pt.U, Pt.locs, Pt.cells, Pt.slots] at X88 l88 y88 z88 st88 hQ88
          subst l88 y88 z88
          obtain ⟨rfl, N88q, e88⟩ := hQ88
          have N88 := Fr.app N74 N88q
          have hc82 : (F5 w_TIMEOUT w_NONE) = (1 : Int32) := by rw [F5, if_neg ne_TIMEOUT_NONE]
          obtain ⟨fs, hr, hrun, hended, hW, hsame⟩ := X88.leave (v := some (.int (1 : Int32))) (fun h => by rw [Bd.returns] at h; cases h) (BodyLoose.notSynchronized Bd)
          refine ⟨_, _, pre4 _ ?_, hrun, hended, _, _, rfl, ?_, ⟨_, rfl⟩, hW, hsame.mono (by decide) (by decide)⟩
          · show Steps p.tables e below (T3.setTop (mkF m 40 #[.val (.int p0), .val (.long q1), .second, .val (.long q2), .second, .val (.long q3), .second, .val (.int p4), .val (.int (0 : Int32)), .val (.int (0 : Int32)), .val (.int ((p4 &&& (2147483647 : Int32)) % (3 : Int32))), .unset, .unset, .unset] [(.ref w_TIMEOUT)])) _
            refine XS.astore X3.here hx rfl (hb hby at_40) rfl rfl (l' := #[.val (.int p0), .val (.long q1), .second, .val (.long q2), .second, .val (.long q3), .second, .val (.int p4), .val (.int (0 : Int32)), .val (.int (0 : Int32)), .val (.int ((p4 &&& (2147483647 : Int32)) % (3 : Int32))), .val (.ref w_TIMEOUT), .unset, .unset]) rfl ?_
            show Steps p.tables e below (T3.setTop (mkF m 42 #[.val (.int p0), .val (.long q1), .second, .val (.long q2), .second, .val (.long q3), .second, .val (.int p4), .val (.int (0 : Int32)), .val (.int (0 : Int32)), .val (.int ((p4 &&& (2147483647 : Int32)) % (3 : Int32))), .val (.ref w_TIMEOUT), .unset, .unset] [])) _
            refine st61 _ ?_
            show Steps p.tables e below (T61.setTop (mkF m 45 #[.val (.int p0), .val (.long q1), .second, .val (.long q2), .second, .val (.long q3), .second, .val (.int p4), .val (.int (0 : Int32)), .val (.int (0 : Int32)), .val (.int ((p4 &&& (2147483647 : Int32)) % (3 : Int32))), .val (.ref w_TIMEOUT), .unset, .unset] [(.ref b61)])) _
            refine XS.dup X61.here hx rfl (hb hby at_45) rfl rfl ?_
            show Steps p.tables e below (T61.setTop (mkF m 46 #[.val (.int p0), .val (.long q1), .second, .val (.long q2), .second, .val (.long q3), .second, .val (.int p4), .val (.int (0 : Int32)), .val (.int (0 : Int32)), .val (.int ((p4 &&& (2147483647 : Int32)) % (3 : Int32))), .val (.ref w_TIMEOUT), .unset, .unset] [(.ref b61), (.ref b61)])) _
            refine XS.iload X61.here hx rfl (hb hby at_46) rfl ?_
            show Steps p.tables e below (T61.setTop (mkF m 48 #[.val (.int p0), .val (.long q1), .second, .val (.long q2), .second, .val (.long q3), .second, .val (.int p4), .val (.int (0 : Int32)), .val (.int (0 : Int32)), .val (.int ((p4 &&& (2147483647 : Int32)) % (3 : Int32))), .val (.ref w_TIMEOUT), .unset, .unset] [(.int (0 : Int32)), (.ref b61), (.ref b61)])) _
            refine XS.lloadN X61.here hx rfl (hb hby at_48) rfl ?_
            show Steps p.tables e below (T61.setTop (mkF m 49 #[.val (.int p0), .val (.long q1), .second, .val (.long q2), .second, .val (.long q3), .second, .val (.int p4), .val (.int (0 : Int32)), .val (.int (0 : Int32)), .val (.int ((p4 &&& (2147483647 : Int32)) % (3 : Int32))), .val (.ref w_TIMEOUT), .unset, .unset] [(.long q1), (.int (0 : Int32)), (.ref b61), (.ref b61)])) _
            refine XS.lloadN X61.here hx rfl (hb hby at_49) rfl ?_
            show Steps p.tables e below (T61.setTop (mkF m 50 #[.val (.int p0), .val (.long q1), .second, .val (.long q2), .second, .val (.long q3), .second, .val (.int p4), .val (.int (0 : Int32)), .val (.int (0 : Int32)), .val (.int ((p4 &&& (2147483647 : Int32)) % (3 : Int32))), .val (.ref w_TIMEOUT), .unset, .unset] [(.long q2), (.long q1), (.int (0 : Int32)), (.ref b61), (.ref b61)])) _
            refine XS.lload X61.here hx rfl (hb hby at_50) rfl ?_
            show Steps p.tables e below (T61.setTop (mkF m 52 #[.val (.int p0), .val (.long q1), .second, .val (.long q2), .second, .val (.long q3), .second, .val (.int p4), .val (.int (0 : Int32)), .val (.int (0 : Int32)), .val (.int ((p4 &&& (2147483647 : Int32)) % (3 : Int32))), .val (.ref w_TIMEOUT), .unset, .unset] [(.long q3), (.long q2), (.long q1), (.int (0 : Int32)), (.ref b61), (.ref b61)])) _
            refine XS.aload X61.here hx rfl (hb hby at_52) rfl rfl ?_
            show Steps p.tables e below (T61.setTop (mkF m 54 #[.val (.int p0), .val (.long q1), .second, .val (.long q2), .second, .val (.long q3), .second, .val (.int p4), .val (.int (0 : Int32)), .val (.int (0 : Int32)), .val (.int ((p4 &&& (2147483647 : Int32)) % (3 : Int32))), .val (.ref w_TIMEOUT), .unset, .unset] [(.ref w_TIMEOUT), (.long q3), (.long q2), (.long q1), (.int (0 : Int32)), (.ref b61), (.ref b61)])) _
            refine XS.iload X61.here hx rfl (hb hby at_54) rfl ?_
            show Steps p.tables e below (T61.setTop (mkF m 56 #[.val (.int p0), .val (.long q1), .second, .val (.long q2), .second, .val (.long q3), .second, .val (.int p4), .val (.int (0 : Int32)), .val (.int (0 : Int32)), .val (.int ((p4 &&& (2147483647 : Int32)) % (3 : Int32))), .val (.ref w_TIMEOUT), .unset, .unset] [(.int (0 : Int32)), (.ref w_TIMEOUT), (.long q3), (.long q2), (.long q1), (.int (0 : Int32)), (.ref b61), (.ref b61)])) _
            refine st74.trans ?_
            show Steps p.tables e below (T74.setTop (mkF m 59 #[.val (.int p0), .val (.long q1), .second, .val (.long q2), .second, .val (.long q3), .second, .val (.int p4), .val (.int (0 : Int32)), .val (.int (0 : Int32)), .val (.int ((p4 &&& (2147483647 : Int32)) % (3 : Int32))), .val (.ref w_TIMEOUT), .unset, .unset] [(.ref b61)])) _
            refine XS.astore X74.here hx rfl (hb hby at_59) rfl rfl (l' := #[.val (.int p0), .val (.long q1), .second, .val (.long q2), .second, .val (.long q3), .second, .val (.int p4), .val (.int (0 : Int32)), .val (.int (0 : Int32)), .val (.int ((p4 &&& (2147483647 : Int32)) % (3 : Int32))), .val (.ref w_TIMEOUT), .val (.ref b61), .unset]) rfl ?_
            show Steps p.tables e below (T74.setTop (mkF m 61 #[.val (.int p0), .val (.long q1), .second, .val (.long q2), .second, .val (.long q3), .second, .val (.int p4), .val (.int (0 : Int32)), .val (.int (0 : Int32)), .val (.int ((p4 &&& (2147483647 : Int32)) % (3 : Int32))), .val (.ref w_TIMEOUT), .val (.ref b61), .unset] [])) _
            refine XS.iload X74.here hx rfl (hb hby at_61) rfl ?_
            show Steps p.tables e below (T74.setTop (mkF m 63 #[.val (.int p0), .val (.long q1), .second, .val (.long q2), .second, .val (.long q3), .second, .val (.int p4), .val (.int (0 : Int32)), .val (.int (0 : Int32)), .val (.int ((p4 &&& (2147483647 : Int32)) % (3 : Int32))), .val (.ref w_TIMEOUT), .val (.ref b61), .unset] [(.int ((p4 &&& (2147483647 : Int32)) % (3 : Int32)))])) _
            refine XS.ifYes X74.here hx rfl (pc0 := 63) (pc' := 72) rfl (hb hby at_63) rfl ((if0 _ _).trans (feq hk).2) (by decide) (by decide) ?_
            show Steps p.tables e below (T74.setTop (mkF m 72 #[.val (.int p0), .val (.long q1), .second, .val (.long q2), .second, .val (.long q3), .second, .val (.int p4), .val (.int (0 : Int32)), .val (.int (0 : Int32)), .val (.int ((p4 &&& (2147483647 : Int32)) % (3 : Int32))), .val (.ref w_TIMEOUT), .val (.ref b61), .unset] [])) _
            refine XS.iconst X74.here hx rfl (hb hby at_72) ?_
            show Steps p.tables e below (T74.setTop (mkF m 73 #[.val (.int p0), .val (.long q1), .second, .val (.long q2), .second, .val (.long q3), .second, .val (.int p4), .val (.int (0 : Int32)), .val (.int (0 : Int32)), .val (.int ((p4 &&& (2147483647 : Int32)) % (3 : Int32))), .val (.ref w_TIMEOUT), .val (.ref b61), .unset] [(.int (1 : Int32))])) _
            refine XS.istore X74.here hx rfl (hb hby at_73) rfl (l' := #[.val (.int p0), .val (.long q1), .second, .val (.long q2), .second, .val (.long q3), .second, .val (.int p4), .val (.int (0 : Int32)), .val (.int (0 : Int32)), .val (.int ((p4 &&& (2147483647 : Int32)) % (3 : Int32))), .val (.ref w_TIMEOUT), .val (.ref b61), .val (.int (1 : Int32))]) rfl ?_
            show Steps p.tables e below (T74.setTop (mkF m 75 #[.val (.int p0), .val (.long q1), .second, .val (.long q2), .second, .val (.long q3), .second, .val (.int p4), .val (.int (0 : Int32)), .val (.int (0 : Int32)), .val (.int ((p4 &&& (2147483647 : Int32)) % (3 : Int32))), .val (.ref w_TIMEOUT), .val (.ref b61), .val (.int (1 : Int32))] [])) _
            refine XS.aload X74.here hx rfl (hb hby at_75) rfl rfl ?_
            show Steps p.tables e below (T74.setTop (mkF m 77 #[.val (.int p0), .val (.long q1), .second, .val (.long q2), .second, .val (.long q3), .second, .val (.int p4), .val (.int (0 : Int32)), .val (.int (0 : Int32)), .val (.int ((p4 &&& (2147483647 : Int32)) % (3 : Int32))), .val (.ref w_TIMEOUT), .val (.ref b61), .val (.int (1 : Int32))] [(.ref b61)])) _
            refine st88.trans ?_
            show Steps p.tables e below (T88.setTop (mkF m 80 #[.val (.int p0), .val (.long q1), .second, .val (.long q2), .second, .val (.long q3), .second, .val (.int p4), .val (.int (0 : Int32)), .val (.int (0 : Int32)), .val (.int ((p4 &&& (2147483647 : Int32)) % (3 : Int32))), .val (.ref w_TIMEOUT), .val (.ref b61), .val (.int (1 : Int32))] [(.int (F5 w_TIMEOUT w_NONE))])) _
            refine XS.iload X88.here hx rfl (hb hby at_80) rfl ?_
            show Steps p.tables e below (T88.setTop (mkF m 82 #[.val (.int p0), .val (.long q1), .second, .val (.long q2), .second, .val (.long q3), .second, .val (.int p4), .val (.int (0 : Int32)), .val (.int (0 : Int32)), .val (.int ((p4 &&& (2147483647 : Int32)) % (3 : Int32))), .val (.ref w_TIMEOUT), .val (.ref b61), .val (.int (1 : Int32))] [(.int (1 : Int32)), (.int (F5 w_TIMEOUT w_NONE))])) _
            refine XS.icmpNo X88.here hx rfl (hb hby at_82) rfl (teq hc82).2 ?_
            show Steps p.tables e below (T88.setTop (mkF m 85 #[.val (.int p0), .val (.long q1), .second, .val (.long q2), .second, .val (.long q3), .second, .val (.int p4), .val (.int (0 : Int32)), .val (.int (0 : Int32)), .val (.int ((p4 &&& (2147483647 : Int32)) % (3 : Int32))), .val (.ref w_TIMEOUT), .val (.ref b61), .val (.int (1 : Int32))] [])) _
            refine XS.iconst X88.here hx rfl (hb hby at_85) ?_
            show Steps p.tables e below (T88.setTop (mkF m 86 #[.val (.int p0), .val (.long q1), .second, .val (.long q2), .second, .val (.long q3), .second, .val (.int p4), .val (.int (0 : Int32)), .val (.int (0 : Int32)), .val (.int ((p4 &&& (2147483647 : Int32)) % (3 : Int32))), .val (.ref w_TIMEOUT), .val (.ref b61), .val (.int (1 : Int32))] [(.int (1 : Int32))])) _
            refine XS.goto X88.here hx rfl (pc0 := 86) (pc' := 90) rfl (hb hby at_86) (by decide) (by decide) ?_
            show Steps p.tables e below (T88.setTop (mkF m 90 #[.val (.int p0), .val (.long q1), .second, .val (.long q2), .second, .val (.long q3), .second, .val (.int p4), .val (.int (0 : Int32)), .val (.int (0 : Int32)), .val (.int ((p4 &&& (2147483647 : Int32)) % (3 : Int32))), .val (.ref w_TIMEOUT), .val (.ref b61), .val (.int (1 : Int32))] [(.int (1 : Int32))])) _
            exact retN X88 hx (t := .boolean) Bd.returns (by simp) (hb hby at_90) hr
          · show Q0 Z p0 q1 q2 q3 p4 w_NONE w_UNAVAILABLE w_TIMEOUT h0 n0 _ T88.heap _
            rw [e88]
            exact ⟨rfl, N88⟩
    · obtain ⟨_, _, ⟨T89, L89, k89, n89⟩, -, X89, ⟨Lc89, hQ89, l89, y89, z89⟩, st89⟩ := Jvm.LawKit.callS X0 hx (y := (⟨"com/example/sluis/sluis/model/DecisionDegradedPinLaw", "pick", "(I)Lcom/example/sluis/sluis/model/Degradation;"⟩ : MethodName)) hown (mvT hZ (hw _ (List.mem_of_getElem? (i := 1) rfl))) (mvT hZ (hw _ (List.mem_of_getElem? (i := 2) rfl))) (mvT hZ (hw _ (List.mem_of_getElem? (i := 3) rfl))) (mvT hZ (hw _ (List.mem_of_getElem? (i := 4) rfl))) (by decide) (backOf (W := 0) (rm1 l Z a0 hw [] ((p4 &&& (2147483647 : Int32)) % (3 : Int32)) w_NONE w_UNAVAILABLE w_TIMEOUT h0 n0 Z0 S_NONE S_UNAVAILABLE S_TIMEOUT) hZ (hw _ (List.mem_of_getElem? (i := 4) rfl)) (hw _ (List.mem_of_getElem? (i := 3) rfl)) (by decide) (by decide)) (g := (mkF m 37 #[.val (.int p0), .val (.long q1), .second, .val (.long q2), .second, .val (.long q3), .second, .val (.int p4), .val (.int (0 : Int32)), .val (.int (1 : Int32)), .val (.int ((p4 &&& (2147483647 : Int32)) % (3 : Int32))), .unset, .unset, .unset] [(.int ((p4 &&& (2147483647 : Int32)) % (3 : Int32)))])) rfl (by rw [hml]; rfl) (argsL := [(.int ((p4 &&& (2147483647 : Int32)) % (3 : Int32)))]) (rest := []) (lenOf pd_0 rfl) rfl (by show 2 * 0 + _ ≤ _; exact Nat.le_of_eq rfl) (hb hby at_37) (fun _ _ => ⟨rfl, e0, (by decide : 0 + 0 ≤ _), (by decide : 0 + 0 ≤ _)⟩)
      dsimp only [Pt.U, Pt.locs, Pt.cells, Pt.slots] at X89 l89 y89 z89 st89 hQ89
      subst l89 y89 z89
      obtain ⟨rfl, N89q, e89⟩ := hQ89
      have N89 := Fr.app N0 N89q
      have pre90 : ∀ t, Steps p.tables e below (T89.setTop (mkF m 40 #[.val (.int p0), .val (.long q1), .second, .val (.long q2), .second, .val (.long q3), .second, .val (.int p4), .val (.int (0 : Int32)), .val (.int (1 : Int32)), .val (.int ((p4 &&& (2147483647 : Int32)) % (3 : Int32))), .unset, .unset, .unset] [(.ref (F1 ((p4 &&& (2147483647 : Int32)) % (3 : Int32)) w_NONE w_UNAVAILABLE w_TIMEOUT))])) t → Steps p.tables e below (s₁.setTop (entryFrame m #[(.int p0), (.long q1), (.long q2), (.long q3), (.int p4)] maxLocals)) t := fun t k => by
        refine pre2 t ?_
        show Steps p.tables e below (s₁.setTop (mkF m 16 #[.val (.int p0), .val (.long q1), .second, .val (.long q2), .second, .val (.long q3), .second, .val (.int p4), .val (.int (0 : Int32)), .unset, .unset, .unset, .unset, .unset] [(.int (p0 &&& (2 : Int32)))])) _
        refine XS.ifNo X0.here hx rfl (hb hby at_16) rfl ((if0 _ _).trans (feq hc16).1) ?_
        show Steps p.tables e below (s₁.setTop (mkF m 19 #[.val (.int p0), .val (.long q1), .second, .val (.long q2), .second, .val (.long q3), .second, .val (.int p4), .val (.int (0 : Int32)), .unset, .unset, .unset, .unset, .unset] [])) _
        refine XS.iconst X0.here hx rfl (hb hby at_19) ?_
        show Steps p.tables e below (s₁.setTop (mkF m 20 #[.val (.int p0), .val (.long q1), .second, .val (.long q2), .second, .val (.long q3), .second, .val (.int p4), .val (.int (0 : Int32)), .unset, .unset, .unset, .unset, .unset] [(.int (1 : Int32))])) _
        refine XS.goto X0.here hx rfl (pc0 := 20) (pc' := 24) rfl (hb hby at_20) (by decide) (by decide) ?_
        show Steps p.tables e below (s₁.setTop (mkF m 24 #[.val (.int p0), .val (.long q1), .second, .val (.long q2), .second, .val (.long q3), .second, .val (.int p4), .val (.int (0 : Int32)), .unset, .unset, .unset, .unset, .unset] [(.int (1 : Int32))])) _
        refine XS.istore X0.here hx rfl (hb hby at_24) rfl (l' := #[.val (.int p0), .val (.long q1), .second, .val (.long q2), .second, .val (.long q3), .second, .val (.int p4), .val (.int (0 : Int32)), .val (.int (1 : Int32)), .unset, .unset, .unset, .unset]) rfl ?_
        show Steps p.tables e below (s₁.setTop (mkF m 26 #[.val (.int p0), .val (.long q1), .second, .val (.long q2), .second, .val (.long q3), .second, .val (.int p4), .val (.int (0 : Int32)), .val (.int (1 : Int32)), .unset, .unset, .unset, .unset] [])) _
        refine XS.iload X0.here hx rfl (hb hby at_26) rfl ?_
        show Steps p.tables e below (s₁.setTop (mkF m 28 #[.val (.int p0), .val (.long q1), .second, .val (.long q2), .second, .val (.long q3), .second, .val (.int p4), .val (.int (0 : Int32)), .val (.int (1 : Int32)), .unset, .unset, .unset, .unset] [(.int p4)])) _
        refine X0.ldcInt hx hown (mvT hZ (hw _ (List.mem_of_getElem? (i := 0) rfl))) (g := (mkF m 28 #[.val (.int p0), .val (.long q1), .second, .val (.long q2), .second, .val (.long q3), .second, .val (.int p4), .val (.int (0 : Int32)), .val (.int (1 : Int32)), .unset, .unset, .unset, .unset] [(.int p4)])) rfl (hb hby at_28) _ ?_
        show Steps p.tables e below (s₁.setTop (mkF m 30 #[.val (.int p0), .val (.long q1), .second, .val (.long q2), .second, .val (.long q3), .second, .val (.int p4), .val (.int (0 : Int32)), .val (.int (1 : Int32)), .unset, .unset, .unset, .unset] [(.int (2147483647 : Int32)), (.int p4)])) _
        refine XS.iand X0.here hx rfl (hb hby at_30) rfl ?_
        show Steps p.tables e below (s₁.setTop (mkF m 31 #[.val (.int p0), .val (.long q1), .second, .val (.long q2), .second, .val (.long q3), .second, .val (.int p4), .val (.int (0 : Int32)), .val (.int (1 : Int32)), .unset, .unset, .unset, .unset] [(.int (p4 &&& (2147483647 : Int32)))])) _
        refine XS.iconst X0.here hx rfl (hb hby at_31) ?_
        show Steps p.tables e below (s₁.setTop (mkF m 32 #[.val (.int p0), .val (.long q1), .second, .val (.long q2), .second, .val (.long q3), .second, .val (.int p4), .val (.int (0 : Int32)), .val (.int (1 : Int32)), .unset, .unset, .unset, .unset] [(.int (3 : Int32)), (.int (p4 &&& (2147483647 : Int32)))])) _
        refine iremM X0 hx rfl (hb hby at_32) rfl (by decide) ?_
        show Steps p.tables e below (s₁.setTop (mkF m 33 #[.val (.int p0), .val (.long q1), .second, .val (.long q2), .second, .val (.long q3), .second, .val (.int p4), .val (.int (0 : Int32)), .val (.int (1 : Int32)), .unset, .unset, .unset, .unset] [(.int ((p4 &&& (2147483647 : Int32)) % (3 : Int32)))])) _
        refine XS.istore X0.here hx rfl (hb hby at_33) rfl (l' := #[.val (.int p0), .val (.long q1), .second, .val (.long q2), .second, .val (.long q3), .second, .val (.int p4), .val (.int (0 : Int32)), .val (.int (1 : Int32)), .val (.int ((p4 &&& (2147483647 : Int32)) % (3 : Int32))), .unset, .unset, .unset]) rfl ?_
        show Steps p.tables e below (s₁.setTop (mkF m 35 #[.val (.int p0), .val (.long q1), .second, .val (.long q2), .second, .val (.long q3), .second, .val (.int p4), .val (.int (0 : Int32)), .val (.int (1 : Int32)), .val (.int ((p4 &&& (2147483647 : Int32)) % (3 : Int32))), .unset, .unset, .unset] [])) _
        refine XS.iload X0.here hx rfl (hb hby at_35) rfl ?_
        show Steps p.tables e below (s₁.setTop (mkF m 37 #[.val (.int p0), .val (.long q1), .second, .val (.long q2), .second, .val (.long q3), .second, .val (.int p4), .val (.int (0 : Int32)), .val (.int (1 : Int32)), .val (.int ((p4 &&& (2147483647 : Int32)) % (3 : Int32))), .unset, .unset, .unset] [(.int ((p4 &&& (2147483647 : Int32)) % (3 : Int32)))])) _
        refine st89 _ ?_
        exact k
      by_cases hk : ((p4 &&& (2147483647 : Int32)) % (3 : Int32)) = (0 : Int32)
      · rw [show (F1 ((p4 &&& (2147483647 : Int32)) % (3 : Int32)) w_NONE w_UNAVAILABLE w_TIMEOUT) = w_NONE from by rw [F1, if_pos hk]] at pre90
        obtain ⟨T91, h91, X91, e91, E91, A91, D91, -, st91⟩ := newO X89 hx hZ hown (hw _ (List.mem_of_getElem? (i := 8) rfl)) (hw _ (List.mem_of_getElem? (i := 9) rfl)) (hw _ (List.mem_of_getElem? (i := 10) rfl)) e89 (g := (mkF m 42 #[.val (.int p0), .val (.long q1), .second, .val (.long q2), .second, .val (.long q3), .second, .val (.int p4), .val (.int (0 : Int32)), .val (.int (1 : Int32)), .val (.int ((p4 &&& (2147483647 : Int32)) % (3 : Int32))), .val (.ref w_NONE), .unset, .unset] [])) rfl (hb hby at_42) (by decide) (by decide)
        obtain ⟨b91, g91⟩ : ∃ z, z = h0.size := ⟨_, rfl⟩
        rw [← g91] at A91 D91 st91
        have ne_w_NONE_b91 : w_NONE ≠ b91 := Nat.ne_of_lt (Nat.lt_of_lt_of_le E_NONE.lt (Nat.le_of_eq g91.symm))
        have ne_w_UNAVAILABLE_b91 : w_UNAVAILABLE ≠ b91 := Nat.ne_of_lt (Nat.lt_of_lt_of_le E_UNAVAILABLE.lt (Nat.le_of_eq g91.symm))
        have ne_w_TIMEOUT_b91 : w_TIMEOUT ≠ b91 := Nat.ne_of_lt (Nat.lt_of_lt_of_le E_TIMEOUT.lt (Nat.le_of_eq g91.symm))
        have sS92 := S_NONE.ext E91
        have eE93 := E_NONE.ext E91
        have sS94 := S_UNAVAILABLE.ext E91
        have eE95 := E_UNAVAILABLE.ext E91
        have sS96 := S_TIMEOUT.ext E91
        have eE97 := E_TIMEOUT.ext E91
        have g_b91 : n0 ≤ b91 := Nat.le_trans Z0 (Nat.le_of_eq g91.symm)
        have Z91 := Nat.le_trans Z0 E91.1
        have fF98 : Fld Z h91 b91 "com/example/sluis/sluis/model/Decision" "admitted" "Z" (.int (0 : Int32)) := D91 (Or.inr (hw _ (List.mem_of_getElem? (i := 23) rfl))) (ty := .boolean) (by decide)
        have fF99 : Fld Z h91 b91 "com/example/sluis/sluis/model/Decision" "remaining" "J" (.long (0 : Int64)) := D91 (Or.inr (hw _ (List.mem_of_getElem? (i := 25) rfl))) (ty := .long) (by decide)
        have fF100 : Fld Z h91 b91 "com/example/sluis/sluis/model/Decision" "retryAfterMillis" "J" (.long (0 : Int64)) := D91 (Or.inr (hw _ (List.mem_of_getElem? (i := 27) rfl))) (ty := .long) (by decide)
        have fF101 : Fld Z h91 b91 "com/example/sluis/sluis/model/Decision" "waitMillis" "J" (.long (0 : Int64)) := D91 (Or.inr (hw _ (List.mem_of_getElem? (i := 29) rfl))) (ty := .long) (by decide)
        have fF102 : Fld Z h91 b91 "com/example/sluis/sluis/model/Decision" "degradation" "Lcom/example/sluis/sluis/model/Degradation;" .null := D91 (Or.inr (hw _ (List.mem_of_getElem? (i := 31) rfl))) (ty := (.object "com/example/sluis/sluis/model/Degradation")) (by decide)
        have fF103 : Fld Z h91 b91 "com/example/sluis/sluis/model/Decision" "banned" "Z" (.int (0 : Int32)) := D91 (Or.inr (hw _ (List.mem_of_getElem? (i := 33) rfl))) (ty := .boolean) (by decide)
        obtain ⟨_, _, ⟨T104, L104, k104, n104⟩, -, X104, ⟨Lc104, hQ104, l104, y104, z104⟩, st104⟩ := X91.specialBack hx (y := (⟨"com/example/sluis/sluis/model/Decision", "<init>", "(ZJJJLcom/example/sluis/sluis/model/Degradation;Z)V"⟩ : MethodName)) rfl hown (mvT hZ (hw _ (List.mem_of_getElem? (i := 11) rfl))) (mvT hZ (hw _ (List.mem_of_getElem? (i := 12) rfl))) (mvT hZ (hw _ (List.mem_of_getElem? (i := 13) rfl))) (by decide) (backOf (W := 1) (rm2 l Z a0 hw [] b91 (0 : Int32) q1 q2 q3 w_NONE (1 : Int32) (.int (0 : Int32)) (.long (0 : Int64)) (.long (0 : Int64)) (.long (0 : Int64)) .null (.int (0 : Int32)) h91 n0 Z91 fF98 fF99 fF100 fF101 fF102 fF103 A91 g_b91) hZ (hw _ (List.mem_of_getElem? (i := 13) rfl)) (hw _ (List.mem_of_getElem? (i := 10) rfl)) (by decide) (by decide)) (g := (mkF m 56 #[.val (.int p0), .val (.long q1), .second, .val (.long q2), .second, .val (.long q3), .second, .val (.int p4), .val (.int (0 : Int32)), .val (.int (1 : Int32)), .val (.int ((p4 &&& (2147483647 : Int32)) % (3 : Int32))), .val (.ref w_NONE), .unset, .unset] [(.int (1 : Int32)), (.ref w_NONE), (.long q3), (.long q2), (.long q1), (.int (0 : Int32)), (.ref b91), (.ref b91)])) rfl (by rw [hml]; rfl) (Steps.refl _) (a := b91) (argsL := [(.int (0 : Int32)), (.long q1), (.long q2), (.long q3), (.ref w_NONE), (.int (1 : Int32))]) (rest := [(.ref b91)]) (lenOf pd_2 rfl) rfl (by show 2 * 0 + _ ≤ _; exact Nat.le_of_eq rfl) (hb hby at_56) (fun _ _ => ⟨rfl, e91, (by decide : 1 + 0 ≤ _), (by decide : 6 + 0 ≤ _)⟩)
        dsimp only [Pt.U, Pt.locs, Pt.cells, Pt.slots] at X104 l104 y104 z104 st104 hQ104
        subst l104 y104 z104
        obtain ⟨rfl, N104q, K104, G105, G106, G107, G108, G109, G110, G111⟩ := hQ104
        have sS112 := own_sta sS92 K104 A91
        have eE113 := eE93.keep K104
        have sS114 := own_sta sS94 K104 A91
        have eE115 := eE95.keep K104
        have sS116 := own_sta sS96 K104 A91
        have eE117 := eE97.keep K104
        have Z104 := Nat.le_trans Z91 K104.1
        have N104 := Fr.app N89 N104q
        obtain ⟨cq118, kq118, q118a, q118b, q118c⟩ := isOf hZ rfl G105
        obtain ⟨_, _, ⟨T118, L118, k118, n118⟩, -, X118, ⟨Lc118, hQ118, l118, y118, z118⟩, st118⟩ := X104.virtualBack hx (y := (⟨"com/example/sluis/sluis/model/Decision", "degraded", "()Z"⟩ : MethodName)) (z := (⟨"com/example/sluis/sluis/model/Decision", "degraded", "()Z"⟩ : MethodName)) hown (mvT hZ (hw _ (List.mem_of_getElem? (i := 34) rfl))) (mvT hZ (hw _ (List.mem_of_getElem? (i := 35) rfl))) (notFace_of_selects (args := #[]) (mvT hZ (hw _ (List.mem_of_getElem? (i := 37) rfl)))) (mvT hZ (hw _ (List.mem_of_getElem? (i := 37) rfl))) (mvT hZ (hw _ (List.mem_of_getElem? (i := 36) rfl))) (by decide) (backOf (W := 0) (rm5 l Z a0 hw [] b91 w_NONE w_NONE T104.heap n0 Z104 G110 sS112) hZ (hw _ (List.mem_of_getElem? (i := 38) rfl)) (hw _ (List.mem_of_getElem? (i := 10) rfl)) (by decide) (by decide)) q118a q118c (g := (mkF m 77 #[.val (.int p0), .val (.long q1), .second, .val (.long q2), .second, .val (.long q3), .second, .val (.int p4), .val (.int (0 : Int32)), .val (.int (1 : Int32)), .val (.int ((p4 &&& (2147483647 : Int32)) % (3 : Int32))), .val (.ref w_NONE), .val (.ref b91), .val (.int (0 : Int32))] [(.ref b91)])) rfl (by rw [hml]; rfl) (Steps.refl _) (argsL := []) (rest := []) (lenOf pd_3 rfl) rfl (by show 2 * 0 + _ ≤ _; exact Nat.le_of_eq rfl) (hb hby at_77) (fun _ _ => ⟨rfl, rfl, (by decide : 1 + 0 ≤ _), (by decide : 6 + 0 ≤ _)⟩)
        dsimp only [Pt.U, Pt.locs, Pt.cells, Pt.slots] at X118 l118 y118 z118 st118 hQ118
        subst l118 y118 z118
        obtain ⟨rfl, N118q, e118⟩ := hQ118
        have N118 := Fr.app N104 N118q
        have hc82 : (F5 w_NONE w_NONE) = (0 : Int32) := by rw [F5, if_pos rfl]
        obtain ⟨fs, hr, hrun, hended, hW, hsame⟩ := X118.leave (v := some (.int (1 : Int32))) (fun h => by rw [Bd.returns] at h; cases h) (BodyLoose.notSynchronized Bd)
        refine ⟨_, _, pre90 _ ?_, hrun, hended, _, _, rfl, ?_, ⟨_, rfl⟩, hW, hsame.mono (by decide) (by decide)⟩
        · show Steps p.tables e below (T89.setTop (mkF m 40 #[.val (.int p0), .val (.long q1), .second, .val (.long q2), .second, .val (.long q3), .second, .val (.int p4), .val (.int (0 : Int32)), .val (.int (1 : Int32)), .val (.int ((p4 &&& (2147483647 : Int32)) % (3 : Int32))), .unset, .unset, .unset] [(.ref w_NONE)])) _
          refine XS.astore X89.here hx rfl (hb hby at_40) rfl rfl (l' := #[.val (.int p0), .val (.long q1), .second, .val (.long q2), .second, .val (.long q3), .second, .val (.int p4), .val (.int (0 : Int32)), .val (.int (1 : Int32)), .val (.int ((p4 &&& (2147483647 : Int32)) % (3 : Int32))), .val (.ref w_NONE), .unset, .unset]) rfl ?_
          show Steps p.tables e below (T89.setTop (mkF m 42 #[.val (.int p0), .val (.long q1), .second, .val (.long q2), .second, .val (.long q3), .second, .val (.int p4), .val (.int (0 : Int32)), .val (.int (1 : Int32)), .val (.int ((p4 &&& (2147483647 : Int32)) % (3 : Int32))), .val (.ref w_NONE), .unset, .unset] [])) _
          refine st91 _ ?_
          show Steps p.tables e below (T91.setTop (mkF m 45 #[.val (.int p0), .val (.long q1), .second, .val (.long q2), .second, .val (.long q3), .second, .val (.int p4), .val (.int (0 : Int32)), .val (.int (1 : Int32)), .val (.int ((p4 &&& (2147483647 : Int32)) % (3 : Int32))), .val (.ref w_NONE), .unset, .unset] [(.ref b91)])) _
          refine XS.dup X91.here hx rfl (hb hby at_45) rfl rfl ?_
          show Steps p.tables e below (T91.setTop (mkF m 46 #[.val (.int p0), .val (.long q1), .second, .val (.long q2), .second, .val (.long q3), .second, .val (.int p4), .val (.int (0 : Int32)), .val (.int (1 : Int32)), .val (.int ((p4 &&& (2147483647 : Int32)) % (3 : Int32))), .val (.ref w_NONE), .unset, .unset] [(.ref b91), (.ref b91)])) _
          refine XS.iload X91.here hx rfl (hb hby at_46) rfl ?_
          show Steps p.tables e below (T91.setTop (mkF m 48 #[.val (.int p0), .val (.long q1), .second, .val (.long q2), .second, .val (.long q3), .second, .val (.int p4), .val (.int (0 : Int32)), .val (.int (1 : Int32)), .val (.int ((p4 &&& (2147483647 : Int32)) % (3 : Int32))), .val (.ref w_NONE), .unset, .unset] [(.int (0 : Int32)), (.ref b91), (.ref b91)])) _
          refine XS.lloadN X91.here hx rfl (hb hby at_48) rfl ?_
          show Steps p.tables e below (T91.setTop (mkF m 49 #[.val (.int p0), .val (.long q1), .second, .val (.long q2), .second, .val (.long q3), .second, .val (.int p4), .val (.int (0 : Int32)), .val (.int (1 : Int32)), .val (.int ((p4 &&& (2147483647 : Int32)) % (3 : Int32))), .val (.ref w_NONE), .unset, .unset] [(.long q1), (.int (0 : Int32)), (.ref b91), (.ref b91)])) _
          refine XS.lloadN X91.here hx rfl (hb hby at_49) rfl ?_
          show Steps p.tables e below (T91.setTop (mkF m 50 #[.val (.int p0), .val (.long q1), .second, .val (.long q2), .second, .val (.long q3), .second, .val (.int p4), .val (.int (0 : Int32)), .val (.int (1 : Int32)), .val (.int ((p4 &&& (2147483647 : Int32)) % (3 : Int32))), .val (.ref w_NONE), .unset, .unset] [(.long q2), (.long q1), (.int (0 : Int32)), (.ref b91), (.ref b91)])) _
          refine XS.lload X91.here hx rfl (hb hby at_50) rfl ?_
          show Steps p.tables e below (T91.setTop (mkF m 52 #[.val (.int p0), .val (.long q1), .second, .val (.long q2), .second, .val (.long q3), .second, .val (.int p4), .val (.int (0 : Int32)), .val (.int (1 : Int32)), .val (.int ((p4 &&& (2147483647 : Int32)) % (3 : Int32))), .val (.ref w_NONE), .unset, .unset] [(.long q3), (.long q2), (.long q1), (.int (0 : Int32)), (.ref b91), (.ref b91)])) _
          refine XS.aload X91.here hx rfl (hb hby at_52) rfl rfl ?_
          show Steps p.tables e below (T91.setTop (mkF m 54 #[.val (.int p0), .val (.long q1), .second, .val (.long q2), .second, .val (.long q3), .second, .val (.int p4), .val (.int (0 : Int32)), .val (.int (1 : Int32)), .val (.int ((p4 &&& (2147483647 : Int32)) % (3 : Int32))), .val (.ref w_NONE), .unset, .unset] [(.ref w_NONE), (.long q3), (.long q2), (.long q1), (.int (0 : Int32)), (.ref b91), (.ref b91)])) _
          refine XS.iload X91.here hx rfl (hb hby at_54) rfl ?_
          show Steps p.tables e below (T91.setTop (mkF m 56 #[.val (.int p0), .val (.long q1), .second, .val (.long q2), .second, .val (.long q3), .second, .val (.int p4), .val (.int (0 : Int32)), .val (.int (1 : Int32)), .val (.int ((p4 &&& (2147483647 : Int32)) % (3 : Int32))), .val (.ref w_NONE), .unset, .unset] [(.int (1 : Int32)), (.ref w_NONE), (.long q3), (.long q2), (.long q1), (.int (0 : Int32)), (.ref b91), (.ref b91)])) _
          refine st104.trans ?_
          show Steps p.tables e below (T104.setTop (mkF m 59 #[.val (.int p0), .val (.long q1), .second, .val (.long q2), .second, .val (.long q3), .second, .val (.int p4), .val (.int (0 : Int32)), .val (.int (1 : Int32)), .val (.int ((p4 &&& (2147483647 : Int32)) % (3 : Int32))), .val (.ref w_NONE), .unset, .unset] [(.ref b91)])) _
          refine XS.astore X104.here hx rfl (hb hby at_59) rfl rfl (l' := #[.val (.int p0), .val (.long q1), .second, .val (.long q2), .second, .val (.long q3), .second, .val (.int p4), .val (.int (0 : Int32)), .val (.int (1 : Int32)), .val (.int ((p4 &&& (2147483647 : Int32)) % (3 : Int32))), .val (.ref w_NONE), .val (.ref b91), .unset]) rfl ?_
          show Steps p.tables e below (T104.setTop (mkF m 61 #[.val (.int p0), .val (.long q1), .second, .val (.long q2), .second, .val (.long q3), .second, .val (.int p4), .val (.int (0 : Int32)), .val (.int (1 : Int32)), .val (.int ((p4 &&& (2147483647 : Int32)) % (3 : Int32))), .val (.ref w_NONE), .val (.ref b91), .unset] [])) _
          refine XS.iload X104.here hx rfl (hb hby at_61) rfl ?_
          show Steps p.tables e below (T104.setTop (mkF m 63 #[.val (.int p0), .val (.long q1), .second, .val (.long q2), .second, .val (.long q3), .second, .val (.int p4), .val (.int (0 : Int32)), .val (.int (1 : Int32)), .val (.int ((p4 &&& (2147483647 : Int32)) % (3 : Int32))), .val (.ref w_NONE), .val (.ref b91), .unset] [(.int ((p4 &&& (2147483647 : Int32)) % (3 : Int32)))])) _
          refine XS.ifNo X104.here hx rfl (hb hby at_63) rfl ((if0 _ _).trans (teq hk).2) ?_
          show Steps p.tables e below (T104.setTop (mkF m 66 #[.val (.int p0), .val (.long q1), .second, .val (.long q2), .second, .val (.long q3), .second, .val (.int p4), .val (.int (0 : Int32)), .val (.int (1 : Int32)), .val (.int ((p4 &&& (2147483647 : Int32)) % (3 : Int32))), .val (.ref w_NONE), .val (.ref b91), .unset] [])) _
          refine XS.iconst X104.here hx rfl (hb hby at_66) ?_
          show Steps p.tables e below (T104.setTop (mkF m 67 #[.val (.int p0), .val (.long q1), .second, .val (.long q2), .second, .val (.long q3), .second, .val (.int p4), .val (.int (0 : Int32)), .val (.int (1 : Int32)), .val (.int ((p4 &&& (2147483647 : Int32)) % (3 : Int32))), .val (.ref w_NONE), .val (.ref b91), .unset] [(.int (0 : Int32))])) _
          refine XS.istore X104.here hx rfl (hb hby at_67) rfl (l' := #[.val (.int p0), .val (.long q1), .second, .val (.long q2), .second, .val (.long q3), .second, .val (.int p4), .val (.int (0 : Int32)), .val (.int (1 : Int32)), .val (.int ((p4 &&& (2147483647 : Int32)) % (3 : Int32))), .val (.ref w_NONE), .val (.ref b91), .val (.int (0 : Int32))]) rfl ?_
          show Steps p.tables e below (T104.setTop (mkF m 69 #[.val (.int p0), .val (.long q1), .second, .val (.long q2), .second, .val (.long q3), .second, .val (.int p4), .val (.int (0 : Int32)), .val (.int (1 : Int32)), .val (.int ((p4 &&& (2147483647 : Int32)) % (3 : Int32))), .val (.ref w_NONE), .val (.ref b91), .val (.int (0 : Int32))] [])) _
          refine XS.goto X104.here hx rfl (pc0 := 69) (pc' := 75) rfl (hb hby at_69) (by decide) (by decide) ?_
          show Steps p.tables e below (T104.setTop (mkF m 75 #[.val (.int p0), .val (.long q1), .second, .val (.long q2), .second, .val (.long q3), .second, .val (.int p4), .val (.int (0 : Int32)), .val (.int (1 : Int32)), .val (.int ((p4 &&& (2147483647 : Int32)) % (3 : Int32))), .val (.ref w_NONE), .val (.ref b91), .val (.int (0 : Int32))] [])) _
          refine XS.aload X104.here hx rfl (hb hby at_75) rfl rfl ?_
          show Steps p.tables e below (T104.setTop (mkF m 77 #[.val (.int p0), .val (.long q1), .second, .val (.long q2), .second, .val (.long q3), .second, .val (.int p4), .val (.int (0 : Int32)), .val (.int (1 : Int32)), .val (.int ((p4 &&& (2147483647 : Int32)) % (3 : Int32))), .val (.ref w_NONE), .val (.ref b91), .val (.int (0 : Int32))] [(.ref b91)])) _
          refine st118.trans ?_
          show Steps p.tables e below (T118.setTop (mkF m 80 #[.val (.int p0), .val (.long q1), .second, .val (.long q2), .second, .val (.long q3), .second, .val (.int p4), .val (.int (0 : Int32)), .val (.int (1 : Int32)), .val (.int ((p4 &&& (2147483647 : Int32)) % (3 : Int32))), .val (.ref w_NONE), .val (.ref b91), .val (.int (0 : Int32))] [(.int (F5 w_NONE w_NONE))])) _
          refine XS.iload X118.here hx rfl (hb hby at_80) rfl ?_
          show Steps p.tables e below (T118.setTop (mkF m 82 #[.val (.int p0), .val (.long q1), .second, .val (.long q2), .second, .val (.long q3), .second, .val (.int p4), .val (.int (0 : Int32)), .val (.int (1 : Int32)), .val (.int ((p4 &&& (2147483647 : Int32)) % (3 : Int32))), .val (.ref w_NONE), .val (.ref b91), .val (.int (0 : Int32))] [(.int (0 : Int32)), (.int (F5 w_NONE w_NONE))])) _
          refine XS.icmpNo X118.here hx rfl (hb hby at_82) rfl (teq hc82).2 ?_
          show Steps p.tables e below (T118.setTop (mkF m 85 #[.val (.int p0), .val (.long q1), .second, .val (.long q2), .second, .val (.long q3), .second, .val (.int p4), .val (.int (0 : Int32)), .val (.int (1 : Int32)), .val (.int ((p4 &&& (2147483647 : Int32)) % (3 : Int32))), .val (.ref w_NONE), .val (.ref b91), .val (.int (0 : Int32))] [])) _
          refine XS.iconst X118.here hx rfl (hb hby at_85) ?_
          show Steps p.tables e below (T118.setTop (mkF m 86 #[.val (.int p0), .val (.long q1), .second, .val (.long q2), .second, .val (.long q3), .second, .val (.int p4), .val (.int (0 : Int32)), .val (.int (1 : Int32)), .val (.int ((p4 &&& (2147483647 : Int32)) % (3 : Int32))), .val (.ref w_NONE), .val (.ref b91), .val (.int (0 : Int32))] [(.int (1 : Int32))])) _
          refine XS.goto X118.here hx rfl (pc0 := 86) (pc' := 90) rfl (hb hby at_86) (by decide) (by decide) ?_
          show Steps p.tables e below (T118.setTop (mkF m 90 #[.val (.int p0), .val (.long q1), .second, .val (.long q2), .second, .val (.long q3), .second, .val (.int p4), .val (.int (0 : Int32)), .val (.int (1 : Int32)), .val (.int ((p4 &&& (2147483647 : Int32)) % (3 : Int32))), .val (.ref w_NONE), .val (.ref b91), .val (.int (0 : Int32))] [(.int (1 : Int32))])) _
          exact retN X118 hx (t := .boolean) Bd.returns (by simp) (hb hby at_90) hr
        · show Q0 Z p0 q1 q2 q3 p4 w_NONE w_UNAVAILABLE w_TIMEOUT h0 n0 _ T118.heap _
          rw [e118]
          exact ⟨rfl, N118⟩
      · by_cases hk_2 : ((p4 &&& (2147483647 : Int32)) % (3 : Int32)) = (1 : Int32)
        · rw [show (F1 ((p4 &&& (2147483647 : Int32)) % (3 : Int32)) w_NONE w_UNAVAILABLE w_TIMEOUT) = w_UNAVAILABLE from by rw [F1, if_neg hk, if_pos hk_2]] at pre90
          obtain ⟨T119, h119, X119, e119, E119, A119, D119, -, st119⟩ := newO X89 hx hZ hown (hw _ (List.mem_of_getElem? (i := 8) rfl)) (hw _ (List.mem_of_getElem? (i := 9) rfl)) (hw _ (List.mem_of_getElem? (i := 10) rfl)) e89 (g := (mkF m 42 #[.val (.int p0), .val (.long q1), .second, .val (.long q2), .second, .val (.long q3), .second, .val (.int p4), .val (.int (0 : Int32)), .val (.int (1 : Int32)), .val (.int ((p4 &&& (2147483647 : Int32)) % (3 : Int32))), .val (.ref w_UNAVAILABLE), .unset, .unset] [])) rfl (hb hby at_42) (by decide) (by decide)
          obtain ⟨b119, g119⟩ : ∃ z, z = h0.size := ⟨_, rfl⟩
          rw [← g119] at A119 D119 st119
          have ne_w_NONE_b119 : w_NONE ≠ b119 := Nat.ne_of_lt (Nat.lt_of_lt_of_le E_NONE.lt (Nat.le_of_eq g119.symm))
          have ne_w_UNAVAILABLE_b119 : w_UNAVAILABLE ≠ b119 := Nat.ne_of_lt (Nat.lt_of_lt_of_le E_UNAVAILABLE.lt (Nat.le_of_eq g119.symm))
          have ne_w_TIMEOUT_b119 : w_TIMEOUT ≠ b119 := Nat.ne_of_lt (Nat.lt_of_lt_of_le E_TIMEOUT.lt (Nat.le_of_eq g119.symm))
          have sS120 := S_NONE.ext E119
          have eE121 := E_NONE.ext E119
          have sS122 := S_UNAVAILABLE.ext E119
          have eE123 := E_UNAVAILABLE.ext E119
          have sS124 := S_TIMEOUT.ext E119
          have eE125 := E_TIMEOUT.ext E119
          have g_b119 : n0 ≤ b119 := Nat.le_trans Z0 (Nat.le_of_eq g119.symm)
          have Z119 := Nat.le_trans Z0 E119.1
          have fF126 : Fld Z h119 b119 "com/example/sluis/sluis/model/Decision" "admitted" "Z" (.int (0 : Int32)) := D119 (Or.inr (hw _ (List.mem_of_getElem? (i := 23) rfl))) (ty := .boolean) (by decide)
          have fF127 : Fld Z h119 b119 "com/example/sluis/sluis/model/Decision" "remaining" "J" (.long (0 : Int64)) := D119 (Or.inr (hw _ (List.mem_of_getElem? (i := 25) rfl))) (ty := .long) (by decide)
          have fF128 : Fld Z h119 b119 "com/example/sluis/sluis/model/Decision" "retryAfterMillis" "J" (.long (0 : Int64)) := D119 (Or.inr (hw _ (List.mem_of_getElem? (i := 27) rfl))) (ty := .long) (by decide)
          have fF129 : Fld Z h119 b119 "com/example/sluis/sluis/model/Decision" "waitMillis" "J" (.long (0 : Int64)) := D119 (Or.inr (hw _ (List.mem_of_getElem? (i := 29) rfl))) (ty := .long) (by decide)
          have fF130 : Fld Z h119 b119 "com/example/sluis/sluis/model/Decision" "degradation" "Lcom/example/sluis/sluis/model/Degradation;" .null := D119 (Or.inr (hw _ (List.mem_of_getElem? (i := 31) rfl))) (ty := (.object "com/example/sluis/sluis/model/Degradation")) (by decide)
          have fF131 : Fld Z h119 b119 "com/example/sluis/sluis/model/Decision" "banned" "Z" (.int (0 : Int32)) := D119 (Or.inr (hw _ (List.mem_of_getElem? (i := 33) rfl))) (ty := .boolean) (by decide)
          obtain ⟨_, _, ⟨T132, L132, k132, n132⟩, -, X132, ⟨Lc132, hQ132, l132, y132, z132⟩, st132⟩ := X119.specialBack hx (y := (⟨"com/example/sluis/sluis/model/Decision", "<init>", "(ZJJJLcom/example/sluis/sluis/model/Degradation;Z)V"⟩ : MethodName)) rfl hown (mvT hZ (hw _ (List.mem_of_getElem? (i := 11) rfl))) (mvT hZ (hw _ (List.mem_of_getElem? (i := 12) rfl))) (mvT hZ (hw _ (List.mem_of_getElem? (i := 13) rfl))) (by decide) (backOf (W := 1) (rm2 l Z a0 hw [] b119 (0 : Int32) q1 q2 q3 w_UNAVAILABLE (1 : Int32) (.int (0 : Int32)) (.long (0 : Int64)) (.long (0 : Int64)) (.long (0 : Int64)) .null (.int (0 : Int32)) h119 n0 Z119 fF126 fF127 fF128 fF129 fF130 fF131 A119 g_b119) hZ (hw _ (List.mem_of_getElem? (i := 13) rfl)) (hw _ (List.mem_of_getElem? (i := 10) rfl)) (by decide) (by decide)) (g := (mkF m 56 #[.val (.int p0), .val (.long q1), .second, .val (.long q2), .second, .val (.long q3), .second, .val (.int p4), .val (.int (0 : Int32)), .val (.int (1 : Int32)), .val (.int ((p4 &&& (2147483647 : Int32)) % (3 : Int32))), .val (.ref w_UNAVAILABLE), .unset, .unset] [(.int (1 : Int32)), (.ref w_UNAVAILABLE), (.long q3), (.long q2), (.long q1), (.int (0 : Int32)), (.ref b119), (.ref b119)])) rfl (by rw [hml]; rfl) (Steps.refl _) (a := b119) (argsL := [(.int (0 : Int32)), (.long q1), (.long q2), (.long q3), (.ref w_UNAVAILABLE), (.int (1 : Int32))]) (rest := [(.ref b119)]) (lenOf pd_2 rfl) rfl (by show 2 * 0 + _ ≤ _; exact Nat.le_of_eq rfl) (hb hby at_56) (fun _ _ => ⟨rfl, e119, (by decide : 1 + 0 ≤ _), (by decide : 6 + 0 ≤ _)⟩)
          dsimp only [Pt.U, Pt.locs, Pt.cells, Pt.slots] at X132 l132 y132 z132 st132 hQ132
          subst l132 y132 z132
          obtain ⟨rfl, N132q, K132, G133, G134, G135, G136, G137, G138, G139⟩ := hQ132
          have sS140 := own_sta sS120 K132 A119
          have eE141 := eE121.keep K132
          have sS142 := own_sta sS122 K132 A119
          have eE143 := eE123.keep K132
          have sS144 := own_sta sS124 K132 A119
          have eE145 := eE125.keep K132
          have Z132 := Nat.le_trans Z119 K132.1
          have N132 := Fr.app N89 N132q
          obtain ⟨cq146, kq146, q146a, q146b, q146c⟩ := isOf hZ rfl G133
          obtain ⟨_, _, ⟨T146, L146, k146, n146⟩, -, X146, ⟨Lc146, hQ146, l146, y146, z146⟩, st146⟩ := X132.virtualBack hx (y := (⟨"com/example/sluis/sluis/model/Decision", "degraded", "()Z"⟩ : MethodName)) (z := (⟨"com/example/sluis/sluis/model/Decision", "degraded", "()Z"⟩ : MethodName)) hown (mvT hZ (hw _ (List.mem_of_getElem? (i := 34) rfl))) (mvT hZ (hw _ (List.mem_of_getElem? (i := 35) rfl))) (notFace_of_selects (args := #[]) (mvT hZ (hw _ (List.mem_of_getElem? (i := 37) rfl)))) (mvT hZ (hw _ (List.mem_of_getElem? (i := 37) rfl))) (mvT hZ (hw _ (List.mem_of_getElem? (i := 36) rfl))) (by decide) (backOf (W := 0) (rm5 l Z a0 hw [] b119 w_UNAVAILABLE w_NONE T132.heap n0 Z132 G138 sS140) hZ (hw _ (List.mem_of_getElem? (i := 38) rfl)) (hw _ (List.mem_of_getElem? (i := 10) rfl)) (by decide) (by decide)) q146a q146c (g := (mkF m 77 #[.val (.int p0), .val (.long q1), .second, .val (.long q2), .second, .val (.long q3), .second, .val (.int p4), .val (.int (0 : Int32)), .val (.int (1 : Int32)), .val (.int ((p4 &&& (2147483647 : Int32)) % (3 : Int32))), .val (.ref w_UNAVAILABLE), .val (.ref b119), .val (.int (1 : Int32))] [(.ref b119)])) rfl (by rw [hml]; rfl) (Steps.refl _) (argsL := []) (rest := []) (lenOf pd_3 rfl) rfl (by show 2 * 0 + _ ≤ _; exact Nat.le_of_eq rfl) (hb hby at_77) (fun _ _ => ⟨rfl, rfl, (by decide : 1 + 0 ≤ _), (by decide : 6 + 0 ≤ _)⟩)
          dsimp only [Pt.U, Pt.locs, Pt.cells, Pt.slots] at X146 l146 y146 z146 st146 hQ146
          subst l146 y146 z146
          obtain ⟨rfl, N146q, e146⟩ := hQ146
          have N146 := Fr.app N132 N146q
          have hc82 : (F5 w_UNAVAILABLE w_NONE) = (1 : Int32) := by rw [F5, if_neg ne_UNAVAILABLE_NONE]
          obtain ⟨fs, hr, hrun, hended, hW, hsame⟩ := X146.leave (v := some (.int (1 : Int32))) (fun h => by rw [Bd.returns] at h; cases h) (BodyLoose.notSynchronized Bd)
          refine ⟨_, _, pre90 _ ?_, hrun, hended, _, _, rfl, ?_, ⟨_, rfl⟩, hW, hsame.mono (by decide) (by decide)⟩
          · show Steps p.tables e below (T89.setTop (mkF m 40 #[.val (.int p0), .val (.long q1), .second, .val (.long q2), .second, .val (.long q3), .second, .val (.int p4), .val (.int (0 : Int32)), .val (.int (1 : Int32)), .val (.int ((p4 &&& (2147483647 : Int32)) % (3 : Int32))), .unset, .unset, .unset] [(.ref w_UNAVAILABLE)])) _
            refine XS.astore X89.here hx rfl (hb hby at_40) rfl rfl (l' := #[.val (.int p0), .val (.long q1), .second, .val (.long q2), .second, .val (.long q3), .second, .val (.int p4), .val (.int (0 : Int32)), .val (.int (1 : Int32)), .val (.int ((p4 &&& (2147483647 : Int32)) % (3 : Int32))), .val (.ref w_UNAVAILABLE), .unset, .unset]) rfl ?_
            show Steps p.tables e below (T89.setTop (mkF m 42 #[.val (.int p0), .val (.long q1), .second, .val (.long q2), .second, .val (.long q3), .second, .val (.int p4), .val (.int (0 : Int32)), .val (.int (1 : Int32)), .val (.int ((p4 &&& (2147483647 : Int32)) % (3 : Int32))), .val (.ref w_UNAVAILABLE), .unset, .unset] [])) _
            refine st119 _ ?_
            show Steps p.tables e below (T119.setTop (mkF m 45 #[.val (.int p0), .val (.long q1), .second, .val (.long q2), .second, .val (.long q3), .second, .val (.int p4), .val (.int (0 : Int32)), .val (.int (1 : Int32)), .val (.int ((p4 &&& (2147483647 : Int32)) % (3 : Int32))), .val (.ref w_UNAVAILABLE), .unset, .unset] [(.ref b119)])) _
            refine XS.dup X119.here hx rfl (hb hby at_45) rfl rfl ?_
            show Steps p.tables e below (T119.setTop (mkF m 46 #[.val (.int p0), .val (.long q1), .second, .val (.long q2), .second, .val (.long q3), .second, .val (.int p4), .val (.int (0 : Int32)), .val (.int (1 : Int32)), .val (.int ((p4 &&& (2147483647 : Int32)) % (3 : Int32))), .val (.ref w_UNAVAILABLE), .unset, .unset] [(.ref b119), (.ref b119)])) _
            refine XS.iload X119.here hx rfl (hb hby at_46) rfl ?_
            show Steps p.tables e below (T119.setTop (mkF m 48 #[.val (.int p0), .val (.long q1), .second, .val (.long q2), .second, .val (.long q3), .second, .val (.int p4), .val (.int (0 : Int32)), .val (.int (1 : Int32)), .val (.int ((p4 &&& (2147483647 : Int32)) % (3 : Int32))), .val (.ref w_UNAVAILABLE), .unset, .unset] [(.int (0 : Int32)), (.ref b119), (.ref b119)])) _
            refine XS.lloadN X119.here hx rfl (hb hby at_48) rfl ?_
            show Steps p.tables e below (T119.setTop (mkF m 49 #[.val (.int p0), .val (.long q1), .second, .val (.long q2), .second, .val (.long q3), .second, .val (.int p4), .val (.int (0 : Int32)), .val (.int (1 : Int32)), .val (.int ((p4 &&& (2147483647 : Int32)) % (3 : Int32))), .val (.ref w_UNAVAILABLE), .unset, .unset] [(.long q1), (.int (0 : Int32)), (.ref b119), (.ref b119)])) _
            refine XS.lloadN X119.here hx rfl (hb hby at_49) rfl ?_
            show Steps p.tables e below (T119.setTop (mkF m 50 #[.val (.int p0), .val (.long q1), .second, .val (.long q2), .second, .val (.long q3), .second, .val (.int p4), .val (.int (0 : Int32)), .val (.int (1 : Int32)), .val (.int ((p4 &&& (2147483647 : Int32)) % (3 : Int32))), .val (.ref w_UNAVAILABLE), .unset, .unset] [(.long q2), (.long q1), (.int (0 : Int32)), (.ref b119), (.ref b119)])) _
            refine XS.lload X119.here hx rfl (hb hby at_50) rfl ?_
            show Steps p.tables e below (T119.setTop (mkF m 52 #[.val (.int p0), .val (.long q1), .second, .val (.long q2), .second, .val (.long q3), .second, .val (.int p4), .val (.int (0 : Int32)), .val (.int (1 : Int32)), .val (.int ((p4 &&& (2147483647 : Int32)) % (3 : Int32))), .val (.ref w_UNAVAILABLE), .unset, .unset] [(.long q3), (.long q2), (.long q1), (.int (0 : Int32)), (.ref b119), (.ref b119)])) _
            refine XS.aload X119.here hx rfl (hb hby at_52) rfl rfl ?_
            show Steps p.tables e below (T119.setTop (mkF m 54 #[.val (.int p0), .val (.long q1), .second, .val (.long q2), .second, .val (.long q3), .second, .val (.int p4), .val (.int (0 : Int32)), .val (.int (1 : Int32)), .val (.int ((p4 &&& (2147483647 : Int32)) % (3 : Int32))), .val (.ref w_UNAVAILABLE), .unset, .unset] [(.ref w_UNAVAILABLE), (.long q3), (.long q2), (.long q1), (.int (0 : Int32)), (.ref b119), (.ref b119)])) _
            refine XS.iload X119.here hx rfl (hb hby at_54) rfl ?_
            show Steps p.tables e below (T119.setTop (mkF m 56 #[.val (.int p0), .val (.long q1), .second, .val (.long q2), .second, .val (.long q3), .second, .val (.int p4), .val (.int (0 : Int32)), .val (.int (1 : Int32)), .val (.int ((p4 &&& (2147483647 : Int32)) % (3 : Int32))), .val (.ref w_UNAVAILABLE), .unset, .unset] [(.int (1 : Int32)), (.ref w_UNAVAILABLE), (.long q3), (.long q2), (.long q1), (.int (0 : Int32)), (.ref b119), (.ref b119)])) _
            refine st132.trans ?_
            show Steps p.tables e below (T132.setTop (mkF m 59 #[.val (.int p0), .val (.long q1), .second, .val (.long q2), .second, .val (.long q3), .second, .val (.int p4), .val (.int (0 : Int32)), .val (.int (1 : Int32)), .val (.int ((p4 &&& (2147483647 : Int32)) % (3 : Int32))), .val (.ref w_UNAVAILABLE), .unset, .unset] [(.ref b119)])) _
            refine XS.astore X132.here hx rfl (hb hby at_59) rfl rfl (l' := #[.val (.int p0), .val (.long q1), .second, .val (.long q2), .second, .val (.long q3), .second, .val (.int p4), .val (.int (0 : Int32)), .val (.int (1 : Int32)), .val (.int ((p4 &&& (2147483647 : Int32)) % (3 : Int32))), .val (.ref w_UNAVAILABLE), .val (.ref b119), .unset]) rfl ?_
            show Steps p.tables e below (T132.setTop (mkF m 61 #[.val (.int p0), .val (.long q1), .second, .val (.long q2), .second, .val (.long q3), .second, .val (.int p4), .val (.int (0 : Int32)), .val (.int (1 : Int32)), .val (.int ((p4 &&& (2147483647 : Int32)) % (3 : Int32))), .val (.ref w_UNAVAILABLE), .val (.ref b119), .unset] [])) _
            refine XS.iload X132.here hx rfl (hb hby at_61) rfl ?_
            show Steps p.tables e below (T132.setTop (mkF m 63 #[.val (.int p0), .val (.long q1), .second, .val (.long q2), .second, .val (.long q3), .second, .val (.int p4), .val (.int (0 : Int32)), .val (.int (1 : Int32)), .val (.int ((p4 &&& (2147483647 : Int32)) % (3 : Int32))), .val (.ref w_UNAVAILABLE), .val (.ref b119), .unset] [(.int ((p4 &&& (2147483647 : Int32)) % (3 : Int32)))])) _
            refine XS.ifYes X132.here hx rfl (pc0 := 63) (pc' := 72) rfl (hb hby at_63) rfl ((if0 _ _).trans (feq hk).2) (by decide) (by decide) ?_
            show Steps p.tables e below (T132.setTop (mkF m 72 #[.val (.int p0), .val (.long q1), .second, .val (.long q2), .second, .val (.long q3), .second, .val (.int p4), .val (.int (0 : Int32)), .val (.int (1 : Int32)), .val (.int ((p4 &&& (2147483647 : Int32)) % (3 : Int32))), .val (.ref w_UNAVAILABLE), .val (.ref b119), .unset] [])) _
            refine XS.iconst X132.here hx rfl (hb hby at_72) ?_
            show Steps p.tables e below (T132.setTop (mkF m 73 #[.val (.int p0), .val (.long q1), .second, .val (.long q2), .second, .val (.long q3), .second, .val (.int p4), .val (.int (0 : Int32)), .val (.int (1 : Int32)), .val (.int ((p4 &&& (2147483647 : Int32)) % (3 : Int32))), .val (.ref w_UNAVAILABLE), .val (.ref b119), .unset] [(.int (1 : Int32))])) _
            refine XS.istore X132.here hx rfl (hb hby at_73) rfl (l' := #[.val (.int p0), .val (.long q1), .second, .val (.long q2), .second, .val (.long q3), .second, .val (.int p4), .val (.int (0 : Int32)), .val (.int (1 : Int32)), .val (.int ((p4 &&& (2147483647 : Int32)) % (3 : Int32))), .val (.ref w_UNAVAILABLE), .val (.ref b119), .val (.int (1 : Int32))]) rfl ?_
            show Steps p.tables e below (T132.setTop (mkF m 75 #[.val (.int p0), .val (.long q1), .second, .val (.long q2), .second, .val (.long q3), .second, .val (.int p4), .val (.int (0 : Int32)), .val (.int (1 : Int32)), .val (.int ((p4 &&& (2147483647 : Int32)) % (3 : Int32))), .val (.ref w_UNAVAILABLE), .val (.ref b119), .val (.int (1 : Int32))] [])) _
            refine XS.aload X132.here hx rfl (hb hby at_75) rfl rfl ?_
            show Steps p.tables e below (T132.setTop (mkF m 77 #[.val (.int p0), .val (.long q1), .second, .val (.long q2), .second, .val (.long q3), .second, .val (.int p4), .val (.int (0 : Int32)), .val (.int (1 : Int32)), .val (.int ((p4 &&& (2147483647 : Int32)) % (3 : Int32))), .val (.ref w_UNAVAILABLE), .val (.ref b119), .val (.int (1 : Int32))] [(.ref b119)])) _
            refine st146.trans ?_
            show Steps p.tables e below (T146.setTop (mkF m 80 #[.val (.int p0), .val (.long q1), .second, .val (.long q2), .second, .val (.long q3), .second, .val (.int p4), .val (.int (0 : Int32)), .val (.int (1 : Int32)), .val (.int ((p4 &&& (2147483647 : Int32)) % (3 : Int32))), .val (.ref w_UNAVAILABLE), .val (.ref b119), .val (.int (1 : Int32))] [(.int (F5 w_UNAVAILABLE w_NONE))])) _
            refine XS.iload X146.here hx rfl (hb hby at_80) rfl ?_
            show Steps p.tables e below (T146.setTop (mkF m 82 #[.val (.int p0), .val (.long q1), .second, .val (.long q2), .second, .val (.long q3), .second, .val (.int p4), .val (.int (0 : Int32)), .val (.int (1 : Int32)), .val (.int ((p4 &&& (2147483647 : Int32)) % (3 : Int32))), .val (.ref w_UNAVAILABLE), .val (.ref b119), .val (.int (1 : Int32))] [(.int (1 : Int32)), (.int (F5 w_UNAVAILABLE w_NONE))])) _
            refine XS.icmpNo X146.here hx rfl (hb hby at_82) rfl (teq hc82).2 ?_
            show Steps p.tables e below (T146.setTop (mkF m 85 #[.val (.int p0), .val (.long q1), .second, .val (.long q2), .second, .val (.long q3), .second, .val (.int p4), .val (.int (0 : Int32)), .val (.int (1 : Int32)), .val (.int ((p4 &&& (2147483647 : Int32)) % (3 : Int32))), .val (.ref w_UNAVAILABLE), .val (.ref b119), .val (.int (1 : Int32))] [])) _
            refine XS.iconst X146.here hx rfl (hb hby at_85) ?_
            show Steps p.tables e below (T146.setTop (mkF m 86 #[.val (.int p0), .val (.long q1), .second, .val (.long q2), .second, .val (.long q3), .second, .val (.int p4), .val (.int (0 : Int32)), .val (.int (1 : Int32)), .val (.int ((p4 &&& (2147483647 : Int32)) % (3 : Int32))), .val (.ref w_UNAVAILABLE), .val (.ref b119), .val (.int (1 : Int32))] [(.int (1 : Int32))])) _
            refine XS.goto X146.here hx rfl (pc0 := 86) (pc' := 90) rfl (hb hby at_86) (by decide) (by decide) ?_
            show Steps p.tables e below (T146.setTop (mkF m 90 #[.val (.int p0), .val (.long q1), .second, .val (.long q2), .second, .val (.long q3), .second, .val (.int p4), .val (.int (0 : Int32)), .val (.int (1 : Int32)), .val (.int ((p4 &&& (2147483647 : Int32)) % (3 : Int32))), .val (.ref w_UNAVAILABLE), .val (.ref b119), .val (.int (1 : Int32))] [(.int (1 : Int32))])) _
            exact retN X146 hx (t := .boolean) Bd.returns (by simp) (hb hby at_90) hr
          · show Q0 Z p0 q1 q2 q3 p4 w_NONE w_UNAVAILABLE w_TIMEOUT h0 n0 _ T146.heap _
            rw [e146]
            exact ⟨rfl, N146⟩
        · rw [show (F1 ((p4 &&& (2147483647 : Int32)) % (3 : Int32)) w_NONE w_UNAVAILABLE w_TIMEOUT) = w_TIMEOUT from by rw [F1, if_neg hk, if_neg hk_2]] at pre90
          obtain ⟨T147, h147, X147, e147, E147, A147, D147, -, st147⟩ := newO X89 hx hZ hown (hw _ (List.mem_of_getElem? (i := 8) rfl)) (hw _ (List.mem_of_getElem? (i := 9) rfl)) (hw _ (List.mem_of_getElem? (i := 10) rfl)) e89 (g := (mkF m 42 #[.val (.int p0), .val (.long q1), .second, .val (.long q2), .second, .val (.long q3), .second, .val (.int p4), .val (.int (0 : Int32)), .val (.int (1 : Int32)), .val (.int ((p4 &&& (2147483647 : Int32)) % (3 : Int32))), .val (.ref w_TIMEOUT), .unset, .unset] [])) rfl (hb hby at_42) (by decide) (by decide)
          obtain ⟨b147, g147⟩ : ∃ z, z = h0.size := ⟨_, rfl⟩
          rw [← g147] at A147 D147 st147
          have ne_w_NONE_b147 : w_NONE ≠ b147 := Nat.ne_of_lt (Nat.lt_of_lt_of_le E_NONE.lt (Nat.le_of_eq g147.symm))
          have ne_w_UNAVAILABLE_b147 : w_UNAVAILABLE ≠ b147 := Nat.ne_of_lt (Nat.lt_of_lt_of_le E_UNAVAILABLE.lt (Nat.le_of_eq g147.symm))
          have ne_w_TIMEOUT_b147 : w_TIMEOUT ≠ b147 := Nat.ne_of_lt (Nat.lt_of_lt_of_le E_TIMEOUT.lt (Nat.le_of_eq g147.symm))
          have sS148 := S_NONE.ext E147
          have eE149 := E_NONE.ext E147
          have sS150 := S_UNAVAILABLE.ext E147
          have eE151 := E_UNAVAILABLE.ext E147
          have sS152 := S_TIMEOUT.ext E147
          have eE153 := E_TIMEOUT.ext E147
          have g_b147 : n0 ≤ b147 := Nat.le_trans Z0 (Nat.le_of_eq g147.symm)
          have Z147 := Nat.le_trans Z0 E147.1
          have fF154 : Fld Z h147 b147 "com/example/sluis/sluis/model/Decision" "admitted" "Z" (.int (0 : Int32)) := D147 (Or.inr (hw _ (List.mem_of_getElem? (i := 23) rfl))) (ty := .boolean) (by decide)
          have fF155 : Fld Z h147 b147 "com/example/sluis/sluis/model/Decision" "remaining" "J" (.long (0 : Int64)) := D147 (Or.inr (hw _ (List.mem_of_getElem? (i := 25) rfl))) (ty := .long) (by decide)
          have fF156 : Fld Z h147 b147 "com/example/sluis/sluis/model/Decision" "retryAfterMillis" "J" (.long (0 : Int64)) := D147 (Or.inr (hw _ (List.mem_of_getElem? (i := 27) rfl))) (ty := .long) (by decide)
          have fF157 : Fld Z h147 b147 "com/example/sluis/sluis/model/Decision" "waitMillis" "J" (.long (0 : Int64)) := D147 (Or.inr (hw _ (List.mem_of_getElem? (i := 29) rfl))) (ty := .long) (by decide)
          have fF158 : Fld Z h147 b147 "com/example/sluis/sluis/model/Decision" "degradation" "Lcom/example/sluis/sluis/model/Degradation;" .null := D147 (Or.inr (hw _ (List.mem_of_getElem? (i := 31) rfl))) (ty := (.object "com/example/sluis/sluis/model/Degradation")) (by decide)
          have fF159 : Fld Z h147 b147 "com/example/sluis/sluis/model/Decision" "banned" "Z" (.int (0 : Int32)) := D147 (Or.inr (hw _ (List.mem_of_getElem? (i := 33) rfl))) (ty := .boolean) (by decide)
          obtain ⟨_, _, ⟨T160, L160, k160, n160⟩, -, X160, ⟨Lc160, hQ160, l160, y160, z160⟩, st160⟩ := X147.specialBack hx (y := (⟨"com/example/sluis/sluis/model/Decision", "<init>", "(ZJJJLcom/example/sluis/sluis/model/Degradation;Z)V"⟩ : MethodName)) rfl hown (mvT hZ (hw _ (List.mem_of_getElem? (i := 11) rfl))) (mvT hZ (hw _ (List.mem_of_getElem? (i := 12) rfl))) (mvT hZ (hw _ (List.mem_of_getElem? (i := 13) rfl))) (by decide) (backOf (W := 1) (rm2 l Z a0 hw [] b147 (0 : Int32) q1 q2 q3 w_TIMEOUT (1 : Int32) (.int (0 : Int32)) (.long (0 : Int64)) (.long (0 : Int64)) (.long (0 : Int64)) .null (.int (0 : Int32)) h147 n0 Z147 fF154 fF155 fF156 fF157 fF158 fF159 A147 g_b147) hZ (hw _ (List.mem_of_getElem? (i := 13) rfl)) (hw _ (List.mem_of_getElem? (i := 10) rfl)) (by decide) (by decide)) (g := (mkF m 56 #[.val (.int p0), .val (.long q1), .second, .val (.long q2), .second, .val (.long q3), .second, .val (.int p4), .val (.int (0 : Int32)), .val (.int (1 : Int32)), .val (.int ((p4 &&& (2147483647 : Int32)) % (3 : Int32))), .val (.ref w_TIMEOUT), .unset, .unset] [(.int (1 : Int32)), (.ref w_TIMEOUT), (.long q3), (.long q2), (.long q1), (.int (0 : Int32)), (.ref b147), (.ref b147)])) rfl (by rw [hml]; rfl) (Steps.refl _) (a := b147) (argsL := [(.int (0 : Int32)), (.long q1), (.long q2), (.long q3), (.ref w_TIMEOUT), (.int (1 : Int32))]) (rest := [(.ref b147)]) (lenOf pd_2 rfl) rfl (by show 2 * 0 + _ ≤ _; exact Nat.le_of_eq rfl) (hb hby at_56) (fun _ _ => ⟨rfl, e147, (by decide : 1 + 0 ≤ _), (by decide : 6 + 0 ≤ _)⟩)
          dsimp only [Pt.U, Pt.locs, Pt.cells, Pt.slots] at X160 l160 y160 z160 st160 hQ160
          subst l160 y160 z160
          obtain ⟨rfl, N160q, K160, G161, G162, G163, G164, G165, G166, G167⟩ := hQ160
          have sS168 := own_sta sS148 K160 A147
          have eE169 := eE149.keep K160
          have sS170 := own_sta sS150 K160 A147
          have eE171 := eE151.keep K160
          have sS172 := own_sta sS152 K160 A147
          have eE173 := eE153.keep K160
          have Z160 := Nat.le_trans Z147 K160.1
          have N160 := Fr.app N89 N160q
          obtain ⟨cq174, kq174, q174a, q174b, q174c⟩ := isOf hZ rfl G161
          obtain ⟨_, _, ⟨T174, L174, k174, n174⟩, -, X174, ⟨Lc174, hQ174, l174, y174, z174⟩, st174⟩ := X160.virtualBack hx (y := (⟨"com/example/sluis/sluis/model/Decision", "degraded", "()Z"⟩ : MethodName)) (z := (⟨"com/example/sluis/sluis/model/Decision", "degraded", "()Z"⟩ : MethodName)) hown (mvT hZ (hw _ (List.mem_of_getElem? (i := 34) rfl))) (mvT hZ (hw _ (List.mem_of_getElem? (i := 35) rfl))) (notFace_of_selects (args := #[]) (mvT hZ (hw _ (List.mem_of_getElem? (i := 37) rfl)))) (mvT hZ (hw _ (List.mem_of_getElem? (i := 37) rfl))) (mvT hZ (hw _ (List.mem_of_getElem? (i := 36) rfl))) (by decide) (backOf (W := 0) (rm5 l Z a0 hw [] b147 w_TIMEOUT w_NONE T160.heap n0 Z160 G166 sS168) hZ (hw _ (List.mem_of_getElem? (i := 38) rfl)) (hw _ (List.mem_of_getElem? (i := 10) rfl)) (by decide) (by decide)) q174a q174c (g := (mkF m 77 #[.val (.int p0), .val (.long q1), .second, .val (.long q2), .second, .val (.long q3), .second, .val (.int p4), .val (.int (0 : Int32)), .val (.int (1 : Int32)), .val (.int ((p4 &&& (2147483647 : Int32)) % (3 : Int32))), .val (.ref w_TIMEOUT), .val (.ref b147), .val (.int (1 : Int32))] [(.ref b147)])) rfl (by rw [hml]; rfl) (Steps.refl _) (argsL := []) (rest := []) (lenOf pd_3 rfl) rfl (by show 2 * 0 + _ ≤ _; exact Nat.le_of_eq rfl) (hb hby at_77) (fun _ _ => ⟨rfl, rfl, (by decide : 1 + 0 ≤ _), (by decide : 6 + 0 ≤ _)⟩)
          dsimp only [Pt.U, Pt.locs, Pt.cells, Pt.slots] at X174 l174 y174 z174 st174 hQ174
          subst l174 y174 z174
          obtain ⟨rfl, N174q, e174⟩ := hQ174
          have N174 := Fr.app N160 N174q
          have hc82 : (F5 w_TIMEOUT w_NONE) = (1 : Int32) := by rw [F5, if_neg ne_TIMEOUT_NONE]
          obtain ⟨fs, hr, hrun, hended, hW, hsame⟩ := X174.leave (v := some (.int (1 : Int32))) (fun h => by rw [Bd.returns] at h; cases h) (BodyLoose.notSynchronized Bd)
          refine ⟨_, _, pre90 _ ?_, hrun, hended, _, _, rfl, ?_, ⟨_, rfl⟩, hW, hsame.mono (by decide) (by decide)⟩
          · show Steps p.tables e below (T89.setTop (mkF m 40 #[.val (.int p0), .val (.long q1), .second, .val (.long q2), .second, .val (.long q3), .second, .val (.int p4), .val (.int (0 : Int32)), .val (.int (1 : Int32)), .val (.int ((p4 &&& (2147483647 : Int32)) % (3 : Int32))), .unset, .unset, .unset] [(.ref w_TIMEOUT)])) _
            refine XS.astore X89.here hx rfl (hb hby at_40) rfl rfl (l' := #[.val (.int p0), .val (.long q1), .second, .val (.long q2), .second, .val (.long q3), .second, .val (.int p4), .val (.int (0 : Int32)), .val (.int (1 : Int32)), .val (.int ((p4 &&& (2147483647 : Int32)) % (3 : Int32))), .val (.ref w_TIMEOUT), .unset, .unset]) rfl ?_
            show Steps p.tables e below (T89.setTop (mkF m 42 #[.val (.int p0), .val (.long q1), .second, .val (.long q2), .second, .val (.long q3), .second, .val (.int p4), .val (.int (0 : Int32)), .val (.int (1 : Int32)), .val (.int ((p4 &&& (2147483647 : Int32)) % (3 : Int32))), .val (.ref w_TIMEOUT), .unset, .unset] [])) _
            refine st147 _ ?_
            show Steps p.tables e below (T147.setTop (mkF m 45 #[.val (.int p0), .val (.long q1), .second, .val (.long q2), .second, .val (.long q3), .second, .val (.int p4), .val (.int (0 : Int32)), .val (.int (1 : Int32)), .val (.int ((p4 &&& (2147483647 : Int32)) % (3 : Int32))), .val (.ref w_TIMEOUT), .unset, .unset] [(.ref b147)])) _
            refine XS.dup X147.here hx rfl (hb hby at_45) rfl rfl ?_
            show Steps p.tables e below (T147.setTop (mkF m 46 #[.val (.int p0), .val (.long q1), .second, .val (.long q2), .second, .val (.long q3), .second, .val (.int p4), .val (.int (0 : Int32)), .val (.int (1 : Int32)), .val (.int ((p4 &&& (2147483647 : Int32)) % (3 : Int32))), .val (.ref w_TIMEOUT), .unset, .unset] [(.ref b147), (.ref b147)])) _
            refine XS.iload X147.here hx rfl (hb hby at_46) rfl ?_
            show Steps p.tables e below (T147.setTop (mkF m 48 #[.val (.int p0), .val (.long q1), .second, .val (.long q2), .second, .val (.long q3), .second, .val (.int p4), .val (.int (0 : Int32)), .val (.int (1 : Int32)), .val (.int ((p4 &&& (2147483647 : Int32)) % (3 : Int32))), .val (.ref w_TIMEOUT), .unset, .unset] [(.int (0 : Int32)), (.ref b147), (.ref b147)])) _
            refine XS.lloadN X147.here hx rfl (hb hby at_48) rfl ?_
            show Steps p.tables e below (T147.setTop (mkF m 49 #[.val (.int p0), .val (.long q1), .second, .val (.long q2), .second, .val (.long q3), .second, .val (.int p4), .val (.int (0 : Int32)), .val (.int (1 : Int32)), .val (.int ((p4 &&& (2147483647 : Int32)) % (3 : Int32))), .val (.ref w_TIMEOUT), .unset, .unset] [(.long q1), (.int (0 : Int32)), (.ref b147), (.ref b147)])) _
            refine XS.lloadN X147.here hx rfl (hb hby at_49) rfl ?_
            show Steps p.tables e below (T147.setTop (mkF m 50 #[.val (.int p0), .val (.long q1), .second, .val (.long q2), .second, .val (.long q3), .second, .val (.int p4), .val (.int (0 : Int32)), .val (.int (1 : Int32)), .val (.int ((p4 &&& (2147483647 : Int32)) % (3 : Int32))), .val (.ref w_TIMEOUT), .unset, .unset] [(.long q2), (.long q1), (.int (0 : Int32)), (.ref b147), (.ref b147)])) _
            refine XS.lload X147.here hx rfl (hb hby at_50) rfl ?_
            show Steps p.tables e below (T147.setTop (mkF m 52 #[.val (.int p0), .val (.long q1), .second, .val (.long q2), .second, .val (.long q3), .second, .val (.int p4), .val (.int (0 : Int32)), .val (.int (1 : Int32)), .val (.int ((p4 &&& (2147483647 : Int32)) % (3 : Int32))), .val (.ref w_TIMEOUT), .unset, .unset] [(.long q3), (.long q2), (.long q1), (.int (0 : Int32)), (.ref b147), (.ref b147)])) _
            refine XS.aload X147.here hx rfl (hb hby at_52) rfl rfl ?_
            show Steps p.tables e below (T147.setTop (mkF m 54 #[.val (.int p0), .val (.long q1), .second, .val (.long q2), .second, .val (.long q3), .second, .val (.int p4), .val (.int (0 : Int32)), .val (.int (1 : Int32)), .val (.int ((p4 &&& (2147483647 : Int32)) % (3 : Int32))), .val (.ref w_TIMEOUT), .unset, .unset] [(.ref w_TIMEOUT), (.long q3), (.long q2), (.long q1), (.int (0 : Int32)), (.ref b147), (.ref b147)])) _
            refine XS.iload X147.here hx rfl (hb hby at_54) rfl ?_
            show Steps p.tables e below (T147.setTop (mkF m 56 #[.val (.int p0), .val (.long q1), .second, .val (.long q2), .second, .val (.long q3), .second, .val (.int p4), .val (.int (0 : Int32)), .val (.int (1 : Int32)), .val (.int ((p4 &&& (2147483647 : Int32)) % (3 : Int32))), .val (.ref w_TIMEOUT), .unset, .unset] [(.int (1 : Int32)), (.ref w_TIMEOUT), (.long q3), (.long q2), (.long q1), (.int (0 : Int32)), (.ref b147), (.ref b147)])) _
            refine st160.trans ?_
            show Steps p.tables e below (T160.setTop (mkF m 59 #[.val (.int p0), .val (.long q1), .second, .val (.long q2), .second, .val (.long q3), .second, .val (.int p4), .val (.int (0 : Int32)), .val (.int (1 : Int32)), .val (.int ((p4 &&& (2147483647 : Int32)) % (3 : Int32))), .val (.ref w_TIMEOUT), .unset, .unset] [(.ref b147)])) _
            refine XS.astore X160.here hx rfl (hb hby at_59) rfl rfl (l' := #[.val (.int p0), .val (.long q1), .second, .val (.long q2), .second, .val (.long q3), .second, .val (.int p4), .val (.int (0 : Int32)), .val (.int (1 : Int32)), .val (.int ((p4 &&& (2147483647 : Int32)) % (3 : Int32))), .val (.ref w_TIMEOUT), .val (.ref b147), .unset]) rfl ?_
            show Steps p.tables e below (T160.setTop (mkF m 61 #[.val (.int p0), .val (.long q1), .second, .val (.long q2), .second, .val (.long q3), .second, .val (.int p4), .val (.int (0 : Int32)), .val (.int (1 : Int32)), .val (.int ((p4 &&& (2147483647 : Int32)) % (3 : Int32))), .val (.ref w_TIMEOUT), .val (.ref b147), .unset] [])) _
            refine XS.iload X160.here hx rfl (hb hby at_61) rfl ?_
            show Steps p.tables e below (T160.setTop (mkF m 63 #[.val (.int p0), .val (.long q1), .second, .val (.long q2), .second, .val (.long q3), .second, .val (.int p4), .val (.int (0 : Int32)), .val (.int (1 : Int32)), .val (.int ((p4 &&& (2147483647 : Int32)) % (3 : Int32))), .val (.ref w_TIMEOUT), .val (.ref b147), .unset] [(.int ((p4 &&& (2147483647 : Int32)) % (3 : Int32)))])) _
            refine XS.ifYes X160.here hx rfl (pc0 := 63) (pc' := 72) rfl (hb hby at_63) rfl ((if0 _ _).trans (feq hk).2) (by decide) (by decide) ?_
            show Steps p.tables e below (T160.setTop (mkF m 72 #[.val (.int p0), .val (.long q1), .second, .val (.long q2), .second, .val (.long q3), .second, .val (.int p4), .val (.int (0 : Int32)), .val (.int (1 : Int32)), .val (.int ((p4 &&& (2147483647 : Int32)) % (3 : Int32))), .val (.ref w_TIMEOUT), .val (.ref b147), .unset] [])) _
            refine XS.iconst X160.here hx rfl (hb hby at_72) ?_
            show Steps p.tables e below (T160.setTop (mkF m 73 #[.val (.int p0), .val (.long q1), .second, .val (.long q2), .second, .val (.long q3), .second, .val (.int p4), .val (.int (0 : Int32)), .val (.int (1 : Int32)), .val (.int ((p4 &&& (2147483647 : Int32)) % (3 : Int32))), .val (.ref w_TIMEOUT), .val (.ref b147), .unset] [(.int (1 : Int32))])) _
            refine XS.istore X160.here hx rfl (hb hby at_73) rfl (l' := #[.val (.int p0), .val (.long q1), .second, .val (.long q2), .second, .val (.long q3), .second, .val (.int p4), .val (.int (0 : Int32)), .val (.int (1 : Int32)), .val (.int ((p4 &&& (2147483647 : Int32)) % (3 : Int32))), .val (.ref w_TIMEOUT), .val (.ref b147), .val (.int (1 : Int32))]) rfl ?_
            show Steps p.tables e below (T160.setTop (mkF m 75 #[.val (.int p0), .val (.long q1), .second, .val (.long q2), .second, .val (.long q3), .second, .val (.int p4), .val (.int (0 : Int32)), .val (.int (1 : Int32)), .val (.int ((p4 &&& (2147483647 : Int32)) % (3 : Int32))), .val (.ref w_TIMEOUT), .val (.ref b147), .val (.int (1 : Int32))] [])) _
            refine XS.aload X160.here hx rfl (hb hby at_75) rfl rfl ?_
            show Steps p.tables e below (T160.setTop (mkF m 77 #[.val (.int p0), .val (.long q1), .second, .val (.long q2), .second, .val (.long q3), .second, .val (.int p4), .val (.int (0 : Int32)), .val (.int (1 : Int32)), .val (.int ((p4 &&& (2147483647 : Int32)) % (3 : Int32))), .val (.ref w_TIMEOUT), .val (.ref b147), .val (.int (1 : Int32))] [(.ref b147)])) _
            refine st174.trans ?_
            show Steps p.tables e below (T174.setTop (mkF m 80 #[.val (.int p0), .val (.long q1), .second, .val (.long q2), .second, .val (.long q3), .second, .val (.int p4), .val (.int (0 : Int32)), .val (.int (1 : Int32)), .val (.int ((p4 &&& (2147483647 : Int32)) % (3 : Int32))), .val (.ref w_TIMEOUT), .val (.ref b147), .val (.int (1 : Int32))] [(.int (F5 w_TIMEOUT w_NONE))])) _
            refine XS.iload X174.here hx rfl (hb hby at_80) rfl ?_
            show Steps p.tables e below (T174.setTop (mkF m 82 #[.val (.int p0), .val (.long q1), .second, .val (.long q2), .second, .val (.long q3), .second, .val (.int p4), .val (.int (0 : Int32)), .val (.int (1 : Int32)), .val (.int ((p4 &&& (2147483647 : Int32)) % (3 : Int32))), .val (.ref w_TIMEOUT), .val (.ref b147), .val (.int (1 : Int32))] [(.int (1 : Int32)), (.int (F5 w_TIMEOUT w_NONE))])) _
            refine XS.icmpNo X174.here hx rfl (hb hby at_82) rfl (teq hc82).2 ?_
            show Steps p.tables e below (T174.setTop (mkF m 85 #[.val (.int p0), .val (.long q1), .second, .val (.long q2), .second, .val (.long q3), .second, .val (.int p4), .val (.int (0 : Int32)), .val (.int (1 : Int32)), .val (.int ((p4 &&& (2147483647 : Int32)) % (3 : Int32))), .val (.ref w_TIMEOUT), .val (.ref b147), .val (.int (1 : Int32))] [])) _
            refine XS.iconst X174.here hx rfl (hb hby at_85) ?_
            show Steps p.tables e below (T174.setTop (mkF m 86 #[.val (.int p0), .val (.long q1), .second, .val (.long q2), .second, .val (.long q3), .second, .val (.int p4), .val (.int (0 : Int32)), .val (.int (1 : Int32)), .val (.int ((p4 &&& (2147483647 : Int32)) % (3 : Int32))), .val (.ref w_TIMEOUT), .val (.ref b147), .val (.int (1 : Int32))] [(.int (1 : Int32))])) _
            refine XS.goto X174.here hx rfl (pc0 := 86) (pc' := 90) rfl (hb hby at_86) (by decide) (by decide) ?_
            show Steps p.tables e below (T174.setTop (mkF m 90 #[.val (.int p0), .val (.long q1), .second, .val (.long q2), .second, .val (.long q3), .second, .val (.int p4), .val (.int (0 : Int32)), .val (.int (1 : Int32)), .val (.int ((p4 &&& (2147483647 : Int32)) % (3 : Int32))), .val (.ref w_TIMEOUT), .val (.ref b147), .val (.int (1 : Int32))] [(.int (1 : Int32))])) _
            exact retN X174 hx (t := .boolean) Bd.returns (by simp) (hb hby at_90) hr
          · show Q0 Z p0 q1 q2 q3 p4 w_NONE w_UNAVAILABLE w_TIMEOUT h0 n0 _ T174.heap _
            rw [e174]
            exact ⟨rfl, N174⟩
  · have pre175 : ∀ t, Steps p.tables e below (s₁.setTop (mkF m 16 #[.val (.int p0), .val (.long q1), .second, .val (.long q2), .second, .val (.long q3), .second, .val (.int p4), .val (.int (1 : Int32)), .unset, .unset, .unset, .unset, .unset] [(.int (p0 &&& (2 : Int32)))])) t → Steps p.tables e below (s₁.setTop (entryFrame m #[(.int p0), (.long q1), (.long q2), (.long q3), (.int p4)] maxLocals)) t := fun t k => by
      refine pre1 t ?_
      show Steps p.tables e below (s₁.setTop (mkF m 3 #[.val (.int p0), .val (.long q1), .second, .val (.long q2), .second, .val (.long q3), .second, .val (.int p4), .unset, .unset, .unset, .unset, .unset, .unset] [(.int (p0 &&& (1 : Int32)))])) _
      refine XS.ifNo X0.here hx rfl (hb hby at_3) rfl ((if0 _ _).trans (feq hc3).1) ?_
      show Steps p.tables e below (s₁.setTop (mkF m 6 #[.val (.int p0), .val (.long q1), .second, .val (.long q2), .second, .val (.long q3), .second, .val (.int p4), .unset, .unset, .unset, .unset, .unset, .unset] [])) _
      refine XS.iconst X0.here hx rfl (hb hby at_6) ?_
      show Steps p.tables e below (s₁.setTop (mkF m 7 #[.val (.int p0), .val (.long q1), .second, .val (.long q2), .second, .val (.long q3), .second, .val (.int p4), .unset, .unset, .unset, .unset, .unset, .unset] [(.int (1 : Int32))])) _
      refine XS.goto X0.here hx rfl (pc0 := 7) (pc' := 11) rfl (hb hby at_7) (by decide) (by decide) ?_
      show Steps p.tables e below (s₁.setTop (mkF m 11 #[.val (.int p0), .val (.long q1), .second, .val (.long q2), .second, .val (.long q3), .second, .val (.int p4), .unset, .unset, .unset, .unset, .unset, .unset] [(.int (1 : Int32))])) _
      refine XS.istore X0.here hx rfl (hb hby at_11) rfl (l' := #[.val (.int p0), .val (.long q1), .second, .val (.long q2), .second, .val (.long q3), .second, .val (.int p4), .val (.int (1 : Int32)), .unset, .unset, .unset, .unset, .unset]) rfl ?_
      show Steps p.tables e below (s₁.setTop (mkF m 13 #[.val (.int p0), .val (.long q1), .second, .val (.long q2), .second, .val (.long q3), .second, .val (.int p4), .val (.int (1 : Int32)), .unset, .unset, .unset, .unset, .unset] [])) _
      refine XS.iloadN X0.here hx rfl (hb hby at_13) rfl ?_
      show Steps p.tables e below (s₁.setTop (mkF m 14 #[.val (.int p0), .val (.long q1), .second, .val (.long q2), .second, .val (.long q3), .second, .val (.int p4), .val (.int (1 : Int32)), .unset, .unset, .unset, .unset, .unset] [(.int p0)])) _
      refine XS.iconst X0.here hx rfl (hb hby at_14) ?_
      show Steps p.tables e below (s₁.setTop (mkF m 15 #[.val (.int p0), .val (.long q1), .second, .val (.long q2), .second, .val (.long q3), .second, .val (.int p4), .val (.int (1 : Int32)), .unset, .unset, .unset, .unset, .unset] [(.int (2 : Int32)), (.int p0)])) _
      refine XS.iand X0.here hx rfl (hb hby at_15) rfl ?_
      exact k
    by_cases hc16 : (p0 &&& (2 : Int32)) = (0 : Int32)
    · obtain ⟨_, _, ⟨T176, L176, k176, n176⟩, -, X176, ⟨Lc176, hQ176, l176, y176, z176⟩, st176⟩ := Jvm.LawKit.callS X0 hx (y := (⟨"com/example/sluis/sluis/model/DecisionDegradedPinLaw", "pick", "(I)Lcom/example/sluis/sluis/model/Degradation;"⟩ : MethodName)) hown (mvT hZ (hw _ (List.mem_of_getElem? (i := 1) rfl))) (mvT hZ (hw _ (List.mem_of_getElem? (i := 2) rfl))) (mvT hZ (hw _ (List.mem_of_getElem? (i := 3) rfl))) (mvT hZ (hw _ (List.mem_of_getElem? (i := 4) rfl))) (by decide) (backOf (W := 0) (rm1 l Z a0 hw [] ((p4 &&& (2147483647 : Int32)) % (3 : Int32)) w_NONE w_UNAVAILABLE w_TIMEOUT h0 n0 Z0 S_NONE S_UNAVAILABLE S_TIMEOUT) hZ (hw _ (List.mem_of_getElem? (i := 4) rfl)) (hw _ (List.mem_of_getElem? (i := 3) rfl)) (by decide) (by decide)) (g := (mkF m 37 #[.val (.int p0), .val (.long q1), .second, .val (.long q2), .second, .val (.long q3), .second, .val (.int p4), .val (.int (1 : Int32)), .val (.int (0 : Int32)), .val (.int ((p4 &&& (2147483647 : Int32)) % (3 : Int32))), .unset, .unset, .unset] [(.int ((p4 &&& (2147483647 : Int32)) % (3 : Int32)))])) rfl (by rw [hml]; rfl) (argsL := [(.int ((p4 &&& (2147483647 : Int32)) % (3 : Int32)))]) (rest := []) (lenOf pd_0 rfl) rfl (by show 2 * 0 + _ ≤ _; exact Nat.le_of_eq rfl) (hb hby at_37) (fun _ _ => ⟨rfl, e0, (by decide : 0 + 0 ≤ _), (by decide : 0 + 0 ≤ _)⟩)
      dsimp only [Pt.U, Pt.locs, Pt.cells, Pt.slots] at X176 l176 y176 z176 st176 hQ176
      subst l176 y176 z176
      obtain ⟨rfl, N176q, e176⟩ := hQ176
      have N176 := Fr.app N0 N176q
      have pre177 : ∀ t, Steps p.tables e below (T176.setTop (mkF m 40 #[.val (.int p0), .val (.long q1), .second, .val (.long q2), .second, .val (.long q3), .second, .val (.int p4), .val (.int (1 : Int32)), .val (.int (0 : Int32)), .val (.int ((p4 &&& (2147483647 : Int32)) % (3 : Int32))), .unset, .unset, .unset] [(.ref (F1 ((p4 &&& (2147483647 : Int32)) % (3 : Int32)) w_NONE w_UNAVAILABLE w_TIMEOUT))])) t → Steps p.tables e below (s₁.setTop (entryFrame m #[(.int p0), (.long q1), (.long q2), (.long q3), (.int p4)] maxLocals)) t := fun t k => by
        refine pre175 t ?_
        show Steps p.tables e below (s₁.setTop (mkF m 16 #[.val (.int p0), .val (.long q1), .second, .val (.long q2), .second, .val (.long q3), .second, .val (.int p4), .val (.int (1 : Int32)), .unset, .unset, .unset, .unset, .unset] [(.int (p0 &&& (2 : Int32)))])) _
        refine XS.ifYes X0.here hx rfl (pc0 := 16) (pc' := 23) rfl (hb hby at_16) rfl ((if0 _ _).trans (teq hc16).1) (by decide) (by decide) ?_
        show Steps p.tables e below (s₁.setTop (mkF m 23 #[.val (.int p0), .val (.long q1), .second, .val (.long q2), .second, .val (.long q3), .second, .val (.int p4), .val (.int (1 : Int32)), .unset, .unset, .unset, .unset, .unset] [])) _
        refine XS.iconst X0.here hx rfl (hb hby at_23) ?_
        show Steps p.tables e below (s₁.setTop (mkF m 24 #[.val (.int p0), .val (.long q1), .second, .val (.long q2), .second, .val (.long q3), .second, .val (.int p4), .val (.int (1 : Int32)), .unset, .unset, .unset, .unset, .unset] [(.int (0 : Int32))])) _
        refine XS.istore X0.here hx rfl (hb hby at_24) rfl (l' := #[.val (.int p0), .val (.long q1), .second, .val (.long q2), .second, .val (.long q3), .second, .val (.int p4), .val (.int (1 : Int32)), .val (.int (0 : Int32)), .unset, .unset, .unset, .unset]) rfl ?_
        show Steps p.tables e below (s₁.setTop (mkF m 26 #[.val (.int p0), .val (.long q1), .second, .val (.long q2), .second, .val (.long q3), .second, .val (.int p4), .val (.int (1 : Int32)), .val (.int (0 : Int32)), .unset, .unset, .unset, .unset] [])) _
        refine XS.iload X0.here hx rfl (hb hby at_26) rfl ?_
        show Steps p.tables e below (s₁.setTop (mkF m 28 #[.val (.int p0), .val (.long q1), .second, .val (.long q2), .second, .val (.long q3), .second, .val (.int p4), .val (.int (1 : Int32)), .val (.int (0 : Int32)), .unset, .unset, .unset, .unset] [(.int p4)])) _
        refine X0.ldcInt hx hown (mvT hZ (hw _ (List.mem_of_getElem? (i := 0) rfl))) (g := (mkF m 28 #[.val (.int p0), .val (.long q1), .second, .val (.long q2), .second, .val (.long q3), .second, .val (.int p4), .val (.int (1 : Int32)), .val (.int (0 : Int32)), .unset, .unset, .unset, .unset] [(.int p4)])) rfl (hb hby at_28) _ ?_
        show Steps p.tables e below (s₁.setTop (mkF m 30 #[.val (.int p0), .val (.long q1), .second, .val (.long q2), .second, .val (.long q3), .second, .val (.int p4), .val (.int (1 : Int32)), .val (.int (0 : Int32)), .unset, .unset, .unset, .unset] [(.int (2147483647 : Int32)), (.int p4)])) _
        refine XS.iand X0.here hx rfl (hb hby at_30) rfl ?_
        show Steps p.tables e below (s₁.setTop (mkF m 31 #[.val (.int p0), .val (.long q1), .second, .val (.long q2), .second, .val (.long q3), .second, .val (.int p4), .val (.int (1 : Int32)), .val (.int (0 : Int32)), .unset, .unset, .unset, .unset] [(.int (p4 &&& (2147483647 : Int32)))])) _
        refine XS.iconst X0.here hx rfl (hb hby at_31) ?_
        show Steps p.tables e below (s₁.setTop (mkF m 32 #[.val (.int p0), .val (.long q1), .second, .val (.long q2), .second, .val (.long q3), .second, .val (.int p4), .val (.int (1 : Int32)), .val (.int (0 : Int32)), .unset, .unset, .unset, .unset] [(.int (3 : Int32)), (.int (p4 &&& (2147483647 : Int32)))])) _
        refine iremM X0 hx rfl (hb hby at_32) rfl (by decide) ?_
        show Steps p.tables e below (s₁.setTop (mkF m 33 #[.val (.int p0), .val (.long q1), .second, .val (.long q2), .second, .val (.long q3), .second, .val (.int p4), .val (.int (1 : Int32)), .val (.int (0 : Int32)), .unset, .unset, .unset, .unset] [(.int ((p4 &&& (2147483647 : Int32)) % (3 : Int32)))])) _
        refine XS.istore X0.here hx rfl (hb hby at_33) rfl (l' := #[.val (.int p0), .val (.long q1), .second, .val (.long q2), .second, .val (.long q3), .second, .val (.int p4), .val (.int (1 : Int32)), .val (.int (0 : Int32)), .val (.int ((p4 &&& (2147483647 : Int32)) % (3 : Int32))), .unset, .unset, .unset]) rfl ?_
        show Steps p.tables e below (s₁.setTop (mkF m 35 #[.val (.int p0), .val (.long q1), .second, .val (.long q2), .second, .val (.long q3), .second, .val (.int p4), .val (.int (1 : Int32)), .val (.int (0 : Int32)), .val (.int ((p4 &&& (2147483647 : Int32)) % (3 : Int32))), .unset, .unset, .unset] [])) _
        refine XS.iload X0.here hx rfl (hb hby at_35) rfl ?_
        show Steps p.tables e below (s₁.setTop (mkF m 37 #[.val (.int p0), .val (.long q1), .second, .val (.long q2), .second, .val (.long q3), .second, .val (.int p4), .val (.int (1 : Int32)), .val (.int (0 : Int32)), .val (.int ((p4 &&& (2147483647 : Int32)) % (3 : Int32))), .unset, .unset, .unset] [(.int ((p4 &&& (2147483647 : Int32)) % (3 : Int32)))])) _
        refine st176 _ ?_
        exact k
      by_cases hk : ((p4 &&& (2147483647 : Int32)) % (3 : Int32)) = (0 : Int32)
      · rw [show (F1 ((p4 &&& (2147483647 : Int32)) % (3 : Int32)) w_NONE w_UNAVAILABLE w_TIMEOUT) = w_NONE from by rw [F1, if_pos hk]] at pre177
        obtain ⟨T178, h178, X178, e178, E178, A178, D178, -, st178⟩ := newO X176 hx hZ hown (hw _ (List.mem_of_getElem? (i := 8) rfl)) (hw _ (List.mem_of_getElem? (i := 9) rfl)) (hw _ (List.mem_of_getElem? (i := 10) rfl)) e176 (g := (mkF m 42 #[.val (.int p0), .val (.long q1), .second, .val (.long q2), .second, .val (.long q3), .second, .val (.int p4), .val (.int (1 : Int32)), .val (.int (0 : Int32)), .val (.int ((p4 &&& (2147483647 : Int32)) % (3 : Int32))), .val (.ref w_NONE), .unset, .unset] [])) rfl (hb hby at_42) (by decide) (by decide)
        obtain ⟨b178, g178⟩ : ∃ z, z = h0.size := ⟨_, rfl⟩
        rw [← g178] at A178 D178 st178
        have ne_w_NONE_b178 : w_NONE ≠ b178 := Nat.ne_of_lt (Nat.lt_of_lt_of_le E_NONE.lt (Nat.le_of_eq g178.symm))
        have ne_w_UNAVAILABLE_b178 : w_UNAVAILABLE ≠ b178 := Nat.ne_of_lt (Nat.lt_of_lt_of_le E_UNAVAILABLE.lt (Nat.le_of_eq g178.symm))
        have ne_w_TIMEOUT_b178 : w_TIMEOUT ≠ b178 := Nat.ne_of_lt (Nat.lt_of_lt_of_le E_TIMEOUT.lt (Nat.le_of_eq g178.symm))
        have sS179 := S_NONE.ext E178
        have eE180 := E_NONE.ext E178
        have sS181 := S_UNAVAILABLE.ext E178
        have eE182 := E_UNAVAILABLE.ext E178
        have sS183 := S_TIMEOUT.ext E178
        have eE184 := E_TIMEOUT.ext E178
        have g_b178 : n0 ≤ b178 := Nat.le_trans Z0 (Nat.le_of_eq g178.symm)
        have Z178 := Nat.le_trans Z0 E178.1
        have fF185 : Fld Z h178 b178 "com/example/sluis/sluis/model/Decision" "admitted" "Z" (.int (0 : Int32)) := D178 (Or.inr (hw _ (List.mem_of_getElem? (i := 23) rfl))) (ty := .boolean) (by decide)
        have fF186 : Fld Z h178 b178 "com/example/sluis/sluis/model/Decision" "remaining" "J" (.long (0 : Int64)) := D178 (Or.inr (hw _ (List.mem_of_getElem? (i := 25) rfl))) (ty := .long) (by decide)
        have fF187 : Fld Z h178 b178 "com/example/sluis/sluis/model/Decision" "retryAfterMillis" "J" (.long (0 : Int64)) := D178 (Or.inr (hw _ (List.mem_of_getElem? (i := 27) rfl))) (ty := .long) (by decide)
        have fF188 : Fld Z h178 b178 "com/example/sluis/sluis/model/Decision" "waitMillis" "J" (.long (0 : Int64)) := D178 (Or.inr (hw _ (List.mem_of_getElem? (i := 29) rfl))) (ty := .long) (by decide)
        have fF189 : Fld Z h178 b178 "com/example/sluis/sluis/model/Decision" "degradation" "Lcom/example/sluis/sluis/model/Degradation;" .null := D178 (Or.inr (hw _ (List.mem_of_getElem? (i := 31) rfl))) (ty := (.object "com/example/sluis/sluis/model/Degradation")) (by decide)
        have fF190 : Fld Z h178 b178 "com/example/sluis/sluis/model/Decision" "banned" "Z" (.int (0 : Int32)) := D178 (Or.inr (hw _ (List.mem_of_getElem? (i := 33) rfl))) (ty := .boolean) (by decide)
        obtain ⟨_, _, ⟨T191, L191, k191, n191⟩, -, X191, ⟨Lc191, hQ191, l191, y191, z191⟩, st191⟩ := X178.specialBack hx (y := (⟨"com/example/sluis/sluis/model/Decision", "<init>", "(ZJJJLcom/example/sluis/sluis/model/Degradation;Z)V"⟩ : MethodName)) rfl hown (mvT hZ (hw _ (List.mem_of_getElem? (i := 11) rfl))) (mvT hZ (hw _ (List.mem_of_getElem? (i := 12) rfl))) (mvT hZ (hw _ (List.mem_of_getElem? (i := 13) rfl))) (by decide) (backOf (W := 1) (rm2 l Z a0 hw [] b178 (1 : Int32) q1 q2 q3 w_NONE (0 : Int32) (.int (0 : Int32)) (.long (0 : Int64)) (.long (0 : Int64)) (.long (0 : Int64)) .null (.int (0 : Int32)) h178 n0 Z178 fF185 fF186 fF187 fF188 fF189 fF190 A178 g_b178) hZ (hw _ (List.mem_of_getElem? (i := 13) rfl)) (hw _ (List.mem_of_getElem? (i := 10) rfl)) (by decide) (by decide)) (g := (mkF m 56 #[.val (.int p0), .val (.long q1), .second, .val (.long q2), .second, .val (.long q3), .second, .val (.int p4), .val (.int (1 : Int32)), .val (.int (0 : Int32)), .val (.int ((p4 &&& (2147483647 : Int32)) % (3 : Int32))), .val (.ref w_NONE), .unset, .unset] [(.int (0 : Int32)), (.ref w_NONE), (.long q3), (.long q2), (.long q1), (.int (1 : Int32)), (.ref b178), (.ref b178)])) rfl (by rw [hml]; rfl) (Steps.refl _) (a := b178) (argsL := [(.int (1 : Int32)), (.long q1), (.long q2), (.long q3), (.ref w_NONE), (.int (0 : Int32))]) (rest := [(.ref b178)]) (lenOf pd_2 rfl) rfl (by show 2 * 0 + _ ≤ _; exact Nat.le_of_eq rfl) (hb hby at_56) (fun _ _ => ⟨rfl, e178, (by decide : 1 + 0 ≤ _), (by decide : 6 + 0 ≤ _)⟩)
        dsimp only [Pt.U, Pt.locs, Pt.cells, Pt.slots] at X191 l191 y191 z191 st191 hQ191
        subst l191 y191 z191
        obtain ⟨rfl, N191q, K191, G192, G193, G194, G195, G196, G197, G198⟩ := hQ191
        have sS199 := own_sta sS179 K191 A178
        have eE200 := eE180.keep K191
        have sS201 := own_sta sS181 K191 A178
        have eE202 := eE182.keep K191
        have sS203 := own_sta sS183 K191 A178
        have eE204 := eE184.keep K191
        have Z191 := Nat.le_trans Z178 K191.1
        have N191 := Fr.app N176 N191q
        obtain ⟨cq205, kq205, q205a, q205b, q205c⟩ := isOf hZ rfl G192
        obtain ⟨_, _, ⟨T205, L205, k205, n205⟩, -, X205, ⟨Lc205, hQ205, l205, y205, z205⟩, st205⟩ := X191.virtualBack hx (y := (⟨"com/example/sluis/sluis/model/Decision", "degraded", "()Z"⟩ : MethodName)) (z := (⟨"com/example/sluis/sluis/model/Decision", "degraded", "()Z"⟩ : MethodName)) hown (mvT hZ (hw _ (List.mem_of_getElem? (i := 34) rfl))) (mvT hZ (hw _ (List.mem_of_getElem? (i := 35) rfl))) (notFace_of_selects (args := #[]) (mvT hZ (hw _ (List.mem_of_getElem? (i := 37) rfl)))) (mvT hZ (hw _ (List.mem_of_getElem? (i := 37) rfl))) (mvT hZ (hw _ (List.mem_of_getElem? (i := 36) rfl))) (by decide) (backOf (W := 0) (rm5 l Z a0 hw [] b178 w_NONE w_NONE T191.heap n0 Z191 G197 sS199) hZ (hw _ (List.mem_of_getElem? (i := 38) rfl)) (hw _ (List.mem_of_getElem? (i := 10) rfl)) (by decide) (by decide)) q205a q205c (g := (mkF m 77 #[.val (.int p0), .val (.long q1), .second, .val (.long q2), .second, .val (.long q3), .second, .val (.int p4), .val (.int (1 : Int32)), .val (.int (0 : Int32)), .val (.int ((p4 &&& (2147483647 : Int32)) % (3 : Int32))), .val (.ref w_NONE), .val (.ref b178), .val (.int (0 : Int32))] [(.ref b178)])) rfl (by rw [hml]; rfl) (Steps.refl _) (argsL := []) (rest := []) (lenOf pd_3 rfl) rfl (by show 2 * 0 + _ ≤ _; exact Nat.le_of_eq rfl) (hb hby at_77) (fun _ _ => ⟨rfl, rfl, (by decide : 1 + 0 ≤ _), (by decide : 6 + 0 ≤ _)⟩)
        dsimp only [Pt.U, Pt.locs, Pt.cells, Pt.slots] at X205 l205 y205 z205 st205 hQ205
        subst l205 y205 z205
        obtain ⟨rfl, N205q, e205⟩ := hQ205
        have N205 := Fr.app N191 N205q
        have hc82 : (F5 w_NONE w_NONE) = (0 : Int32) := by rw [F5, if_pos rfl]
        obtain ⟨fs, hr, hrun, hended, hW, hsame⟩ := X205.leave (v := some (.int (1 : Int32))) (fun h => by rw [Bd.returns] at h; cases h) (BodyLoose.notSynchronized Bd)
        refine ⟨_, _, pre177 _ ?_, hrun, hended, _, _, rfl, ?_, ⟨_, rfl⟩, hW, hsame.mono (by decide) (by decide)⟩
        · show Steps p.tables e below (T176.setTop (mkF m 40 #[.val (.int p0), .val (.long q1), .second, .val (.long q2), .second, .val (.long q3), .second, .val (.int p4), .val (.int (1 : Int32)), .val (.int (0 : Int32)), .val (.int ((p4 &&& (2147483647 : Int32)) % (3 : Int32))), .unset, .unset, .unset] [(.ref w_NONE)])) _
          refine XS.astore X176.here hx rfl (hb hby at_40) rfl rfl (l' := #[.val (.int p0), .val (.long q1), .second, .val (.long q2), .second, .val (.long q3), .second, .val (.int p4), .val (.int (1 : Int32)), .val (.int (0 : Int32)), .val (.int ((p4 &&& (2147483647 : Int32)) % (3 : Int32))), .val (.ref w_NONE), .unset, .unset]) rfl ?_
          show Steps p.tables e below (T176.setTop (mkF m 42 #[.val (.int p0), .val (.long q1), .second, .val (.long q2), .second, .val (.long q3), .second, .val (.int p4), .val (.int (1 : Int32)), .val (.int (0 : Int32)), .val (.int ((p4 &&& (2147483647 : Int32)) % (3 : Int32))), .val (.ref w_NONE), .unset, .unset] [])) _
          refine st178 _ ?_
          show Steps p.tables e below (T178.setTop (mkF m 45 #[.val (.int p0), .val (.long q1), .second, .val (.long q2), .second, .val (.long q3), .second, .val (.int p4), .val (.int (1 : Int32)), .val (.int (0 : Int32)), .val (.int ((p4 &&& (2147483647 : Int32)) % (3 : Int32))), .val (.ref w_NONE), .unset, .unset] [(.ref b178)])) _
          refine XS.dup X178.here hx rfl (hb hby at_45) rfl rfl ?_
          show Steps p.tables e below (T178.setTop (mkF m 46 #[.val (.int p0), .val (.long q1), .second, .val (.long q2), .second, .val (.long q3), .second, .val (.int p4), .val (.int (1 : Int32)), .val (.int (0 : Int32)), .val (.int ((p4 &&& (2147483647 : Int32)) % (3 : Int32))), .val (.ref w_NONE), .unset, .unset] [(.ref b178), (.ref b178)])) _
          refine XS.iload X178.here hx rfl (hb hby at_46) rfl ?_
          show Steps p.tables e below (T178.setTop (mkF m 48 #[.val (.int p0), .val (.long q1), .second, .val (.long q2), .second, .val (.long q3), .second, .val (.int p4), .val (.int (1 : Int32)), .val (.int (0 : Int32)), .val (.int ((p4 &&& (2147483647 : Int32)) % (3 : Int32))), .val (.ref w_NONE), .unset, .unset] [(.int (1 : Int32)), (.ref b178), (.ref b178)])) _
          refine XS.lloadN X178.here hx rfl (hb hby at_48) rfl ?_
          show Steps p.tables e below (T178.setTop (mkF m 49 #[.val (.int p0), .val (.long q1), .second, .val (.long q2), .second, .val (.long q3), .second, .val (.int p4), .val (.int (1 : Int32)), .val (.int (0 : Int32)), .val (.int ((p4 &&& (2147483647 : Int32)) % (3 : Int32))), .val (.ref w_NONE), .unset, .unset] [(.long q1), (.int (1 : Int32)), (.ref b178), (.ref b178)])) _
          refine XS.lloadN X178.here hx rfl (hb hby at_49) rfl ?_
          show Steps p.tables e below (T178.setTop (mkF m 50 #[.val (.int p0), .val (.long q1), .second, .val (.long q2), .second, .val (.long q3), .second, .val (.int p4), .val (.int (1 : Int32)), .val (.int (0 : Int32)), .val (.int ((p4 &&& (2147483647 : Int32)) % (3 : Int32))), .val (.ref w_NONE), .unset, .unset] [(.long q2), (.long q1), (.int (1 : Int32)), (.ref b178), (.ref b178)])) _
          refine XS.lload X178.here hx rfl (hb hby at_50) rfl ?_
          show Steps p.tables e below (T178.setTop (mkF m 52 #[.val (.int p0), .val (.long q1), .second, .val (.long q2), .second, .val (.long q3), .second, .val (.int p4), .val (.int (1 : Int32)), .val (.int (0 : Int32)), .val (.int ((p4 &&& (2147483647 : Int32)) % (3 : Int32))), .val (.ref w_NONE), .unset, .unset] [(.long q3), (.long q2), (.long q1), (.int (1 : Int32)), (.ref b178), (.ref b178)])) _
          refine XS.aload X178.here hx rfl (hb hby at_52) rfl rfl ?_
          show Steps p.tables e below (T178.setTop (mkF m 54 #[.val (.int p0), .val (.long q1), .second, .val (.long q2), .second, .val (.long q3), .second, .val (.int p4), .val (.int (1 : Int32)), .val (.int (0 : Int32)), .val (.int ((p4 &&& (2147483647 : Int32)) % (3 : Int32))), .val (.ref w_NONE), .unset, .unset] [(.ref w_NONE), (.long q3), (.long q2), (.long q1), (.int (1 : Int32)), (.ref b178), (.ref b178)])) _
          refine XS.iload X178.here hx rfl (hb hby at_54) rfl ?_
          show Steps p.tables e below (T178.setTop (mkF m 56 #[.val (.int p0), .val (.long q1), .second, .val (.long q2), .second, .val (.long q3), .second, .val (.int p4), .val (.int (1 : Int32)), .val (.int (0 : Int32)), .val (.int ((p4 &&& (2147483647 : Int32)) % (3 : Int32))), .val (.ref w_NONE), .unset, .unset] [(.int (0 : Int32)), (.ref w_NONE), (.long q3), (.long q2), (.long q1), (.int (1 : Int32)), (.ref b178), (.ref b178)])) _
          refine st191.trans ?_
          show Steps p.tables e below (T191.setTop (mkF m 59 #[.val (.int p0), .val (.long q1), .second, .val (.long q2), .second, .val (.long q3), .second, .val (.int p4), .val (.int (1 : Int32)), .val (.int (0 : Int32)), .val (.int ((p4 &&& (2147483647 : Int32)) % (3 : Int32))), .val (.ref w_NONE), .unset, .unset] [(.ref b178)])) _
          refine XS.astore X191.here hx rfl (hb hby at_59) rfl rfl (l' := #[.val (.int p0), .val (.long q1), .second, .val (.long q2), .second, .val (.long q3), .second, .val (.int p4), .val (.int (1 : Int32)), .val (.int (0 : Int32)), .val (.int ((p4 &&& (2147483647 : Int32)) % (3 : Int32))), .val (.ref w_NONE), .val (.ref b178), .unset]) rfl ?_
          show Steps p.tables e below (T191.setTop (mkF m 61 #[.val (.int p0), .val (.long q1), .second, .val (.long q2), .second, .val (.long q3), .second, .val (.int p4), .val (.int (1 : Int32)), .val (.int (0 : Int32)), .val (.int ((p4 &&& (2147483647 : Int32)) % (3 : Int32))), .val (.ref w_NONE), .val (.ref b178), .unset] [])) _
          refine XS.iload X191.here hx rfl (hb hby at_61) rfl ?_
          show Steps p.tables e below (T191.setTop (mkF m 63 #[.val (.int p0), .val (.long q1), .second, .val (.long q2), .second, .val (.long q3), .second, .val (.int p4), .val (.int (1 : Int32)), .val (.int (0 : Int32)), .val (.int ((p4 &&& (2147483647 : Int32)) % (3 : Int32))), .val (.ref w_NONE), .val (.ref b178), .unset] [(.int ((p4 &&& (2147483647 : Int32)) % (3 : Int32)))])) _
          refine XS.ifNo X191.here hx rfl (hb hby at_63) rfl ((if0 _ _).trans (teq hk).2) ?_
          show Steps p.tables e below (T191.setTop (mkF m 66 #[.val (.int p0), .val (.long q1), .second, .val (.long q2), .second, .val (.long q3), .second, .val (.int p4), .val (.int (1 : Int32)), .val (.int (0 : Int32)), .val (.int ((p4 &&& (2147483647 : Int32)) % (3 : Int32))), .val (.ref w_NONE), .val (.ref b178), .unset] [])) _
          refine XS.iconst X191.here hx rfl (hb hby at_66) ?_
          show Steps p.tables e below (T191.setTop (mkF m 67 #[.val (.int p0), .val (.long q1), .second, .val (.long q2), .second, .val (.long q3), .second, .val (.int p4), .val (.int (1 : Int32)), .val (.int (0 : Int32)), .val (.int ((p4 &&& (2147483647 : Int32)) % (3 : Int32))), .val (.ref w_NONE), .val (.ref b178), .unset] [(.int (0 : Int32))])) _
          refine XS.istore X191.here hx rfl (hb hby at_67) rfl (l' := #[.val (.int p0), .val (.long q1), .second, .val (.long q2), .second, .val (.long q3), .second, .val (.int p4), .val (.int (1 : Int32)), .val (.int (0 : Int32)), .val (.int ((p4 &&& (2147483647 : Int32)) % (3 : Int32))), .val (.ref w_NONE), .val (.ref b178), .val (.int (0 : Int32))]) rfl ?_
          show Steps p.tables e below (T191.setTop (mkF m 69 #[.val (.int p0), .val (.long q1), .second, .val (.long q2), .second, .val (.long q3), .second, .val (.int p4), .val (.int (1 : Int32)), .val (.int (0 : Int32)), .val (.int ((p4 &&& (2147483647 : Int32)) % (3 : Int32))), .val (.ref w_NONE), .val (.ref b178), .val (.int (0 : Int32))] [])) _
          refine XS.goto X191.here hx rfl (pc0 := 69) (pc' := 75) rfl (hb hby at_69) (by decide) (by decide) ?_
          show Steps p.tables e below (T191.setTop (mkF m 75 #[.val (.int p0), .val (.long q1), .second, .val (.long q2), .second, .val (.long q3), .second, .val (.int p4), .val (.int (1 : Int32)), .val (.int (0 : Int32)), .val (.int ((p4 &&& (2147483647 : Int32)) % (3 : Int32))), .val (.ref w_NONE), .val (.ref b178), .val (.int (0 : Int32))] [])) _
          refine XS.aload X191.here hx rfl (hb hby at_75) rfl rfl ?_
          show Steps p.tables e below (T191.setTop (mkF m 77 #[.val (.int p0), .val (.long q1), .second, .val (.long q2), .second, .val (.long q3), .second, .val (.int p4), .val (.int (1 : Int32)), .val (.int (0 : Int32)), .val (.int ((p4 &&& (2147483647 : Int32)) % (3 : Int32))), .val (.ref w_NONE), .val (.ref b178), .val (.int (0 : Int32))] [(.ref b178)])) _
          refine st205.trans ?_
          show Steps p.tables e below (T205.setTop (mkF m 80 #[.val (.int p0), .val (.long q1), .second, .val (.long q2), .second, .val (.long q3), .second, .val (.int p4), .val (.int (1 : Int32)), .val (.int (0 : Int32)), .val (.int ((p4 &&& (2147483647 : Int32)) % (3 : Int32))), .val (.ref w_NONE), .val (.ref b178), .val (.int (0 : Int32))] [(.int (F5 w_NONE w_NONE))])) _
          refine XS.iload X205.here hx rfl (hb hby at_80) rfl ?_
          show Steps p.tables e below (T205.setTop (mkF m 82 #[.val (.int p0), .val (.long q1), .second, .val (.long q2), .second, .val (.long q3), .second, .val (.int p4), .val (.int (1 : Int32)), .val (.int (0 : Int32)), .val (.int ((p4 &&& (2147483647 : Int32)) % (3 : Int32))), .val (.ref w_NONE), .val (.ref b178), .val (.int (0 : Int32))] [(.int (0 : Int32)), (.int (F5 w_NONE w_NONE))])) _
          refine XS.icmpNo X205.here hx rfl (hb hby at_82) rfl (teq hc82).2 ?_
          show Steps p.tables e below (T205.setTop (mkF m 85 #[.val (.int p0), .val (.long q1), .second, .val (.long q2), .second, .val (.long q3), .second, .val (.int p4), .val (.int (1 : Int32)), .val (.int (0 : Int32)), .val (.int ((p4 &&& (2147483647 : Int32)) % (3 : Int32))), .val (.ref w_NONE), .val (.ref b178), .val (.int (0 : Int32))] [])) _
          refine XS.iconst X205.here hx rfl (hb hby at_85) ?_
          show Steps p.tables e below (T205.setTop (mkF m 86 #[.val (.int p0), .val (.long q1), .second, .val (.long q2), .second, .val (.long q3), .second, .val (.int p4), .val (.int (1 : Int32)), .val (.int (0 : Int32)), .val (.int ((p4 &&& (2147483647 : Int32)) % (3 : Int32))), .val (.ref w_NONE), .val (.ref b178), .val (.int (0 : Int32))] [(.int (1 : Int32))])) _
          refine XS.goto X205.here hx rfl (pc0 := 86) (pc' := 90) rfl (hb hby at_86) (by decide) (by decide) ?_
          show Steps p.tables e below (T205.setTop (mkF m 90 #[.val (.int p0), .val (.long q1), .second, .val (.long q2), .second, .val (.long q3), .second, .val (.int p4), .val (.int (1 : Int32)), .val (.int (0 : Int32)), .val (.int ((p4 &&& (2147483647 : Int32)) % (3 : Int32))), .val (.ref w_NONE), .val (.ref b178), .val (.int (0 : Int32))] [(.int (1 : Int32))])) _
          exact retN X205 hx (t := .boolean) Bd.returns (by simp) (hb hby at_90) hr
        · show Q0 Z p0 q1 q2 q3 p4 w_NONE w_UNAVAILABLE w_TIMEOUT h0 n0 _ T205.heap _
          rw [e205]
          exact ⟨rfl, N205⟩
      · by_cases hk_2 : ((p4 &&& (2147483647 : Int32)) % (3 : Int32)) = (1 : Int32)
        · rw [show (F1 ((p4 &&& (2147483647 : Int32)) % (3 : Int32)) w_NONE w_UNAVAILABLE w_TIMEOUT) = w_UNAVAILABLE from by rw [F1, if_neg hk, if_pos hk_2]] at pre177
          obtain ⟨T206, h206, X206, e206, E206, A206, D206, -, st206⟩ := newO X176 hx hZ hown (hw _ (List.mem_of_getElem? (i := 8) rfl)) (hw _ (List.mem_of_getElem? (i := 9) rfl)) (hw _ (List.mem_of_getElem? (i := 10) rfl)) e176 (g := (mkF m 42 #[.val (.int p0), .val (.long q1), .second, .val (.long q2), .second, .val (.long q3), .second, .val (.int p4), .val (.int (1 : Int32)), .val (.int (0 : Int32)), .val (.int ((p4 &&& (2147483647 : Int32)) % (3 : Int32))), .val (.ref w_UNAVAILABLE), .unset, .unset] [])) rfl (hb hby at_42) (by decide) (by decide)
          obtain ⟨b206, g206⟩ : ∃ z, z = h0.size := ⟨_, rfl⟩
          rw [← g206] at A206 D206 st206
          have ne_w_NONE_b206 : w_NONE ≠ b206 := Nat.ne_of_lt (Nat.lt_of_lt_of_le E_NONE.lt (Nat.le_of_eq g206.symm))
          have ne_w_UNAVAILABLE_b206 : w_UNAVAILABLE ≠ b206 := Nat.ne_of_lt (Nat.lt_of_lt_of_le E_UNAVAILABLE.lt (Nat.le_of_eq g206.symm))
          have ne_w_TIMEOUT_b206 : w_TIMEOUT ≠ b206 := Nat.ne_of_lt (Nat.lt_of_lt_of_le E_TIMEOUT.lt (Nat.le_of_eq g206.symm))
          have sS207 := S_NONE.ext E206
          have eE208 := E_NONE.ext E206
          have sS209 := S_UNAVAILABLE.ext E206
          have eE210 := E_UNAVAILABLE.ext E206
          have sS211 := S_TIMEOUT.ext E206
          have eE212 := E_TIMEOUT.ext E206
          have g_b206 : n0 ≤ b206 := Nat.le_trans Z0 (Nat.le_of_eq g206.symm)
          have Z206 := Nat.le_trans Z0 E206.1
          have fF213 : Fld Z h206 b206 "com/example/sluis/sluis/model/Decision" "admitted" "Z" (.int (0 : Int32)) := D206 (Or.inr (hw _ (List.mem_of_getElem? (i := 23) rfl))) (ty := .boolean) (by decide)
          have fF214 : Fld Z h206 b206 "com/example/sluis/sluis/model/Decision" "remaining" "J" (.long (0 : Int64)) := D206 (Or.inr (hw _ (List.mem_of_getElem? (i := 25) rfl))) (ty := .long) (by decide)
          have fF215 : Fld Z h206 b206 "com/example/sluis/sluis/model/Decision" "retryAfterMillis" "J" (.long (0 : Int64)) := D206 (Or.inr (hw _ (List.mem_of_getElem? (i := 27) rfl))) (ty := .long) (by decide)
          have fF216 : Fld Z h206 b206 "com/example/sluis/sluis/model/Decision" "waitMillis" "J" (.long (0 : Int64)) := D206 (Or.inr (hw _ (List.mem_of_getElem? (i := 29) rfl))) (ty := .long) (by decide)
          have fF217 : Fld Z h206 b206 "com/example/sluis/sluis/model/Decision" "degradation" "Lcom/example/sluis/sluis/model/Degradation;" .null := D206 (Or.inr (hw _ (List.mem_of_getElem? (i := 31) rfl))) (ty := (.object "com/example/sluis/sluis/model/Degradation")) (by decide)
          have fF218 : Fld Z h206 b206 "com/example/sluis/sluis/model/Decision" "banned" "Z" (.int (0 : Int32)) := D206 (Or.inr (hw _ (List.mem_of_getElem? (i := 33) rfl))) (ty := .boolean) (by decide)
          obtain ⟨_, _, ⟨T219, L219, k219, n219⟩, -, X219, ⟨Lc219, hQ219, l219, y219, z219⟩, st219⟩ := X206.specialBack hx (y := (⟨"com/example/sluis/sluis/model/Decision", "<init>", "(ZJJJLcom/example/sluis/sluis/model/Degradation;Z)V"⟩ : MethodName)) rfl hown (mvT hZ (hw _ (List.mem_of_getElem? (i := 11) rfl))) (mvT hZ (hw _ (List.mem_of_getElem? (i := 12) rfl))) (mvT hZ (hw _ (List.mem_of_getElem? (i := 13) rfl))) (by decide) (backOf (W := 1) (rm2 l Z a0 hw [] b206 (1 : Int32) q1 q2 q3 w_UNAVAILABLE (0 : Int32) (.int (0 : Int32)) (.long (0 : Int64)) (.long (0 : Int64)) (.long (0 : Int64)) .null (.int (0 : Int32)) h206 n0 Z206 fF213 fF214 fF215 fF216 fF217 fF218 A206 g_b206) hZ (hw _ (List.mem_of_getElem? (i := 13) rfl)) (hw _ (List.mem_of_getElem? (i := 10) rfl)) (by decide) (by decide)) (g := (mkF m 56 #[.val (.int p0), .val (.long q1), .second, .val (.long q2), .second, .val (.long q3), .second, .val (.int p4), .val (.int (1 : Int32)), .val (.int (0 : Int32)), .val (.int ((p4 &&& (2147483647 : Int32)) % (3 : Int32))), .val (.ref w_UNAVAILABLE), .unset, .unset] [(.int (0 : Int32)), (.ref w_UNAVAILABLE), (.long q3), (.long q2), (.long q1), (.int (1 : Int32)), (.ref b206), (.ref b206)])) rfl (by rw [hml]; rfl) (Steps.refl _) (a := b206) (argsL := [(.int (1 : Int32)), (.long q1), (.long q2), (.long q3), (.ref w_UNAVAILABLE), (.int (0 : Int32))]) (rest := [(.ref b206)]) (lenOf pd_2 rfl) rfl (by show 2 * 0 + _ ≤ _; exact Nat.le_of_eq rfl) (hb hby at_56) (fun _ _ => ⟨rfl, e206, (by decide : 1 + 0 ≤ _), (by decide : 6 + 0 ≤ _)⟩)
          dsimp only [Pt.U, Pt.locs, Pt.cells, Pt.slots] at X219 l219 y219 z219 st219 hQ219
          subst l219 y219 z219
          obtain ⟨rfl, N219q, K219, G220, G221, G222, G223, G224, G225, G226⟩ := hQ219
          have sS227 := own_sta sS207 K219 A206
          have eE228 := eE208.keep K219
          have sS229 := own_sta sS209 K219 A206
          have eE230 := eE210.keep K219
          have sS231 := own_sta sS211 K219 A206
          have eE232 := eE212.keep K219
          have Z219 := Nat.le_trans Z206 K219.1
          have N219 := Fr.app N176 N219q
          obtain ⟨cq233, kq233, q233a, q233b, q233c⟩ := isOf hZ rfl G220
          obtain ⟨_, _, ⟨T233, L233, k233, n233⟩, -, X233, ⟨Lc233, hQ233, l233, y233, z233⟩, st233⟩ := X219.virtualBack hx (y := (⟨"com/example/sluis/sluis/model/Decision", "degraded", "()Z"⟩ : MethodName)) (z := (⟨"com/example/sluis/sluis/model/Decision", "degraded", "()Z"⟩ : MethodName)) hown (mvT hZ (hw _ (List.mem_of_getElem? (i := 34) rfl))) (mvT hZ (hw _ (List.mem_of_getElem? (i := 35) rfl))) (notFace_of_selects (args := #[]) (mvT hZ (hw _ (List.mem_of_getElem? (i := 37) rfl)))) (mvT hZ (hw _ (List.mem_of_getElem? (i := 37) rfl))) (mvT hZ (hw _ (List.mem_of_getElem? (i := 36) rfl))) (by decide) (backOf (W := 0) (rm5 l Z a0 hw [] b206 w_UNAVAILABLE w_NONE T219.heap n0 Z219 G225 sS227) hZ (hw _ (List.mem_of_getElem? (i := 38) rfl)) (hw _ (List.mem_of_getElem? (i := 10) rfl)) (by decide) (by decide)) q233a q233c (g := (mkF m 77 #[.val (.int p0), .val (.long q1), .second, .val (.long q2), .second, .val (.long q3), .second, .val (.int p4), .val (.int (1 : Int32)), .val (.int (0 : Int32)), .val (.int ((p4 &&& (2147483647 : Int32)) % (3 : Int32))), .val (.ref w_UNAVAILABLE), .val (.ref b206), .val (.int (1 : Int32))] [(.ref b206)])) rfl (by rw [hml]; rfl) (Steps.refl _) (argsL := []) (rest := []) (lenOf pd_3 rfl) rfl (by show 2 * 0 + _ ≤ _; exact Nat.le_of_eq rfl) (hb hby at_77) (fun _ _ => ⟨rfl, rfl, (by decide : 1 + 0 ≤ _), (by decide : 6 + 0 ≤ _)⟩)
          dsimp only [Pt.U, Pt.locs, Pt.cells, Pt.slots] at X233 l233 y233 z233 st233 hQ233
          subst l233 y233 z233
          obtain ⟨rfl, N233q, e233⟩ := hQ233
          have N233 := Fr.app N219 N233q
          have hc82 : (F5 w_UNAVAILABLE w_NONE) = (1 : Int32) := by rw [F5, if_neg ne_UNAVAILABLE_NONE]
          obtain ⟨fs, hr, hrun, hended, hW, hsame⟩ := X233.leave (v := some (.int (1 : Int32))) (fun h => by rw [Bd.returns] at h; cases h) (BodyLoose.notSynchronized Bd)
          refine ⟨_, _, pre177 _ ?_, hrun, hended, _, _, rfl, ?_, ⟨_, rfl⟩, hW, hsame.mono (by decide) (by decide)⟩
          · show Steps p.tables e below (T176.setTop (mkF m 40 #[.val (.int p0), .val (.long q1), .second, .val (.long q2), .second, .val (.long q3), .second, .val (.int p4), .val (.int (1 : Int32)), .val (.int (0 : Int32)), .val (.int ((p4 &&& (2147483647 : Int32)) % (3 : Int32))), .unset, .unset, .unset] [(.ref w_UNAVAILABLE)])) _
            refine XS.astore X176.here hx rfl (hb hby at_40) rfl rfl (l' := #[.val (.int p0), .val (.long q1), .second, .val (.long q2), .second, .val (.long q3), .second, .val (.int p4), .val (.int (1 : Int32)), .val (.int (0 : Int32)), .val (.int ((p4 &&& (2147483647 : Int32)) % (3 : Int32))), .val (.ref w_UNAVAILABLE), .unset, .unset]) rfl ?_
            show Steps p.tables e below (T176.setTop (mkF m 42 #[.val (.int p0), .val (.long q1), .second, .val (.long q2), .second, .val (.long q3), .second, .val (.int p4), .val (.int (1 : Int32)), .val (.int (0 : Int32)), .val (.int ((p4 &&& (2147483647 : Int32)) % (3 : Int32))), .val (.ref w_UNAVAILABLE), .unset, .unset] [])) _
            refine st206 _ ?_
            show Steps p.tables e below (T206.setTop (mkF m 45 #[.val (.int p0), .val (.long q1), .second, .val (.long q2), .second, .val (.long q3), .second, .val (.int p4), .val (.int (1 : Int32)), .val (.int (0 : Int32)), .val (.int ((p4 &&& (2147483647 : Int32)) % (3 : Int32))), .val (.ref w_UNAVAILABLE), .unset, .unset] [(.ref b206)])) _
            refine XS.dup X206.here hx rfl (hb hby at_45) rfl rfl ?_
            show Steps p.tables e below (T206.setTop (mkF m 46 #[.val (.int p0), .val (.long q1), .second, .val (.long q2), .second, .val (.long q3), .second, .val (.int p4), .val (.int (1 : Int32)), .val (.int (0 : Int32)), .val (.int ((p4 &&& (2147483647 : Int32)) % (3 : Int32))), .val (.ref w_UNAVAILABLE), .unset, .unset] [(.ref b206), (.ref b206)])) _
            refine XS.iload X206.here hx rfl (hb hby at_46) rfl ?_
            show Steps p.tables e below (T206.setTop (mkF m 48 #[.val (.int p0), .val (.long q1), .second, .val (.long q2), .second, .val (.long q3), .second, .val (.int p4), .val (.int (1 : Int32)), .val (.int (0 : Int32)), .val (.int ((p4 &&& (2147483647 : Int32)) % (3 : Int32))), .val (.ref w_UNAVAILABLE), .unset, .unset] [(.int (1 : Int32)), (.ref b206), (.ref b206)])) _
            refine XS.lloadN X206.here hx rfl (hb hby at_48) rfl ?_
            show Steps p.tables e below (T206.setTop (mkF m 49 #[.val (.int p0), .val (.long q1), .second, .val (.long q2), .second, .val (.long q3), .second, .val (.int p4), .val (.int (1 : Int32)), .val (.int (0 : Int32)), .val (.int ((p4 &&& (2147483647 : Int32)) % (3 : Int32))), .val (.ref w_UNAVAILABLE), .unset, .unset] [(.long q1), (.int (1 : Int32)), (.ref b206), (.ref b206)])) _
            refine XS.lloadN X206.here hx rfl (hb hby at_49) rfl ?_
            show Steps p.tables e below (T206.setTop (mkF m 50 #[.val (.int p0), .val (.long q1), .second, .val (.long q2), .second, .val (.long q3), .second, .val (.int p4), .val (.int (1 : Int32)), .val (.int (0 : Int32)), .val (.int ((p4 &&& (2147483647 : Int32)) % (3 : Int32))), .val (.ref w_UNAVAILABLE), .unset, .unset] [(.long q2), (.long q1), (.int (1 : Int32)), (.ref b206), (.ref b206)])) _
            refine XS.lload X206.here hx rfl (hb hby at_50) rfl ?_
            show Steps p.tables e below (T206.setTop (mkF m 52 #[.val (.int p0), .val (.long q1), .second, .val (.long q2), .second, .val (.long q3), .second, .val (.int p4), .val (.int (1 : Int32)), .val (.int (0 : Int32)), .val (.int ((p4 &&& (2147483647 : Int32)) % (3 : Int32))), .val (.ref w_UNAVAILABLE), .unset, .unset] [(.long q3), (.long q2), (.long q1), (.int (1 : Int32)), (.ref b206), (.ref b206)])) _
            refine XS.aload X206.here hx rfl (hb hby at_52) rfl rfl ?_
            show Steps p.tables e below (T206.setTop (mkF m 54 #[.val (.int p0), .val (.long q1), .second, .val (.long q2), .second, .val (.long q3), .second, .val (.int p4), .val (.int (1 : Int32)), .val (.int (0 : Int32)), .val (.int ((p4 &&& (2147483647 : Int32)) % (3 : Int32))), .val (.ref w_UNAVAILABLE), .unset, .unset] [(.ref w_UNAVAILABLE), (.long q3), (.long q2), (.long q1), (.int (1 : Int32)), (.ref b206), (.ref b206)])) _
            refine XS.iload X206.here hx rfl (hb hby at_54) rfl ?_
            show Steps p.tables e below (T206.setTop (mkF m 56 #[.val (.int p0), .val (.long q1), .second, .val (.long q2), .second, .val (.long q3), .second, .val (.int p4), .val (.int (1 : Int32)), .val (.int (0 : Int32)), .val (.int ((p4 &&& (2147483647 : Int32)) % (3 : Int32))), .val (.ref w_UNAVAILABLE), .unset, .unset] [(.int (0 : Int32)), (.ref w_UNAVAILABLE), (.long q3), (.long q2), (.long q1), (.int (1 : Int32)), (.ref b206), (.ref b206)])) _
            refine st219.trans ?_
            show Steps p.tables e below (T219.setTop (mkF m 59 #[.val (.int p0), .val (.long q1), .second, .val (.long q2), .second, .val (.long q3), .second, .val (.int p4), .val (.int (1 : Int32)), .val (.int (0 : Int32)), .val (.int ((p4 &&& (2147483647 : Int32)) % (3 : Int32))), .val (.ref w_UNAVAILABLE), .unset, .unset] [(.ref b206)])) _
            refine XS.astore X219.here hx rfl (hb hby at_59) rfl rfl (l' := #[.val (.int p0), .val (.long q1), .second, .val (.long q2), .second, .val (.long q3), .second, .val (.int p4), .val (.int (1 : Int32)), .val (.int (0 : Int32)), .val (.int ((p4 &&& (2147483647 : Int32)) % (3 : Int32))), .val (.ref w_UNAVAILABLE), .val (.ref b206), .unset]) rfl ?_
            show Steps p.tables e below (T219.setTop (mkF m 61 #[.val (.int p0), .val (.long q1), .second, .val (.long q2), .second, .val (.long q3), .second, .val (.int p4), .val (.int (1 : Int32)), .val (.int (0 : Int32)), .val (.int ((p4 &&& (2147483647 : Int32)) % (3 : Int32))), .val (.ref w_UNAVAILABLE), .val (.ref b206), .unset] [])) _
            refine XS.iload X219.here hx rfl (hb hby at_61) rfl ?_
            show Steps p.tables e below (T219.setTop (mkF m 63 #[.val (.int p0), .val (.long q1), .second, .val (.long q2), .second, .val (.long q3), .second, .val (.int p4), .val (.int (1 : Int32)), .val (.int (0 : Int32)), .val (.int ((p4 &&& (2147483647 : Int32)) % (3 : Int32))), .val (.ref w_UNAVAILABLE), .val (.ref b206), .unset] [(.int ((p4 &&& (2147483647 : Int32)) % (3 : Int32)))])) _
            refine XS.ifYes X219.here hx rfl (pc0 := 63) (pc' := 72) rfl (hb hby at_63) rfl ((if0 _ _).trans (feq hk).2) (by decide) (by decide) ?_
            show Steps p.tables e below (T219.setTop (mkF m 72 #[.val (.int p0), .val (.long q1), .second, .val (.long q2), .second, .val (.long q3), .second, .val (.int p4), .val (.int (1 : Int32)), .val (.int (0 : Int32)), .val (.int ((p4 &&& (2147483647 : Int32)) % (3 : Int32))), .val (.ref w_UNAVAILABLE), .val (.ref b206), .unset] [])) _
            refine XS.iconst X219.here hx rfl (hb hby at_72) ?_
            show Steps p.tables e below (T219.setTop (mkF m 73 #[.val (.int p0), .val (.long q1), .second, .val (.long q2), .second, .val (.long q3), .second, .val (.int p4), .val (.int (1 : Int32)), .val (.int (0 : Int32)), .val (.int ((p4 &&& (2147483647 : Int32)) % (3 : Int32))), .val (.ref w_UNAVAILABLE), .val (.ref b206), .unset] [(.int (1 : Int32))])) _
            refine XS.istore X219.here hx rfl (hb hby at_73) rfl (l' := #[.val (.int p0), .val (.long q1), .second, .val (.long q2), .second, .val (.long q3), .second, .val (.int p4), .val (.int (1 : Int32)), .val (.int (0 : Int32)), .val (.int ((p4 &&& (2147483647 : Int32)) % (3 : Int32))), .val (.ref w_UNAVAILABLE), .val (.ref b206), .val (.int (1 : Int32))]) rfl ?_
            show Steps p.tables e below (T219.setTop (mkF m 75 #[.val (.int p0), .val (.long q1), .second, .val (.long q2), .second, .val (.long q3), .second, .val (.int p4), .val (.int (1 : Int32)), .val (.int (0 : Int32)), .val (.int ((p4 &&& (2147483647 : Int32)) % (3 : Int32))), .val (.ref w_UNAVAILABLE), .val (.ref b206), .val (.int (1 : Int32))] [])) _
            refine XS.aload X219.here hx rfl (hb hby at_75) rfl rfl ?_
            show Steps p.tables e below (T219.setTop (mkF m 77 #[.val (.int p0), .val (.long q1), .second, .val (.long q2), .second, .val (.long q3), .second, .val (.int p4), .val (.int (1 : Int32)), .val (.int (0 : Int32)), .val (.int ((p4 &&& (2147483647 : Int32)) % (3 : Int32))), .val (.ref w_UNAVAILABLE), .val (.ref b206), .val (.int (1 : Int32))] [(.ref b206)])) _
            refine st233.trans ?_
            show Steps p.tables e below (T233.setTop (mkF m 80 #[.val (.int p0), .val (.long q1), .second, .val (.long q2), .second, .val (.long q3), .second, .val (.int p4), .val (.int (1 : Int32)), .val (.int (0 : Int32)), .val (.int ((p4 &&& (2147483647 : Int32)) % (3 : Int32))), .val (.ref w_UNAVAILABLE), .val (.ref b206), .val (.int (1 : Int32))] [(.int (F5 w_UNAVAILABLE w_NONE))])) _
            refine XS.iload X233.here hx rfl (hb hby at_80) rfl ?_
            show Steps p.tables e below (T233.setTop (mkF m 82 #[.val (.int p0), .val (.long q1), .second, .val (.long q2), .second, .val (.long q3), .second, .val (.int p4), .val (.int (1 : Int32)), .val (.int (0 : Int32)), .val (.int ((p4 &&& (2147483647 : Int32)) % (3 : Int32))), .val (.ref w_UNAVAILABLE), .val (.ref b206), .val (.int (1 : Int32))] [(.int (1 : Int32)), (.int (F5 w_UNAVAILABLE w_NONE))])) _
            refine XS.icmpNo X233.here hx rfl (hb hby at_82) rfl (teq hc82).2 ?_
            show Steps p.tables e below (T233.setTop (mkF m 85 #[.val (.int p0), .val (.long q1), .second, .val (.long q2), .second, .val (.long q3), .second, .val (.int p4), .val (.int (1 : Int32)), .val (.int (0 : Int32)), .val (.int ((p4 &&& (2147483647 : Int32)) % (3 : Int32))), .val (.ref w_UNAVAILABLE), .val (.ref b206), .val (.int (1 : Int32))] [])) _
            refine XS.iconst X233.here hx rfl (hb hby at_85) ?_
            show Steps p.tables e below (T233.setTop (mkF m 86 #[.val (.int p0), .val (.long q1), .second, .val (.long q2), .second, .val (.long q3), .second, .val (.int p4), .val (.int (1 : Int32)), .val (.int (0 : Int32)), .val (.int ((p4 &&& (2147483647 : Int32)) % (3 : Int32))), .val (.ref w_UNAVAILABLE), .val (.ref b206), .val (.int (1 : Int32))] [(.int (1 : Int32))])) _
            refine XS.goto X233.here hx rfl (pc0 := 86) (pc' := 90) rfl (hb hby at_86) (by decide) (by decide) ?_
            show Steps p.tables e below (T233.setTop (mkF m 90 #[.val (.int p0), .val (.long q1), .second, .val (.long q2), .second, .val (.long q3), .second, .val (.int p4), .val (.int (1 : Int32)), .val (.int (0 : Int32)), .val (.int ((p4 &&& (2147483647 : Int32)) % (3 : Int32))), .val (.ref w_UNAVAILABLE), .val (.ref b206), .val (.int (1 : Int32))] [(.int (1 : Int32))])) _
            exact retN X233 hx (t := .boolean) Bd.returns (by simp) (hb hby at_90) hr
          · show Q0 Z p0 q1 q2 q3 p4 w_NONE w_UNAVAILABLE w_TIMEOUT h0 n0 _ T233.heap _
            rw [e233]
            exact ⟨rfl, N233⟩
        · rw [show (F1 ((p4 &&& (2147483647 : Int32)) % (3 : Int32)) w_NONE w_UNAVAILABLE w_TIMEOUT) = w_TIMEOUT from by rw [F1, if_neg hk, if_neg hk_2]] at pre177
          obtain ⟨T234, h234, X234, e234, E234, A234, D234, -, st234⟩ := newO X176 hx hZ hown (hw _ (List.mem_of_getElem? (i := 8) rfl)) (hw _ (List.mem_of_getElem? (i := 9) rfl)) (hw _ (List.mem_of_getElem? (i := 10) rfl)) e176 (g := (mkF m 42 #[.val (.int p0), .val (.long q1), .second, .val (.long q2), .second, .val (.long q3), .second, .val (.int p4), .val (.int (1 : Int32)), .val (.int (0 : Int32)), .val (.int ((p4 &&& (2147483647 : Int32)) % (3 : Int32))), .val (.ref w_TIMEOUT), .unset, .unset] [])) rfl (hb hby at_42) (by decide) (by decide)
          obtain ⟨b234, g234⟩ : ∃ z, z = h0.size := ⟨_, rfl⟩
          rw [← g234] at A234 D234 st234
          have ne_w_NONE_b234 : w_NONE ≠ b234 := Nat.ne_of_lt (Nat.lt_of_lt_of_le E_NONE.lt (Nat.le_of_eq g234.symm))
          have ne_w_UNAVAILABLE_b234 : w_UNAVAILABLE ≠ b234 := Nat.ne_of_lt (Nat.lt_of_lt_of_le E_UNAVAILABLE.lt (Nat.le_of_eq g234.symm))
          have ne_w_TIMEOUT_b234 : w_TIMEOUT ≠ b234 := Nat.ne_of_lt (Nat.lt_of_lt_of_le E_TIMEOUT.lt (Nat.le_of_eq g234.symm))
          have sS235 := S_NONE.ext E234
          have eE236 := E_NONE.ext E234
          have sS237 := S_UNAVAILABLE.ext E234
          have eE238 := E_UNAVAILABLE.ext E234
          have sS239 := S_TIMEOUT.ext E234
          have eE240 := E_TIMEOUT.ext E234
          have g_b234 : n0 ≤ b234 := Nat.le_trans Z0 (Nat.le_of_eq g234.symm)
          have Z234 := Nat.le_trans Z0 E234.1
          have fF241 : Fld Z h234 b234 "com/example/sluis/sluis/model/Decision" "admitted" "Z" (.int (0 : Int32)) := D234 (Or.inr (hw _ (List.mem_of_getElem? (i := 23) rfl))) (ty := .boolean) (by decide)
          have fF242 : Fld Z h234 b234 "com/example/sluis/sluis/model/Decision" "remaining" "J" (.long (0 : Int64)) := D234 (Or.inr (hw _ (List.mem_of_getElem? (i := 25) rfl))) (ty := .long) (by decide)
          have fF243 : Fld Z h234 b234 "com/example/sluis/sluis/model/Decision" "retryAfterMillis" "J" (.long (0 : Int64)) := D234 (Or.inr (hw _ (List.mem_of_getElem? (i := 27) rfl))) (ty := .long) (by decide)
          have fF244 : Fld Z h234 b234 "com/example/sluis/sluis/model/Decision" "waitMillis" "J" (.long (0 : Int64)) := D234 (Or.inr (hw _ (List.mem_of_getElem? (i := 29) rfl))) (ty := .long) (by decide)
          have fF245 : Fld Z h234 b234 "com/example/sluis/sluis/model/Decision" "degradation" "Lcom/example/sluis/sluis/model/Degradation;" .null := D234 (Or.inr (hw _ (List.mem_of_getElem? (i := 31) rfl))) (ty := (.object "com/example/sluis/sluis/model/Degradation")) (by decide)
          have fF246 : Fld Z h234 b234 "com/example/sluis/sluis/model/Decision" "banned" "Z" (.int (0 : Int32)) := D234 (Or.inr (hw _ (List.mem_of_getElem? (i := 33) rfl))) (ty := .boolean) (by decide)
          obtain ⟨_, _, ⟨T247, L247, k247, n247⟩, -, X247, ⟨Lc247, hQ247, l247, y247, z247⟩, st247⟩ := X234.specialBack hx (y := (⟨"com/example/sluis/sluis/model/Decision", "<init>", "(ZJJJLcom/example/sluis/sluis/model/Degradation;Z)V"⟩ : MethodName)) rfl hown (mvT hZ (hw _ (List.mem_of_getElem? (i := 11) rfl))) (mvT hZ (hw _ (List.mem_of_getElem? (i := 12) rfl))) (mvT hZ (hw _ (List.mem_of_getElem? (i := 13) rfl))) (by decide) (backOf (W := 1) (rm2 l Z a0 hw [] b234 (1 : Int32) q1 q2 q3 w_TIMEOUT (0 : Int32) (.int (0 : Int32)) (.long (0 : Int64)) (.long (0 : Int64)) (.long (0 : Int64)) .null (.int (0 : Int32)) h234 n0 Z234 fF241 fF242 fF243 fF244 fF245 fF246 A234 g_b234) hZ (hw _ (List.mem_of_getElem? (i := 13) rfl)) (hw _ (List.mem_of_getElem? (i := 10) rfl)) (by decide) (by decide)) (g := (mkF m 56 #[.val (.int p0), .val (.long q1), .second, .val (.long q2), .second, .val (.long q3), .second, .val (.int p4), .val (.int (1 : Int32)), .val (.int (0 : Int32)), .val (.int ((p4 &&& (2147483647 : Int32)) % (3 : Int32))), .val (.ref w_TIMEOUT), .unset, .unset] [(.int (0 : Int32)), (.ref w_TIMEOUT), (.long q3), (.long q2), (.long q1), (.int (1 : Int32)), (.ref b234), (.ref b234)])) rfl (by rw [hml]; rfl) (Steps.refl _) (a := b234) (argsL := [(.int (1 : Int32)), (.long q1), (.long q2), (.long q3), (.ref w_TIMEOUT), (.int (0 : Int32))]) (rest := [(.ref b234)]) (lenOf pd_2 rfl) rfl (by show 2 * 0 + _ ≤ _; exact Nat.le_of_eq rfl) (hb hby at_56) (fun _ _ => ⟨rfl, e234, (by decide : 1 + 0 ≤ _), (by decide : 6 + 0 ≤ _)⟩)
          dsimp only [Pt.U, Pt.locs, Pt.cells, Pt.slots] at X247 l247 y247 z247 st247 hQ247
          subst l247 y247 z247
          obtain ⟨rfl, N247q, K247, G248, G249, G250, G251, G252, G253, G254⟩ := hQ247
          have sS255 := own_sta sS235 K247 A234
          have eE256 := eE236.keep K247
          have sS257 := own_sta sS237 K247 A234
          have eE258 := eE238.keep K247
          have sS259 := own_sta sS239 K247 A234
          have eE260 := eE240.keep K247
          have Z247 := Nat.le_trans Z234 K247.1
          have N247 := Fr.app N176 N247q
          obtain ⟨cq261, kq261, q261a, q261b, q261c⟩ := isOf hZ rfl G248
          obtain ⟨_, _, ⟨T261, L261, k261, n261⟩, -, X261, ⟨Lc261, hQ261, l261, y261, z261⟩, st261⟩ := X247.virtualBack hx (y := (⟨"com/example/sluis/sluis/model/Decision", "degraded", "()Z"⟩ : MethodName)) (z := (⟨"com/example/sluis/sluis/model/Decision", "degraded", "()Z"⟩ : MethodName)) hown (mvT hZ (hw _ (List.mem_of_getElem? (i := 34) rfl))) (mvT hZ (hw _ (List.mem_of_getElem? (i := 35) rfl))) (notFace_of_selects (args := #[]) (mvT hZ (hw _ (List.mem_of_getElem? (i := 37) rfl)))) (mvT hZ (hw _ (List.mem_of_getElem? (i := 37) rfl))) (mvT hZ (hw _ (List.mem_of_getElem? (i := 36) rfl))) (by decide) (backOf (W := 0) (rm5 l Z a0 hw [] b234 w_TIMEOUT w_NONE T247.heap n0 Z247 G253 sS255) hZ (hw _ (List.mem_of_getElem? (i := 38) rfl)) (hw _ (List.mem_of_getElem? (i := 10) rfl)) (by decide) (by decide)) q261a q261c (g := (mkF m 77 #[.val (.int p0), .val (.long q1), .second, .val (.long q2), .second, .val (.long q3), .second, .val (.int p4), .val (.int (1 : Int32)), .val (.int (0 : Int32)), .val (.int ((p4 &&& (2147483647 : Int32)) % (3 : Int32))), .val (.ref w_TIMEOUT), .val (.ref b234), .val (.int (1 : Int32))] [(.ref b234)])) rfl (by rw [hml]; rfl) (Steps.refl _) (argsL := []) (rest := []) (lenOf pd_3 rfl) rfl (by show 2 * 0 + _ ≤ _; exact Nat.le_of_eq rfl) (hb hby at_77) (fun _ _ => ⟨rfl, rfl, (by decide : 1 + 0 ≤ _), (by decide : 6 + 0 ≤ _)⟩)
          dsimp only [Pt.U, Pt.locs, Pt.cells, Pt.slots] at X261 l261 y261 z261 st261 hQ261
          subst l261 y261 z261
          obtain ⟨rfl, N261q, e261⟩ := hQ261
          have N261 := Fr.app N247 N261q
          have hc82 : (F5 w_TIMEOUT w_NONE) = (1 : Int32) := by rw [F5, if_neg ne_TIMEOUT_NONE]
          obtain ⟨fs, hr, hrun, hended, hW, hsame⟩ := X261.leave (v := some (.int (1 : Int32))) (fun h => by rw [Bd.returns] at h; cases h) (BodyLoose.notSynchronized Bd)
          refine ⟨_, _, pre177 _ ?_, hrun, hended, _, _, rfl, ?_, ⟨_, rfl⟩, hW, hsame.mono (by decide) (by decide)⟩
          · show Steps p.tables e below (T176.setTop (mkF m 40 #[.val (.int p0), .val (.long q1), .second, .val (.long q2), .second, .val (.long q3), .second, .val (.int p4), .val (.int (1 : Int32)), .val (.int (0 : Int32)), .val (.int ((p4 &&& (2147483647 : Int32)) % (3 : Int32))), .unset, .unset, .unset] [(.ref w_TIMEOUT)])) _
            refine XS.astore X176.here hx rfl (hb hby at_40) rfl rfl (l' := #[.val (.int p0), .val (.long q1), .second, .val (.long q2), .second, .val (.long q3), .second, .val (.int p4), .val (.int (1 : Int32)), .val (.int (0 : Int32)), .val (.int ((p4 &&& (2147483647 : Int32)) % (3 : Int32))), .val (.ref w_TIMEOUT), .unset, .unset]) rfl ?_
            show Steps p.tables e below (T176.setTop (mkF m 42 #[.val (.int p0), .val (.long q1), .second, .val (.long q2), .second, .val (.long q3), .second, .val (.int p4), .val (.int (1 : Int32)), .val (.int (0 : Int32)), .val (.int ((p4 &&& (2147483647 : Int32)) % (3 : Int32))), .val (.ref w_TIMEOUT), .unset, .unset] [])) _
            refine st234 _ ?_
            show Steps p.tables e below (T234.setTop (mkF m 45 #[.val (.int p0), .val (.long q1), .second, .val (.long q2), .second, .val (.long q3), .second, .val (.int p4), .val (.int (1 : Int32)), .val (.int (0 : Int32)), .val (.int ((p4 &&& (2147483647 : Int32)) % (3 : Int32))), .val (.ref w_TIMEOUT), .unset, .unset] [(.ref b234)])) _
            refine XS.dup X234.here hx rfl (hb hby at_45) rfl rfl ?_
            show Steps p.tables e below (T234.setTop (mkF m 46 #[.val (.int p0), .val (.long q1), .second, .val (.long q2), .second, .val (.long q3), .second, .val (.int p4), .val (.int (1 : Int32)), .val (.int (0 : Int32)), .val (.int ((p4 &&& (2147483647 : Int32)) % (3 : Int32))), .val (.ref w_TIMEOUT), .unset, .unset] [(.ref b234), (.ref b234)])) _
            refine XS.iload X234.here hx rfl (hb hby at_46) rfl ?_
            show Steps p.tables e below (T234.setTop (mkF m 48 #[.val (.int p0), .val (.long q1), .second, .val (.long q2), .second, .val (.long q3), .second, .val (.int p4), .val (.int (1 : Int32)), .val (.int (0 : Int32)), .val (.int ((p4 &&& (2147483647 : Int32)) % (3 : Int32))), .val (.ref w_TIMEOUT), .unset, .unset] [(.int (1 : Int32)), (.ref b234), (.ref b234)])) _
            refine XS.lloadN X234.here hx rfl (hb hby at_48) rfl ?_
            show Steps p.tables e below (T234.setTop (mkF m 49 #[.val (.int p0), .val (.long q1), .second, .val (.long q2), .second, .val (.long q3), .second, .val (.int p4), .val (.int (1 : Int32)), .val (.int (0 : Int32)), .val (.int ((p4 &&& (2147483647 : Int32)) % (3 : Int32))), .val (.ref w_TIMEOUT), .unset, .unset] [(.long q1), (.int (1 : Int32)), (.ref b234), (.ref b234)])) _
            refine XS.lloadN X234.here hx rfl (hb hby at_49) rfl ?_
            show Steps p.tables e below (T234.setTop (mkF m 50 #[.val (.int p0), .val (.long q1), .second, .val (.long q2), .second, .val (.long q3), .second, .val (.int p4), .val (.int (1 : Int32)), .val (.int (0 : Int32)), .val (.int ((p4 &&& (2147483647 : Int32)) % (3 : Int32))), .val (.ref w_TIMEOUT), .unset, .unset] [(.long q2), (.long q1), (.int (1 : Int32)), (.ref b234), (.ref b234)])) _
            refine XS.lload X234.here hx rfl (hb hby at_50) rfl ?_
            show Steps p.tables e below (T234.setTop (mkF m 52 #[.val (.int p0), .val (.long q1), .second, .val (.long q2), .second, .val (.long q3), .second, .val (.int p4), .val (.int (1 : Int32)), .val (.int (0 : Int32)), .val (.int ((p4 &&& (2147483647 : Int32)) % (3 : Int32))), .val (.ref w_TIMEOUT), .unset, .unset] [(.long q3), (.long q2), (.long q1), (.int (1 : Int32)), (.ref b234), (.ref b234)])) _
            refine XS.aload X234.here hx rfl (hb hby at_52) rfl rfl ?_
            show Steps p.tables e below (T234.setTop (mkF m 54 #[.val (.int p0), .val (.long q1), .second, .val (.long q2), .second, .val (.long q3), .second, .val (.int p4), .val (.int (1 : Int32)), .val (.int (0 : Int32)), .val (.int ((p4 &&& (2147483647 : Int32)) % (3 : Int32))), .val (.ref w_TIMEOUT), .unset, .unset] [(.ref w_TIMEOUT), (.long q3), (.long q2), (.long q1), (.int (1 : Int32)), (.ref b234), (.ref b234)])) _
            refine XS.iload X234.here hx rfl (hb hby at_54) rfl ?_
            show Steps p.tables e below (T234.setTop (mkF m 56 #[.val (.int p0), .val (.long q1), .second, .val (.long q2), .second, .val (.long q3), .second, .val (.int p4), .val (.int (1 : Int32)), .val (.int (0 : Int32)), .val (.int ((p4 &&& (2147483647 : Int32)) % (3 : Int32))), .val (.ref w_TIMEOUT), .unset, .unset] [(.int (0 : Int32)), (.ref w_TIMEOUT), (.long q3), (.long q2), (.long q1), (.int (1 : Int32)), (.ref b234), (.ref b234)])) _
            refine st247.trans ?_
            show Steps p.tables e below (T247.setTop (mkF m 59 #[.val (.int p0), .val (.long q1), .second, .val (.long q2), .second, .val (.long q3), .second, .val (.int p4), .val (.int (1 : Int32)), .val (.int (0 : Int32)), .val (.int ((p4 &&& (2147483647 : Int32)) % (3 : Int32))), .val (.ref w_TIMEOUT), .unset, .unset] [(.ref b234)])) _
            refine XS.astore X247.here hx rfl (hb hby at_59) rfl rfl (l' := #[.val (.int p0), .val (.long q1), .second, .val (.long q2), .second, .val (.long q3), .second, .val (.int p4), .val (.int (1 : Int32)), .val (.int (0 : Int32)), .val (.int ((p4 &&& (2147483647 : Int32)) % (3 : Int32))), .val (.ref w_TIMEOUT), .val (.ref b234), .unset]) rfl ?_
            show Steps p.tables e below (T247.setTop (mkF m 61 #[.val (.int p0), .val (.long q1), .second, .val (.long q2), .second, .val (.long q3), .second, .val (.int p4), .val (.int (1 : Int32)), .val (.int (0 : Int32)), .val (.int ((p4 &&& (2147483647 : Int32)) % (3 : Int32))), .val (.ref w_TIMEOUT), .val (.ref b234), .unset] [])) _
            refine XS.iload X247.here hx rfl (hb hby at_61) rfl ?_
            show Steps p.tables e below (T247.setTop (mkF m 63 #[.val (.int p0), .val (.long q1), .second, .val (.long q2), .second, .val (.long q3), .second, .val (.int p4), .val (.int (1 : Int32)), .val (.int (0 : Int32)), .val (.int ((p4 &&& (2147483647 : Int32)) % (3 : Int32))), .val (.ref w_TIMEOUT), .val (.ref b234), .unset] [(.int ((p4 &&& (2147483647 : Int32)) % (3 : Int32)))])) _
            refine XS.ifYes X247.here hx rfl (pc0 := 63) (pc' := 72) rfl (hb hby at_63) rfl ((if0 _ _).trans (feq hk).2) (by decide) (by decide) ?_
            show Steps p.tables e below (T247.setTop (mkF m 72 #[.val (.int p0), .val (.long q1), .second, .val (.long q2), .second, .val (.long q3), .second, .val (.int p4), .val (.int (1 : Int32)), .val (.int (0 : Int32)), .val (.int ((p4 &&& (2147483647 : Int32)) % (3 : Int32))), .val (.ref w_TIMEOUT), .val (.ref b234), .unset] [])) _
            refine XS.iconst X247.here hx rfl (hb hby at_72) ?_
            show Steps p.tables e below (T247.setTop (mkF m 73 #[.val (.int p0), .val (.long q1), .second, .val (.long q2), .second, .val (.long q3), .second, .val (.int p4), .val (.int (1 : Int32)), .val (.int (0 : Int32)), .val (.int ((p4 &&& (2147483647 : Int32)) % (3 : Int32))), .val (.ref w_TIMEOUT), .val (.ref b234), .unset] [(.int (1 : Int32))])) _
            refine XS.istore X247.here hx rfl (hb hby at_73) rfl (l' := #[.val (.int p0), .val (.long q1), .second, .val (.long q2), .second, .val (.long q3), .second, .val (.int p4), .val (.int (1 : Int32)), .val (.int (0 : Int32)), .val (.int ((p4 &&& (2147483647 : Int32)) % (3 : Int32))), .val (.ref w_TIMEOUT), .val (.ref b234), .val (.int (1 : Int32))]) rfl ?_
            show Steps p.tables e below (T247.setTop (mkF m 75 #[.val (.int p0), .val (.long q1), .second, .val (.long q2), .second, .val (.long q3), .second, .val (.int p4), .val (.int (1 : Int32)), .val (.int (0 : Int32)), .val (.int ((p4 &&& (2147483647 : Int32)) % (3 : Int32))), .val (.ref w_TIMEOUT), .val (.ref b234), .val (.int (1 : Int32))] [])) _
            refine XS.aload X247.here hx rfl (hb hby at_75) rfl rfl ?_
            show Steps p.tables e below (T247.setTop (mkF m 77 #[.val (.int p0), .val (.long q1), .second, .val (.long q2), .second, .val (.long q3), .second, .val (.int p4), .val (.int (1 : Int32)), .val (.int (0 : Int32)), .val (.int ((p4 &&& (2147483647 : Int32)) % (3 : Int32))), .val (.ref w_TIMEOUT), .val (.ref b234), .val (.int (1 : Int32))] [(.ref b234)])) _
            refine st261.trans ?_
            show Steps p.tables e below (T261.setTop (mkF m 80 #[.val (.int p0), .val (.long q1), .second, .val (.long q2), .second, .val (.long q3), .second, .val (.int p4), .val (.int (1 : Int32)), .val (.int (0 : Int32)), .val (.int ((p4 &&& (2147483647 : Int32)) % (3 : Int32))), .val (.ref w_TIMEOUT), .val (.ref b234), .val (.int (1 : Int32))] [(.int (F5 w_TIMEOUT w_NONE))])) _
            refine XS.iload X261.here hx rfl (hb hby at_80) rfl ?_
            show Steps p.tables e below (T261.setTop (mkF m 82 #[.val (.int p0), .val (.long q1), .second, .val (.long q2), .second, .val (.long q3), .second, .val (.int p4), .val (.int (1 : Int32)), .val (.int (0 : Int32)), .val (.int ((p4 &&& (2147483647 : Int32)) % (3 : Int32))), .val (.ref w_TIMEOUT), .val (.ref b234), .val (.int (1 : Int32))] [(.int (1 : Int32)), (.int (F5 w_TIMEOUT w_NONE))])) _
            refine XS.icmpNo X261.here hx rfl (hb hby at_82) rfl (teq hc82).2 ?_
            show Steps p.tables e below (T261.setTop (mkF m 85 #[.val (.int p0), .val (.long q1), .second, .val (.long q2), .second, .val (.long q3), .second, .val (.int p4), .val (.int (1 : Int32)), .val (.int (0 : Int32)), .val (.int ((p4 &&& (2147483647 : Int32)) % (3 : Int32))), .val (.ref w_TIMEOUT), .val (.ref b234), .val (.int (1 : Int32))] [])) _
            refine XS.iconst X261.here hx rfl (hb hby at_85) ?_
            show Steps p.tables e below (T261.setTop (mkF m 86 #[.val (.int p0), .val (.long q1), .second, .val (.long q2), .second, .val (.long q3), .second, .val (.int p4), .val (.int (1 : Int32)), .val (.int (0 : Int32)), .val (.int ((p4 &&& (2147483647 : Int32)) % (3 : Int32))), .val (.ref w_TIMEOUT), .val (.ref b234), .val (.int (1 : Int32))] [(.int (1 : Int32))])) _
            refine XS.goto X261.here hx rfl (pc0 := 86) (pc' := 90) rfl (hb hby at_86) (by decide) (by decide) ?_
            show Steps p.tables e below (T261.setTop (mkF m 90 #[.val (.int p0), .val (.long q1), .second, .val (.long q2), .second, .val (.long q3), .second, .val (.int p4), .val (.int (1 : Int32)), .val (.int (0 : Int32)), .val (.int ((p4 &&& (2147483647 : Int32)) % (3 : Int32))), .val (.ref w_TIMEOUT), .val (.ref b234), .val (.int (1 : Int32))] [(.int (1 : Int32))])) _
            exact retN X261 hx (t := .boolean) Bd.returns (by simp) (hb hby at_90) hr
          · show Q0 Z p0 q1 q2 q3 p4 w_NONE w_UNAVAILABLE w_TIMEOUT h0 n0 _ T261.heap _
            rw [e261]
            exact ⟨rfl, N261⟩
    · obtain ⟨_, _, ⟨T262, L262, k262, n262⟩, -, X262, ⟨Lc262, hQ262, l262, y262, z262⟩, st262⟩ := Jvm.LawKit.callS X0 hx (y := (⟨"com/example/sluis/sluis/model/DecisionDegradedPinLaw", "pick", "(I)Lcom/example/sluis/sluis/model/Degradation;"⟩ : MethodName)) hown (mvT hZ (hw _ (List.mem_of_getElem? (i := 1) rfl))) (mvT hZ (hw _ (List.mem_of_getElem? (i := 2) rfl))) (mvT hZ (hw _ (List.mem_of_getElem? (i := 3) rfl))) (mvT hZ (hw _ (List.mem_of_getElem? (i := 4) rfl))) (by decide) (backOf (W := 0) (rm1 l Z a0 hw [] ((p4 &&& (2147483647 : Int32)) % (3 : Int32)) w_NONE w_UNAVAILABLE w_TIMEOUT h0 n0 Z0 S_NONE S_UNAVAILABLE S_TIMEOUT) hZ (hw _ (List.mem_of_getElem? (i := 4) rfl)) (hw _ (List.mem_of_getElem? (i := 3) rfl)) (by decide) (by decide)) (g := (mkF m 37 #[.val (.int p0), .val (.long q1), .second, .val (.long q2), .second, .val (.long q3), .second, .val (.int p4), .val (.int (1 : Int32)), .val (.int (1 : Int32)), .val (.int ((p4 &&& (2147483647 : Int32)) % (3 : Int32))), .unset, .unset, .unset] [(.int ((p4 &&& (2147483647 : Int32)) % (3 : Int32)))])) rfl (by rw [hml]; rfl) (argsL := [(.int ((p4 &&& (2147483647 : Int32)) % (3 : Int32)))]) (rest := []) (lenOf pd_0 rfl) rfl (by show 2 * 0 + _ ≤ _; exact Nat.le_of_eq rfl) (hb hby at_37) (fun _ _ => ⟨rfl, e0, (by decide : 0 + 0 ≤ _), (by decide : 0 + 0 ≤ _)⟩)
      dsimp only [Pt.U, Pt.locs, Pt.cells, Pt.slots] at X262 l262 y262 z262 st262 hQ262
      subst l262 y262 z262
      obtain ⟨rfl, N262q, e262⟩ := hQ262
      have N262 := Fr.app N0 N262q
      have pre263 : ∀ t, Steps p.tables e below (T262.setTop (mkF m 40 #[.val (.int p0), .val (.long q1), .second, .val (.long q2), .second, .val (.long q3), .second, .val (.int p4), .val (.int (1 : Int32)), .val (.int (1 : Int32)), .val (.int ((p4 &&& (2147483647 : Int32)) % (3 : Int32))), .unset, .unset, .unset] [(.ref (F1 ((p4 &&& (2147483647 : Int32)) % (3 : Int32)) w_NONE w_UNAVAILABLE w_TIMEOUT))])) t → Steps p.tables e below (s₁.setTop (entryFrame m #[(.int p0), (.long q1), (.long q2), (.long q3), (.int p4)] maxLocals)) t := fun t k => by
        refine pre175 t ?_
        show Steps p.tables e below (s₁.setTop (mkF m 16 #[.val (.int p0), .val (.long q1), .second, .val (.long q2), .second, .val (.long q3), .second, .val (.int p4), .val (.int (1 : Int32)), .unset, .unset, .unset, .unset, .unset] [(.int (p0 &&& (2 : Int32)))])) _
        refine XS.ifNo X0.here hx rfl (hb hby at_16) rfl ((if0 _ _).trans (feq hc16).1) ?_
        show Steps p.tables e below (s₁.setTop (mkF m 19 #[.val (.int p0), .val (.long q1), .second, .val (.long q2), .second, .val (.long q3), .second, .val (.int p4), .val (.int (1 : Int32)), .unset, .unset, .unset, .unset, .unset] [])) _
        refine XS.iconst X0.here hx rfl (hb hby at_19) ?_
        show Steps p.tables e below (s₁.setTop (mkF m 20 #[.val (.int p0), .val (.long q1), .second, .val (.long q2), .second, .val (.long q3), .second, .val (.int p4), .val (.int (1 : Int32)), .unset, .unset, .unset, .unset, .unset] [(.int (1 : Int32))])) _
        refine XS.goto X0.here hx rfl (pc0 := 20) (pc' := 24) rfl (hb hby at_20) (by decide) (by decide) ?_
        show Steps p.tables e below (s₁.setTop (mkF m 24 #[.val (.int p0), .val (.long q1), .second, .val (.long q2), .second, .val (.long q3), .second, .val (.int p4), .val (.int (1 : Int32)), .unset, .unset, .unset, .unset, .unset] [(.int (1 : Int32))])) _
        refine XS.istore X0.here hx rfl (hb hby at_24) rfl (l' := #[.val (.int p0), .val (.long q1), .second, .val (.long q2), .second, .val (.long q3), .second, .val (.int p4), .val (.int (1 : Int32)), .val (.int (1 : Int32)), .unset, .unset, .unset, .unset]) rfl ?_
        show Steps p.tables e below (s₁.setTop (mkF m 26 #[.val (.int p0), .val (.long q1), .second, .val (.long q2), .second, .val (.long q3), .second, .val (.int p4), .val (.int (1 : Int32)), .val (.int (1 : Int32)), .unset, .unset, .unset, .unset] [])) _
        refine XS.iload X0.here hx rfl (hb hby at_26) rfl ?_
        show Steps p.tables e below (s₁.setTop (mkF m 28 #[.val (.int p0), .val (.long q1), .second, .val (.long q2), .second, .val (.long q3), .second, .val (.int p4), .val (.int (1 : Int32)), .val (.int (1 : Int32)), .unset, .unset, .unset, .unset] [(.int p4)])) _
        refine X0.ldcInt hx hown (mvT hZ (hw _ (List.mem_of_getElem? (i := 0) rfl))) (g := (mkF m 28 #[.val (.int p0), .val (.long q1), .second, .val (.long q2), .second, .val (.long q3), .second, .val (.int p4), .val (.int (1 : Int32)), .val (.int (1 : Int32)), .unset, .unset, .unset, .unset] [(.int p4)])) rfl (hb hby at_28) _ ?_
        show Steps p.tables e below (s₁.setTop (mkF m 30 #[.val (.int p0), .val (.long q1), .second, .val (.long q2), .second, .val (.long q3), .second, .val (.int p4), .val (.int (1 : Int32)), .val (.int (1 : Int32)), .unset, .unset, .unset, .unset] [(.int (2147483647 : Int32)), (.int p4)])) _
        refine XS.iand X0.here hx rfl (hb hby at_30) rfl ?_
        show Steps p.tables e below (s₁.setTop (mkF m 31 #[.val (.int p0), .val (.long q1), .second, .val (.long q2), .second, .val (.long q3), .second, .val (.int p4), .val (.int (1 : Int32)), .val (.int (1 : Int32)), .unset, .unset, .unset, .unset] [(.int (p4 &&& (2147483647 : Int32)))])) _
        refine XS.iconst X0.here hx rfl (hb hby at_31) ?_
        show Steps p.tables e below (s₁.setTop (mkF m 32 #[.val (.int p0), .val (.long q1), .second, .val (.long q2), .second, .val (.long q3), .second, .val (.int p4), .val (.int (1 : Int32)), .val (.int (1 : Int32)), .unset, .unset, .unset, .unset] [(.int (3 : Int32)), (.int (p4 &&& (2147483647 : Int32)))])) _
        refine iremM X0 hx rfl (hb hby at_32) rfl (by decide) ?_
        show Steps p.tables e below (s₁.setTop (mkF m 33 #[.val (.int p0), .val (.long q1), .second, .val (.long q2), .second, .val (.long q3), .second, .val (.int p4), .val (.int (1 : Int32)), .val (.int (1 : Int32)), .unset, .unset, .unset, .unset] [(.int ((p4 &&& (2147483647 : Int32)) % (3 : Int32)))])) _
        refine XS.istore X0.here hx rfl (hb hby at_33) rfl (l' := #[.val (.int p0), .val (.long q1), .second, .val (.long q2), .second, .val (.long q3), .second, .val (.int p4), .val (.int (1 : Int32)), .val (.int (1 : Int32)), .val (.int ((p4 &&& (2147483647 : Int32)) % (3 : Int32))), .unset, .unset, .unset]) rfl ?_
        show Steps p.tables e below (s₁.setTop (mkF m 35 #[.val (.int p0), .val (.long q1), .second, .val (.long q2), .second, .val (.long q3), .second, .val (.int p4), .val (.int (1 : Int32)), .val (.int (1 : Int32)), .val (.int ((p4 &&& (2147483647 : Int32)) % (3 : Int32))), .unset, .unset, .unset] [])) _
        refine XS.iload X0.here hx rfl (hb hby at_35) rfl ?_
        show Steps p.tables e below (s₁.setTop (mkF m 37 #[.val (.int p0), .val (.long q1), .second, .val (.long q2), .second, .val (.long q3), .second, .val (.int p4), .val (.int (1 : Int32)), .val (.int (1 : Int32)), .val (.int ((p4 &&& (2147483647 : Int32)) % (3 : Int32))), .unset, .unset, .unset] [(.int ((p4 &&& (2147483647 : Int32)) % (3 : Int32)))])) _
        refine st262 _ ?_
        exact k
      by_cases hk : ((p4 &&& (2147483647 : Int32)) % (3 : Int32)) = (0 : Int32)
      · rw [show (F1 ((p4 &&& (2147483647 : Int32)) % (3 : Int32)) w_NONE w_UNAVAILABLE w_TIMEOUT) = w_NONE from by rw [F1, if_pos hk]] at pre263
        obtain ⟨T264, h264, X264, e264, E264, A264, D264, -, st264⟩ := newO X262 hx hZ hown (hw _ (List.mem_of_getElem? (i := 8) rfl)) (hw _ (List.mem_of_getElem? (i := 9) rfl)) (hw _ (List.mem_of_getElem? (i := 10) rfl)) e262 (g := (mkF m 42 #[.val (.int p0), .val (.long q1), .second, .val (.long q2), .second, .val (.long q3), .second, .val (.int p4), .val (.int (1 : Int32)), .val (.int (1 : Int32)), .val (.int ((p4 &&& (2147483647 : Int32)) % (3 : Int32))), .val (.ref w_NONE), .unset, .unset] [])) rfl (hb hby at_42) (by decide) (by decide)
        obtain ⟨b264, g264⟩ : ∃ z, z = h0.size := ⟨_, rfl⟩
        rw [← g264] at A264 D264 st264
        have ne_w_NONE_b264 : w_NONE ≠ b264 := Nat.ne_of_lt (Nat.lt_of_lt_of_le E_NONE.lt (Nat.le_of_eq g264.symm))
        have ne_w_UNAVAILABLE_b264 : w_UNAVAILABLE ≠ b264 := Nat.ne_of_lt (Nat.lt_of_lt_of_le E_UNAVAILABLE.lt (Nat.le_of_eq g264.symm))
        have ne_w_TIMEOUT_b264 : w_TIMEOUT ≠ b264 := Nat.ne_of_lt (Nat.lt_of_lt_of_le E_TIMEOUT.lt (Nat.le_of_eq g264.symm))
        have sS265 := S_NONE.ext E264
        have eE266 := E_NONE.ext E264
        have sS267 := S_UNAVAILABLE.ext E264
        have eE268 := E_UNAVAILABLE.ext E264
        have sS269 := S_TIMEOUT.ext E264
        have eE270 := E_TIMEOUT.ext E264
        have g_b264 : n0 ≤ b264 := Nat.le_trans Z0 (Nat.le_of_eq g264.symm)
        have Z264 := Nat.le_trans Z0 E264.1
        have fF271 : Fld Z h264 b264 "com/example/sluis/sluis/model/Decision" "admitted" "Z" (.int (0 : Int32)) := D264 (Or.inr (hw _ (List.mem_of_getElem? (i := 23) rfl))) (ty := .boolean) (by decide)
        have fF272 : Fld Z h264 b264 "com/example/sluis/sluis/model/Decision" "remaining" "J" (.long (0 : Int64)) := D264 (Or.inr (hw _ (List.mem_of_getElem? (i := 25) rfl))) (ty := .long) (by decide)
        have fF273 : Fld Z h264 b264 "com/example/sluis/sluis/model/Decision" "retryAfterMillis" "J" (.long (0 : Int64)) := D264 (Or.inr (hw _ (List.mem_of_getElem? (i := 27) rfl))) (ty := .long) (by decide)
        have fF274 : Fld Z h264 b264 "com/example/sluis/sluis/model/Decision" "waitMillis" "J" (.long (0 : Int64)) := D264 (Or.inr (hw _ (List.mem_of_getElem? (i := 29) rfl))) (ty := .long) (by decide)
        have fF275 : Fld Z h264 b264 "com/example/sluis/sluis/model/Decision" "degradation" "Lcom/example/sluis/sluis/model/Degradation;" .null := D264 (Or.inr (hw _ (List.mem_of_getElem? (i := 31) rfl))) (ty := (.object "com/example/sluis/sluis/model/Degradation")) (by decide)
        have fF276 : Fld Z h264 b264 "com/example/sluis/sluis/model/Decision" "banned" "Z" (.int (0 : Int32)) := D264 (Or.inr (hw _ (List.mem_of_getElem? (i := 33) rfl))) (ty := .boolean) (by decide)
        obtain ⟨_, _, ⟨T277, L277, k277, n277⟩, -, X277, ⟨Lc277, hQ277, l277, y277, z277⟩, st277⟩ := X264.specialBack hx (y := (⟨"com/example/sluis/sluis/model/Decision", "<init>", "(ZJJJLcom/example/sluis/sluis/model/Degradation;Z)V"⟩ : MethodName)) rfl hown (mvT hZ (hw _ (List.mem_of_getElem? (i := 11) rfl))) (mvT hZ (hw _ (List.mem_of_getElem? (i := 12) rfl))) (mvT hZ (hw _ (List.mem_of_getElem? (i := 13) rfl))) (by decide) (backOf (W := 1) (rm2 l Z a0 hw [] b264 (1 : Int32) q1 q2 q3 w_NONE (1 : Int32) (.int (0 : Int32)) (.long (0 : Int64)) (.long (0 : Int64)) (.long (0 : Int64)) .null (.int (0 : Int32)) h264 n0 Z264 fF271 fF272 fF273 fF274 fF275 fF276 A264 g_b264) hZ (hw _ (List.mem_of_getElem? (i := 13) rfl)) (hw _ (List.mem_of_getElem? (i := 10) rfl)) (by decide) (by decide)) (g := (mkF m 56 #[.val (.int p0), .val (.long q1), .second, .val (.long q2), .second, .val (.long q3), .second, .val (.int p4), .val (.int (1 : Int32)), .val (.int (1 : Int32)), .val (.int ((p4 &&& (2147483647 : Int32)) % (3 : Int32))), .val (.ref w_NONE), .unset, .unset] [(.int (1 : Int32)), (.ref w_NONE), (.long q3), (.long q2), (.long q1), (.int (1 : Int32)), (.ref b264), (.ref b264)])) rfl (by rw [hml]; rfl) (Steps.refl _) (a := b264) (argsL := [(.int (1 : Int32)), (.long q1), (.long q2), (.long q3), (.ref w_NONE), (.int (1 : Int32))]) (rest := [(.ref b264)]) (lenOf pd_2 rfl) rfl (by show 2 * 0 + _ ≤ _; exact Nat.le_of_eq rfl) (hb hby at_56) (fun _ _ => ⟨rfl, e264, (by decide : 1 + 0 ≤ _), (by decide : 6 + 0 ≤ _)⟩)
        dsimp only [Pt.U, Pt.locs, Pt.cells, Pt.slots] at X277 l277 y277 z277 st277 hQ277
        subst l277 y277 z277
        obtain ⟨rfl, N277q, K277, G278, G279, G280, G281, G282, G283, G284⟩ := hQ277
        have sS285 := own_sta sS265 K277 A264
        have eE286 := eE266.keep K277
        have sS287 := own_sta sS267 K277 A264
        have eE288 := eE268.keep K277
        have sS289 := own_sta sS269 K277 A264
        have eE290 := eE270.keep K277
        have Z277 := Nat.le_trans Z264 K277.1
        have N277 := Fr.app N262 N277q
        obtain ⟨cq291, kq291, q291a, q291b, q291c⟩ := isOf hZ rfl G278
        obtain ⟨_, _, ⟨T291, L291, k291, n291⟩, -, X291, ⟨Lc291, hQ291, l291, y291, z291⟩, st291⟩ := X277.virtualBack hx (y := (⟨"com/example/sluis/sluis/model/Decision", "degraded", "()Z"⟩ : MethodName)) (z := (⟨"com/example/sluis/sluis/model/Decision", "degraded", "()Z"⟩ : MethodName)) hown (mvT hZ (hw _ (List.mem_of_getElem? (i := 34) rfl))) (mvT hZ (hw _ (List.mem_of_getElem? (i := 35) rfl))) (notFace_of_selects (args := #[]) (mvT hZ (hw _ (List.mem_of_getElem? (i := 37) rfl)))) (mvT hZ (hw _ (List.mem_of_getElem? (i := 37) rfl))) (mvT hZ (hw _ (List.mem_of_getElem? (i := 36) rfl))) (by decide) (backOf (W := 0) (rm5 l Z a0 hw [] b264 w_NONE w_NONE T277.heap n0 Z277 G283 sS285) hZ (hw _ (List.mem_of_getElem? (i := 38) rfl)) (hw _ (List.mem_of_getElem? (i := 10) rfl)) (by decide) (by decide)) q291a q291c (g := (mkF m 77 #[.val (.int p0), .val (.long q1), .second, .val (.long q2), .second, .val (.long q3), .second, .val (.int p4), .val (.int (1 : Int32)), .val (.int (1 : Int32)), .val (.int ((p4 &&& (2147483647 : Int32)) % (3 : Int32))), .val (.ref w_NONE), .val (.ref b264), .val (.int (0 : Int32))] [(.ref b264)])) rfl (by rw [hml]; rfl) (Steps.refl _) (argsL := []) (rest := []) (lenOf pd_3 rfl) rfl (by show 2 * 0 + _ ≤ _; exact Nat.le_of_eq rfl) (hb hby at_77) (fun _ _ => ⟨rfl, rfl, (by decide : 1 + 0 ≤ _), (by decide : 6 + 0 ≤ _)⟩)
        dsimp only [Pt.U, Pt.locs, Pt.cells, Pt.slots] at X291 l291 y291 z291 st291 hQ291
        subst l291 y291 z291
        obtain ⟨rfl, N291q, e291⟩ := hQ291
        have N291 := Fr.app N277 N291q
        have hc82 : (F5 w_NONE w_NONE) = (0 : Int32) := by rw [F5, if_pos rfl]
        obtain ⟨fs, hr, hrun, hended, hW, hsame⟩ := X291.leave (v := some (.int (1 : Int32))) (fun h => by rw [Bd.returns] at h; cases h) (BodyLoose.notSynchronized Bd)
        refine ⟨_, _, pre263 _ ?_, hrun, hended, _, _, rfl, ?_, ⟨_, rfl⟩, hW, hsame.mono (by decide) (by decide)⟩
        · show Steps p.tables e below (T262.setTop (mkF m 40 #[.val (.int p0), .val (.long q1), .second, .val (.long q2), .second, .val (.long q3), .second, .val (.int p4), .val (.int (1 : Int32)), .val (.int (1 : Int32)), .val (.int ((p4 &&& (2147483647 : Int32)) % (3 : Int32))), .unset, .unset, .unset] [(.ref w_NONE)])) _
          refine XS.astore X262.here hx rfl (hb hby at_40) rfl rfl (l' := #[.val (.int p0), .val (.long q1), .second, .val (.long q2), .second, .val (.long q3), .second, .val (.int p4), .val (.int (1 : Int32)), .val (.int (1 : Int32)), .val (.int ((p4 &&& (2147483647 : Int32)) % (3 : Int32))), .val (.ref w_NONE), .unset, .unset]) rfl ?_
          show Steps p.tables e below (T262.setTop (mkF m 42 #[.val (.int p0), .val (.long q1), .second, .val (.long q2), .second, .val (.long q3), .second, .val (.int p4), .val (.int (1 : Int32)), .val (.int (1 : Int32)), .val (.int ((p4 &&& (2147483647 : Int32)) % (3 : Int32))), .val (.ref w_NONE), .unset, .unset] [])) _
          refine st264 _ ?_
          show Steps p.tables e below (T264.setTop (mkF m 45 #[.val (.int p0), .val (.long q1), .second, .val (.long q2), .second, .val (.long q3), .second, .val (.int p4), .val (.int (1 : Int32)), .val (.int (1 : Int32)), .val (.int ((p4 &&& (2147483647 : Int32)) % (3 : Int32))), .val (.ref w_NONE), .unset, .unset] [(.ref b264)])) _
          refine XS.dup X264.here hx rfl (hb hby at_45) rfl rfl ?_
          show Steps p.tables e below (T264.setTop (mkF m 46 #[.val (.int p0), .val (.long q1), .second, .val (.long q2), .second, .val (.long q3), .second, .val (.int p4), .val (.int (1 : Int32)), .val (.int (1 : Int32)), .val (.int ((p4 &&& (2147483647 : Int32)) % (3 : Int32))), .val (.ref w_NONE), .unset, .unset] [(.ref b264), (.ref b264)])) _
          refine XS.iload X264.here hx rfl (hb hby at_46) rfl ?_
          show Steps p.tables e below (T264.setTop (mkF m 48 #[.val (.int p0), .val (.long q1), .second, .val (.long q2), .second, .val (.long q3), .second, .val (.int p4), .val (.int (1 : Int32)), .val (.int (1 : Int32)), .val (.int ((p4 &&& (2147483647 : Int32)) % (3 : Int32))), .val (.ref w_NONE), .unset, .unset] [(.int (1 : Int32)), (.ref b264), (.ref b264)])) _
          refine XS.lloadN X264.here hx rfl (hb hby at_48) rfl ?_
          show Steps p.tables e below (T264.setTop (mkF m 49 #[.val (.int p0), .val (.long q1), .second, .val (.long q2), .second, .val (.long q3), .second, .val (.int p4), .val (.int (1 : Int32)), .val (.int (1 : Int32)), .val (.int ((p4 &&& (2147483647 : Int32)) % (3 : Int32))), .val (.ref w_NONE), .unset, .unset] [(.long q1), (.int (1 : Int32)), (.ref b264), (.ref b264)])) _
          refine XS.lloadN X264.here hx rfl (hb hby at_49) rfl ?_
          show Steps p.tables e below (T264.setTop (mkF m 50 #[.val (.int p0), .val (.long q1), .second, .val (.long q2), .second, .val (.long q3), .second, .val (.int p4), .val (.int (1 : Int32)), .val (.int (1 : Int32)), .val (.int ((p4 &&& (2147483647 : Int32)) % (3 : Int32))), .val (.ref w_NONE), .unset, .unset] [(.long q2), (.long q1), (.int (1 : Int32)), (.ref b264), (.ref b264)])) _
          refine XS.lload X264.here hx rfl (hb hby at_50) rfl ?_
          show Steps p.tables e below (T264.setTop (mkF m 52 #[.val (.int p0), .val (.long q1), .second, .val (.long q2), .second, .val (.long q3), .second, .val (.int p4), .val (.int (1 : Int32)), .val (.int (1 : Int32)), .val (.int ((p4 &&& (2147483647 : Int32)) % (3 : Int32))), .val (.ref w_NONE), .unset, .unset] [(.long q3), (.long q2), (.long q1), (.int (1 : Int32)), (.ref b264), (.ref b264)])) _
          refine XS.aload X264.here hx rfl (hb hby at_52) rfl rfl ?_
          show Steps p.tables e below (T264.setTop (mkF m 54 #[.val (.int p0), .val (.long q1), .second, .val (.long q2), .second, .val (.long q3), .second, .val (.int p4), .val (.int (1 : Int32)), .val (.int (1 : Int32)), .val (.int ((p4 &&& (2147483647 : Int32)) % (3 : Int32))), .val (.ref w_NONE), .unset, .unset] [(.ref w_NONE), (.long q3), (.long q2), (.long q1), (.int (1 : Int32)), (.ref b264), (.ref b264)])) _
          refine XS.iload X264.here hx rfl (hb hby at_54) rfl ?_
          show Steps p.tables e below (T264.setTop (mkF m 56 #[.val (.int p0), .val (.long q1), .second, .val (.long q2), .second, .val (.long q3), .second, .val (.int p4), .val (.int (1 : Int32)), .val (.int (1 : Int32)), .val (.int ((p4 &&& (2147483647 : Int32)) % (3 : Int32))), .val (.ref w_NONE), .unset, .unset] [(.int (1 : Int32)), (.ref w_NONE), (.long q3), (.long q2), (.long q1), (.int (1 : Int32)), (.ref b264), (.ref b264)])) _
          refine st277.trans ?_
          show Steps p.tables e below (T277.setTop (mkF m 59 #[.val (.int p0), .val (.long q1), .second, .val (.long q2), .second, .val (.long q3), .second, .val (.int p4), .val (.int (1 : Int32)), .val (.int (1 : Int32)), .val (.int ((p4 &&& (2147483647 : Int32)) % (3 : Int32))), .val (.ref w_NONE), .unset, .unset] [(.ref b264)])) _
          refine XS.astore X277.here hx rfl (hb hby at_59) rfl rfl (l' := #[.val (.int p0), .val (.long q1), .second, .val (.long q2), .second, .val (.long q3), .second, .val (.int p4), .val (.int (1 : Int32)), .val (.int (1 : Int32)), .val (.int ((p4 &&& (2147483647 : Int32)) % (3 : Int32))), .val (.ref w_NONE), .val (.ref b264), .unset]) rfl ?_
          show Steps p.tables e below (T277.setTop (mkF m 61 #[.val (.int p0), .val (.long q1), .second, .val (.long q2), .second, .val (.long q3), .second, .val (.int p4), .val (.int (1 : Int32)), .val (.int (1 : Int32)), .val (.int ((p4 &&& (2147483647 : Int32)) % (3 : Int32))), .val (.ref w_NONE), .val (.ref b264), .unset] [])) _
          refine XS.iload X277.here hx rfl (hb hby at_61) rfl ?_
          show Steps p.tables e below (T277.setTop (mkF m 63 #[.val (.int p0), .val (.long q1), .second, .val (.long q2), .second, .val (.long q3), .second, .val (.int p4), .val (.int (1 : Int32)), .val (.int (1 : Int32)), .val (.int ((p4 &&& (2147483647 : Int32)) % (3 : Int32))), .val (.ref w_NONE), .val (.ref b264), .unset] [(.int ((p4 &&& (2147483647 : Int32)) % (3 : Int32)))])) _
          refine XS.ifNo X277.here hx rfl (hb hby at_63) rfl ((if0 _ _).trans (teq hk).2) ?_
          show Steps p.tables e below (T277.setTop (mkF m 66 #[.val (.int p0), .val (.long q1), .second, .val (.long q2), .second, .val (.long q3), .second, .val (.int p4), .val (.int (1 : Int32)), .val (.int (1 : Int32)), .val (.int ((p4 &&& (2147483647 : Int32)) % (3 : Int32))), .val (.ref w_NONE), .val (.ref b264), .unset] [])) _
          refine XS.iconst X277.here hx rfl (hb hby at_66) ?_
          show Steps p.tables e below (T277.setTop (mkF m 67 #[.val (.int p0), .val (.long q1), .second, .val (.long q2), .second, .val (.long q3), .second, .val (.int p4), .val (.int (1 : Int32)), .val (.int (1 : Int32)), .val (.int ((p4 &&& (2147483647 : Int32)) % (3 : Int32))), .val (.ref w_NONE), .val (.ref b264), .unset] [(.int (0 : Int32))])) _
          refine XS.istore X277.here hx rfl (hb hby at_67) rfl (l' := #[.val (.int p0), .val (.long q1), .second, .val (.long q2), .second, .val (.long q3), .second, .val (.int p4), .val (.int (1 : Int32)), .val (.int (1 : Int32)), .val (.int ((p4 &&& (2147483647 : Int32)) % (3 : Int32))), .val (.ref w_NONE), .val (.ref b264), .val (.int (0 : Int32))]) rfl ?_
          show Steps p.tables e below (T277.setTop (mkF m 69 #[.val (.int p0), .val (.long q1), .second, .val (.long q2), .second, .val (.long q3), .second, .val (.int p4), .val (.int (1 : Int32)), .val (.int (1 : Int32)), .val (.int ((p4 &&& (2147483647 : Int32)) % (3 : Int32))), .val (.ref w_NONE), .val (.ref b264), .val (.int (0 : Int32))] [])) _
          refine XS.goto X277.here hx rfl (pc0 := 69) (pc' := 75) rfl (hb hby at_69) (by decide) (by decide) ?_
          show Steps p.tables e below (T277.setTop (mkF m 75 #[.val (.int p0), .val (.long q1), .second, .val (.long q2), .second, .val (.long q3), .second, .val (.int p4), .val (.int (1 : Int32)), .val (.int (1 : Int32)), .val (.int ((p4 &&& (2147483647 : Int32)) % (3 : Int32))), .val (.ref w_NONE), .val (.ref b264), .val (.int (0 : Int32))] [])) _
          refine XS.aload X277.here hx rfl (hb hby at_75) rfl rfl ?_
          show Steps p.tables e below (T277.setTop (mkF m 77 #[.val (.int p0), .val (.long q1), .second, .val (.long q2), .second, .val (.long q3), .second, .val (.int p4), .val (.int (1 : Int32)), .val (.int (1 : Int32)), .val (.int ((p4 &&& (2147483647 : Int32)) % (3 : Int32))), .val (.ref w_NONE), .val (.ref b264), .val (.int (0 : Int32))] [(.ref b264)])) _
          refine st291.trans ?_
          show Steps p.tables e below (T291.setTop (mkF m 80 #[.val (.int p0), .val (.long q1), .second, .val (.long q2), .second, .val (.long q3), .second, .val (.int p4), .val (.int (1 : Int32)), .val (.int (1 : Int32)), .val (.int ((p4 &&& (2147483647 : Int32)) % (3 : Int32))), .val (.ref w_NONE), .val (.ref b264), .val (.int (0 : Int32))] [(.int (F5 w_NONE w_NONE))])) _
          refine XS.iload X291.here hx rfl (hb hby at_80) rfl ?_
          show Steps p.tables e below (T291.setTop (mkF m 82 #[.val (.int p0), .val (.long q1), .second, .val (.long q2), .second, .val (.long q3), .second, .val (.int p4), .val (.int (1 : Int32)), .val (.int (1 : Int32)), .val (.int ((p4 &&& (2147483647 : Int32)) % (3 : Int32))), .val (.ref w_NONE), .val (.ref b264), .val (.int (0 : Int32))] [(.int (0 : Int32)), (.int (F5 w_NONE w_NONE))])) _
          refine XS.icmpNo X291.here hx rfl (hb hby at_82) rfl (teq hc82).2 ?_
          show Steps p.tables e below (T291.setTop (mkF m 85 #[.val (.int p0), .val (.long q1), .second, .val (.long q2), .second, .val (.long q3), .second, .val (.int p4), .val (.int (1 : Int32)), .val (.int (1 : Int32)), .val (.int ((p4 &&& (2147483647 : Int32)) % (3 : Int32))), .val (.ref w_NONE), .val (.ref b264), .val (.int (0 : Int32))] [])) _
          refine XS.iconst X291.here hx rfl (hb hby at_85) ?_
          show Steps p.tables e below (T291.setTop (mkF m 86 #[.val (.int p0), .val (.long q1), .second, .val (.long q2), .second, .val (.long q3), .second, .val (.int p4), .val (.int (1 : Int32)), .val (.int (1 : Int32)), .val (.int ((p4 &&& (2147483647 : Int32)) % (3 : Int32))), .val (.ref w_NONE), .val (.ref b264), .val (.int (0 : Int32))] [(.int (1 : Int32))])) _
          refine XS.goto X291.here hx rfl (pc0 := 86) (pc' := 90) rfl (hb hby at_86) (by decide) (by decide) ?_
          show Steps p.tables e below (T291.setTop (mkF m 90 #[.val (.int p0), .val (.long q1), .second, .val (.long q2), .second, .val (.long q3), .second, .val (.int p4), .val (.int (1 : Int32)), .val (.int (1 : Int32)), .val (.int ((p4 &&& (2147483647 : Int32)) % (3 : Int32))), .val (.ref w_NONE), .val (.ref b264), .val (.int (0 : Int32))] [(.int (1 : Int32))])) _
          exact retN X291 hx (t := .boolean) Bd.returns (by simp) (hb hby at_90) hr
        · show Q0 Z p0 q1 q2 q3 p4 w_NONE w_UNAVAILABLE w_TIMEOUT h0 n0 _ T291.heap _
          rw [e291]
          exact ⟨rfl, N291⟩
      · by_cases hk_2 : ((p4 &&& (2147483647 : Int32)) % (3 : Int32)) = (1 : Int32)
        · rw [show (F1 ((p4 &&& (2147483647 : Int32)) % (3 : Int32)) w_NONE w_UNAVAILABLE w_TIMEOUT) = w_UNAVAILABLE from by rw [F1, if_neg hk, if_pos hk_2]] at pre263
          obtain ⟨T292, h292, X292, e292, E292, A292, D292, -, st292⟩ := newO X262 hx hZ hown (hw _ (List.mem_of_getElem? (i := 8) rfl)) (hw _ (List.mem_of_getElem? (i := 9) rfl)) (hw _ (List.mem_of_getElem? (i := 10) rfl)) e262 (g := (mkF m 42 #[.val (.int p0), .val (.long q1), .second, .val (.long q2), .second, .val (.long q3), .second, .val (.int p4), .val (.int (1 : Int32)), .val (.int (1 : Int32)), .val (.int ((p4 &&& (2147483647 : Int32)) % (3 : Int32))), .val (.ref w_UNAVAILABLE), .unset, .unset] [])) rfl (hb hby at_42) (by decide) (by decide)
          obtain ⟨b292, g292⟩ : ∃ z, z = h0.size := ⟨_, rfl⟩
          rw [← g292] at A292 D292 st292
          have ne_w_NONE_b292 : w_NONE ≠ b292 := Nat.ne_of_lt (Nat.lt_of_lt_of_le E_NONE.lt (Nat.le_of_eq g292.symm))
          have ne_w_UNAVAILABLE_b292 : w_UNAVAILABLE ≠ b292 := Nat.ne_of_lt (Nat.lt_of_lt_of_le E_UNAVAILABLE.lt (Nat.le_of_eq g292.symm))
          have ne_w_TIMEOUT_b292 : w_TIMEOUT ≠ b292 := Nat.ne_of_lt (Nat.lt_of_lt_of_le E_TIMEOUT.lt (Nat.le_of_eq g292.symm))
          have sS293 := S_NONE.ext E292
          have eE294 := E_NONE.ext E292
          have sS295 := S_UNAVAILABLE.ext E292
          have eE296 := E_UNAVAILABLE.ext E292
          have sS297 := S_TIMEOUT.ext E292
          have eE298 := E_TIMEOUT.ext E292
          have g_b292 : n0 ≤ b292 := Nat.le_trans Z0 (Nat.le_of_eq g292.symm)
          have Z292 := Nat.le_trans Z0 E292.1
          have fF299 : Fld Z h292 b292 "com/example/sluis/sluis/model/Decision" "admitted" "Z" (.int (0 : Int32)) := D292 (Or.inr (hw _ (List.mem_of_getElem? (i := 23) rfl))) (ty := .boolean) (by decide)
          have fF300 : Fld Z h292 b292 "com/example/sluis/sluis/model/Decision" "remaining" "J" (.long (0 : Int64)) := D292 (Or.inr (hw _ (List.mem_of_getElem? (i := 25) rfl))) (ty := .long) (by decide)
          have fF301 : Fld Z h292 b292 "com/example/sluis/sluis/model/Decision" "retryAfterMillis" "J" (.long (0 : Int64)) := D292 (Or.inr (hw _ (List.mem_of_getElem? (i := 27) rfl))) (ty := .long) (by decide)
          have fF302 : Fld Z h292 b292 "com/example/sluis/sluis/model/Decision" "waitMillis" "J" (.long (0 : Int64)) := D292 (Or.inr (hw _ (List.mem_of_getElem? (i := 29) rfl))) (ty := .long) (by decide)
          have fF303 : Fld Z h292 b292 "com/example/sluis/sluis/model/Decision" "degradation" "Lcom/example/sluis/sluis/model/Degradation;" .null := D292 (Or.inr (hw _ (List.mem_of_getElem? (i := 31) rfl))) (ty := (.object "com/example/sluis/sluis/model/Degradation")) (by decide)
          have fF304 : Fld Z h292 b292 "com/example/sluis/sluis/model/Decision" "banned" "Z" (.int (0 : Int32)) := D292 (Or.inr (hw _ (List.mem_of_getElem? (i := 33) rfl))) (ty := .boolean) (by decide)
          obtain ⟨_, _, ⟨T305, L305, k305, n305⟩, -, X305, ⟨Lc305, hQ305, l305, y305, z305⟩, st305⟩ := X292.specialBack hx (y := (⟨"com/example/sluis/sluis/model/Decision", "<init>", "(ZJJJLcom/example/sluis/sluis/model/Degradation;Z)V"⟩ : MethodName)) rfl hown (mvT hZ (hw _ (List.mem_of_getElem? (i := 11) rfl))) (mvT hZ (hw _ (List.mem_of_getElem? (i := 12) rfl))) (mvT hZ (hw _ (List.mem_of_getElem? (i := 13) rfl))) (by decide) (backOf (W := 1) (rm2 l Z a0 hw [] b292 (1 : Int32) q1 q2 q3 w_UNAVAILABLE (1 : Int32) (.int (0 : Int32)) (.long (0 : Int64)) (.long (0 : Int64)) (.long (0 : Int64)) .null (.int (0 : Int32)) h292 n0 Z292 fF299 fF300 fF301 fF302 fF303 fF304 A292 g_b292) hZ (hw _ (List.mem_of_getElem? (i := 13) rfl)) (hw _ (List.mem_of_getElem? (i := 10) rfl)) (by decide) (by decide)) (g := (mkF m 56 #[.val (.int p0), .val (.long q1), .second, .val (.long q2), .second, .val (.long q3), .second, .val (.int p4), .val (.int (1 : Int32)), .val (.int (1 : Int32)), .val (.int ((p4 &&& (2147483647 : Int32)) % (3 : Int32))), .val (.ref w_UNAVAILABLE), .unset, .unset] [(.int (1 : Int32)), (.ref w_UNAVAILABLE), (.long q3), (.long q2), (.long q1), (.int (1 : Int32)), (.ref b292), (.ref b292)])) rfl (by rw [hml]; rfl) (Steps.refl _) (a := b292) (argsL := [(.int (1 : Int32)), (.long q1), (.long q2), (.long q3), (.ref w_UNAVAILABLE), (.int (1 : Int32))]) (rest := [(.ref b292)]) (lenOf pd_2 rfl) rfl (by show 2 * 0 + _ ≤ _; exact Nat.le_of_eq rfl) (hb hby at_56) (fun _ _ => ⟨rfl, e292, (by decide : 1 + 0 ≤ _), (by decide : 6 + 0 ≤ _)⟩)
          dsimp only [Pt.U, Pt.locs, Pt.cells, Pt.slots] at X305 l305 y305 z305 st305 hQ305
          subst l305 y305 z305
          obtain ⟨rfl, N305q, K305, G306, G307, G308, G309, G310, G311, G312⟩ := hQ305
          have sS313 := own_sta sS293 K305 A292
          have eE314 := eE294.keep K305
          have sS315 := own_sta sS295 K305 A292
          have eE316 := eE296.keep K305
          have sS317 := own_sta sS297 K305 A292
          have eE318 := eE298.keep K305
          have Z305 := Nat.le_trans Z292 K305.1
          have N305 := Fr.app N262 N305q
          obtain ⟨cq319, kq319, q319a, q319b, q319c⟩ := isOf hZ rfl G306
          obtain ⟨_, _, ⟨T319, L319, k319, n319⟩, -, X319, ⟨Lc319, hQ319, l319, y319, z319⟩, st319⟩ := X305.virtualBack hx (y := (⟨"com/example/sluis/sluis/model/Decision", "degraded", "()Z"⟩ : MethodName)) (z := (⟨"com/example/sluis/sluis/model/Decision", "degraded", "()Z"⟩ : MethodName)) hown (mvT hZ (hw _ (List.mem_of_getElem? (i := 34) rfl))) (mvT hZ (hw _ (List.mem_of_getElem? (i := 35) rfl))) (notFace_of_selects (args := #[]) (mvT hZ (hw _ (List.mem_of_getElem? (i := 37) rfl)))) (mvT hZ (hw _ (List.mem_of_getElem? (i := 37) rfl))) (mvT hZ (hw _ (List.mem_of_getElem? (i := 36) rfl))) (by decide) (backOf (W := 0) (rm5 l Z a0 hw [] b292 w_UNAVAILABLE w_NONE T305.heap n0 Z305 G311 sS313) hZ (hw _ (List.mem_of_getElem? (i := 38) rfl)) (hw _ (List.mem_of_getElem? (i := 10) rfl)) (by decide) (by decide)) q319a q319c (g := (mkF m 77 #[.val (.int p0), .val (.long q1), .second, .val (.long q2), .second, .val (.long q3), .second, .val (.int p4), .val (.int (1 : Int32)), .val (.int (1 : Int32)), .val (.int ((p4 &&& (2147483647 : Int32)) % (3 : Int32))), .val (.ref w_UNAVAILABLE), .val (.ref b292), .val (.int (1 : Int32))] [(.ref b292)])) rfl (by rw [hml]; rfl) (Steps.refl _) (argsL := []) (rest := []) (lenOf pd_3 rfl) rfl (by show 2 * 0 + _ ≤ _; exact Nat.le_of_eq rfl) (hb hby at_77) (fun _ _ => ⟨rfl, rfl, (by decide : 1 + 0 ≤ _), (by decide : 6 + 0 ≤ _)⟩)
          dsimp only [Pt.U, Pt.locs, Pt.cells, Pt.slots] at X319 l319 y319 z319 st319 hQ319
          subst l319 y319 z319
          obtain ⟨rfl, N319q, e319⟩ := hQ319
          have N319 := Fr.app N305 N319q
          have hc82 : (F5 w_UNAVAILABLE w_NONE) = (1 : Int32) := by rw [F5, if_neg ne_UNAVAILABLE_NONE]
          obtain ⟨fs, hr, hrun, hended, hW, hsame⟩ := X319.leave (v := some (.int (1 : Int32))) (fun h => by rw [Bd.returns] at h; cases h) (BodyLoose.notSynchronized Bd)
          refine ⟨_, _, pre263 _ ?_, hrun, hended, _, _, rfl, ?_, ⟨_, rfl⟩, hW, hsame.mono (by decide) (by decide)⟩
          · show Steps p.tables e below (T262.setTop (mkF m 40 #[.val (.int p0), .val (.long q1), .second, .val (.long q2), .second, .val (.long q3), .second, .val (.int p4), .val (.int (1 : Int32)), .val (.int (1 : Int32)), .val (.int ((p4 &&& (2147483647 : Int32)) % (3 : Int32))), .unset, .unset, .unset] [(.ref w_UNAVAILABLE)])) _
            refine XS.astore X262.here hx rfl (hb hby at_40) rfl rfl (l' := #[.val (.int p0), .val (.long q1), .second, .val (.long q2), .second, .val (.long q3), .second, .val (.int p4), .val (.int (1 : Int32)), .val (.int (1 : Int32)), .val (.int ((p4 &&& (2147483647 : Int32)) % (3 : Int32))), .val (.ref w_UNAVAILABLE), .unset, .unset]) rfl ?_
            show Steps p.tables e below (T262.setTop (mkF m 42 #[.val (.int p0), .val (.long q1), .second, .val (.long q2), .second, .val (.long q3), .second, .val (.int p4), .val (.int (1 : Int32)), .val (.int (1 : Int32)), .val (.int ((p4 &&& (2147483647 : Int32)) % (3 : Int32))), .val (.ref w_UNAVAILABLE), .unset, .unset] [])) _
            refine st292 _ ?_
            show Steps p.tables e below (T292.setTop (mkF m 45 #[.val (.int p0), .val (.long q1), .second, .val (.long q2), .second, .val (.long q3), .second, .val (.int p4), .val (.int (1 : Int32)), .val (.int (1 : Int32)), .val (.int ((p4 &&& (2147483647 : Int32)) % (3 : Int32))), .val (.ref w_UNAVAILABLE), .unset, .unset] [(.ref b292)])) _
            refine XS.dup X292.here hx rfl (hb hby at_45) rfl rfl ?_
            show Steps p.tables e below (T292.setTop (mkF m 46 #[.val (.int p0), .val (.long q1), .second, .val (.long q2), .second, .val (.long q3), .second, .val (.int p4), .val (.int (1 : Int32)), .val (.int (1 : Int32)), .val (.int ((p4 &&& (2147483647 : Int32)) % (3 : Int32))), .val (.ref w_UNAVAILABLE), .unset, .unset] [(.ref b292), (.ref b292)])) _
            refine XS.iload X292.here hx rfl (hb hby at_46) rfl ?_
            show Steps p.tables e below (T292.setTop (mkF m 48 #[.val (.int p0), .val (.long q1), .second, .val (.long q2), .second, .val (.long q3), .second, .val (.int p4), .val (.int (1 : Int32)), .val (.int (1 : Int32)), .val (.int ((p4 &&& (2147483647 : Int32)) % (3 : Int32))), .val (.ref w_UNAVAILABLE), .unset, .unset] [(.int (1 : Int32)), (.ref b292), (.ref b292)])) _
            refine XS.lloadN X292.here hx rfl (hb hby at_48) rfl ?_
            show Steps p.tables e below (T292.setTop (mkF m 49 #[.val (.int p0), .val (.long q1), .second, .val (.long q2), .second, .val (.long q3), .second, .val (.int p4), .val (.int (1 : Int32)), .val (.int (1 : Int32)), .val (.int ((p4 &&& (2147483647 : Int32)) % (3 : Int32))), .val (.ref w_UNAVAILABLE), .unset, .unset] [(.long q1), (.int (1 : Int32)), (.ref b292), (.ref b292)])) _
            refine XS.lloadN X292.here hx rfl (hb hby at_49) rfl ?_
            show Steps p.tables e below (T292.setTop (mkF m 50 #[.val (.int p0), .val (.long q1), .second, .val (.long q2), .second, .val (.long q3), .second, .val (.int p4), .val (.int (1 : Int32)), .val (.int (1 : Int32)), .val (.int ((p4 &&& (2147483647 : Int32)) % (3 : Int32))), .val (.ref w_UNAVAILABLE), .unset, .unset] [(.long q2), (.long q1), (.int (1 : Int32)), (.ref b292), (.ref b292)])) _
            refine XS.lload X292.here hx rfl (hb hby at_50) rfl ?_
            show Steps p.tables e below (T292.setTop (mkF m 52 #[.val (.int p0), .val (.long q1), .second, .val (.long q2), .second, .val (.long q3), .second, .val (.int p4), .val (.int (1 : Int32)), .val (.int (1 : Int32)), .val (.int ((p4 &&& (2147483647 : Int32)) % (3 : Int32))), .val (.ref w_UNAVAILABLE), .unset, .unset] [(.long q3), (.long q2), (.long q1), (.int (1 : Int32)), (.ref b292), (.ref b292)])) _
            refine XS.aload X292.here hx rfl (hb hby at_52) rfl rfl ?_
            show Steps p.tables e below (T292.setTop (mkF m 54 #[.val (.int p0), .val (.long q1), .second, .val (.long q2), .second, .val (.long q3), .second, .val (.int p4), .val (.int (1 : Int32)), .val (.int (1 : Int32)), .val (.int ((p4 &&& (2147483647 : Int32)) % (3 : Int32))), .val (.ref w_UNAVAILABLE), .unset, .unset] [(.ref w_UNAVAILABLE), (.long q3), (.long q2), (.long q1), (.int (1 : Int32)), (.ref b292), (.ref b292)])) _
            refine XS.iload X292.here hx rfl (hb hby at_54) rfl ?_
            show Steps p.tables e below (T292.setTop (mkF m 56 #[.val (.int p0), .val (.long q1), .second, .val (.long q2), .second, .val (.long q3), .second, .val (.int p4), .val (.int (1 : Int32)), .val (.int (1 : Int32)), .val (.int ((p4 &&& (2147483647 : Int32)) % (3 : Int32))), .val (.ref w_UNAVAILABLE), .unset, .unset] [(.int (1 : Int32)), (.ref w_UNAVAILABLE), (.long q3), (.long q2), (.long q1), (.int (1 : Int32)), (.ref b292), (.ref b292)])) _
            refine st305.trans ?_
            show Steps p.tables e below (T305.setTop (mkF m 59 #[.val (.int p0), .val (.long q1), .second, .val (.long q2), .second, .val (.long q3), .second, .val (.int p4), .val (.int (1 : Int32)), .val (.int (1 : Int32)), .val (.int ((p4 &&& (2147483647 : Int32)) % (3 : Int32))), .val (.ref w_UNAVAILABLE), .unset, .unset] [(.ref b292)])) _
            refine XS.astore X305.here hx rfl (hb hby at_59) rfl rfl (l' := #[.val (.int p0), .val (.long q1), .second, .val (.long q2), .second, .val (.long q3), .second, .val (.int p4), .val (.int (1 : Int32)), .val (.int (1 : Int32)), .val (.int ((p4 &&& (2147483647 : Int32)) % (3 : Int32))), .val (.ref w_UNAVAILABLE), .val (.ref b292), .unset]) rfl ?_
            show Steps p.tables e below (T305.setTop (mkF m 61 #[.val (.int p0), .val (.long q1), .second, .val (.long q2), .second, .val (.long q3), .second, .val (.int p4), .val (.int (1 : Int32)), .val (.int (1 : Int32)), .val (.int ((p4 &&& (2147483647 : Int32)) % (3 : Int32))), .val (.ref w_UNAVAILABLE), .val (.ref b292), .unset] [])) _
            refine XS.iload X305.here hx rfl (hb hby at_61) rfl ?_
            show Steps p.tables e below (T305.setTop (mkF m 63 #[.val (.int p0), .val (.long q1), .second, .val (.long q2), .second, .val (.long q3), .second, .val (.int p4), .val (.int (1 : Int32)), .val (.int (1 : Int32)), .val (.int ((p4 &&& (2147483647 : Int32)) % (3 : Int32))), .val (.ref w_UNAVAILABLE), .val (.ref b292), .unset] [(.int ((p4 &&& (2147483647 : Int32)) % (3 : Int32)))])) _
            refine XS.ifYes X305.here hx rfl (pc0 := 63) (pc' := 72) rfl (hb hby at_63) rfl ((if0 _ _).trans (feq hk).2) (by decide) (by decide) ?_
            show Steps p.tables e below (T305.setTop (mkF m 72 #[.val (.int p0), .val (.long q1), .second, .val (.long q2), .second, .val (.long q3), .second, .val (.int p4), .val (.int (1 : Int32)), .val (.int (1 : Int32)), .val (.int ((p4 &&& (2147483647 : Int32)) % (3 : Int32))), .val (.ref w_UNAVAILABLE), .val (.ref b292), .unset] [])) _
            refine XS.iconst X305.here hx rfl (hb hby at_72) ?_
            show Steps p.tables e below (T305.setTop (mkF m 73 #[.val (.int p0), .val (.long q1), .second, .val (.long q2), .second, .val (.long q3), .second, .val (.int p4), .val (.int (1 : Int32)), .val (.int (1 : Int32)), .val (.int ((p4 &&& (2147483647 : Int32)) % (3 : Int32))), .val (.ref w_UNAVAILABLE), .val (.ref b292), .unset] [(.int (1 : Int32))])) _
            refine XS.istore X305.here hx rfl (hb hby at_73) rfl (l' := #[.val (.int p0), .val (.long q1), .second, .val (.long q2), .second, .val (.long q3), .second, .val (.int p4), .val (.int (1 : Int32)), .val (.int (1 : Int32)), .val (.int ((p4 &&& (2147483647 : Int32)) % (3 : Int32))), .val (.ref w_UNAVAILABLE), .val (.ref b292), .val (.int (1 : Int32))]) rfl ?_
            show Steps p.tables e below (T305.setTop (mkF m 75 #[.val (.int p0), .val (.long q1), .second, .val (.long q2), .second, .val (.long q3), .second, .val (.int p4), .val (.int (1 : Int32)), .val (.int (1 : Int32)), .val (.int ((p4 &&& (2147483647 : Int32)) % (3 : Int32))), .val (.ref w_UNAVAILABLE), .val (.ref b292), .val (.int (1 : Int32))] [])) _
            refine XS.aload X305.here hx rfl (hb hby at_75) rfl rfl ?_
            show Steps p.tables e below (T305.setTop (mkF m 77 #[.val (.int p0), .val (.long q1), .second, .val (.long q2), .second, .val (.long q3), .second, .val (.int p4), .val (.int (1 : Int32)), .val (.int (1 : Int32)), .val (.int ((p4 &&& (2147483647 : Int32)) % (3 : Int32))), .val (.ref w_UNAVAILABLE), .val (.ref b292), .val (.int (1 : Int32))] [(.ref b292)])) _
            refine st319.trans ?_
            show Steps p.tables e below (T319.setTop (mkF m 80 #[.val (.int p0), .val (.long q1), .second, .val (.long q2), .second, .val (.long q3), .second, .val (.int p4), .val (.int (1 : Int32)), .val (.int (1 : Int32)), .val (.int ((p4 &&& (2147483647 : Int32)) % (3 : Int32))), .val (.ref w_UNAVAILABLE), .val (.ref b292), .val (.int (1 : Int32))] [(.int (F5 w_UNAVAILABLE w_NONE))])) _
            refine XS.iload X319.here hx rfl (hb hby at_80) rfl ?_
            show Steps p.tables e below (T319.setTop (mkF m 82 #[.val (.int p0), .val (.long q1), .second, .val (.long q2), .second, .val (.long q3), .second, .val (.int p4), .val (.int (1 : Int32)), .val (.int (1 : Int32)), .val (.int ((p4 &&& (2147483647 : Int32)) % (3 : Int32))), .val (.ref w_UNAVAILABLE), .val (.ref b292), .val (.int (1 : Int32))] [(.int (1 : Int32)), (.int (F5 w_UNAVAILABLE w_NONE))])) _
            refine XS.icmpNo X319.here hx rfl (hb hby at_82) rfl (teq hc82).2 ?_
            show Steps p.tables e below (T319.setTop (mkF m 85 #[.val (.int p0), .val (.long q1), .second, .val (.long q2), .second, .val (.long q3), .second, .val (.int p4), .val (.int (1 : Int32)), .val (.int (1 : Int32)), .val (.int ((p4 &&& (2147483647 : Int32)) % (3 : Int32))), .val (.ref w_UNAVAILABLE), .val (.ref b292), .val (.int (1 : Int32))] [])) _
            refine XS.iconst X319.here hx rfl (hb hby at_85) ?_
            show Steps p.tables e below (T319.setTop (mkF m 86 #[.val (.int p0), .val (.long q1), .second, .val (.long q2), .second, .val (.long q3), .second, .val (.int p4), .val (.int (1 : Int32)), .val (.int (1 : Int32)), .val (.int ((p4 &&& (2147483647 : Int32)) % (3 : Int32))), .val (.ref w_UNAVAILABLE), .val (.ref b292), .val (.int (1 : Int32))] [(.int (1 : Int32))])) _
            refine XS.goto X319.here hx rfl (pc0 := 86) (pc' := 90) rfl (hb hby at_86) (by decide) (by decide) ?_
            show Steps p.tables e below (T319.setTop (mkF m 90 #[.val (.int p0), .val (.long q1), .second, .val (.long q2), .second, .val (.long q3), .second, .val (.int p4), .val (.int (1 : Int32)), .val (.int (1 : Int32)), .val (.int ((p4 &&& (2147483647 : Int32)) % (3 : Int32))), .val (.ref w_UNAVAILABLE), .val (.ref b292), .val (.int (1 : Int32))] [(.int (1 : Int32))])) _
            exact retN X319 hx (t := .boolean) Bd.returns (by simp) (hb hby at_90) hr
          · show Q0 Z p0 q1 q2 q3 p4 w_NONE w_UNAVAILABLE w_TIMEOUT h0 n0 _ T319.heap _
            rw [e319]
            exact ⟨rfl, N319⟩
        · rw [show (F1 ((p4 &&& (2147483647 : Int32)) % (3 : Int32)) w_NONE w_UNAVAILABLE w_TIMEOUT) = w_TIMEOUT from by rw [F1, if_neg hk, if_neg hk_2]] at pre263
          obtain ⟨T320, h320, X320, e320, E320, A320, D320, -, st320⟩ := newO X262 hx hZ hown (hw _ (List.mem_of_getElem? (i := 8) rfl)) (hw _ (List.mem_of_getElem? (i := 9) rfl)) (hw _ (List.mem_of_getElem? (i := 10) rfl)) e262 (g := (mkF m 42 #[.val (.int p0), .val (.long q1), .second, .val (.long q2), .second, .val (.long q3), .second, .val (.int p4), .val (.int (1 : Int32)), .val (.int (1 : Int32)), .val (.int ((p4 &&& (2147483647 : Int32)) % (3 : Int32))), .val (.ref w_TIMEOUT), .unset, .unset] [])) rfl (hb hby at_42) (by decide) (by decide)
          obtain ⟨b320, g320⟩ : ∃ z, z = h0.size := ⟨_, rfl⟩
          rw [← g320] at A320 D320 st320
          have ne_w_NONE_b320 : w_NONE ≠ b320 := Nat.ne_of_lt (Nat.lt_of_lt_of_le E_NONE.lt (Nat.le_of_eq g320.symm))
          have ne_w_UNAVAILABLE_b320 : w_UNAVAILABLE ≠ b320 := Nat.ne_of_lt (Nat.lt_of_lt_of_le E_UNAVAILABLE.lt (Nat.le_of_eq g320.symm))
          have ne_w_TIMEOUT_b320 : w_TIMEOUT ≠ b320 := Nat.ne_of_lt (Nat.lt_of_lt_of_le E_TIMEOUT.lt (Nat.le_of_eq g320.symm))
          have sS321 := S_NONE.ext E320
          have eE322 := E_NONE.ext E320
          have sS323 := S_UNAVAILABLE.ext E320
          have eE324 := E_UNAVAILABLE.ext E320
          have sS325 := S_TIMEOUT.ext E320
          have eE326 := E_TIMEOUT.ext E320
          have g_b320 : n0 ≤ b320 := Nat.le_trans Z0 (Nat.le_of_eq g320.symm)
          have Z320 := Nat.le_trans Z0 E320.1
          have fF327 : Fld Z h320 b320 "com/example/sluis/sluis/model/Decision" "admitted" "Z" (.int (0 : Int32)) := D320 (Or.inr (hw _ (List.mem_of_getElem? (i := 23) rfl))) (ty := .boolean) (by decide)
          have fF328 : Fld Z h320 b320 "com/example/sluis/sluis/model/Decision" "remaining" "J" (.long (0 : Int64)) := D320 (Or.inr (hw _ (List.mem_of_getElem? (i := 25) rfl))) (ty := .long) (by decide)
          have fF329 : Fld Z h320 b320 "com/example/sluis/sluis/model/Decision" "retryAfterMillis" "J" (.long (0 : Int64)) := D320 (Or.inr (hw _ (List.mem_of_getElem? (i := 27) rfl))) (ty := .long) (by decide)
          have fF330 : Fld Z h320 b320 "com/example/sluis/sluis/model/Decision" "waitMillis" "J" (.long (0 : Int64)) := D320 (Or.inr (hw _ (List.mem_of_getElem? (i := 29) rfl))) (ty := .long) (by decide)
          have fF331 : Fld Z h320 b320 "com/example/sluis/sluis/model/Decision" "degradation" "Lcom/example/sluis/sluis/model/Degradation;" .null := D320 (Or.inr (hw _ (List.mem_of_getElem? (i := 31) rfl))) (ty := (.object "com/example/sluis/sluis/model/Degradation")) (by decide)
          have fF332 : Fld Z h320 b320 "com/example/sluis/sluis/model/Decision" "banned" "Z" (.int (0 : Int32)) := D320 (Or.inr (hw _ (List.mem_of_getElem? (i := 33) rfl))) (ty := .boolean) (by decide)
          obtain ⟨_, _, ⟨T333, L333, k333, n333⟩, -, X333, ⟨Lc333, hQ333, l333, y333, z333⟩, st333⟩ := X320.specialBack hx (y := (⟨"com/example/sluis/sluis/model/Decision", "<init>", "(ZJJJLcom/example/sluis/sluis/model/Degradation;Z)V"⟩ : MethodName)) rfl hown (mvT hZ (hw _ (List.mem_of_getElem? (i := 11) rfl))) (mvT hZ (hw _ (List.mem_of_getElem? (i := 12) rfl))) (mvT hZ (hw _ (List.mem_of_getElem? (i := 13) rfl))) (by decide) (backOf (W := 1) (rm2 l Z a0 hw [] b320 (1 : Int32) q1 q2 q3 w_TIMEOUT (1 : Int32) (.int (0 : Int32)) (.long (0 : Int64)) (.long (0 : Int64)) (.long (0 : Int64)) .null (.int (0 : Int32)) h320 n0 Z320 fF327 fF328 fF329 fF330 fF331 fF332 A320 g_b320) hZ (hw _ (List.mem_of_getElem? (i := 13) rfl)) (hw _ (List.mem_of_getElem? (i := 10) rfl)) (by decide) (by decide)) (g := (mkF m 56 #[.val (.int p0), .val (.long q1), .second, .val (.long q2), .second, .val (.long q3), .second, .val (.int p4), .val (.int (1 : Int32)), .val (.int (1 : Int32)), .val (.int ((p4 &&& (2147483647 : Int32)) % (3 : Int32))), .val (.ref w_TIMEOUT), .unset, .unset] [(.int (1 : Int32)), (.ref w_TIMEOUT), (.long q3), (.long q2), (.long q1), (.int (1 : Int32)), (.ref b320), (.ref b320)])) rfl (by rw [hml]; rfl) (Steps.refl _) (a := b320) (argsL := [(.int (1 : Int32)), (.long q1), (.long q2), (.long q3), (.ref w_TIMEOUT), (.int (1 : Int32))]) (rest := [(.ref b320)]) (lenOf pd_2 rfl) rfl (by show 2 * 0 + _ ≤ _; exact Nat.le_of_eq rfl) (hb hby at_56) (fun _ _ => ⟨rfl, e320, (by decide : 1 + 0 ≤ _), (by decide : 6 + 0 ≤ _)⟩)
          dsimp only [Pt.U, Pt.locs, Pt.cells, Pt.slots] at X333 l333 y333 z333 st333 hQ333
          subst l333 y333 z333
          obtain ⟨rfl, N333q, K333, G334, G335, G336, G337, G338, G339, G340⟩ := hQ333
          have sS341 := own_sta sS321 K333 A320
          have eE342 := eE322.keep K333
          have sS343 := own_sta sS323 K333 A320
          have eE344 := eE324.keep K333
          have sS345 := own_sta sS325 K333 A320
          have eE346 := eE326.keep K333
          have Z333 := Nat.le_trans Z320 K333.1
          have N333 := Fr.app N262 N333q
          obtain ⟨cq347, kq347, q347a, q347b, q347c⟩ := isOf hZ rfl G334
          obtain ⟨_, _, ⟨T347, L347, k347, n347⟩, -, X347, ⟨Lc347, hQ347, l347, y347, z347⟩, st347⟩ := X333.virtualBack hx (y := (⟨"com/example/sluis/sluis/model/Decision", "degraded", "()Z"⟩ : MethodName)) (z := (⟨"com/example/sluis/sluis/model/Decision", "degraded", "()Z"⟩ : MethodName)) hown (mvT hZ (hw _ (List.mem_of_getElem? (i := 34) rfl))) (mvT hZ (hw _ (List.mem_of_getElem? (i := 35) rfl))) (notFace_of_selects (args := #[]) (mvT hZ (hw _ (List.mem_of_getElem? (i := 37) rfl)))) (mvT hZ (hw _ (List.mem_of_getElem? (i := 37) rfl))) (mvT hZ (hw _ (List.mem_of_getElem? (i := 36) rfl))) (by decide) (backOf (W := 0) (rm5 l Z a0 hw [] b320 w_TIMEOUT w_NONE T333.heap n0 Z333 G339 sS341) hZ (hw _ (List.mem_of_getElem? (i := 38) rfl)) (hw _ (List.mem_of_getElem? (i := 10) rfl)) (by decide) (by decide)) q347a q347c (g := (mkF m 77 #[.val (.int p0), .val (.long q1), .second, .val (.long q2), .second, .val (.long q3), .second, .val (.int p4), .val (.int (1 : Int32)), .val (.int (1 : Int32)), .val (.int ((p4 &&& (2147483647 : Int32)) % (3 : Int32))), .val (.ref w_TIMEOUT), .val (.ref b320), .val (.int (1 : Int32))] [(.ref b320)])) rfl (by rw [hml]; rfl) (Steps.refl _) (argsL := []) (rest := []) (lenOf pd_3 rfl) rfl (by show 2 * 0 + _ ≤ _; exact Nat.le_of_eq rfl) (hb hby at_77) (fun _ _ => ⟨rfl, rfl, (by decide : 1 + 0 ≤ _), (by decide : 6 + 0 ≤ _)⟩)
          dsimp only [Pt.U, Pt.locs, Pt.cells, Pt.slots] at X347 l347 y347 z347 st347 hQ347
          subst l347 y347 z347
          obtain ⟨rfl, N347q, e347⟩ := hQ347
          have N347 := Fr.app N333 N347q
          have hc82 : (F5 w_TIMEOUT w_NONE) = (1 : Int32) := by rw [F5, if_neg ne_TIMEOUT_NONE]
          obtain ⟨fs, hr, hrun, hended, hW, hsame⟩ := X347.leave (v := some (.int (1 : Int32))) (fun h => by rw [Bd.returns] at h; cases h) (BodyLoose.notSynchronized Bd)
          refine ⟨_, _, pre263 _ ?_, hrun, hended, _, _, rfl, ?_, ⟨_, rfl⟩, hW, hsame.mono (by decide) (by decide)⟩
          · show Steps p.tables e below (T262.setTop (mkF m 40 #[.val (.int p0), .val (.long q1), .second, .val (.long q2), .second, .val (.long q3), .second, .val (.int p4), .val (.int (1 : Int32)), .val (.int (1 : Int32)), .val (.int ((p4 &&& (2147483647 : Int32)) % (3 : Int32))), .unset, .unset, .unset] [(.ref w_TIMEOUT)])) _
            refine XS.astore X262.here hx rfl (hb hby at_40) rfl rfl (l' := #[.val (.int p0), .val (.long q1), .second, .val (.long q2), .second, .val (.long q3), .second, .val (.int p4), .val (.int (1 : Int32)), .val (.int (1 : Int32)), .val (.int ((p4 &&& (2147483647 : Int32)) % (3 : Int32))), .val (.ref w_TIMEOUT), .unset, .unset]) rfl ?_
            show Steps p.tables e below (T262.setTop (mkF m 42 #[.val (.int p0), .val (.long q1), .second, .val (.long q2), .second, .val (.long q3), .second, .val (.int p4), .val (.int (1 : Int32)), .val (.int (1 : Int32)), .val (.int ((p4 &&& (2147483647 : Int32)) % (3 : Int32))), .val (.ref w_TIMEOUT), .unset, .unset] [])) _
            refine st320 _ ?_
            show Steps p.tables e below (T320.setTop (mkF m 45 #[.val (.int p0), .val (.long q1), .second, .val (.long q2), .second, .val (.long q3), .second, .val (.int p4), .val (.int (1 : Int32)), .val (.int (1 : Int32)), .val (.int ((p4 &&& (2147483647 : Int32)) % (3 : Int32))), .val (.ref w_TIMEOUT), .unset, .unset] [(.ref b320)])) _
            refine XS.dup X320.here hx rfl (hb hby at_45) rfl rfl ?_
            show Steps p.tables e below (T320.setTop (mkF m 46 #[.val (.int p0), .val (.long q1), .second, .val (.long q2), .second, .val (.long q3), .second, .val (.int p4), .val (.int (1 : Int32)), .val (.int (1 : Int32)), .val (.int ((p4 &&& (2147483647 : Int32)) % (3 : Int32))), .val (.ref w_TIMEOUT), .unset, .unset] [(.ref b320), (.ref b320)])) _
            refine XS.iload X320.here hx rfl (hb hby at_46) rfl ?_
            show Steps p.tables e below (T320.setTop (mkF m 48 #[.val (.int p0), .val (.long q1), .second, .val (.long q2), .second, .val (.long q3), .second, .val (.int p4), .val (.int (1 : Int32)), .val (.int (1 : Int32)), .val (.int ((p4 &&& (2147483647 : Int32)) % (3 : Int32))), .val (.ref w_TIMEOUT), .unset, .unset] [(.int (1 : Int32)), (.ref b320), (.ref b320)])) _
            refine XS.lloadN X320.here hx rfl (hb hby at_48) rfl ?_
            show Steps p.tables e below (T320.setTop (mkF m 49 #[.val (.int p0), .val (.long q1), .second, .val (.long q2), .second, .val (.long q3), .second, .val (.int p4), .val (.int (1 : Int32)), .val (.int (1 : Int32)), .val (.int ((p4 &&& (2147483647 : Int32)) % (3 : Int32))), .val (.ref w_TIMEOUT), .unset, .unset] [(.long q1), (.int (1 : Int32)), (.ref b320), (.ref b320)])) _
            refine XS.lloadN X320.here hx rfl (hb hby at_49) rfl ?_
            show Steps p.tables e below (T320.setTop (mkF m 50 #[.val (.int p0), .val (.long q1), .second, .val (.long q2), .second, .val (.long q3), .second, .val (.int p4), .val (.int (1 : Int32)), .val (.int (1 : Int32)), .val (.int ((p4 &&& (2147483647 : Int32)) % (3 : Int32))), .val (.ref w_TIMEOUT), .unset, .unset] [(.long q2), (.long q1), (.int (1 : Int32)), (.ref b320), (.ref b320)])) _
            refine XS.lload X320.here hx rfl (hb hby at_50) rfl ?_
            show Steps p.tables e below (T320.setTop (mkF m 52 #[.val (.int p0), .val (.long q1), .second, .val (.long q2), .second, .val (.long q3), .second, .val (.int p4), .val (.int (1 : Int32)), .val (.int (1 : Int32)), .val (.int ((p4 &&& (2147483647 : Int32)) % (3 : Int32))), .val (.ref w_TIMEOUT), .unset, .unset] [(.long q3), (.long q2), (.long q1), (.int (1 : Int32)), (.ref b320), (.ref b320)])) _
            refine XS.aload X320.here hx rfl (hb hby at_52) rfl rfl ?_
            show Steps p.tables e below (T320.setTop (mkF m 54 #[.val (.int p0), .val (.long q1), .second, .val (.long q2), .second, .val (.long q3), .second, .val (.int p4), .val (.int (1 : Int32)), .val (.int (1 : Int32)), .val (.int ((p4 &&& (2147483647 : Int32)) % (3 : Int32))), .val (.ref w_TIMEOUT), .unset, .unset] [(.ref w_TIMEOUT), (.long q3), (.long q2), (.long q1), (.int (1 : Int32)), (.ref b320), (.ref b320)])) _
            refine XS.iload X320.here hx rfl (hb hby at_54) rfl ?_
            show Steps p.tables e below (T320.setTop (mkF m 56 #[.val (.int p0), .val (.long q1), .second, .val (.long q2), .second, .val (.long q3), .second, .val (.int p4), .val (.int (1 : Int32)), .val (.int (1 : Int32)), .val (.int ((p4 &&& (2147483647 : Int32)) % (3 : Int32))), .val (.ref w_TIMEOUT), .unset, .unset] [(.int (1 : Int32)), (.ref w_TIMEOUT), (.long q3), (.long q2), (.long q1), (.int (1 : Int32)), (.ref b320), (.ref b320)])) _
            refine st333.trans ?_
            show Steps p.tables e below (T333.setTop (mkF m 59 #[.val (.int p0), .val (.long q1), .second, .val (.long q2), .second, .val (.long q3), .second, .val (.int p4), .val (.int (1 : Int32)), .val (.int (1 : Int32)), .val (.int ((p4 &&& (2147483647 : Int32)) % (3 : Int32))), .val (.ref w_TIMEOUT), .unset, .unset] [(.ref b320)])) _
            refine XS.astore X333.here hx rfl (hb hby at_59) rfl rfl (l' := #[.val (.int p0), .val (.long q1), .second, .val (.long q2), .second, .val (.long q3), .second, .val (.int p4), .val (.int (1 : Int32)), .val (.int (1 : Int32)), .val (.int ((p4 &&& (2147483647 : Int32)) % (3 : Int32))), .val (.ref w_TIMEOUT), .val (.ref b320), .unset]) rfl ?_
            show Steps p.tables e below (T333.setTop (mkF m 61 #[.val (.int p0), .val (.long q1), .second, .val (.long q2), .second, .val (.long q3), .second, .val (.int p4), .val (.int (1 : Int32)), .val (.int (1 : Int32)), .val (.int ((p4 &&& (2147483647 : Int32)) % (3 : Int32))), .val (.ref w_TIMEOUT), .val (.ref b320), .unset] [])) _
            refine XS.iload X333.here hx rfl (hb hby at_61) rfl ?_
            show Steps p.tables e below (T333.setTop (mkF m 63 #[.val (.int p0), .val (.long q1), .second, .val (.long q2), .second, .val (.long q3), .second, .val (.int p4), .val (.int (1 : Int32)), .val (.int (1 : Int32)), .val (.int ((p4 &&& (2147483647 : Int32)) % (3 : Int32))), .val (.ref w_TIMEOUT), .val (.ref b320), .unset] [(.int ((p4 &&& (2147483647 : Int32)) % (3 : Int32)))])) _
            refine XS.ifYes X333.here hx rfl (pc0 := 63) (pc' := 72) rfl (hb hby at_63) rfl ((if0 _ _).trans (feq hk).2) (by decide) (by decide) ?_
            show Steps p.tables e below (T333.setTop (mkF m 72 #[.val (.int p0), .val (.long q1), .second, .val (.long q2), .second, .val (.long q3), .second, .val (.int p4), .val (.int (1 : Int32)), .val (.int (1 : Int32)), .val (.int ((p4 &&& (2147483647 : Int32)) % (3 : Int32))), .val (.ref w_TIMEOUT), .val (.ref b320), .unset] [])) _
            refine XS.iconst X333.here hx rfl (hb hby at_72) ?_
            show Steps p.tables e below (T333.setTop (mkF m 73 #[.val (.int p0), .val (.long q1), .second, .val (.long q2), .second, .val (.long q3), .second, .val (.int p4), .val (.int (1 : Int32)), .val (.int (1 : Int32)), .val (.int ((p4 &&& (2147483647 : Int32)) % (3 : Int32))), .val (.ref w_TIMEOUT), .val (.ref b320), .unset] [(.int (1 : Int32))])) _
            refine XS.istore X333.here hx rfl (hb hby at_73) rfl (l' := #[.val (.int p0), .val (.long q1), .second, .val (.long q2), .second, .val (.long q3), .second, .val (.int p4), .val (.int (1 : Int32)), .val (.int (1 : Int32)), .val (.int ((p4 &&& (2147483647 : Int32)) % (3 : Int32))), .val (.ref w_TIMEOUT), .val (.ref b320), .val (.int (1 : Int32))]) rfl ?_
            show Steps p.tables e below (T333.setTop (mkF m 75 #[.val (.int p0), .val (.long q1), .second, .val (.long q2), .second, .val (.long q3), .second, .val (.int p4), .val (.int (1 : Int32)), .val (.int (1 : Int32)), .val (.int ((p4 &&& (2147483647 : Int32)) % (3 : Int32))), .val (.ref w_TIMEOUT), .val (.ref b320), .val (.int (1 : Int32))] [])) _
            refine XS.aload X333.here hx rfl (hb hby at_75) rfl rfl ?_
            show Steps p.tables e below (T333.setTop (mkF m 77 #[.val (.int p0), .val (.long q1), .second, .val (.long q2), .second, .val (.long q3), .second, .val (.int p4), .val (.int (1 : Int32)), .val (.int (1 : Int32)), .val (.int ((p4 &&& (2147483647 : Int32)) % (3 : Int32))), .val (.ref w_TIMEOUT), .val (.ref b320), .val (.int (1 : Int32))] [(.ref b320)])) _
            refine st347.trans ?_
            show Steps p.tables e below (T347.setTop (mkF m 80 #[.val (.int p0), .val (.long q1), .second, .val (.long q2), .second, .val (.long q3), .second, .val (.int p4), .val (.int (1 : Int32)), .val (.int (1 : Int32)), .val (.int ((p4 &&& (2147483647 : Int32)) % (3 : Int32))), .val (.ref w_TIMEOUT), .val (.ref b320), .val (.int (1 : Int32))] [(.int (F5 w_TIMEOUT w_NONE))])) _
            refine XS.iload X347.here hx rfl (hb hby at_80) rfl ?_
            show Steps p.tables e below (T347.setTop (mkF m 82 #[.val (.int p0), .val (.long q1), .second, .val (.long q2), .second, .val (.long q3), .second, .val (.int p4), .val (.int (1 : Int32)), .val (.int (1 : Int32)), .val (.int ((p4 &&& (2147483647 : Int32)) % (3 : Int32))), .val (.ref w_TIMEOUT), .val (.ref b320), .val (.int (1 : Int32))] [(.int (1 : Int32)), (.int (F5 w_TIMEOUT w_NONE))])) _
            refine XS.icmpNo X347.here hx rfl (hb hby at_82) rfl (teq hc82).2 ?_
            show Steps p.tables e below (T347.setTop (mkF m 85 #[.val (.int p0), .val (.long q1), .second, .val (.long q2), .second, .val (.long q3), .second, .val (.int p4), .val (.int (1 : Int32)), .val (.int (1 : Int32)), .val (.int ((p4 &&& (2147483647 : Int32)) % (3 : Int32))), .val (.ref w_TIMEOUT), .val (.ref b320), .val (.int (1 : Int32))] [])) _
            refine XS.iconst X347.here hx rfl (hb hby at_85) ?_
            show Steps p.tables e below (T347.setTop (mkF m 86 #[.val (.int p0), .val (.long q1), .second, .val (.long q2), .second, .val (.long q3), .second, .val (.int p4), .val (.int (1 : Int32)), .val (.int (1 : Int32)), .val (.int ((p4 &&& (2147483647 : Int32)) % (3 : Int32))), .val (.ref w_TIMEOUT), .val (.ref b320), .val (.int (1 : Int32))] [(.int (1 : Int32))])) _
            refine XS.goto X347.here hx rfl (pc0 := 86) (pc' := 90) rfl (hb hby at_86) (by decide) (by decide) ?_
            show Steps p.tables e below (T347.setTop (mkF m 90 #[.val (.int p0), .val (.long q1), .second, .val (.long q2), .second, .val (.long q3), .second, .val (.int p4), .val (.int (1 : Int32)), .val (.int (1 : Int32)), .val (.int ((p4 &&& (2147483647 : Int32)) % (3 : Int32))), .val (.ref w_TIMEOUT), .val (.ref b320), .val (.int (1 : Int32))] [(.int (1 : Int32))])) _
            exact retN X347 hx (t := .boolean) Bd.returns (by simp) (hb hby at_90) hr
          · show Q0 Z p0 q1 q2 q3 p4 w_NONE w_UNAVAILABLE w_TIMEOUT h0 n0 _ T347.heap _
            rw [e347]
            exact ⟨rfl, N347⟩
set_option maxRecDepth 65536 in
set_option maxHeartbeats 40000000 in
theorem comes_1 {Post : Tables → Env → Array Value → State → Outcome → State → Prop} (hpost : ∀ tb e args s v u, (limb_1_1.after args s (.returned v) u = true ∧ limb_1_2.after args s (.returned v) u = true ∧ True) → FrameEnd s (.returned v) u (Jvm.fieldLocs frame_1_writes args s ++ Jvm.arrayLocs frame_1_arrays args s ++ Jvm.staticLocs frame_1_statics s) 16 128 → Post tb e args s (.returned v) u) :
    ArmFor flags0 classFile x code maxLocals ret World_1 tables_1 room_1 Calls_1 rest_1 Pre_1 Post := by
  intro l hfl _ _ p e ha hc hk s m args below hf hA hF happ hP
  obtain ⟨hcalls, hrest, hpre⟩ := hP
  obtain ⟨-, -, -, hnamed, -, -, -, hat⟩ := (Spec.applies_iff hf).mp happ
  obtain ⟨hg, hn⟩ := and_e (Cond.before_iff.mp (show (Jvm.Cond.and given_1 narrow_1).before args s = true from hpre))
  obtain ⟨g1, g2⟩ := and_e hg
  obtain ⟨g3, g4⟩ := and_e g2
  obtain ⟨g5, g6⟩ := and_e g4
  obtain ⟨g7, g8⟩ := and_e g6
  obtain ⟨g9, g10⟩ := and_e g8
  obtain ⟨w0, w1, w2, w3, w4, rfl⟩ : ∃ w0 w1 w2 w3 w4 : Value, args = #[w0, w1, w2, w3, w4] := by
    have hs : args.size = 5 := by simpa [Cond.value, given_1] using g1
    obtain ⟨L⟩ := args
    match L, hs with
    | [w0, w1, w2, w3, w4], _ => exact ⟨w0, w1, w2, w3, w4, rfl⟩
  have hw := fun d (hd : d ∈ tables_1) => atoms_spec (ws := Jvm.Cond.code x code maxLocals ret :: tables_1) hat d (List.mem_cons_of_mem _ hd)
  obtain ⟨i0, ei0⟩ := is_v g3
  obtain rfl : w0 = (.int i0) := Option.some.inj ei0
  obtain ⟨i1, ei1⟩ := isL_v g5
  obtain rfl : w1 = (.long i1) := Option.some.inj ei1
  obtain ⟨i2, ei2⟩ := isL_v g7
  obtain rfl : w2 = (.long i2) := Option.some.inj ei2
  obtain ⟨i3, ei3⟩ := isL_v g9
  obtain rfl : w3 = (.long i3) := Option.some.inj ei3
  obtain ⟨i4, ei4⟩ := is_v g10
  obtain rfl : w4 = (.int i4) := Option.some.inj ei4
  obtain ⟨nl1, nr1⟩ := and_e hn
  obtain ⟨nl2, nr2⟩ := and_e nr1
  obtain ⟨nl3, nr3⟩ := and_e nr2
  obtain ⟨nl4, nr4⟩ := and_e nr3
  obtain ⟨nl5, nr5⟩ := and_e nr4
  obtain ⟨w_NONE, ev_NONE⟩ := exa_v nl1
  have E_NONE := Exa.start ev_NONE nl1
  have S_NONE := Sta.start ev_NONE (Or.inr ⟨(hw _ (List.mem_of_getElem? (i := 6) rfl)), (hw _ (List.mem_of_getElem? (i := 7) rfl))⟩)
  obtain ⟨w_UNAVAILABLE, ev_UNAVAILABLE⟩ := exa_v nl5
  have E_UNAVAILABLE := Exa.start ev_UNAVAILABLE nl5
  have S_UNAVAILABLE := Sta.start ev_UNAVAILABLE (Or.inr ⟨(hw _ (List.mem_of_getElem? (i := 6) rfl)), (hw _ (List.mem_of_getElem? (i := 43) rfl))⟩)
  obtain ⟨w_TIMEOUT, ev_TIMEOUT⟩ := exa_v nl2
  have E_TIMEOUT := Exa.start ev_TIMEOUT nl2
  have S_TIMEOUT := Sta.start ev_TIMEOUT (Or.inr ⟨(hw _ (List.mem_of_getElem? (i := 6) rfl)), (hw _ (List.mem_of_getElem? (i := 41) rfl))⟩)
  have ne_UNAVAILABLE_NONE : ¬ w_UNAVAILABLE = w_NONE := Fld.ne (own_fint ev_UNAVAILABLE nr5) (own_fint ev_NONE nl4) (by decide)
  have ne_TIMEOUT_NONE : ¬ w_TIMEOUT = w_NONE := Fld.ne (own_fint ev_TIMEOUT nl3) (own_fint ev_NONE nl4) (by decide)
  obtain ⟨n, o, h1, h2, h3, _, L, rfl, ⟨rfl, N⟩, hq⟩ := rm0 l s _ hw tables_1 i0 i1 i2 i3 i4 w_NONE w_UNAVAILABLE w_TIMEOUT s.heap s.heap.size (Nat.le_refl _) S_NONE E_NONE S_UNAVAILABLE E_UNAVAILABLE S_TIMEOUT E_TIMEOUT ne_UNAVAILABLE_NONE ne_TIMEOUT_NONE p e ha hc hk s m _ below hf ((Spec.applies_iff_loose hf).mp happ).1 ⟨rfl, State.Warmed39.refl s, rfl⟩ trivial
  refine ⟨n, _, h1, h2, h3, hpost _ _ _ _ _ _ ⟨Cond.after_iff.mpr rfl, Cond.after_iff.mpr (eq_i res_at (Term.int_eval (1)) rfl), trivial⟩ ⟨hq.1, hq.2.1, (hq.2.2.sift fun y hy => Or.inr (N y hy)).mono (by decide) (by decide)⟩⟩
theorem main_1_1 : Claimed_1_1 := comes_1 fun _ _ _ _ _ _ h hF => ⟨h.1, hF⟩
theorem main_1_2 : Claimed_1_2 := comes_1 fun _ _ _ _ _ _ h hF => ⟨h.2.1, hF⟩
end Jvm.Pilot.@@N@@
namespace Jvm.Pilot.@@N@@
open Jvm Jvm.ClassFile Sem Op Lib Jvm.Free Jvm.Stand Jvm.Pilot.@@N@@.Jvm.D
/-! MADE BY PROGRAM (witnessworld.py) out of the Statement's table words and the real class files: 14 classes; the members and pool entries that the words name. The judged class is class 1, her method 2. -/
namespace start1
open Jvm.ClassFile
def u (s : String) : CpInfo := .utf8 (stringToUtf16 s)
/-- a pool by its gaps: so many unusable entries, then the entry; so many at the end -/
def gap : Nat → List CpInfo → List CpInfo
  | 0, r => r
  | n + 1, r => .unusable :: gap n r
def poolList (es : List (Nat × CpInfo)) (last : Nat) : List CpInfo := es.foldr (fun e r => gap e.1 (e.2 :: r)) (gap last [])
def pool (es : List (Nat × CpInfo)) (last : Nat) : Array CpInfo := ⟨poolList es last⟩
def fileOf (pool : Array CpInfo) (this : Nat) (attrs : Array Attribute := #[]) (ms : Array MethodInfo := #[]) (fl : Nat := 33) (sup : Nat := 0) (ifs : Array Nat := #[]) (fds : Array FieldInfo := #[]) : ClassFile where
  minorVersion := 0
  majorVersion := 65
  constantPool := pool
  accessFlags := fl
  thisClass := this
  superClass := sup
  interfaces := ifs
  fields := fds
  methods := ms
  attributes := attrs
def plain (name : String) (sup : Option ClassId) : Class where
  name := name
  kind := .ordinary
  loader := none
  accessFlags := 33
  super := sup
  interfaces := #[]
  cf := none
  fields := #[]
  methods := #[]
  instanceTypes := #[]
  staticTypes := #[]
  resolved := #[]
  callSites := []
  init := .initialized
  statics := none
  mirror := none

def pool0 : Array CpInfo := pool [(5, u "<init>"), (0, u "()V"), (1, .class_ 10), (1, u "java/lang/Object")] 113

def k0c0 : Code := { maxStack := 0, maxLocals := 1, code := object_method_1_code, exceptionTable := #[], attributes := #[] }
def k0m0 : Method := { name := "<init>", desc := "()V", sig := { parameters := [], returnType := none }, accessFlags := 1, code := some k0c0 }
/-- java/lang/Object -/
def k0 : Class := { plain "java/lang/Object" none with
  accessFlags := 33
  interfaces := #[]
  cf := some (fileOf pool0 8 #[] #[{ accessFlags := 1, nameIndex := 5, descriptorIndex := 6, attributes := #[] }] 33 0 #[] #[])
  fields := #[]
  methods := #[k0m0]
  instanceTypes := #[]
  staticTypes := #[]
  resolved := Array.replicate 124 none
  statics := none }

def pool1 : Array CpInfo := pool [(2, .class_ 4), (1, u "java/lang/Object"), (0, u "<init>"), (0, u "()V"), (0, .fieldref 8 9), (0, .class_ 10), (0, .nameAndType 11 12), (0, u "com/example/sluis/sluis/model/Degradation"), (0, u "NONE"), (0, u "Lcom/example/sluis/sluis/model/Degradation;"), (0, .fieldref 8 14), (0, .nameAndType 15 12), (0, u "UNAVAILABLE"), (0, .fieldref 8 17), (0, .nameAndType 18 12), (0, u "TIMEOUT"), (0, .integer 2147483647), (0, .methodref 21 22), (0, .class_ 23), (0, .nameAndType 24 25), (0, u "com/example/sluis/sluis/model/DecisionDegradedPinLaw"), (0, u "pick"), (0, u "(I)Lcom/example/sluis/sluis/model/Degradation;"), (0, .class_ 27), (0, u "com/example/sluis/sluis/model/Decision"), (0, .methodref 26 29), (0, .nameAndType 5 30), (0, u "(ZJJJLcom/example/sluis/sluis/model/Degradation;Z)V"), (0, .methodref 26 32), (0, .nameAndType 33 34), (0, u "degraded"), (0, u "()Z"), (3, u "law"), (0, u "(IJJJI)Z")] 2

def k1m0 : Method := { name := "<init>", desc := "()V", sig := { parameters := [], returnType := none }, accessFlags := 2, code := none }
def k1c1 : Code := { maxStack := 2, maxLocals := 1, code := method_2_code, exceptionTable := #[], attributes := #[] }
def k1m1 : Method := { name := "pick", desc := "(I)Lcom/example/sluis/sluis/model/Degradation;", sig := { parameters := [.int], returnType := some (.object "com/example/sluis/sluis/model/Degradation") }, accessFlags := 10, code := some k1c1 }
def k1c2 : Code := { maxStack := 11, maxLocals := 14, code := code, exceptionTable := #[], attributes := #[] }
def k1m2 : Method := { name := "law", desc := "(IJJJI)Z", sig := { parameters := [.int, .long, .long, .long, .int], returnType := some .boolean }, accessFlags := 9, code := some k1c2 }
/-- com/example/sluis/sluis/model/DecisionDegradedPinLaw -/
def k1 : Class := { plain "com/example/sluis/sluis/model/DecisionDegradedPinLaw" (some 0) with
  accessFlags := 49
  interfaces := #[]
  cf := some (fileOf pool1 21 #[] #[{ accessFlags := 2, nameIndex := 5, descriptorIndex := 6, attributes := #[] }, { accessFlags := 10, nameIndex := 24, descriptorIndex := 25, attributes := #[] }, { accessFlags := 9, nameIndex := 38, descriptorIndex := 39, attributes := #[] }] 49 2 #[] #[])
  fields := #[]
  methods := #[k1m0, k1m1, k1m2]
  instanceTypes := #[]
  staticTypes := #[]
  resolved := Array.replicate 42 none
  statics := none }

def pool2 : Array CpInfo := pool [(1, .class_ 2), (0, u "java/lang/constant/Constable"), (0, .class_ 4), (0, u "java/lang/Object")] 6

/-- java/lang/constant/Constable -/
def k2 : Class := { plain "java/lang/constant/Constable" (some 0) with
  accessFlags := 1537
  interfaces := #[]
  cf := some (fileOf pool2 1 #[] #[] 1537 3 #[] #[])
  fields := #[]
  methods := #[]
  instanceTypes := #[]
  staticTypes := #[]
  resolved := Array.replicate 11 none
  statics := none }

def pool3 : Array CpInfo := pool [(1, .class_ 2), (0, u "java/lang/Comparable"), (0, .class_ 4), (0, u "java/lang/Object")] 7

/-- java/lang/Comparable -/
def k3 : Class := { plain "java/lang/Comparable" (some 0) with
  accessFlags := 1537
  interfaces := #[]
  cf := some (fileOf pool3 1 #[] #[] 1537 3 #[] #[])
  fields := #[]
  methods := #[]
  instanceTypes := #[]
  staticTypes := #[]
  resolved := Array.replicate 12 none
  statics := none }

def pool4 : Array CpInfo := pool [(1, .class_ 2), (0, u "java/io/Serializable"), (0, .class_ 4), (0, u "java/lang/Object")] 2

/-- java/io/Serializable -/
def k4 : Class := { plain "java/io/Serializable" (some 0) with
  accessFlags := 1537
  interfaces := #[]
  cf := some (fileOf pool4 1 #[] #[] 1537 3 #[] #[])
  fields := #[]
  methods := #[]
  instanceTypes := #[]
  staticTypes := #[]
  resolved := Array.replicate 7 none
  statics := none }

def pool5 : Array CpInfo := pool [(2, .class_ 4), (1, u "java/lang/Enum"), (0, u "name"), (0, u "Ljava/lang/String;"), (2, u "ordinal"), (0, u "I"), (1, .class_ 14), (1, u "java/lang/Object"), (4, u "hash"), (86, .class_ 108), (1, u "java/lang/Enum$EnumDesc"), (2, .class_ 112), (0, u "java/lang/constant/Constable"), (0, .class_ 114), (0, u "java/lang/Comparable"), (0, .class_ 116), (0, u "java/io/Serializable")] 87

/-- java/lang/Enum -/
def k5 : Class := { plain "java/lang/Enum" (some 0) with
  accessFlags := 1057
  interfaces := #[2, 3, 4]
  cf := some (fileOf pool5 2 #[.nestMembers #[106]] #[] 1057 12 #[111, 113, 115] #[{ accessFlags := 18, nameIndex := 5, descriptorIndex := 6, attributes := #[] }, { accessFlags := 18, nameIndex := 9, descriptorIndex := 10, attributes := #[] }, { accessFlags := 2, nameIndex := 19, descriptorIndex := 10, attributes := #[] }])
  fields := #[{ name := "name", type := (.object "java/lang/String"), accessFlags := 18, slot := 0, constantValue := 0 }, { name := "ordinal", type := .int, accessFlags := 18, slot := 1, constantValue := 0 }, { name := "hash", type := .int, accessFlags := 2, slot := 2, constantValue := 0 }]
  methods := #[]
  instanceTypes := #[(.object "java/lang/String"), .int, .int]
  staticTypes := #[]
  resolved := Array.replicate 204 none
  statics := none }

def pool6 : Array CpInfo := pool [(1, .class_ 2), (0, u "com/example/sluis/sluis/model/Degradation"), (2, u "NONE"), (0, u "Lcom/example/sluis/sluis/model/Degradation;"), (2, u "UNAVAILABLE"), (2, u "TIMEOUT"), (2, u "$VALUES"), (0, u "[Lcom/example/sluis/sluis/model/Degradation;"), (6, .class_ 25), (1, u "java/lang/Enum")] 25

/-- com/example/sluis/sluis/model/Degradation -/
def k6 : Class := { plain "com/example/sluis/sluis/model/Degradation" (some 5) with
  accessFlags := 16433
  interfaces := #[]
  cf := some (fileOf pool6 1 #[] #[] 16433 23 #[] #[{ accessFlags := 16409, nameIndex := 5, descriptorIndex := 6, attributes := #[] }, { accessFlags := 16409, nameIndex := 9, descriptorIndex := 6, attributes := #[] }, { accessFlags := 16409, nameIndex := 12, descriptorIndex := 6, attributes := #[] }, { accessFlags := 4122, nameIndex := 15, descriptorIndex := 16, attributes := #[] }])
  fields := #[{ name := "NONE", type := (.object "com/example/sluis/sluis/model/Degradation"), accessFlags := 16409, slot := 0, constantValue := 0 }, { name := "UNAVAILABLE", type := (.object "com/example/sluis/sluis/model/Degradation"), accessFlags := 16409, slot := 1, constantValue := 0 }, { name := "TIMEOUT", type := (.object "com/example/sluis/sluis/model/Degradation"), accessFlags := 16409, slot := 2, constantValue := 0 }, { name := "$VALUES", type := (.array (.object "com/example/sluis/sluis/model/Degradation")), accessFlags := 4122, slot := 3, constantValue := 0 }]
  methods := #[]
  instanceTypes := #[(.object "java/lang/String"), .int, .int]
  staticTypes := #[(.object "com/example/sluis/sluis/model/Degradation"), (.object "com/example/sluis/sluis/model/Degradation"), (.object "com/example/sluis/sluis/model/Degradation"), (.array (.object "com/example/sluis/sluis/model/Degradation"))]
  resolved := Array.replicate 51 none
  statics := some 0 }

def pool7 : Array CpInfo := pool [(1, .methodref 2 3), (0, .class_ 4), (0, .nameAndType 5 6), (0, u "java/lang/Object"), (0, u "<init>"), (0, u "()V"), (0, .class_ 8), (0, u "java/lang/Record")] 13

def k7c0 : Code := { maxStack := 1, maxLocals := 1, code := jdk_30_method_1_code, exceptionTable := #[], attributes := #[] }
def k7m0 : Method := { name := "<init>", desc := "()V", sig := { parameters := [], returnType := none }, accessFlags := 4, code := some k7c0 }
/-- java/lang/Record -/
def k7 : Class := { plain "java/lang/Record" (some 0) with
  accessFlags := 1057
  interfaces := #[]
  cf := some (fileOf pool7 7 #[] #[{ accessFlags := 4, nameIndex := 5, descriptorIndex := 6, attributes := #[] }] 1057 2 #[] #[])
  fields := #[]
  methods := #[k7m0]
  instanceTypes := #[]
  staticTypes := #[]
  resolved := Array.replicate 22 none
  statics := none }

def pool8 : Array CpInfo := pool [(1, .methodref 2 3), (0, .class_ 4), (0, .nameAndType 5 6), (0, u "java/lang/Record"), (0, u "<init>"), (0, u "()V"), (0, .fieldref 8 9), (0, .class_ 10), (0, .nameAndType 11 12), (0, u "com/example/sluis/sluis/model/Decision"), (0, u "admitted"), (0, u "Z"), (0, .fieldref 8 14), (0, .nameAndType 15 16), (0, u "remaining"), (0, u "J"), (0, .fieldref 8 18), (0, .nameAndType 19 16), (0, u "retryAfterMillis"), (0, .fieldref 8 21), (0, .nameAndType 22 16), (0, u "waitMillis"), (0, .fieldref 8 24), (0, .nameAndType 25 26), (0, u "degradation"), (0, u "Lcom/example/sluis/sluis/model/Degradation;"), (0, .fieldref 8 28), (0, .nameAndType 29 12), (0, u "banned"), (3, .fieldref 34 35), (0, .class_ 36), (0, .nameAndType 37 26), (0, u "com/example/sluis/sluis/model/Degradation"), (0, u "NONE"), (5, u "(ZJJJLcom/example/sluis/sluis/model/Degradation;Z)V"), (25, u "degraded"), (3, u "()Z")] 30

def k8c0 : Code := { maxStack := 3, maxLocals := 10, code := prog_17_method_4_code, exceptionTable := #[], attributes := #[] }
def k8m0 : Method := { name := "<init>", desc := "(ZJJJLcom/example/sluis/sluis/model/Degradation;Z)V", sig := { parameters := [.boolean, .long, .long, .long, (.object "com/example/sluis/sluis/model/Degradation"), .boolean], returnType := none }, accessFlags := 1, code := some k8c0 }
def k8c1 : Code := { maxStack := 2, maxLocals := 1, code := prog_17_method_7_code, exceptionTable := #[], attributes := #[] }
def k8m1 : Method := { name := "degraded", desc := "()Z", sig := { parameters := [], returnType := some .boolean }, accessFlags := 1, code := some k8c1 }
/-- com/example/sluis/sluis/model/Decision -/
def k8 : Class := { plain "com/example/sluis/sluis/model/Decision" (some 7) with
  accessFlags := 49
  interfaces := #[]
  cf := some (fileOf pool8 8 #[] #[{ accessFlags := 1, nameIndex := 5, descriptorIndex := 43, attributes := #[] }, { accessFlags := 1, nameIndex := 69, descriptorIndex := 73, attributes := #[] }] 49 2 #[] #[{ accessFlags := 18, nameIndex := 11, descriptorIndex := 12, attributes := #[] }, { accessFlags := 18, nameIndex := 15, descriptorIndex := 16, attributes := #[] }, { accessFlags := 18, nameIndex := 19, descriptorIndex := 16, attributes := #[] }, { accessFlags := 18, nameIndex := 22, descriptorIndex := 16, attributes := #[] }, { accessFlags := 18, nameIndex := 25, descriptorIndex := 26, attributes := #[] }, { accessFlags := 18, nameIndex := 29, descriptorIndex := 12, attributes := #[] }])
  fields := #[{ name := "admitted", type := .boolean, accessFlags := 18, slot := 0, constantValue := 0 }, { name := "remaining", type := .long, accessFlags := 18, slot := 1, constantValue := 0 }, { name := "retryAfterMillis", type := .long, accessFlags := 18, slot := 2, constantValue := 0 }, { name := "waitMillis", type := .long, accessFlags := 18, slot := 3, constantValue := 0 }, { name := "degradation", type := (.object "com/example/sluis/sluis/model/Degradation"), accessFlags := 18, slot := 4, constantValue := 0 }, { name := "banned", type := .boolean, accessFlags := 18, slot := 5, constantValue := 0 }]
  methods := #[k8m0, k8m1]
  instanceTypes := #[.boolean, .long, .long, .long, (.object "com/example/sluis/sluis/model/Degradation"), .boolean]
  staticTypes := #[]
  resolved := Array.replicate 104 none
  statics := none }

def pool9 : Array CpInfo := pool [(1, u "java/lang/Cloneable"), (0, .class_ 1), (0, u "java/lang/Object"), (0, .class_ 3)] 3

/-- java/lang/Cloneable -/
def k9 : Class := { plain "java/lang/Cloneable" (some 0) with
  accessFlags := 1537
  interfaces := #[]
  cf := some (fileOf pool9 2 #[] #[] 1537 4 #[] #[])
  fields := #[]
  methods := #[]
  instanceTypes := #[]
  staticTypes := #[]
  resolved := Array.replicate 8 none
  statics := none }

/-- the primitive byte -/
def k10 : Class := { plain "byte" none with kind := .primitive 'B', accessFlags := 0x411 }
/-- [B -/
def k11 : Class := { plain "[B" (some 0) with kind := .array 10 .byte, interfaces := #[9, 4], accessFlags := 1041 }

/-- the primitive int -/
def k12 : Class := { plain "int" none with kind := .primitive 'I', accessFlags := 0x411 }
/-- [I -/
def k13 : Class := { plain "[I" (some 0) with kind := .array 12 .int, interfaces := #[9, 4], accessFlags := 1041 }

def heap : Heap := #[{ cls := 6, slots := #[.ref 1, .ref 2, .ref 3, .null], vm := .statics 6 },
  { cls := 6, slots := #[.null, .int 0, .int 0], vm := .none },
  { cls := 6, slots := #[.null, .int 1, .int 0], vm := .none },
  { cls := 6, slots := #[.null, .int 2, .int 0], vm := .none }]
def classes : Array Class := #[k0, k1, k2, k3, k4, k5, k6, k7, k8, k9, k10, k11, k12, k13]
def interned : List (Array UInt16 × Addr) := []
def slotsUsed : Nat := 13
def theMethod : MethodId := ⟨1, 2⟩
def args0 : Array Value := #[.int 5, .long 1, .long 2, .long 3, .int 1]
def aboutOver (below : List Frame) : State where
  vm := { classes := classes, interned := interned.toArray }
  heap := heap
  slotsUsed := slotsUsed
  threads := #[{ frames := .invoking theMethod args0 :: below }]
def below0 : List Frame := [.native { method := ⟨0, 0⟩, args := #[] }]
def about1 : State := aboutOver below0
def p0 : Program := .bare "" "" ""
def e0 : Env := launch0.env 0 0 0
theorem w_frames : about1.frames = Frame.invoking theMethod args0 :: below0 := rfl
set_option maxRecDepth 65536 in
theorem w_args : argsFit about1.vm theMethod args0 = true := by decide +kernel
set_option maxRecDepth 65536 in
theorem w_heap : heapFits about1 = true := by decide +kernel
set_option maxRecDepth 65536 in
theorem w_runnable : about1.curStatus? = some .runnable := by decide +kernel
set_option maxRecDepth 65536 in
theorem w_alone : about1.alone = true := by decide +kernel
set_option maxRecDepth 65536 in
theorem w_named : about1.methodNamed? x = some theMethod := by decide +kernel
set_option maxRecDepth 65536 in
theorem w_hears : about1.hears theMethod below0 = true := by decide +kernel
set_option maxRecDepth 65536 in
theorem w_ripe : about1.ripe theMethod args0 below0 = true := by decide +kernel
theorem w_running : about1.status = .running := rfl
set_option maxRecDepth 65536 in
theorem w_room : about1.hasRoom e0.platform room_1 = true :=
  launch0.hasRoom_least _ room_1 (by decide +kernel) (by decide +kernel) (by decide +kernel) (by decide +kernel) (by decide +kernel) (by decide +kernel)
theorem allAtoms_all (ts : List Jvm.Cond) (a : Array Jvm.Value) (st : Jvm.State) : (allAtoms ts).before a st = ts.all (fun c => c.before a st) := by
  induction ts with
  | nil => rfl
  | cons c t ih =>
    show (Jvm.Cond.and c (allAtoms t)).before a st = _
    rw [Jvm.Cond.before_and, ih, List.all_cons]
def words1 : List Jvm.Cond := Jvm.Cond.code x code maxLocals ret :: tables_1
/-- a 'code' word, met by the world's own term for the bytes: nothing is compared byte by byte -/
theorem code_word {y : MethodName} {bytes : ByteArray} {mx : Nat} {rt : Option FieldType} {a : Array Value} {s : State} {m : MethodId} {meth : Method} {c : Code} (h1 : s.methodNamed? y = some m) (h2 : s.vm.method? m = some meth) (h3 : meth.code = some c) (h4 : c.code = bytes)
    (h5 : (c.maxLocals == mx && c.exceptionTable.isEmpty && decide (c.maxStack ≤ mostOperands) && decide (meth.sig.returnType = rt) && !meth.locks && decide (parseMethodDescriptor y.desc = some meth.sig)) = true) : (Jvm.Cond.code y bytes mx rt).before a s = true := by
  simp only [Bool.and_eq_true, beq_iff_eq, Bool.not_eq_true', decide_eq_true_eq] at h5
  obtain ⟨⟨⟨⟨⟨g1, g2⟩, g3⟩, g4⟩, g5⟩, g6⟩ := h5
  simp [Cond.before, Cond.holds, Cond.value, h1, h2, h3, h4, g1, g2, g3, g4, g5, g6]
def isCode : Jvm.Cond → Bool
  | .code _ _ _ _ => true
  | _ => false
theorem all_split {L : List Jvm.Cond} {P : Jvm.Cond → Bool} (h1 : L.all (fun c => isCode c || P c) = true) (h2 : ∀ c ∈ L.filter isCode, P c = true) : L.all P = true := by
  refine List.all_eq_true.mpr fun c hc => ?_
  have h := List.all_eq_true.mp h1 c hc
  rcases Bool.eq_false_or_eq_true (isCode c) with hi | hi
  · exact h2 c (List.mem_filter.mpr ⟨hc, hi⟩)
  · simpa [hi] using h
set_option maxRecDepth 65536 in
theorem w_c0 : (Jvm.Cond.code x code maxLocals ret).before args0 about1 = true := code_word (m := ⟨1, 2⟩) (meth := k1m2) (c := k1c2) (by decide +kernel) rfl rfl rfl (by decide +kernel)
set_option maxRecDepth 65536 in
theorem w_c1 : (Jvm.Cond.code ({ cls := "com/example/sluis/sluis/model/DecisionDegradedPinLaw", name := "pick", desc := "(I)Lcom/example/sluis/sluis/model/Degradation;" } : Jvm.MethodName) method_2_code (1 : Nat) (Option.some (Jvm.ClassFile.FieldType.object "com/example/sluis/sluis/model/Degradation"))).before args0 about1 = true := code_word (m := ⟨1, 1⟩) (meth := k1m1) (c := k1c1) (by decide +kernel) rfl rfl rfl (by decide +kernel)
set_option maxRecDepth 65536 in
theorem w_c2 : (Jvm.Cond.code ({ cls := "com/example/sluis/sluis/model/Decision", name := "<init>", desc := "(ZJJJLcom/example/sluis/sluis/model/Degradation;Z)V" } : Jvm.MethodName) prog_17_method_4_code (10 : Nat) (Option.none : Option Jvm.ClassFile.FieldType)).before args0 about1 = true := code_word (m := ⟨8, 0⟩) (meth := k8m0) (c := k8c0) (by decide +kernel) rfl rfl rfl (by decide +kernel)
set_option maxRecDepth 65536 in
theorem w_c3 : (Jvm.Cond.code ({ cls := "java/lang/Record", name := "<init>", desc := "()V" } : Jvm.MethodName) jdk_30_method_1_code (1 : Nat) (Option.none : Option Jvm.ClassFile.FieldType)).before args0 about1 = true := code_word (m := ⟨7, 0⟩) (meth := k7m0) (c := k7c0) (by decide +kernel) rfl rfl rfl (by decide +kernel)
set_option maxRecDepth 65536 in
theorem w_c4 : (Jvm.Cond.code ({ cls := "java/lang/Object", name := "<init>", desc := "()V" } : Jvm.MethodName) object_method_1_code (1 : Nat) (Option.none : Option Jvm.ClassFile.FieldType)).before args0 about1 = true := code_word (m := ⟨0, 0⟩) (meth := k0m0) (c := k0c0) (by decide +kernel) rfl rfl rfl (by decide +kernel)
set_option maxRecDepth 65536 in
theorem w_c5 : (Jvm.Cond.code ({ cls := "com/example/sluis/sluis/model/Decision", name := "degraded", desc := "()Z" } : Jvm.MethodName) prog_17_method_7_code (1 : Nat) (Option.some Jvm.ClassFile.FieldType.boolean)).before args0 about1 = true := code_word (m := ⟨8, 1⟩) (meth := k8m1) (c := k8c1) (by decide +kernel) rfl rfl rfl (by decide +kernel)
def codes1 : List Jvm.Cond := [Jvm.Cond.code x code maxLocals ret, Jvm.Cond.code ({ cls := "com/example/sluis/sluis/model/DecisionDegradedPinLaw", name := "pick", desc := "(I)Lcom/example/sluis/sluis/model/Degradation;" } : Jvm.MethodName) method_2_code (1 : Nat) (Option.some (Jvm.ClassFile.FieldType.object "com/example/sluis/sluis/model/Degradation")), Jvm.Cond.code ({ cls := "com/example/sluis/sluis/model/Decision", name := "<init>", desc := "(ZJJJLcom/example/sluis/sluis/model/Degradation;Z)V" } : Jvm.MethodName) prog_17_method_4_code (10 : Nat) (Option.none : Option Jvm.ClassFile.FieldType), Jvm.Cond.code ({ cls := "java/lang/Record", name := "<init>", desc := "()V" } : Jvm.MethodName) jdk_30_method_1_code (1 : Nat) (Option.none : Option Jvm.ClassFile.FieldType), Jvm.Cond.code ({ cls := "java/lang/Object", name := "<init>", desc := "()V" } : Jvm.MethodName) object_method_1_code (1 : Nat) (Option.none : Option Jvm.ClassFile.FieldType), Jvm.Cond.code ({ cls := "com/example/sluis/sluis/model/Decision", name := "degraded", desc := "()Z" } : Jvm.MethodName) prog_17_method_7_code (1 : Nat) (Option.some Jvm.ClassFile.FieldType.boolean)]
set_option maxRecDepth 65536 in
theorem codes_eq : words1.filter isCode = codes1 := rfl
theorem w_codes : ∀ c ∈ words1.filter isCode, c.before args0 about1 = true := by
  rw [codes_eq]
  intro c hc
  simp only [codes1, List.mem_cons, List.not_mem_nil, or_false] at hc
  rcases hc with rfl | rfl | rfl | rfl | rfl | rfl
  · exact w_c0
  · exact w_c1
  · exact w_c2
  · exact w_c3
  · exact w_c4
  · exact w_c5
set_option maxRecDepth 65536 in
theorem w_t1 : (words1.take 24).all (fun c => isCode c || c.before args0 about1) = true := by decide +kernel
set_option maxRecDepth 65536 in
theorem w_t2 : (words1.drop 24).all (fun c => isCode c || c.before args0 about1) = true := by decide +kernel
theorem w_tables : (allAtoms (Jvm.Cond.code x code maxLocals ret :: tables_1)).before args0 about1 = true := by
  rw [allAtoms_all]
  show words1.all (fun c => c.before args0 about1) = true
  refine all_split ?_ w_codes
  rw [← List.take_append_drop 24 words1, List.all_append, w_t1, w_t2]
  rfl
set_option maxRecDepth 65536 in
theorem w_case : (Jvm.Cond.and given_1 narrow_1).before args0 about1 = true := by decide +kernel
theorem w_applies : (headSpec (Jvm.Cond.code x code maxLocals ret :: tables_1) room_1).applies x e0.platform about1 = true :=
  (Spec.applies_iff w_frames).mpr ⟨w_running, w_runnable, w_alone, w_named, w_hears, w_ripe, w_room, w_tables⟩
theorem atStart : AtStart classFile x code maxLocals ret World_1 tables_1 room_1 Calls_1 rest_1 Pre_1 launch0 p0 e0 about1 theMethod args0 below0 :=
  ⟨lists_1, trivial, launch0.admits_env _ _ _, launch0.least_env, fairChoices_fair.cas, fairChoices_fair.clock, w_frames, w_args, w_heap, w_applies, trivial, trivial, w_case⟩
end start1
theorem witness_1 : WitnessClaimed_1 := ⟨start1.p0, start1.e0, start1.about1, start1.theMethod, start1.args0, start1.below0, start1.atStart⟩
end Jvm.Pilot.@@N@@
