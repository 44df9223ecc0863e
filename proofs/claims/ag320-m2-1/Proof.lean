import JvmDerived
import JvmDerived.Pilot.@@N@@Statement
import JvmDerived.Pilot.@@N@@Code
set_option linter.unusedVariables false
set_option linter.unusedSimpArgs false
namespace Jvm.Pilot.@@N@@
open Jvm Jvm.ClassFile Sem Op Lib Jvm.Free Jvm.Stand Jvm.LawKit Jvm.RoadKit Bundle Jvm.Pilot.@@N@@.Jvm.D
theorem own_sta {Z : State} {h h' : Heap} {C n d C' : String} {w : Value} {o : Addr} (F : Sta Z h C n d w) (K : Keep h h' [o]) (E : Exa Z h o C') : Sta Z h' C n d w := by
  obtain ⟨cf, i, k, f, st, cell, h1, h2, h3, h4, h5, h6, h7⟩ := F
  obtain ⟨ce, ke, e1, e2, e3, e4, e5⟩ := E
  refine ⟨cf, i, k, f, st, cell, h1, h2, h3, h4, K.2.1 st cell h5 (fun hm => ?_), h6, h7⟩
  cases List.mem_singleton.mp hm
  rw [e1] at h5; cases h5; rw [h6] at e4; cases e4
theorem own_fint {s : State} {args : Array Value} {t : Term} {C n d : String} {k : Int32} {w : Addr} (ht : t.eval args s none [] s = some (.ref w)) (h : (Jvm.Cond.eq (.field t C n d) (.int k)).value args s none s [] = some true) : Fld s s.heap w C n d (.int k) := by
  refine Fld.start ?_
  have e := fld_at (args := args) (first := s) (o := none) (idx := []) (s := s) (C := C) (n := n) (dd := d) ht
  obtain ⟨x, y, hx, hy, -, -⟩ := cmp_v (Or.inl h)
  rw [← e, hx]
  cases (Term.int_eval k).symm.trans hy
  cases x <;> simp [Jvm.Cond.value, hx, hy] at h
  rw [h]
theorem own_rem32 (x m : Int32) (hx : 0 ≤ x.toInt) : (x % m).toInt = x.toInt % m.toInt := by rw [Int32.toInt_mod, Int.tmod_eq_emod_of_nonneg hx]
theorem own_lc0 (x y : Int64) : (lcmpW x y < 0 ↔ x < y) ∧ (0 < lcmpW x y ↔ y < x) ∧ (lcmpW x y = 0 ↔ x = y) := by rw [lcW]; exact ⟨lc_lt x y, lc_gt x y, lc_eq x y⟩
theorem lcY_lt {x y : Int64} (h : x < y) : ifCond.holds .lt (lcmpW x y) = true := (if0 _ _).trans (tlt ((own_lc0 x y).1.mpr h)).1
theorem lcN_lt {x y : Int64} (h : ¬ x < y) : ifCond.holds .lt (lcmpW x y) = false := (if0 _ _).trans (flt fun q => h ((own_lc0 x y).1.mp q)).1
theorem lcN_ge {x y : Int64} (h : x < y) : ifCond.holds .ge (lcmpW x y) = false := (if0 _ _).trans (tlt ((own_lc0 x y).1.mpr h)).2.1
theorem lcY_ge {x y : Int64} (h : ¬ x < y) : ifCond.holds .ge (lcmpW x y) = true := (if0 _ _).trans (flt fun q => h ((own_lc0 x y).1.mp q)).2.1
theorem lcY_gt {x y : Int64} (h : y < x) : ifCond.holds .gt (lcmpW x y) = true := (if0 _ _).trans (tlt ((own_lc0 x y).2.1.mpr h)).2.2.1
theorem lcN_gt {x y : Int64} (h : ¬ y < x) : ifCond.holds .gt (lcmpW x y) = false := (if0 _ _).trans (flt fun q => h ((own_lc0 x y).2.1.mp q)).2.2.1
theorem lcN_le {x y : Int64} (h : y < x) : ifCond.holds .le (lcmpW x y) = false := (if0 _ _).trans (tlt ((own_lc0 x y).2.1.mpr h)).2.2.2
theorem lcY_le {x y : Int64} (h : ¬ y < x) : ifCond.holds .le (lcmpW x y) = true := (if0 _ _).trans (flt fun q => h ((own_lc0 x y).2.1.mp q)).2.2.2
theorem lcY_eq {x y : Int64} (h : x = y) : ifCond.holds .eq (lcmpW x y) = true := (if0 _ _).trans (teq ((own_lc0 x y).2.2.mpr h)).1
theorem lcN_eq {x y : Int64} (h : ¬ x = y) : ifCond.holds .eq (lcmpW x y) = false := (if0 _ _).trans (feq fun q => h ((own_lc0 x y).2.2.mp q)).1
theorem lcN_ne {x y : Int64} (h : x = y) : ifCond.holds .ne (lcmpW x y) = false := (if0 _ _).trans (teq ((own_lc0 x y).2.2.mpr h)).2
theorem lcY_ne {x y : Int64} (h : ¬ x = y) : ifCond.holds .ne (lcmpW x y) = true := (if0 _ _).trans (feq fun q => h ((own_lc0 x y).2.2.mp q)).2
theorem d1_0 : decode prog_5_method_1_code 0 = .ok (.aload_n 0, 1) := by decide +kernel
theorem d1_1 : decode prog_5_method_1_code 1 = .ok (.invokespecial 1, 3) := by decide +kernel
theorem d1_4 : decode prog_5_method_1_code 4 = .ok (.return_, 1) := by decide +kernel
theorem pn_1 : plainName "com/example/sluis/sluis/cli/BenchRun$Tally" = true := by first | (simp [plainName, overriddenIn]; done) | decide +kernel
theorem ef_1 (m : MethodId) (ob0 : Addr) : entryFrame m #[(.ref ob0)] 1 = mkF m 0 #[.val (.ref ob0)] [] := by first | (simp [entryFrame, mkF, argsToLocals, Value.category]; done) | rfl
def Q1 (Z : State) (ob0 : Addr) (h0 : Heap) (n0 : Nat) (v : Option Value) (h : Heap) (L : List Loc) : Prop := v = none ∧ Fr n0 L ∧ h = h0
set_option maxRecDepth 65536 in
set_option maxHeartbeats 40000000 in
theorem rm1 (l : Launch) (Z : State) (a0 : Array Value) (hw : ∀ d ∈ tables_1, d.before a0 Z = true) (ws : List Jvm.Cond) (ob0 : Addr) (h0 : Heap) (n0 : Nat) (Z0 : n0 ≤ h0.size) :
    MetFree l (⟨"com/example/sluis/sluis/cli/BenchRun$Tally", "<init>", "()V"⟩ : MethodName) (head1 (Jvm.Cond.code (⟨"com/example/sluis/sluis/cli/BenchRun$Tally", "<init>", "()V"⟩ : MethodName) prog_5_method_1_code 1 none :: ws) ({ frames := 1, cells := 0, slots := 0, locals := 12 } : Room)) (fun a U => a = #[(.ref ob0)] ∧ Z.Warmed39 U.vm ∧ U.heap = h0) (fun _ _ _ _ _ => True) (fun _ U o U' => ∃ v L, o = .returned v ∧ Q1 Z ob0 h0 n0 v U'.heap L ∧ FrameEnd U o U' L ({ frames := 1, cells := 0, slots := 0, locals := 12 } : Room).cells ({ frames := 1, cells := 0, slots := 0, locals := 12 } : Room).slots) := by
  refine MetFree.of_bodySF (plainFor_of_name pn_1) hisR ?_
  intro p e s m args below meth c s₁ Bd hml0 hP hK
  obtain ⟨rfl, hZ, hh⟩ := hP
  have hx := Bd.exec
  have hby := Bd.bytes
  have hml : c.maxLocals = 1 := hml0
  have hown : s.vm.findClass "com/example/sluis/sluis/cli/BenchRun$Tally" = some m.cls := findClass_of_methodNamed Bd.named
  have hnm := (name_of_methodNamed Bd.named Bd.method).1
  have X0 : Stand p l e ({ frames := 1, cells := 0, slots := 0, locals := 12 } : Room) s m #[(.ref ob0)] below meth c s₁ [] 0 0 := Stand.of_body Bd
  have e0 : s₁.heap = h0 := by rw [← hh, Bd.state]; rfl
  have N0 := Fr.nil n0
  have pre0 : ∀ t, Steps p.tables e below (s₁.setTop (mkF m 0 #[.val (.ref ob0)] [])) t → Steps p.tables e below (s₁.setTop (entryFrame m #[(.ref ob0)] 1)) t := fun t k => castTop (ef_1 m ob0) k
  obtain ⟨T1, X1, e1, st1⟩ := initO X0 hx hZ hown (hw _ (List.mem_of_getElem? (i := 6) rfl)) (hw _ (List.mem_of_getElem? (i := 7) rfl)) (hw _ (List.mem_of_getElem? (i := 8) rfl)) e0 (g := (mkF m 1 #[.val (.ref ob0)] [(.ref ob0)])) rfl (by rw [hml]; rfl) rfl (hb hby d1_1) (by decide) (W := 0) (by show 2 * 0 + _ ≤ _; exact Nat.le_of_eq rfl) (by decide)
  obtain ⟨fs, hr, hrun, hended, hW, hsame⟩ := X1.leave (v := none) (fun _ => rfl)
  refine ⟨_, _, pre0 _ ?_, hrun, hended, _, _, rfl, ?_, ⟨_, rfl⟩, hW, hsame.mono (by decide) (by decide)⟩
  · show Steps p.tables e below (s₁.setTop (mkF m 0 #[.val (.ref ob0)] [])) _
    refine XS.aloadN X0.here hx rfl (hb hby d1_0) rfl rfl ?_
    show Steps p.tables e below (s₁.setTop (mkF m 1 #[.val (.ref ob0)] [(.ref ob0)])) _
    refine st1 _ ?_
    show Steps p.tables e below (T1.setTop (mkF m 4 #[.val (.ref ob0)] [])) _
    exact X1.returnOut hx Bd.returns (hb hby d1_4) hr
  · show Q1 Z ob0 h0 n0 _ T1.heap _
    rw [e1]
    exact ⟨rfl, N0, rfl⟩
theorem pd_0 : parseMethodDescriptor "()V" = some ⟨[], none⟩ := by decide +kernel
def F4 (q0 : Int64) (q1 : Int64) : Int64 :=
  if q0 < q1 then q1 else q0
theorem d4_0 : decode jdk_29_method_66_code 0 = .ok (.lload_n 0, 1) := by decide +kernel
theorem d4_1 : decode jdk_29_method_66_code 1 = .ok (.lload_n 2, 1) := by decide +kernel
theorem d4_2 : decode jdk_29_method_66_code 2 = .ok (.lcmp, 1) := by decide +kernel
theorem d4_3 : decode jdk_29_method_66_code 3 = .ok (.ifCond .lt 7, 3) := by decide +kernel
theorem d4_6 : decode jdk_29_method_66_code 6 = .ok (.lload_n 0, 1) := by decide +kernel
theorem d4_7 : decode jdk_29_method_66_code 7 = .ok (.goto 4, 3) := by decide +kernel
theorem d4_10 : decode jdk_29_method_66_code 10 = .ok (.lload_n 2, 1) := by decide +kernel
theorem d4_11 : decode jdk_29_method_66_code 11 = .ok (.lreturn, 1) := by decide +kernel
theorem ef_4 (m : MethodId) (q0 : Int64) (q1 : Int64) : entryFrame m #[(.long q0), (.long q1)] 4 = mkF m 0 #[.val (.long q0), .second, .val (.long q1), .second] [] := by first | (simp [entryFrame, mkF, argsToLocals, Value.category]; done) | rfl
def Q4 (Z : State) (q0 : Int64) (q1 : Int64) (h0 : Heap) (n0 : Nat) (v : Option Value) (h : Heap) (L : List Loc) : Prop := v = some (.long (F4 q0 q1)) ∧ Fr n0 L ∧ h = h0
set_option maxRecDepth 65536 in
set_option maxHeartbeats 40000000 in
theorem rm4 (l : Launch) (Z : State) (a0 : Array Value) (hw : ∀ d ∈ tables_1, d.before a0 Z = true) (ws : List Jvm.Cond) (q0 : Int64) (q1 : Int64) (h0 : Heap) (n0 : Nat) (Z0 : n0 ≤ h0.size) :
    MetFree l (⟨"java/lang/Math", "max", "(JJ)J"⟩ : MethodName) (head1 (Jvm.Cond.code (⟨"java/lang/Math", "max", "(JJ)J"⟩ : MethodName) jdk_29_method_66_code 4 (some .long) :: ws) ({ frames := 0, cells := 0, slots := 0, locals := 0 } : Room)) (fun a U => a = #[(.long q0), (.long q1)] ∧ Z.Warmed39 U.vm ∧ U.heap = h0) (fun _ _ _ _ _ => True) (fun _ U o U' => ∃ v L, o = .returned v ∧ Q4 Z q0 q1 h0 n0 v U'.heap L ∧ FrameEnd U o U' L ({ frames := 0, cells := 0, slots := 0, locals := 0 } : Room).cells ({ frames := 0, cells := 0, slots := 0, locals := 0 } : Room).slots) := by
  refine MetFree.of_bodySF (Jvm.Free.JP.mathPlain rfl (by decide +kernel)) hisR ?_
  intro p e s m args below meth c s₁ Bd hml0 hP hK
  obtain ⟨rfl, hZ, hh⟩ := hP
  have hx := Bd.exec
  have hby := Bd.bytes
  have hml : c.maxLocals = 4 := hml0
  have hown : s.vm.findClass "java/lang/Math" = some m.cls := findClass_of_methodNamed Bd.named
  have hnm := (name_of_methodNamed Bd.named Bd.method).1
  have X0 : Stand p l e ({ frames := 0, cells := 0, slots := 0, locals := 0 } : Room) s m #[(.long q0), (.long q1)] below meth c s₁ [] 0 0 := Stand.of_body Bd
  have e0 : s₁.heap = h0 := by rw [← hh, Bd.state]; rfl
  have N0 := Fr.nil n0
  have pre0 : ∀ t, Steps p.tables e below (s₁.setTop (mkF m 0 #[.val (.long q0), .second, .val (.long q1), .second] [])) t → Steps p.tables e below (s₁.setTop (entryFrame m #[(.long q0), (.long q1)] 4)) t := fun t k => castTop (ef_4 m q0 q1) k
  have pre1 : ∀ t, Steps p.tables e below (s₁.setTop (mkF m 3 #[.val (.long q0), .second, .val (.long q1), .second] [(.int (lcmpW q0 q1))])) t → Steps p.tables e below (s₁.setTop (entryFrame m #[(.long q0), (.long q1)] 4)) t := fun t k => by
    refine pre0 t ?_
    show Steps p.tables e below (s₁.setTop (mkF m 0 #[.val (.long q0), .second, .val (.long q1), .second] [])) _
    refine XS.lloadN X0.here hx rfl (hb hby d4_0) rfl ?_
    show Steps p.tables e below (s₁.setTop (mkF m 1 #[.val (.long q0), .second, .val (.long q1), .second] [(.long q0)])) _
    refine XS.lloadN X0.here hx rfl (hb hby d4_1) rfl ?_
    show Steps p.tables e below (s₁.setTop (mkF m 2 #[.val (.long q0), .second, .val (.long q1), .second] [(.long q1), (.long q0)])) _
    refine XS.lcmp X0.here hx rfl (hb hby d4_2) rfl ?_
    exact k
  by_cases hc3 : q0 < q1
  · obtain ⟨fs, hr, hrun, hended, hW, hsame⟩ := X0.leave (v := some (.long q1)) (fun h => by rw [Bd.returns] at h; cases h)
    refine ⟨_, _, pre1 _ ?_, hrun, hended, _, _, rfl, ?_, ⟨_, rfl⟩, hW, hsame.mono (by decide) (by decide)⟩
    · show Steps p.tables e below (s₁.setTop (mkF m 3 #[.val (.long q0), .second, .val (.long q1), .second] [(.int (lcmpW q0 q1))])) _
      refine XS.ifYes X0.here hx rfl (pc0 := 3) (pc' := 10) rfl (hb hby d4_3) rfl (lcY_lt hc3) (by decide) (by decide) ?_
      show Steps p.tables e below (s₁.setTop (mkF m 10 #[.val (.long q0), .second, .val (.long q1), .second] [])) _
      refine XS.lloadN X0.here hx rfl (hb hby d4_10) rfl ?_
      show Steps p.tables e below (s₁.setTop (mkF m 11 #[.val (.long q0), .second, .val (.long q1), .second] [(.long q1)])) _
      exact retOut X0 hx Bd.returns rfl (Or.inr (Or.inl ⟨rfl, rfl, _, rfl⟩)) (hb hby d4_11) hr
    · show Q4 Z q0 q1 h0 n0 _ s₁.heap _
      rw [e0]
      exact ⟨(by rw [F4, if_pos hc3]), N0, rfl⟩
  · obtain ⟨fs, hr, hrun, hended, hW, hsame⟩ := X0.leave (v := some (.long q0)) (fun h => by rw [Bd.returns] at h; cases h)
    refine ⟨_, _, pre1 _ ?_, hrun, hended, _, _, rfl, ?_, ⟨_, rfl⟩, hW, hsame.mono (by decide) (by decide)⟩
    · show Steps p.tables e below (s₁.setTop (mkF m 3 #[.val (.long q0), .second, .val (.long q1), .second] [(.int (lcmpW q0 q1))])) _
      refine XS.ifNo X0.here hx rfl (hb hby d4_3) rfl (lcN_lt hc3) ?_
      show Steps p.tables e below (s₁.setTop (mkF m 6 #[.val (.long q0), .second, .val (.long q1), .second] [])) _
      refine XS.lloadN X0.here hx rfl (hb hby d4_6) rfl ?_
      show Steps p.tables e below (s₁.setTop (mkF m 7 #[.val (.long q0), .second, .val (.long q1), .second] [(.long q0)])) _
      refine XS.goto X0.here hx rfl (pc0 := 7) (pc' := 11) rfl (hb hby d4_7) (by decide) (by decide) ?_
      show Steps p.tables e below (s₁.setTop (mkF m 11 #[.val (.long q0), .second, .val (.long q1), .second] [(.long q0)])) _
      exact retOut X0 hx Bd.returns rfl (Or.inr (Or.inl ⟨rfl, rfl, _, rfl⟩)) (hb hby d4_11) hr
    · show Q4 Z q0 q1 h0 n0 _ s₁.heap _
      rw [e0]
      exact ⟨(by rw [F4, if_neg hc3]), N0, rfl⟩
theorem pd_1 : parseMethodDescriptor "(JJ)J" = some ⟨[.long, .long], some .long⟩ := by decide +kernel
theorem d3_0 : decode prog_5_method_3_code 0 = .ok (.aload_n 0, 1) := by decide +kernel
theorem d3_1 : decode prog_5_method_3_code 1 = .ok (.dup, 1) := by decide +kernel
theorem d3_2 : decode prog_5_method_3_code 2 = .ok (.getfield 7, 3) := by decide +kernel
theorem d3_5 : decode prog_5_method_3_code 5 = .ok (.aload_n 1, 1) := by decide +kernel
theorem d3_6 : decode prog_5_method_3_code 6 = .ok (.getfield 7, 3) := by decide +kernel
theorem d3_9 : decode prog_5_method_3_code 9 = .ok (.ladd, 1) := by decide +kernel
theorem d3_10 : decode prog_5_method_3_code 10 = .ok (.putfield 7, 3) := by decide +kernel
theorem d3_13 : decode prog_5_method_3_code 13 = .ok (.aload_n 0, 1) := by decide +kernel
theorem d3_14 : decode prog_5_method_3_code 14 = .ok (.dup, 1) := by decide +kernel
theorem d3_15 : decode prog_5_method_3_code 15 = .ok (.getfield 13, 3) := by decide +kernel
theorem d3_18 : decode prog_5_method_3_code 18 = .ok (.aload_n 1, 1) := by decide +kernel
theorem d3_19 : decode prog_5_method_3_code 19 = .ok (.getfield 13, 3) := by decide +kernel
theorem d3_22 : decode prog_5_method_3_code 22 = .ok (.ladd, 1) := by decide +kernel
theorem d3_23 : decode prog_5_method_3_code 23 = .ok (.putfield 13, 3) := by decide +kernel
theorem d3_26 : decode prog_5_method_3_code 26 = .ok (.aload_n 0, 1) := by decide +kernel
theorem d3_27 : decode prog_5_method_3_code 27 = .ok (.dup, 1) := by decide +kernel
theorem d3_28 : decode prog_5_method_3_code 28 = .ok (.getfield 16, 3) := by decide +kernel
theorem d3_31 : decode prog_5_method_3_code 31 = .ok (.aload_n 1, 1) := by decide +kernel
theorem d3_32 : decode prog_5_method_3_code 32 = .ok (.getfield 16, 3) := by decide +kernel
theorem d3_35 : decode prog_5_method_3_code 35 = .ok (.ladd, 1) := by decide +kernel
theorem d3_36 : decode prog_5_method_3_code 36 = .ok (.putfield 16, 3) := by decide +kernel
theorem d3_39 : decode prog_5_method_3_code 39 = .ok (.aload_n 0, 1) := by decide +kernel
theorem d3_40 : decode prog_5_method_3_code 40 = .ok (.dup, 1) := by decide +kernel
theorem d3_41 : decode prog_5_method_3_code 41 = .ok (.getfield 19, 3) := by decide +kernel
theorem d3_44 : decode prog_5_method_3_code 44 = .ok (.aload_n 1, 1) := by decide +kernel
theorem d3_45 : decode prog_5_method_3_code 45 = .ok (.getfield 19, 3) := by decide +kernel
theorem d3_48 : decode prog_5_method_3_code 48 = .ok (.ladd, 1) := by decide +kernel
theorem d3_49 : decode prog_5_method_3_code 49 = .ok (.putfield 19, 3) := by decide +kernel
theorem d3_52 : decode prog_5_method_3_code 52 = .ok (.aload_n 0, 1) := by decide +kernel
theorem d3_53 : decode prog_5_method_3_code 53 = .ok (.aload_n 0, 1) := by decide +kernel
theorem d3_54 : decode prog_5_method_3_code 54 = .ok (.getfield 22, 3) := by decide +kernel
theorem d3_57 : decode prog_5_method_3_code 57 = .ok (.aload_n 1, 1) := by decide +kernel
theorem d3_58 : decode prog_5_method_3_code 58 = .ok (.getfield 22, 3) := by decide +kernel
theorem d3_61 : decode prog_5_method_3_code 61 = .ok (.invokestatic 25, 3) := by decide +kernel
theorem d3_64 : decode prog_5_method_3_code 64 = .ok (.putfield 22, 3) := by decide +kernel
theorem d3_67 : decode prog_5_method_3_code 67 = .ok (.return_, 1) := by decide +kernel
theorem pn_3 : plainName "com/example/sluis/sluis/cli/BenchRun$Tally" = true := by first | (simp [plainName, overriddenIn]; done) | decide +kernel
theorem ef_3 (m : MethodId) (ob0 : Addr) (ob1 : Addr) : entryFrame m #[(.ref ob0), (.ref ob1)] 2 = mkF m 0 #[.val (.ref ob0), .val (.ref ob1)] [] := by first | (simp [entryFrame, mkF, argsToLocals, Value.category]; done) | rfl
def Q3 (Z : State) (ob0 : Addr) (ob1 : Addr) (u_admitted : Int64) (u_refused : Int64) (u_errors : Int64) (u_degraded : Int64) (u_longestNanos : Int64) (w_ob1_admitted : Int64) (w_ob1_refused : Int64) (w_ob1_errors : Int64) (w_ob1_degraded : Int64) (w_ob1_longestNanos : Int64) (h0 : Heap) (n0 : Nat) (v : Option Value) (h : Heap) (L : List Loc) : Prop := v = none ∧ Fr n0 L ∧ Keep h0 h [ob0] ∧ Exa Z h ob0 "com/example/sluis/sluis/cli/BenchRun$Tally" ∧ Fld Z h ob0 "com/example/sluis/sluis/cli/BenchRun$Tally" "admitted" "J" (.long (u_admitted + w_ob1_admitted)) ∧ Fld Z h ob0 "com/example/sluis/sluis/cli/BenchRun$Tally" "refused" "J" (.long (u_refused + w_ob1_refused)) ∧ Fld Z h ob0 "com/example/sluis/sluis/cli/BenchRun$Tally" "errors" "J" (.long (u_errors + w_ob1_errors)) ∧ Fld Z h ob0 "com/example/sluis/sluis/cli/BenchRun$Tally" "degraded" "J" (.long (u_degraded + w_ob1_degraded)) ∧ Fld Z h ob0 "com/example/sluis/sluis/cli/BenchRun$Tally" "longestNanos" "J" (.long (F4 u_longestNanos w_ob1_longestNanos))
set_option maxRecDepth 65536 in
set_option maxHeartbeats 40000000 in
theorem rm3 (l : Launch) (Z : State) (a0 : Array Value) (hw : ∀ d ∈ tables_1, d.before a0 Z = true) (ws : List Jvm.Cond) (ob0 : Addr) (ob1 : Addr) (u_admitted : Int64) (u_refused : Int64) (u_errors : Int64) (u_degraded : Int64) (u_longestNanos : Int64) (w_ob1_admitted : Int64) (w_ob1_refused : Int64) (w_ob1_errors : Int64) (w_ob1_degraded : Int64) (w_ob1_longestNanos : Int64) (h0 : Heap) (n0 : Nat) (Z0 : n0 ≤ h0.size) (F_admitted_ob0 : Fld Z h0 ob0 "com/example/sluis/sluis/cli/BenchRun$Tally" "admitted" "J" (.long u_admitted)) (F_refused_ob0 : Fld Z h0 ob0 "com/example/sluis/sluis/cli/BenchRun$Tally" "refused" "J" (.long u_refused)) (F_errors_ob0 : Fld Z h0 ob0 "com/example/sluis/sluis/cli/BenchRun$Tally" "errors" "J" (.long u_errors)) (F_degraded_ob0 : Fld Z h0 ob0 "com/example/sluis/sluis/cli/BenchRun$Tally" "degraded" "J" (.long u_degraded)) (F_longestNanos_ob0 : Fld Z h0 ob0 "com/example/sluis/sluis/cli/BenchRun$Tally" "longestNanos" "J" (.long u_longestNanos)) (E_ob0 : Exa Z h0 ob0 "com/example/sluis/sluis/cli/BenchRun$Tally") (g_ob0 : n0 ≤ ob0) (ne_ob0_ob1 : ob0 ≠ ob1) (E_ob1 : Exa Z h0 ob1 "com/example/sluis/sluis/cli/BenchRun$Tally") (F_admitted_ob1 : Fld Z h0 ob1 "com/example/sluis/sluis/cli/BenchRun$Tally" "admitted" "J" (.long w_ob1_admitted)) (F_refused_ob1 : Fld Z h0 ob1 "com/example/sluis/sluis/cli/BenchRun$Tally" "refused" "J" (.long w_ob1_refused)) (F_errors_ob1 : Fld Z h0 ob1 "com/example/sluis/sluis/cli/BenchRun$Tally" "errors" "J" (.long w_ob1_errors)) (F_degraded_ob1 : Fld Z h0 ob1 "com/example/sluis/sluis/cli/BenchRun$Tally" "degraded" "J" (.long w_ob1_degraded)) (F_longestNanos_ob1 : Fld Z h0 ob1 "com/example/sluis/sluis/cli/BenchRun$Tally" "longestNanos" "J" (.long w_ob1_longestNanos)) :
    MetFree l (⟨"com/example/sluis/sluis/cli/BenchRun$Tally", "add", "(Lcom/example/sluis/sluis/cli/BenchRun$Tally;)V"⟩ : MethodName) (head1 (Jvm.Cond.code (⟨"com/example/sluis/sluis/cli/BenchRun$Tally", "add", "(Lcom/example/sluis/sluis/cli/BenchRun$Tally;)V"⟩ : MethodName) prog_5_method_3_code 2 none :: ws) ({ frames := 1, cells := 0, slots := 0, locals := 16 } : Room)) (fun a U => a = #[(.ref ob0), (.ref ob1)] ∧ Z.Warmed39 U.vm ∧ U.heap = h0) (fun _ _ _ _ _ => True) (fun _ U o U' => ∃ v L, o = .returned v ∧ Q3 Z ob0 ob1 u_admitted u_refused u_errors u_degraded u_longestNanos w_ob1_admitted w_ob1_refused w_ob1_errors w_ob1_degraded w_ob1_longestNanos h0 n0 v U'.heap L ∧ FrameEnd U o U' L ({ frames := 1, cells := 0, slots := 0, locals := 16 } : Room).cells ({ frames := 1, cells := 0, slots := 0, locals := 16 } : Room).slots) := by
  refine MetFree.of_bodySF (plainFor_of_name pn_3) hisR ?_
  intro p e s m args below meth c s₁ Bd hml0 hP hK
  obtain ⟨rfl, hZ, hh⟩ := hP
  have hx := Bd.exec
  have hby := Bd.bytes
  have hml : c.maxLocals = 2 := hml0
  have hown : s.vm.findClass "com/example/sluis/sluis/cli/BenchRun$Tally" = some m.cls := findClass_of_methodNamed Bd.named
  have hnm := (name_of_methodNamed Bd.named Bd.method).1
  have X0 : Stand p l e ({ frames := 1, cells := 0, slots := 0, locals := 16 } : Room) s m #[(.ref ob0), (.ref ob1)] below meth c s₁ [] 0 0 := Stand.of_body Bd
  have e0 : s₁.heap = h0 := by rw [← hh, Bd.state]; rfl
  have N0 := Fr.nil n0
  have pre0 : ∀ t, Steps p.tables e below (s₁.setTop (mkF m 0 #[.val (.ref ob0), .val (.ref ob1)] [])) t → Steps p.tables e below (s₁.setTop (entryFrame m #[(.ref ob0), (.ref ob1)] 2)) t := fun t k => castTop (ef_3 m ob0 ob1) k
  obtain ⟨T1, X1, e1, st1⟩ := getF X0 hx hZ hown (host := "") (Or.inl (hw _ (List.mem_of_getElem? (i := 24) rfl))) Via.refl e0 F_admitted_ob0 (g := (mkF m 2 #[.val (.ref ob0), .val (.ref ob1)] [(.ref ob0), (.ref ob0)])) rfl rfl (hb hby d3_2)
  obtain ⟨T2, X2, e2, st2⟩ := getF X1 hx hZ hown (host := "") (Or.inl (hw _ (List.mem_of_getElem? (i := 24) rfl))) Via.refl e1 F_admitted_ob1 (g := (mkF m 6 #[.val (.ref ob0), .val (.ref ob1)] [(.ref ob1), (.long u_admitted), (.ref ob0)])) rfl rfl (hb hby d3_6)
  obtain ⟨T3, h3, X3, e3, W3, st3⟩ := putF X2 hx hZ hown (host := "") (Or.inl (hw _ (List.mem_of_getElem? (i := 24) rfl))) Via.refl e2 F_admitted_ob0 E_ob0 (Or.inl (hw _ (List.mem_of_getElem? (i := 10) rfl))) (hw _ (List.mem_of_getElem? (i := 1) rfl)) (ty := .long) (by decide) rfl rfl (g := (mkF m 10 #[.val (.ref ob0), .val (.ref ob1)] [(.long (u_admitted + w_ob1_admitted)), (.ref ob0)])) rfl rfl (hb hby d3_10)
  have fF4 := F_admitted_ob0.same W3
  have fF5 := F_refused_ob0.other W3 (Or.inr (slot_ne (Or.inl (hw _ (List.mem_of_getElem? (i := 12) rfl))) (Or.inl (hw _ (List.mem_of_getElem? (i := 10) rfl))) (by decide) (t := .long) (t' := .long) (by decide) (by decide)))
  have fF6 := F_errors_ob0.other W3 (Or.inr (slot_ne (Or.inl (hw _ (List.mem_of_getElem? (i := 14) rfl))) (Or.inl (hw _ (List.mem_of_getElem? (i := 10) rfl))) (by decide) (t := .long) (t' := .long) (by decide) (by decide)))
  have fF7 := F_degraded_ob0.other W3 (Or.inr (slot_ne (Or.inl (hw _ (List.mem_of_getElem? (i := 16) rfl))) (Or.inl (hw _ (List.mem_of_getElem? (i := 10) rfl))) (by decide) (t := .long) (t' := .long) (by decide) (by decide)))
  have fF8 := F_longestNanos_ob0.other W3 (Or.inr (slot_ne (Or.inl (hw _ (List.mem_of_getElem? (i := 18) rfl))) (Or.inl (hw _ (List.mem_of_getElem? (i := 10) rfl))) (by decide) (t := .long) (t' := .long) (by decide) (by decide)))
  have eE9 := E_ob0.wr W3
  have eE10 := E_ob1.wr W3
  have fF11 := F_admitted_ob1.other W3 (Or.inl (Ne.symm ne_ob0_ob1))
  have fF12 := F_refused_ob1.other W3 (Or.inl (Ne.symm ne_ob0_ob1))
  have fF13 := F_errors_ob1.other W3 (Or.inl (Ne.symm ne_ob0_ob1))
  have fF14 := F_degraded_ob1.other W3 (Or.inl (Ne.symm ne_ob0_ob1))
  have fF15 := F_longestNanos_ob1.other W3 (Or.inl (Ne.symm ne_ob0_ob1))
  have N3 := Fr.snoc X3 N0 g_ob0
  have Z3 := Nat.le_trans Z0 (Keep.of_wr W3).1
  have K3 := (Keep.refl h0 [ob0]).wr W3 (Or.inl (List.mem_of_getElem? (i := 0) rfl))
  obtain ⟨T16, X16, e16, st16⟩ := getF X3 hx hZ hown (host := "") (Or.inl (hw _ (List.mem_of_getElem? (i := 25) rfl))) Via.refl e3 fF5 (g := (mkF m 15 #[.val (.ref ob0), .val (.ref ob1)] [(.ref ob0), (.ref ob0)])) rfl rfl (hb hby d3_15)
  obtain ⟨T17, X17, e17, st17⟩ := getF X16 hx hZ hown (host := "") (Or.inl (hw _ (List.mem_of_getElem? (i := 25) rfl))) Via.refl e16 fF12 (g := (mkF m 19 #[.val (.ref ob0), .val (.ref ob1)] [(.ref ob1), (.long u_refused), (.ref ob0)])) rfl rfl (hb hby d3_19)
  obtain ⟨T18, h18, X18, e18, W18, st18⟩ := putF X17 hx hZ hown (host := "") (Or.inl (hw _ (List.mem_of_getElem? (i := 25) rfl))) Via.refl e17 fF5 eE9 (Or.inl (hw _ (List.mem_of_getElem? (i := 12) rfl))) (hw _ (List.mem_of_getElem? (i := 1) rfl)) (ty := .long) (by decide) rfl rfl (g := (mkF m 23 #[.val (.ref ob0), .val (.ref ob1)] [(.long (u_refused + w_ob1_refused)), (.ref ob0)])) rfl rfl (hb hby d3_23)
  have fF19 := fF4.other W18 (Or.inr (slot_ne (Or.inl (hw _ (List.mem_of_getElem? (i := 10) rfl))) (Or.inl (hw _ (List.mem_of_getElem? (i := 12) rfl))) (by decide) (t := .long) (t' := .long) (by decide) (by decide)))
  have fF20 := fF5.same W18
  have fF21 := fF6.other W18 (Or.inr (slot_ne (Or.inl (hw _ (List.mem_of_getElem? (i := 14) rfl))) (Or.inl (hw _ (List.mem_of_getElem? (i := 12) rfl))) (by decide) (t := .long) (t' := .long) (by decide) (by decide)))
  have fF22 := fF7.other W18 (Or.inr (slot_ne (Or.inl (hw _ (List.mem_of_getElem? (i := 16) rfl))) (Or.inl (hw _ (List.mem_of_getElem? (i := 12) rfl))) (by decide) (t := .long) (t' := .long) (by decide) (by decide)))
  have fF23 := fF8.other W18 (Or.inr (slot_ne (Or.inl (hw _ (List.mem_of_getElem? (i := 18) rfl))) (Or.inl (hw _ (List.mem_of_getElem? (i := 12) rfl))) (by decide) (t := .long) (t' := .long) (by decide) (by decide)))
  have eE24 := eE9.wr W18
  have eE25 := eE10.wr W18
  have fF26 := fF11.other W18 (Or.inl (Ne.symm ne_ob0_ob1))
  have fF27 := fF12.other W18 (Or.inl (Ne.symm ne_ob0_ob1))
  have fF28 := fF13.other W18 (Or.inl (Ne.symm ne_ob0_ob1))
  have fF29 := fF14.other W18 (Or.inl (Ne.symm ne_ob0_ob1))
  have fF30 := fF15.other W18 (Or.inl (Ne.symm ne_ob0_ob1))
  have N18 := Fr.snoc X18 N3 g_ob0
  have Z18 := Nat.le_trans Z3 (Keep.of_wr W18).1
  have K18 := K3.wr W18 (Or.inl (List.mem_of_getElem? (i := 0) rfl))
  obtain ⟨T31, X31, e31, st31⟩ := getF X18 hx hZ hown (host := "") (Or.inl (hw _ (List.mem_of_getElem? (i := 26) rfl))) Via.refl e18 fF21 (g := (mkF m 28 #[.val (.ref ob0), .val (.ref ob1)] [(.ref ob0), (.ref ob0)])) rfl rfl (hb hby d3_28)
  obtain ⟨T32, X32, e32, st32⟩ := getF X31 hx hZ hown (host := "") (Or.inl (hw _ (List.mem_of_getElem? (i := 26) rfl))) Via.refl e31 fF28 (g := (mkF m 32 #[.val (.ref ob0), .val (.ref ob1)] [(.ref ob1), (.long u_errors), (.ref ob0)])) rfl rfl (hb hby d3_32)
  obtain ⟨T33, h33, X33, e33, W33, st33⟩ := putF X32 hx hZ hown (host := "") (Or.inl (hw _ (List.mem_of_getElem? (i := 26) rfl))) Via.refl e32 fF21 eE24 (Or.inl (hw _ (List.mem_of_getElem? (i := 14) rfl))) (hw _ (List.mem_of_getElem? (i := 1) rfl)) (ty := .long) (by decide) rfl rfl (g := (mkF m 36 #[.val (.ref ob0), .val (.ref ob1)] [(.long (u_errors + w_ob1_errors)), (.ref ob0)])) rfl rfl (hb hby d3_36)
  have fF34 := fF19.other W33 (Or.inr (slot_ne (Or.inl (hw _ (List.mem_of_getElem? (i := 10) rfl))) (Or.inl (hw _ (List.mem_of_getElem? (i := 14) rfl))) (by decide) (t := .long) (t' := .long) (by decide) (by decide)))
  have fF35 := fF20.other W33 (Or.inr (slot_ne (Or.inl (hw _ (List.mem_of_getElem? (i := 12) rfl))) (Or.inl (hw _ (List.mem_of_getElem? (i := 14) rfl))) (by decide) (t := .long) (t' := .long) (by decide) (by decide)))
  have fF36 := fF21.same W33
  have fF37 := fF22.other W33 (Or.inr (slot_ne (Or.inl (hw _ (List.mem_of_getElem? (i := 16) rfl))) (Or.inl (hw _ (List.mem_of_getElem? (i := 14) rfl))) (by decide) (t := .long) (t' := .long) (by decide) (by decide)))
  have fF38 := fF23.other W33 (Or.inr (slot_ne (Or.inl (hw _ (List.mem_of_getElem? (i := 18) rfl))) (Or.inl (hw _ (List.mem_of_getElem? (i := 14) rfl))) (by decide) (t := .long) (t' := .long) (by decide) (by decide)))
  have eE39 := eE24.wr W33
  have eE40 := eE25.wr W33
  have fF41 := fF26.other W33 (Or.inl (Ne.symm ne_ob0_ob1))
  have fF42 := fF27.other W33 (Or.inl (Ne.symm ne_ob0_ob1))
  have fF43 := fF28.other W33 (Or.inl (Ne.symm ne_ob0_ob1))
  have fF44 := fF29.other W33 (Or.inl (Ne.symm ne_ob0_ob1))
  have fF45 := fF30.other W33 (Or.inl (Ne.symm ne_ob0_ob1))
  have N33 := Fr.snoc X33 N18 g_ob0
  have Z33 := Nat.le_trans Z18 (Keep.of_wr W33).1
  have K33 := K18.wr W33 (Or.inl (List.mem_of_getElem? (i := 0) rfl))
  obtain ⟨T46, X46, e46, st46⟩ := getF X33 hx hZ hown (host := "") (Or.inl (hw _ (List.mem_of_getElem? (i := 27) rfl))) Via.refl e33 fF37 (g := (mkF m 41 #[.val (.ref ob0), .val (.ref ob1)] [(.ref ob0), (.ref ob0)])) rfl rfl (hb hby d3_41)
  obtain ⟨T47, X47, e47, st47⟩ := getF X46 hx hZ hown (host := "") (Or.inl (hw _ (List.mem_of_getElem? (i := 27) rfl))) Via.refl e46 fF44 (g := (mkF m 45 #[.val (.ref ob0), .val (.ref ob1)] [(.ref ob1), (.long u_degraded), (.ref ob0)])) rfl rfl (hb hby d3_45)
  obtain ⟨T48, h48, X48, e48, W48, st48⟩ := putF X47 hx hZ hown (host := "") (Or.inl (hw _ (List.mem_of_getElem? (i := 27) rfl))) Via.refl e47 fF37 eE39 (Or.inl (hw _ (List.mem_of_getElem? (i := 16) rfl))) (hw _ (List.mem_of_getElem? (i := 1) rfl)) (ty := .long) (by decide) rfl rfl (g := (mkF m 49 #[.val (.ref ob0), .val (.ref ob1)] [(.long (u_degraded + w_ob1_degraded)), (.ref ob0)])) rfl rfl (hb hby d3_49)
  have fF49 := fF34.other W48 (Or.inr (slot_ne (Or.inl (hw _ (List.mem_of_getElem? (i := 10) rfl))) (Or.inl (hw _ (List.mem_of_getElem? (i := 16) rfl))) (by decide) (t := .long) (t' := .long) (by decide) (by decide)))
  have fF50 := fF35.other W48 (Or.inr (slot_ne (Or.inl (hw _ (List.mem_of_getElem? (i := 12) rfl))) (Or.inl (hw _ (List.mem_of_getElem? (i := 16) rfl))) (by decide) (t := .long) (t' := .long) (by decide) (by decide)))
  have fF51 := fF36.other W48 (Or.inr (slot_ne (Or.inl (hw _ (List.mem_of_getElem? (i := 14) rfl))) (Or.inl (hw _ (List.mem_of_getElem? (i := 16) rfl))) (by decide) (t := .long) (t' := .long) (by decide) (by decide)))
  have fF52 := fF37.same W48
  have fF53 := fF38.other W48 (Or.inr (slot_ne (Or.inl (hw _ (List.mem_of_getElem? (i := 18) rfl))) (Or.inl (hw _ (List.mem_of_getElem? (i := 16) rfl))) (by decide) (t := .long) (t' := .long) (by decide) (by decide)))
  have eE54 := eE39.wr W48
  have eE55 := eE40.wr W48
  have fF56 := fF41.other W48 (Or.inl (Ne.symm ne_ob0_ob1))
  have fF57 := fF42.other W48 (Or.inl (Ne.symm ne_ob0_ob1))
  have fF58 := fF43.other W48 (Or.inl (Ne.symm ne_ob0_ob1))
  have fF59 := fF44.other W48 (Or.inl (Ne.symm ne_ob0_ob1))
  have fF60 := fF45.other W48 (Or.inl (Ne.symm ne_ob0_ob1))
  have N48 := Fr.snoc X48 N33 g_ob0
  have Z48 := Nat.le_trans Z33 (Keep.of_wr W48).1
  have K48 := K33.wr W48 (Or.inl (List.mem_of_getElem? (i := 0) rfl))
  obtain ⟨T61, X61, e61, st61⟩ := getF X48 hx hZ hown (host := "") (Or.inl (hw _ (List.mem_of_getElem? (i := 28) rfl))) Via.refl e48 fF53 (g := (mkF m 54 #[.val (.ref ob0), .val (.ref ob1)] [(.ref ob0), (.ref ob0)])) rfl rfl (hb hby d3_54)
  obtain ⟨T62, X62, e62, st62⟩ := getF X61 hx hZ hown (host := "") (Or.inl (hw _ (List.mem_of_getElem? (i := 28) rfl))) Via.refl e61 fF60 (g := (mkF m 58 #[.val (.ref ob0), .val (.ref ob1)] [(.ref ob1), (.long u_longestNanos), (.ref ob0)])) rfl rfl (hb hby d3_58)
  obtain ⟨_, _, ⟨T63, L63, k63, n63⟩, -, X63, ⟨Lc63, hQ63, l63, y63, z63⟩, st63⟩ := Jvm.LawKit.callS X62 hx (y := (⟨"java/lang/Math", "max", "(JJ)J"⟩ : MethodName)) hown (mvT hZ (hw _ (List.mem_of_getElem? (i := 29) rfl))) (mvT hZ (hw _ (List.mem_of_getElem? (i := 30) rfl))) (mvT hZ (hw _ (List.mem_of_getElem? (i := 31) rfl))) (mvT hZ (hw _ (List.mem_of_getElem? (i := 32) rfl))) (by decide) (backOf (W := 1) (rm4 l Z a0 hw [] u_longestNanos w_ob1_longestNanos h48 n0 Z48) hZ (hw _ (List.mem_of_getElem? (i := 32) rfl)) (hw _ (List.mem_of_getElem? (i := 31) rfl)) (by decide) (by decide)) (g := (mkF m 61 #[.val (.ref ob0), .val (.ref ob1)] [(.long w_ob1_longestNanos), (.long u_longestNanos), (.ref ob0)])) rfl (by rw [hml]; rfl) (argsL := [(.long u_longestNanos), (.long w_ob1_longestNanos)]) (rest := [(.ref ob0)]) (lenOf pd_1 rfl) rfl (by show 2 * 0 + _ ≤ _; exact Nat.le_of_eq rfl) (hb hby d3_61) (fun _ _ => ⟨rfl, e62, (by decide : 0 + 0 ≤ _), (by decide : 0 + 0 ≤ _)⟩)
  dsimp only [Pt.U, Pt.locs, Pt.cells, Pt.slots] at X63 l63 y63 z63 st63 hQ63
  subst l63 y63 z63
  obtain ⟨rfl, N63q, e63⟩ := hQ63
  have N63 := Fr.app N48 N63q
  obtain ⟨T64, h64, X64, e64, W64, st64⟩ := putF X63 hx hZ hown (host := "") (Or.inl (hw _ (List.mem_of_getElem? (i := 28) rfl))) Via.refl e63 fF53 eE54 (Or.inl (hw _ (List.mem_of_getElem? (i := 18) rfl))) (hw _ (List.mem_of_getElem? (i := 1) rfl)) (ty := .long) (by decide) rfl rfl (g := (mkF m 64 #[.val (.ref ob0), .val (.ref ob1)] [(.long (F4 u_longestNanos w_ob1_longestNanos)), (.ref ob0)])) rfl rfl (hb hby d3_64)
  have fF65 := fF49.other W64 (Or.inr (slot_ne (Or.inl (hw _ (List.mem_of_getElem? (i := 10) rfl))) (Or.inl (hw _ (List.mem_of_getElem? (i := 18) rfl))) (by decide) (t := .long) (t' := .long) (by decide) (by decide)))
  have fF66 := fF50.other W64 (Or.inr (slot_ne (Or.inl (hw _ (List.mem_of_getElem? (i := 12) rfl))) (Or.inl (hw _ (List.mem_of_getElem? (i := 18) rfl))) (by decide) (t := .long) (t' := .long) (by decide) (by decide)))
  have fF67 := fF51.other W64 (Or.inr (slot_ne (Or.inl (hw _ (List.mem_of_getElem? (i := 14) rfl))) (Or.inl (hw _ (List.mem_of_getElem? (i := 18) rfl))) (by decide) (t := .long) (t' := .long) (by decide) (by decide)))
  have fF68 := fF52.other W64 (Or.inr (slot_ne (Or.inl (hw _ (List.mem_of_getElem? (i := 16) rfl))) (Or.inl (hw _ (List.mem_of_getElem? (i := 18) rfl))) (by decide) (t := .long) (t' := .long) (by decide) (by decide)))
  have fF69 := fF53.same W64
  have eE70 := eE54.wr W64
  have eE71 := eE55.wr W64
  have fF72 := fF56.other W64 (Or.inl (Ne.symm ne_ob0_ob1))
  have fF73 := fF57.other W64 (Or.inl (Ne.symm ne_ob0_ob1))
  have fF74 := fF58.other W64 (Or.inl (Ne.symm ne_ob0_ob1))
  have fF75 := fF59.other W64 (Or.inl (Ne.symm ne_ob0_ob1))
  have fF76 := fF60.other W64 (Or.inl (Ne.symm ne_ob0_ob1))
  have N64 := Fr.snoc X64 N63 g_ob0
  have Z64 := Nat.le_trans Z48 (Keep.of_wr W64).1
  have K64 := K48.wr W64 (Or.inl (List.mem_of_getElem? (i := 0) rfl))
  obtain ⟨fs, hr, hrun, hended, hW, hsame⟩ := X64.leave (v := none) (fun _ => rfl)
  refine ⟨_, _, pre0 _ ?_, hrun, hended, _, _, rfl, ?_, ⟨_, rfl⟩, hW, hsame.mono (by decide) (by decide)⟩
  · show Steps p.tables e below (s₁.setTop (mkF m 0 #[.val (.ref ob0), .val (.ref ob1)] [])) _
    refine XS.aloadN X0.here hx rfl (hb hby d3_0) rfl rfl ?_
    show Steps p.tables e below (s₁.setTop (mkF m 1 #[.val (.ref ob0), .val (.ref ob1)] [(.ref ob0)])) _
    refine XS.dup X0.here hx rfl (hb hby d3_1) rfl rfl ?_
    show Steps p.tables e below (s₁.setTop (mkF m 2 #[.val (.ref ob0), .val (.ref ob1)] [(.ref ob0), (.ref ob0)])) _
    refine st1 _ ?_
    show Steps p.tables e below (T1.setTop (mkF m 5 #[.val (.ref ob0), .val (.ref ob1)] [(.long u_admitted), (.ref ob0)])) _
    refine XS.aloadN X1.here hx rfl (hb hby d3_5) rfl rfl ?_
    show Steps p.tables e below (T1.setTop (mkF m 6 #[.val (.ref ob0), .val (.ref ob1)] [(.ref ob1), (.long u_admitted), (.ref ob0)])) _
    refine st2 _ ?_
    show Steps p.tables e below (T2.setTop (mkF m 9 #[.val (.ref ob0), .val (.ref ob1)] [(.long w_ob1_admitted), (.long u_admitted), (.ref ob0)])) _
    refine XS.ladd X2.here hx rfl (hb hby d3_9) rfl ?_
    show Steps p.tables e below (T2.setTop (mkF m 10 #[.val (.ref ob0), .val (.ref ob1)] [(.long (u_admitted + w_ob1_admitted)), (.ref ob0)])) _
    refine st3 _ ?_
    show Steps p.tables e below (T3.setTop (mkF m 13 #[.val (.ref ob0), .val (.ref ob1)] [])) _
    refine XS.aloadN X3.here hx rfl (hb hby d3_13) rfl rfl ?_
    show Steps p.tables e below (T3.setTop (mkF m 14 #[.val (.ref ob0), .val (.ref ob1)] [(.ref ob0)])) _
    refine XS.dup X3.here hx rfl (hb hby d3_14) rfl rfl ?_
    show Steps p.tables e below (T3.setTop (mkF m 15 #[.val (.ref ob0), .val (.ref ob1)] [(.ref ob0), (.ref ob0)])) _
    refine st16 _ ?_
    show Steps p.tables e below (T16.setTop (mkF m 18 #[.val (.ref ob0), .val (.ref ob1)] [(.long u_refused), (.ref ob0)])) _
    refine XS.aloadN X16.here hx rfl (hb hby d3_18) rfl rfl ?_
    show Steps p.tables e below (T16.setTop (mkF m 19 #[.val (.ref ob0), .val (.ref ob1)] [(.ref ob1), (.long u_refused), (.ref ob0)])) _
    refine st17 _ ?_
    show Steps p.tables e below (T17.setTop (mkF m 22 #[.val (.ref ob0), .val (.ref ob1)] [(.long w_ob1_refused), (.long u_refused), (.ref ob0)])) _
    refine XS.ladd X17.here hx rfl (hb hby d3_22) rfl ?_
    show Steps p.tables e below (T17.setTop (mkF m 23 #[.val (.ref ob0), .val (.ref ob1)] [(.long (u_refused + w_ob1_refused)), (.ref ob0)])) _
    refine st18 _ ?_
    show Steps p.tables e below (T18.setTop (mkF m 26 #[.val (.ref ob0), .val (.ref ob1)] [])) _
    refine XS.aloadN X18.here hx rfl (hb hby d3_26) rfl rfl ?_
    show Steps p.tables e below (T18.setTop (mkF m 27 #[.val (.ref ob0), .val (.ref ob1)] [(.ref ob0)])) _
    refine XS.dup X18.here hx rfl (hb hby d3_27) rfl rfl ?_
    show Steps p.tables e below (T18.setTop (mkF m 28 #[.val (.ref ob0), .val (.ref ob1)] [(.ref ob0), (.ref ob0)])) _
    refine st31 _ ?_
    show Steps p.tables e below (T31.setTop (mkF m 31 #[.val (.ref ob0), .val (.ref ob1)] [(.long u_errors), (.ref ob0)])) _
    refine XS.aloadN X31.here hx rfl (hb hby d3_31) rfl rfl ?_
    show Steps p.tables e below (T31.setTop (mkF m 32 #[.val (.ref ob0), .val (.ref ob1)] [(.ref ob1), (.long u_errors), (.ref ob0)])) _
    refine st32 _ ?_
    show Steps p.tables e below (T32.setTop (mkF m 35 #[.val (.ref ob0), .val (.ref ob1)] [(.long w_ob1_errors), (.long u_errors), (.ref ob0)])) _
    refine XS.ladd X32.here hx rfl (hb hby d3_35) rfl ?_
    show Steps p.tables e below (T32.setTop (mkF m 36 #[.val (.ref ob0), .val (.ref ob1)] [(.long (u_errors + w_ob1_errors)), (.ref ob0)])) _
    refine st33 _ ?_
    show Steps p.tables e below (T33.setTop (mkF m 39 #[.val (.ref ob0), .val (.ref ob1)] [])) _
    refine XS.aloadN X33.here hx rfl (hb hby d3_39) rfl rfl ?_
    show Steps p.tables e below (T33.setTop (mkF m 40 #[.val (.ref ob0), .val (.ref ob1)] [(.ref ob0)])) _
    refine XS.dup X33.here hx rfl (hb hby d3_40) rfl rfl ?_
    show Steps p.tables e below (T33.setTop (mkF m 41 #[.val (.ref ob0), .val (.ref ob1)] [(.ref ob0), (.ref ob0)])) _
    refine st46 _ ?_
    show Steps p.tables e below (T46.setTop (mkF m 44 #[.val (.ref ob0), .val (.ref ob1)] [(.long u_degraded), (.ref ob0)])) _
    refine XS.aloadN X46.here hx rfl (hb hby d3_44) rfl rfl ?_
    show Steps p.tables e below (T46.setTop (mkF m 45 #[.val (.ref ob0), .val (.ref ob1)] [(.ref ob1), (.long u_degraded), (.ref ob0)])) _
    refine st47 _ ?_
    show Steps p.tables e below (T47.setTop (mkF m 48 #[.val (.ref ob0), .val (.ref ob1)] [(.long w_ob1_degraded), (.long u_degraded), (.ref ob0)])) _
    refine XS.ladd X47.here hx rfl (hb hby d3_48) rfl ?_
    show Steps p.tables e below (T47.setTop (mkF m 49 #[.val (.ref ob0), .val (.ref ob1)] [(.long (u_degraded + w_ob1_degraded)), (.ref ob0)])) _
    refine st48 _ ?_
    show Steps p.tables e below (T48.setTop (mkF m 52 #[.val (.ref ob0), .val (.ref ob1)] [])) _
    refine XS.aloadN X48.here hx rfl (hb hby d3_52) rfl rfl ?_
    show Steps p.tables e below (T48.setTop (mkF m 53 #[.val (.ref ob0), .val (.ref ob1)] [(.ref ob0)])) _
    refine XS.aloadN X48.here hx rfl (hb hby d3_53) rfl rfl ?_
    show Steps p.tables e below (T48.setTop (mkF m 54 #[.val (.ref ob0), .val (.ref ob1)] [(.ref ob0), (.ref ob0)])) _
    refine st61 _ ?_
    show Steps p.tables e below (T61.setTop (mkF m 57 #[.val (.ref ob0), .val (.ref ob1)] [(.long u_longestNanos), (.ref ob0)])) _
    refine XS.aloadN X61.here hx rfl (hb hby d3_57) rfl rfl ?_
    show Steps p.tables e below (T61.setTop (mkF m 58 #[.val (.ref ob0), .val (.ref ob1)] [(.ref ob1), (.long u_longestNanos), (.ref ob0)])) _
    refine st62 _ ?_
    show Steps p.tables e below (T62.setTop (mkF m 61 #[.val (.ref ob0), .val (.ref ob1)] [(.long w_ob1_longestNanos), (.long u_longestNanos), (.ref ob0)])) _
    refine st63 _ ?_
    show Steps p.tables e below (T63.setTop (mkF m 64 #[.val (.ref ob0), .val (.ref ob1)] [(.long (F4 u_longestNanos w_ob1_longestNanos)), (.ref ob0)])) _
    refine st64 _ ?_
    show Steps p.tables e below (T64.setTop (mkF m 67 #[.val (.ref ob0), .val (.ref ob1)] [])) _
    exact X64.returnOut hx Bd.returns (hb hby d3_67) hr
  · show Q3 Z ob0 ob1 u_admitted u_refused u_errors u_degraded u_longestNanos w_ob1_admitted w_ob1_refused w_ob1_errors w_ob1_degraded w_ob1_longestNanos h0 n0 _ T64.heap _
    rw [e64]
    exact ⟨rfl, N64, K64, eE70, fF65, fF66, fF67, fF68, fF69⟩
theorem pd_2 : parseMethodDescriptor "(Lcom/example/sluis/sluis/cli/BenchRun$Tally;)V" = some ⟨[(.object "com/example/sluis/sluis/cli/BenchRun$Tally")], none⟩ := by decide +kernel
def F5 (q0 : Int64) (q1 : Int64) : Int64 :=
  if q0 < q1 then q1 else q0
theorem d5_0 : decode method_2_code 0 = .ok (.lload_n 0, 1) := by decide +kernel
theorem d5_1 : decode method_2_code 1 = .ok (.lload_n 2, 1) := by decide +kernel
theorem d5_2 : decode method_2_code 2 = .ok (.lcmp, 1) := by decide +kernel
theorem d5_3 : decode method_2_code 3 = .ok (.ifCond .lt 5, 3) := by decide +kernel
theorem d5_6 : decode method_2_code 6 = .ok (.lload_n 0, 1) := by decide +kernel
theorem d5_7 : decode method_2_code 7 = .ok (.lreturn, 1) := by decide +kernel
theorem d5_8 : decode method_2_code 8 = .ok (.lload_n 2, 1) := by decide +kernel
theorem d5_9 : decode method_2_code 9 = .ok (.lreturn, 1) := by decide +kernel
theorem pn_5 : plainName "com/example/sluis/sluis/cli/TallyAddPinLaw" = true := by first | (simp [plainName, overriddenIn]; done) | decide +kernel
theorem ef_5 (m : MethodId) (q0 : Int64) (q1 : Int64) : entryFrame m #[(.long q0), (.long q1)] 4 = mkF m 0 #[.val (.long q0), .second, .val (.long q1), .second] [] := by first | (simp [entryFrame, mkF, argsToLocals, Value.category]; done) | rfl
def Q5 (Z : State) (q0 : Int64) (q1 : Int64) (h0 : Heap) (n0 : Nat) (v : Option Value) (h : Heap) (L : List Loc) : Prop := v = some (.long (F5 q0 q1)) ∧ Fr n0 L ∧ h = h0
set_option maxRecDepth 65536 in
set_option maxHeartbeats 40000000 in
theorem rm5 (l : Launch) (Z : State) (a0 : Array Value) (hw : ∀ d ∈ tables_1, d.before a0 Z = true) (ws : List Jvm.Cond) (q0 : Int64) (q1 : Int64) (h0 : Heap) (n0 : Nat) (Z0 : n0 ≤ h0.size) :
    MetFree l (⟨"com/example/sluis/sluis/cli/TallyAddPinLaw", "larger", "(JJ)J"⟩ : MethodName) (head1 (Jvm.Cond.code (⟨"com/example/sluis/sluis/cli/TallyAddPinLaw", "larger", "(JJ)J"⟩ : MethodName) method_2_code 4 (some .long) :: ws) ({ frames := 0, cells := 0, slots := 0, locals := 0 } : Room)) (fun a U => a = #[(.long q0), (.long q1)] ∧ Z.Warmed39 U.vm ∧ U.heap = h0) (fun _ _ _ _ _ => True) (fun _ U o U' => ∃ v L, o = .returned v ∧ Q5 Z q0 q1 h0 n0 v U'.heap L ∧ FrameEnd U o U' L ({ frames := 0, cells := 0, slots := 0, locals := 0 } : Room).cells ({ frames := 0, cells := 0, slots := 0, locals := 0 } : Room).slots) := by
  refine MetFree.of_bodySF (plainFor_of_name pn_5) hisR ?_
  intro p e s m args below meth c s₁ Bd hml0 hP hK
  obtain ⟨rfl, hZ, hh⟩ := hP
  have hx := Bd.exec
  have hby := Bd.bytes
  have hml : c.maxLocals = 4 := hml0
  have hown : s.vm.findClass "com/example/sluis/sluis/cli/TallyAddPinLaw" = some m.cls := findClass_of_methodNamed Bd.named
  have hnm := (name_of_methodNamed Bd.named Bd.method).1
  have X0 : Stand p l e ({ frames := 0, cells := 0, slots := 0, locals := 0 } : Room) s m #[(.long q0), (.long q1)] below meth c s₁ [] 0 0 := Stand.of_body Bd
  have e0 : s₁.heap = h0 := by rw [← hh, Bd.state]; rfl
  have N0 := Fr.nil n0
  have pre0 : ∀ t, Steps p.tables e below (s₁.setTop (mkF m 0 #[.val (.long q0), .second, .val (.long q1), .second] [])) t → Steps p.tables e below (s₁.setTop (entryFrame m #[(.long q0), (.long q1)] 4)) t := fun t k => castTop (ef_5 m q0 q1) k
  have pre1 : ∀ t, Steps p.tables e below (s₁.setTop (mkF m 3 #[.val (.long q0), .second, .val (.long q1), .second] [(.int (lcmpW q0 q1))])) t → Steps p.tables e below (s₁.setTop (entryFrame m #[(.long q0), (.long q1)] 4)) t := fun t k => by
    refine pre0 t ?_
    show Steps p.tables e below (s₁.setTop (mkF m 0 #[.val (.long q0), .second, .val (.long q1), .second] [])) _
    refine XS.lloadN X0.here hx rfl (hb hby d5_0) rfl ?_
    show Steps p.tables e below (s₁.setTop (mkF m 1 #[.val (.long q0), .second, .val (.long q1), .second] [(.long q0)])) _
    refine XS.lloadN X0.here hx rfl (hb hby d5_1) rfl ?_
    show Steps p.tables e below (s₁.setTop (mkF m 2 #[.val (.long q0), .second, .val (.long q1), .second] [(.long q1), (.long q0)])) _
    refine XS.lcmp X0.here hx rfl (hb hby d5_2) rfl ?_
    exact k
  by_cases hc3 : q0 < q1
  · obtain ⟨fs, hr, hrun, hended, hW, hsame⟩ := X0.leave (v := some (.long q1)) (fun h => by rw [Bd.returns] at h; cases h)
    refine ⟨_, _, pre1 _ ?_, hrun, hended, _, _, rfl, ?_, ⟨_, rfl⟩, hW, hsame.mono (by decide) (by decide)⟩
    · show Steps p.tables e below (s₁.setTop (mkF m 3 #[.val (.long q0), .second, .val (.long q1), .second] [(.int (lcmpW q0 q1))])) _
      refine XS.ifYes X0.here hx rfl (pc0 := 3) (pc' := 8) rfl (hb hby d5_3) rfl (lcY_lt hc3) (by decide) (by decide) ?_
      show Steps p.tables e below (s₁.setTop (mkF m 8 #[.val (.long q0), .second, .val (.long q1), .second] [])) _
      refine XS.lloadN X0.here hx rfl (hb hby d5_8) rfl ?_
      show Steps p.tables e below (s₁.setTop (mkF m 9 #[.val (.long q0), .second, .val (.long q1), .second] [(.long q1)])) _
      exact retOut X0 hx Bd.returns rfl (Or.inr (Or.inl ⟨rfl, rfl, _, rfl⟩)) (hb hby d5_9) hr
    · show Q5 Z q0 q1 h0 n0 _ s₁.heap _
      rw [e0]
      exact ⟨(by rw [F5, if_pos hc3]), N0, rfl⟩
  · obtain ⟨fs, hr, hrun, hended, hW, hsame⟩ := X0.leave (v := some (.long q0)) (fun h => by rw [Bd.returns] at h; cases h)
    refine ⟨_, _, pre1 _ ?_, hrun, hended, _, _, rfl, ?_, ⟨_, rfl⟩, hW, hsame.mono (by decide) (by decide)⟩
    · show Steps p.tables e below (s₁.setTop (mkF m 3 #[.val (.long q0), .second, .val (.long q1), .second] [(.int (lcmpW q0 q1))])) _
      refine XS.ifNo X0.here hx rfl (hb hby d5_3) rfl (lcN_lt hc3) ?_
      show Steps p.tables e below (s₁.setTop (mkF m 6 #[.val (.long q0), .second, .val (.long q1), .second] [])) _
      refine XS.lloadN X0.here hx rfl (hb hby d5_6) rfl ?_
      show Steps p.tables e below (s₁.setTop (mkF m 7 #[.val (.long q0), .second, .val (.long q1), .second] [(.long q0)])) _
      exact retOut X0 hx Bd.returns rfl (Or.inr (Or.inl ⟨rfl, rfl, _, rfl⟩)) (hb hby d5_7) hr
    · show Q5 Z q0 q1 h0 n0 _ s₁.heap _
      rw [e0]
      exact ⟨(by rw [F5, if_neg hc3]), N0, rfl⟩
theorem pn_0 : plainName "com/example/sluis/sluis/cli/TallyAddPinLaw" = true := by first | (simp [plainName, overriddenIn]; done) | decide +kernel
theorem ef_0 (m : MethodId) (q0 : Int64) (q1 : Int64) (q2 : Int64) (q3 : Int64) (q4 : Int64) (q5 : Int64) : entryFrame m #[(.long q0), (.long q1), (.long q2), (.long q3), (.long q4), (.long q5)] maxLocals = mkF m 0 #[.val (.long q0), .second, .val (.long q1), .second, .val (.long q2), .second, .val (.long q3), .second, .val (.long q4), .second, .val (.long q5), .second, .unset, .unset, .unset, .unset] [] := by first | (simp [entryFrame, mkF, argsToLocals, Value.category, maxLocals]; done) | rfl
def Q0 (Z : State) (q0 : Int64) (q1 : Int64) (q2 : Int64) (q3 : Int64) (q4 : Int64) (q5 : Int64) (h0 : Heap) (n0 : Nat) (v : Option Value) (h : Heap) (L : List Loc) : Prop := v = some (.int 1) ∧ Fr n0 L
set_option maxRecDepth 65536 in
set_option maxHeartbeats 40000000 in
theorem rm0 (l : Launch) (Z : State) (a0 : Array Value) (hw : ∀ d ∈ tables_1, d.before a0 Z = true) (ws : List Jvm.Cond) (q0 : Int64) (q1 : Int64) (q2 : Int64) (q3 : Int64) (q4 : Int64) (q5 : Int64) (h0 : Heap) (n0 : Nat) (Z0 : n0 ≤ h0.size) :
    MetFree l x (head1 (Jvm.Cond.code x code maxLocals ret :: ws) room_1) (fun a U => a = #[(.long q0), (.long q1), (.long q2), (.long q3), (.long q4), (.long q5)] ∧ Z.Warmed39 U.vm ∧ U.heap = h0) (fun _ _ _ _ _ => True) (fun _ U o U' => ∃ v L, o = .returned v ∧ Q0 Z q0 q1 q2 q3 q4 q5 h0 n0 v U'.heap L ∧ FrameEnd U o U' L room_1.cells room_1.slots) := by
  refine MetFree.of_bodySF (plainFor_of_name pn_0) hisR ?_
  intro p e s m args below meth c s₁ Bd hml0 hP hK
  obtain ⟨rfl, hZ, hh⟩ := hP
  have hx := Bd.exec
  have hby := Bd.bytes
  have hml : c.maxLocals = 16 := hml0
  have hown : s.vm.findClass "com/example/sluis/sluis/cli/TallyAddPinLaw" = some m.cls := findClass_of_methodNamed Bd.named
  have hnm := (name_of_methodNamed Bd.named Bd.method).1
  have X0 : Stand p l e room_1 s m #[(.long q0), (.long q1), (.long q2), (.long q3), (.long q4), (.long q5)] below meth c s₁ [] 0 0 := Stand.of_body Bd
  have e0 : s₁.heap = h0 := by rw [← hh, Bd.state]; rfl
  have N0 := Fr.nil n0
  have pre0 : ∀ t, Steps p.tables e below (s₁.setTop (mkF m 0 #[.val (.long q0), .second, .val (.long q1), .second, .val (.long q2), .second, .val (.long q3), .second, .val (.long q4), .second, .val (.long q5), .second, .unset, .unset, .unset, .unset] [])) t → Steps p.tables e below (s₁.setTop (entryFrame m #[(.long q0), (.long q1), (.long q2), (.long q3), (.long q4), (.long q5)] maxLocals)) t := fun t k => castTop (ef_0 m q0 q1 q2 q3 q4 q5) k
  obtain ⟨T1, h1, X1, e1, E1, A1, D1, -, st1⟩ := newO X0 hx hZ hown (hw _ (List.mem_of_getElem? (i := 0) rfl)) (hw _ (List.mem_of_getElem? (i := 1) rfl)) (hw _ (List.mem_of_getElem? (i := 2) rfl)) e0 (g := (mkF m 0 #[.val (.long q0), .second, .val (.long q1), .second, .val (.long q2), .second, .val (.long q3), .second, .val (.long q4), .second, .val (.long q5), .second, .unset, .unset, .unset, .unset] [])) rfl (hb hby at_0) (by decide) (by decide)
  obtain ⟨b1, g1⟩ : ∃ z, z = h0.size := ⟨_, rfl⟩
  rw [← g1] at A1 D1 st1
  have g_b1 : n0 ≤ b1 := Nat.le_trans Z0 (Nat.le_of_eq g1.symm)
  have Z1 := Nat.le_trans Z0 E1.1
  have fF2 : Fld Z h1 b1 "com/example/sluis/sluis/cli/BenchRun$Tally" "admitted" "J" (.long (0 : Int64)) := D1 (Or.inl (hw _ (List.mem_of_getElem? (i := 10) rfl))) (ty := .long) (by decide)
  have fF3 : Fld Z h1 b1 "com/example/sluis/sluis/cli/BenchRun$Tally" "refused" "J" (.long (0 : Int64)) := D1 (Or.inl (hw _ (List.mem_of_getElem? (i := 12) rfl))) (ty := .long) (by decide)
  have fF4 : Fld Z h1 b1 "com/example/sluis/sluis/cli/BenchRun$Tally" "errors" "J" (.long (0 : Int64)) := D1 (Or.inl (hw _ (List.mem_of_getElem? (i := 14) rfl))) (ty := .long) (by decide)
  have fF5 : Fld Z h1 b1 "com/example/sluis/sluis/cli/BenchRun$Tally" "degraded" "J" (.long (0 : Int64)) := D1 (Or.inl (hw _ (List.mem_of_getElem? (i := 16) rfl))) (ty := .long) (by decide)
  have fF6 : Fld Z h1 b1 "com/example/sluis/sluis/cli/BenchRun$Tally" "longestNanos" "J" (.long (0 : Int64)) := D1 (Or.inl (hw _ (List.mem_of_getElem? (i := 18) rfl))) (ty := .long) (by decide)
  obtain ⟨_, _, ⟨T7, L7, k7, n7⟩, -, X7, ⟨Lc7, hQ7, l7, y7, z7⟩, st7⟩ := X1.specialBack hx (y := (⟨"com/example/sluis/sluis/cli/BenchRun$Tally", "<init>", "()V"⟩ : MethodName)) rfl hown (mvT hZ (hw _ (List.mem_of_getElem? (i := 3) rfl))) (mvT hZ (hw _ (List.mem_of_getElem? (i := 4) rfl))) (mvT hZ (hw _ (List.mem_of_getElem? (i := 5) rfl))) (by decide) (backOf (W := 1) (rm1 l Z a0 hw [] b1 h1 n0 Z1) hZ (hw _ (List.mem_of_getElem? (i := 5) rfl)) (hw _ (List.mem_of_getElem? (i := 2) rfl)) (by decide) (by decide)) (g := (mkF m 4 #[.val (.long q0), .second, .val (.long q1), .second, .val (.long q2), .second, .val (.long q3), .second, .val (.long q4), .second, .val (.long q5), .second, .unset, .unset, .unset, .unset] [(.ref b1), (.ref b1)])) rfl (by rw [hml]; rfl) (Steps.refl _) (a := b1) (argsL := []) (rest := [(.ref b1)]) (lenOf pd_0 rfl) rfl (by show 2 * 0 + _ ≤ _; exact Nat.le_of_eq rfl) (hb hby at_4) (fun _ _ => ⟨rfl, e1, (by decide : 1 + 0 ≤ _), (by decide : 5 + 0 ≤ _)⟩)
  dsimp only [Pt.U, Pt.locs, Pt.cells, Pt.slots] at X7 l7 y7 z7 st7 hQ7
  subst l7 y7 z7
  obtain ⟨rfl, N7q, e7⟩ := hQ7
  have N7 := Fr.app N0 N7q
  obtain ⟨T8, h8, X8, e8, W8, st8⟩ := putF X7 hx hZ hown (host := "") (Or.inl (hw _ (List.mem_of_getElem? (i := 9) rfl))) Via.refl e7 fF2 A1 (Or.inl (hw _ (List.mem_of_getElem? (i := 10) rfl))) (hw _ (List.mem_of_getElem? (i := 1) rfl)) (ty := .long) (by decide) rfl rfl (g := (mkF m 12 #[.val (.long q0), .second, .val (.long q1), .second, .val (.long q2), .second, .val (.long q3), .second, .val (.long q4), .second, .val (.long q5), .second, .val (.ref b1), .unset, .unset, .unset] [(.long q0), (.ref b1)])) rfl rfl (hb hby at_12)
  have eE9 := A1.wr W8
  have fF10 := fF2.same W8
  have fF11 := fF3.other W8 (Or.inr (slot_ne (Or.inl (hw _ (List.mem_of_getElem? (i := 12) rfl))) (Or.inl (hw _ (List.mem_of_getElem? (i := 10) rfl))) (by decide) (t := .long) (t' := .long) (by decide) (by decide)))
  have fF12 := fF4.other W8 (Or.inr (slot_ne (Or.inl (hw _ (List.mem_of_getElem? (i := 14) rfl))) (Or.inl (hw _ (List.mem_of_getElem? (i := 10) rfl))) (by decide) (t := .long) (t' := .long) (by decide) (by decide)))
  have fF13 := fF5.other W8 (Or.inr (slot_ne (Or.inl (hw _ (List.mem_of_getElem? (i := 16) rfl))) (Or.inl (hw _ (List.mem_of_getElem? (i := 10) rfl))) (by decide) (t := .long) (t' := .long) (by decide) (by decide)))
  have fF14 := fF6.other W8 (Or.inr (slot_ne (Or.inl (hw _ (List.mem_of_getElem? (i := 18) rfl))) (Or.inl (hw _ (List.mem_of_getElem? (i := 10) rfl))) (by decide) (t := .long) (t' := .long) (by decide) (by decide)))
  have N8 := Fr.snoc X8 N7 g_b1
  have Z8 := Nat.le_trans Z1 (Keep.of_wr W8).1
  obtain ⟨T15, h15, X15, e15, W15, st15⟩ := putF X8 hx hZ hown (host := "") (Or.inl (hw _ (List.mem_of_getElem? (i := 11) rfl))) Via.refl e8 fF11 eE9 (Or.inl (hw _ (List.mem_of_getElem? (i := 12) rfl))) (hw _ (List.mem_of_getElem? (i := 1) rfl)) (ty := .long) (by decide) rfl rfl (g := (mkF m 18 #[.val (.long q0), .second, .val (.long q1), .second, .val (.long q2), .second, .val (.long q3), .second, .val (.long q4), .second, .val (.long q5), .second, .val (.ref b1), .unset, .unset, .unset] [(.long q1), (.ref b1)])) rfl rfl (hb hby at_18)
  have eE16 := eE9.wr W15
  have fF17 := fF10.other W15 (Or.inr (slot_ne (Or.inl (hw _ (List.mem_of_getElem? (i := 10) rfl))) (Or.inl (hw _ (List.mem_of_getElem? (i := 12) rfl))) (by decide) (t := .long) (t' := .long) (by decide) (by decide)))
  have fF18 := fF11.same W15
  have fF19 := fF12.other W15 (Or.inr (slot_ne (Or.inl (hw _ (List.mem_of_getElem? (i := 14) rfl))) (Or.inl (hw _ (List.mem_of_getElem? (i := 12) rfl))) (by decide) (t := .long) (t' := .long) (by decide) (by decide)))
  have fF20 := fF13.other W15 (Or.inr (slot_ne (Or.inl (hw _ (List.mem_of_getElem? (i := 16) rfl))) (Or.inl (hw _ (List.mem_of_getElem? (i := 12) rfl))) (by decide) (t := .long) (t' := .long) (by decide) (by decide)))
  have fF21 := fF14.other W15 (Or.inr (slot_ne (Or.inl (hw _ (List.mem_of_getElem? (i := 18) rfl))) (Or.inl (hw _ (List.mem_of_getElem? (i := 12) rfl))) (by decide) (t := .long) (t' := .long) (by decide) (by decide)))
  have N15 := Fr.snoc X15 N8 g_b1
  have Z15 := Nat.le_trans Z8 (Keep.of_wr W15).1
  obtain ⟨T22, h22, X22, e22, W22, st22⟩ := putF X15 hx hZ hown (host := "") (Or.inl (hw _ (List.mem_of_getElem? (i := 13) rfl))) Via.refl e15 fF19 eE16 (Or.inl (hw _ (List.mem_of_getElem? (i := 14) rfl))) (hw _ (List.mem_of_getElem? (i := 1) rfl)) (ty := .long) (by decide) rfl rfl (g := (mkF m 25 #[.val (.long q0), .second, .val (.long q1), .second, .val (.long q2), .second, .val (.long q3), .second, .val (.long q4), .second, .val (.long q5), .second, .val (.ref b1), .unset, .unset, .unset] [(.long q2), (.ref b1)])) rfl rfl (hb hby at_25)
  have eE23 := eE16.wr W22
  have fF24 := fF17.other W22 (Or.inr (slot_ne (Or.inl (hw _ (List.mem_of_getElem? (i := 10) rfl))) (Or.inl (hw _ (List.mem_of_getElem? (i := 14) rfl))) (by decide) (t := .long) (t' := .long) (by decide) (by decide)))
  have fF25 := fF18.other W22 (Or.inr (slot_ne (Or.inl (hw _ (List.mem_of_getElem? (i := 12) rfl))) (Or.inl (hw _ (List.mem_of_getElem? (i := 14) rfl))) (by decide) (t := .long) (t' := .long) (by decide) (by decide)))
  have fF26 := fF19.same W22
  have fF27 := fF20.other W22 (Or.inr (slot_ne (Or.inl (hw _ (List.mem_of_getElem? (i := 16) rfl))) (Or.inl (hw _ (List.mem_of_getElem? (i := 14) rfl))) (by decide) (t := .long) (t' := .long) (by decide) (by decide)))
  have fF28 := fF21.other W22 (Or.inr (slot_ne (Or.inl (hw _ (List.mem_of_getElem? (i := 18) rfl))) (Or.inl (hw _ (List.mem_of_getElem? (i := 14) rfl))) (by decide) (t := .long) (t' := .long) (by decide) (by decide)))
  have N22 := Fr.snoc X22 N15 g_b1
  have Z22 := Nat.le_trans Z15 (Keep.of_wr W22).1
  obtain ⟨T29, h29, X29, e29, W29, st29⟩ := putF X22 hx hZ hown (host := "") (Or.inl (hw _ (List.mem_of_getElem? (i := 15) rfl))) Via.refl e22 fF27 eE23 (Or.inl (hw _ (List.mem_of_getElem? (i := 16) rfl))) (hw _ (List.mem_of_getElem? (i := 1) rfl)) (ty := .long) (by decide) rfl rfl (g := (mkF m 32 #[.val (.long q0), .second, .val (.long q1), .second, .val (.long q2), .second, .val (.long q3), .second, .val (.long q4), .second, .val (.long q5), .second, .val (.ref b1), .unset, .unset, .unset] [(.long q3), (.ref b1)])) rfl rfl (hb hby at_32)
  have eE30 := eE23.wr W29
  have fF31 := fF24.other W29 (Or.inr (slot_ne (Or.inl (hw _ (List.mem_of_getElem? (i := 10) rfl))) (Or.inl (hw _ (List.mem_of_getElem? (i := 16) rfl))) (by decide) (t := .long) (t' := .long) (by decide) (by decide)))
  have fF32 := fF25.other W29 (Or.inr (slot_ne (Or.inl (hw _ (List.mem_of_getElem? (i := 12) rfl))) (Or.inl (hw _ (List.mem_of_getElem? (i := 16) rfl))) (by decide) (t := .long) (t' := .long) (by decide) (by decide)))
  have fF33 := fF26.other W29 (Or.inr (slot_ne (Or.inl (hw _ (List.mem_of_getElem? (i := 14) rfl))) (Or.inl (hw _ (List.mem_of_getElem? (i := 16) rfl))) (by decide) (t := .long) (t' := .long) (by decide) (by decide)))
  have fF34 := fF27.same W29
  have fF35 := fF28.other W29 (Or.inr (slot_ne (Or.inl (hw _ (List.mem_of_getElem? (i := 18) rfl))) (Or.inl (hw _ (List.mem_of_getElem? (i := 16) rfl))) (by decide) (t := .long) (t' := .long) (by decide) (by decide)))
  have N29 := Fr.snoc X29 N22 g_b1
  have Z29 := Nat.le_trans Z22 (Keep.of_wr W29).1
  obtain ⟨T36, h36, X36, e36, W36, st36⟩ := putF X29 hx hZ hown (host := "") (Or.inl (hw _ (List.mem_of_getElem? (i := 17) rfl))) Via.refl e29 fF35 eE30 (Or.inl (hw _ (List.mem_of_getElem? (i := 18) rfl))) (hw _ (List.mem_of_getElem? (i := 1) rfl)) (ty := .long) (by decide) rfl rfl (g := (mkF m 39 #[.val (.long q0), .second, .val (.long q1), .second, .val (.long q2), .second, .val (.long q3), .second, .val (.long q4), .second, .val (.long q5), .second, .val (.ref b1), .unset, .unset, .unset] [(.long q4), (.ref b1)])) rfl rfl (hb hby at_39)
  have eE37 := eE30.wr W36
  have fF38 := fF31.other W36 (Or.inr (slot_ne (Or.inl (hw _ (List.mem_of_getElem? (i := 10) rfl))) (Or.inl (hw _ (List.mem_of_getElem? (i := 18) rfl))) (by decide) (t := .long) (t' := .long) (by decide) (by decide)))
  have fF39 := fF32.other W36 (Or.inr (slot_ne (Or.inl (hw _ (List.mem_of_getElem? (i := 12) rfl))) (Or.inl (hw _ (List.mem_of_getElem? (i := 18) rfl))) (by decide) (t := .long) (t' := .long) (by decide) (by decide)))
  have fF40 := fF33.other W36 (Or.inr (slot_ne (Or.inl (hw _ (List.mem_of_getElem? (i := 14) rfl))) (Or.inl (hw _ (List.mem_of_getElem? (i := 18) rfl))) (by decide) (t := .long) (t' := .long) (by decide) (by decide)))
  have fF41 := fF34.other W36 (Or.inr (slot_ne (Or.inl (hw _ (List.mem_of_getElem? (i := 16) rfl))) (Or.inl (hw _ (List.mem_of_getElem? (i := 18) rfl))) (by decide) (t := .long) (t' := .long) (by decide) (by decide)))
  have fF42 := fF35.same W36
  have N36 := Fr.snoc X36 N29 g_b1
  have Z36 := Nat.le_trans Z29 (Keep.of_wr W36).1
  obtain ⟨T43, h43, X43, e43, E43, A43, D43, -, st43⟩ := newO X36 hx hZ hown (hw _ (List.mem_of_getElem? (i := 0) rfl)) (hw _ (List.mem_of_getElem? (i := 1) rfl)) (hw _ (List.mem_of_getElem? (i := 2) rfl)) e36 (g := (mkF m 42 #[.val (.long q0), .second, .val (.long q1), .second, .val (.long q2), .second, .val (.long q3), .second, .val (.long q4), .second, .val (.long q5), .second, .val (.ref b1), .unset, .unset, .unset] [])) rfl (hb hby at_42) (by decide) (by decide)
  obtain ⟨b43, g43⟩ : ∃ z, z = h36.size := ⟨_, rfl⟩
  rw [← g43] at A43 D43 st43
  have ne_b1_b43 : b1 ≠ b43 := Nat.ne_of_lt (Nat.lt_of_lt_of_le eE37.lt (Nat.le_of_eq g43.symm))
  have eE44 := eE37.ext E43
  have fF45 := fF38.ext E43
  have fF46 := fF39.ext E43
  have fF47 := fF40.ext E43
  have fF48 := fF41.ext E43
  have fF49 := fF42.ext E43
  have g_b43 : n0 ≤ b43 := Nat.le_trans Z36 (Nat.le_of_eq g43.symm)
  have Z43 := Nat.le_trans Z36 E43.1
  have fF50 : Fld Z h43 b43 "com/example/sluis/sluis/cli/BenchRun$Tally" "admitted" "J" (.long (0 : Int64)) := D43 (Or.inl (hw _ (List.mem_of_getElem? (i := 10) rfl))) (ty := .long) (by decide)
  have fF51 : Fld Z h43 b43 "com/example/sluis/sluis/cli/BenchRun$Tally" "refused" "J" (.long (0 : Int64)) := D43 (Or.inl (hw _ (List.mem_of_getElem? (i := 12) rfl))) (ty := .long) (by decide)
  have fF52 : Fld Z h43 b43 "com/example/sluis/sluis/cli/BenchRun$Tally" "errors" "J" (.long (0 : Int64)) := D43 (Or.inl (hw _ (List.mem_of_getElem? (i := 14) rfl))) (ty := .long) (by decide)
  have fF53 : Fld Z h43 b43 "com/example/sluis/sluis/cli/BenchRun$Tally" "degraded" "J" (.long (0 : Int64)) := D43 (Or.inl (hw _ (List.mem_of_getElem? (i := 16) rfl))) (ty := .long) (by decide)
  have fF54 : Fld Z h43 b43 "com/example/sluis/sluis/cli/BenchRun$Tally" "longestNanos" "J" (.long (0 : Int64)) := D43 (Or.inl (hw _ (List.mem_of_getElem? (i := 18) rfl))) (ty := .long) (by decide)
  obtain ⟨_, _, ⟨T55, L55, k55, n55⟩, -, X55, ⟨Lc55, hQ55, l55, y55, z55⟩, st55⟩ := X43.specialBack hx (y := (⟨"com/example/sluis/sluis/cli/BenchRun$Tally", "<init>", "()V"⟩ : MethodName)) rfl hown (mvT hZ (hw _ (List.mem_of_getElem? (i := 3) rfl))) (mvT hZ (hw _ (List.mem_of_getElem? (i := 4) rfl))) (mvT hZ (hw _ (List.mem_of_getElem? (i := 5) rfl))) (by decide) (backOf (W := 1) (rm1 l Z a0 hw [] b43 h43 n0 Z43) hZ (hw _ (List.mem_of_getElem? (i := 5) rfl)) (hw _ (List.mem_of_getElem? (i := 2) rfl)) (by decide) (by decide)) (g := (mkF m 46 #[.val (.long q0), .second, .val (.long q1), .second, .val (.long q2), .second, .val (.long q3), .second, .val (.long q4), .second, .val (.long q5), .second, .val (.ref b1), .unset, .unset, .unset] [(.ref b43), (.ref b43)])) rfl (by rw [hml]; rfl) (Steps.refl _) (a := b43) (argsL := []) (rest := [(.ref b43)]) (lenOf pd_0 rfl) rfl (by show 2 * 0 + _ ≤ _; exact Nat.le_of_eq rfl) (hb hby at_46) (fun _ _ => ⟨rfl, e43, (by decide : 2 + 0 ≤ _), (by decide : 10 + 0 ≤ _)⟩)
  dsimp only [Pt.U, Pt.locs, Pt.cells, Pt.slots] at X55 l55 y55 z55 st55 hQ55
  subst l55 y55 z55
  obtain ⟨rfl, N55q, e55⟩ := hQ55
  have N55 := Fr.app N36 N55q
  obtain ⟨T56, h56, X56, e56, W56, st56⟩ := putF X55 hx hZ hown (host := "") (Or.inl (hw _ (List.mem_of_getElem? (i := 9) rfl))) Via.refl e55 fF50 A43 (Or.inl (hw _ (List.mem_of_getElem? (i := 10) rfl))) (hw _ (List.mem_of_getElem? (i := 1) rfl)) (ty := .long) (by decide) rfl rfl (g := (mkF m 55 #[.val (.long q0), .second, .val (.long q1), .second, .val (.long q2), .second, .val (.long q3), .second, .val (.long q4), .second, .val (.long q5), .second, .val (.ref b1), .val (.ref b43), .unset, .unset] [(.long q5), (.ref b43)])) rfl rfl (hb hby at_55)
  have eE57 := eE44.wr W56
  have fF58 := fF45.other W56 (Or.inl ne_b1_b43)
  have fF59 := fF46.other W56 (Or.inl ne_b1_b43)
  have fF60 := fF47.other W56 (Or.inl ne_b1_b43)
  have fF61 := fF48.other W56 (Or.inl ne_b1_b43)
  have fF62 := fF49.other W56 (Or.inl ne_b1_b43)
  have eE63 := A43.wr W56
  have fF64 := fF50.same W56
  have fF65 := fF51.other W56 (Or.inr (slot_ne (Or.inl (hw _ (List.mem_of_getElem? (i := 12) rfl))) (Or.inl (hw _ (List.mem_of_getElem? (i := 10) rfl))) (by decide) (t := .long) (t' := .long) (by decide) (by decide)))
  have fF66 := fF52.other W56 (Or.inr (slot_ne (Or.inl (hw _ (List.mem_of_getElem? (i := 14) rfl))) (Or.inl (hw _ (List.mem_of_getElem? (i := 10) rfl))) (by decide) (t := .long) (t' := .long) (by decide) (by decide)))
  have fF67 := fF53.other W56 (Or.inr (slot_ne (Or.inl (hw _ (List.mem_of_getElem? (i := 16) rfl))) (Or.inl (hw _ (List.mem_of_getElem? (i := 10) rfl))) (by decide) (t := .long) (t' := .long) (by decide) (by decide)))
  have fF68 := fF54.other W56 (Or.inr (slot_ne (Or.inl (hw _ (List.mem_of_getElem? (i := 18) rfl))) (Or.inl (hw _ (List.mem_of_getElem? (i := 10) rfl))) (by decide) (t := .long) (t' := .long) (by decide) (by decide)))
  have N56 := Fr.snoc X56 N55 g_b43
  have Z56 := Nat.le_trans Z43 (Keep.of_wr W56).1
  obtain ⟨T69, h69, X69, e69, W69, st69⟩ := putF X56 hx hZ hown (host := "") (Or.inl (hw _ (List.mem_of_getElem? (i := 11) rfl))) Via.refl e56 fF65 eE63 (Or.inl (hw _ (List.mem_of_getElem? (i := 12) rfl))) (hw _ (List.mem_of_getElem? (i := 1) rfl)) (ty := .long) (by decide) rfl rfl (g := (mkF m 62 #[.val (.long q0), .second, .val (.long q1), .second, .val (.long q2), .second, .val (.long q3), .second, .val (.long q4), .second, .val (.long q5), .second, .val (.ref b1), .val (.ref b43), .unset, .unset] [(.long q4), (.ref b43)])) rfl rfl (hb hby at_62)
  have eE70 := eE57.wr W69
  have fF71 := fF58.other W69 (Or.inl ne_b1_b43)
  have fF72 := fF59.other W69 (Or.inl ne_b1_b43)
  have fF73 := fF60.other W69 (Or.inl ne_b1_b43)
  have fF74 := fF61.other W69 (Or.inl ne_b1_b43)
  have fF75 := fF62.other W69 (Or.inl ne_b1_b43)
  have eE76 := eE63.wr W69
  have fF77 := fF64.other W69 (Or.inr (slot_ne (Or.inl (hw _ (List.mem_of_getElem? (i := 10) rfl))) (Or.inl (hw _ (List.mem_of_getElem? (i := 12) rfl))) (by decide) (t := .long) (t' := .long) (by decide) (by decide)))
  have fF78 := fF65.same W69
  have fF79 := fF66.other W69 (Or.inr (slot_ne (Or.inl (hw _ (List.mem_of_getElem? (i := 14) rfl))) (Or.inl (hw _ (List.mem_of_getElem? (i := 12) rfl))) (by decide) (t := .long) (t' := .long) (by decide) (by decide)))
  have fF80 := fF67.other W69 (Or.inr (slot_ne (Or.inl (hw _ (List.mem_of_getElem? (i := 16) rfl))) (Or.inl (hw _ (List.mem_of_getElem? (i := 12) rfl))) (by decide) (t := .long) (t' := .long) (by decide) (by decide)))
  have fF81 := fF68.other W69 (Or.inr (slot_ne (Or.inl (hw _ (List.mem_of_getElem? (i := 18) rfl))) (Or.inl (hw _ (List.mem_of_getElem? (i := 12) rfl))) (by decide) (t := .long) (t' := .long) (by decide) (by decide)))
  have N69 := Fr.snoc X69 N56 g_b43
  have Z69 := Nat.le_trans Z56 (Keep.of_wr W69).1
  obtain ⟨T82, h82, X82, e82, W82, st82⟩ := putF X69 hx hZ hown (host := "") (Or.inl (hw _ (List.mem_of_getElem? (i := 13) rfl))) Via.refl e69 fF79 eE76 (Or.inl (hw _ (List.mem_of_getElem? (i := 14) rfl))) (hw _ (List.mem_of_getElem? (i := 1) rfl)) (ty := .long) (by decide) rfl rfl (g := (mkF m 69 #[.val (.long q0), .second, .val (.long q1), .second, .val (.long q2), .second, .val (.long q3), .second, .val (.long q4), .second, .val (.long q5), .second, .val (.ref b1), .val (.ref b43), .unset, .unset] [(.long q3), (.ref b43)])) rfl rfl (hb hby at_69)
  have eE83 := eE70.wr W82
  have fF84 := fF71.other W82 (Or.inl ne_b1_b43)
  have fF85 := fF72.other W82 (Or.inl ne_b1_b43)
  have fF86 := fF73.other W82 (Or.inl ne_b1_b43)
  have fF87 := fF74.other W82 (Or.inl ne_b1_b43)
  have fF88 := fF75.other W82 (Or.inl ne_b1_b43)
  have eE89 := eE76.wr W82
  have fF90 := fF77.other W82 (Or.inr (slot_ne (Or.inl (hw _ (List.mem_of_getElem? (i := 10) rfl))) (Or.inl (hw _ (List.mem_of_getElem? (i := 14) rfl))) (by decide) (t := .long) (t' := .long) (by decide) (by decide)))
  have fF91 := fF78.other W82 (Or.inr (slot_ne (Or.inl (hw _ (List.mem_of_getElem? (i := 12) rfl))) (Or.inl (hw _ (List.mem_of_getElem? (i := 14) rfl))) (by decide) (t := .long) (t' := .long) (by decide) (by decide)))
  have fF92 := fF79.same W82
  have fF93 := fF80.other W82 (Or.inr (slot_ne (Or.inl (hw _ (List.mem_of_getElem? (i := 16) rfl))) (Or.inl (hw _ (List.mem_of_getElem? (i := 14) rfl))) (by decide) (t := .long) (t' := .long) (by decide) (by decide)))
  have fF94 := fF81.other W82 (Or.inr (slot_ne (Or.inl (hw _ (List.mem_of_getElem? (i := 18) rfl))) (Or.inl (hw _ (List.mem_of_getElem? (i := 14) rfl))) (by decide) (t := .long) (t' := .long) (by decide) (by decide)))
  have N82 := Fr.snoc X82 N69 g_b43
  have Z82 := Nat.le_trans Z69 (Keep.of_wr W82).1
  obtain ⟨T95, h95, X95, e95, W95, st95⟩ := putF X82 hx hZ hown (host := "") (Or.inl (hw _ (List.mem_of_getElem? (i := 15) rfl))) Via.refl e82 fF93 eE89 (Or.inl (hw _ (List.mem_of_getElem? (i := 16) rfl))) (hw _ (List.mem_of_getElem? (i := 1) rfl)) (ty := .long) (by decide) rfl rfl (g := (mkF m 76 #[.val (.long q0), .second, .val (.long q1), .second, .val (.long q2), .second, .val (.long q3), .second, .val (.long q4), .second, .val (.long q5), .second, .val (.ref b1), .val (.ref b43), .unset, .unset] [(.long q2), (.ref b43)])) rfl rfl (hb hby at_76)
  have eE96 := eE83.wr W95
  have fF97 := fF84.other W95 (Or.inl ne_b1_b43)
  have fF98 := fF85.other W95 (Or.inl ne_b1_b43)
  have fF99 := fF86.other W95 (Or.inl ne_b1_b43)
  have fF100 := fF87.other W95 (Or.inl ne_b1_b43)
  have fF101 := fF88.other W95 (Or.inl ne_b1_b43)
  have eE102 := eE89.wr W95
  have fF103 := fF90.other W95 (Or.inr (slot_ne (Or.inl (hw _ (List.mem_of_getElem? (i := 10) rfl))) (Or.inl (hw _ (List.mem_of_getElem? (i := 16) rfl))) (by decide) (t := .long) (t' := .long) (by decide) (by decide)))
  have fF104 := fF91.other W95 (Or.inr (slot_ne (Or.inl (hw _ (List.mem_of_getElem? (i := 12) rfl))) (Or.inl (hw _ (List.mem_of_getElem? (i := 16) rfl))) (by decide) (t := .long) (t' := .long) (by decide) (by decide)))
  have fF105 := fF92.other W95 (Or.inr (slot_ne (Or.inl (hw _ (List.mem_of_getElem? (i := 14) rfl))) (Or.inl (hw _ (List.mem_of_getElem? (i := 16) rfl))) (by decide) (t := .long) (t' := .long) (by decide) (by decide)))
  have fF106 := fF93.same W95
  have fF107 := fF94.other W95 (Or.inr (slot_ne (Or.inl (hw _ (List.mem_of_getElem? (i := 18) rfl))) (Or.inl (hw _ (List.mem_of_getElem? (i := 16) rfl))) (by decide) (t := .long) (t' := .long) (by decide) (by decide)))
  have N95 := Fr.snoc X95 N82 g_b43
  have Z95 := Nat.le_trans Z82 (Keep.of_wr W95).1
  obtain ⟨T108, h108, X108, e108, W108, st108⟩ := putF X95 hx hZ hown (host := "") (Or.inl (hw _ (List.mem_of_getElem? (i := 17) rfl))) Via.refl e95 fF107 eE102 (Or.inl (hw _ (List.mem_of_getElem? (i := 18) rfl))) (hw _ (List.mem_of_getElem? (i := 1) rfl)) (ty := .long) (by decide) rfl rfl (g := (mkF m 82 #[.val (.long q0), .second, .val (.long q1), .second, .val (.long q2), .second, .val (.long q3), .second, .val (.long q4), .second, .val (.long q5), .second, .val (.ref b1), .val (.ref b43), .unset, .unset] [(.long q1), (.ref b43)])) rfl rfl (hb hby at_82)
  have eE109 := eE96.wr W108
  have fF110 := fF97.other W108 (Or.inl ne_b1_b43)
  have fF111 := fF98.other W108 (Or.inl ne_b1_b43)
  have fF112 := fF99.other W108 (Or.inl ne_b1_b43)
  have fF113 := fF100.other W108 (Or.inl ne_b1_b43)
  have fF114 := fF101.other W108 (Or.inl ne_b1_b43)
  have eE115 := eE102.wr W108
  have fF116 := fF103.other W108 (Or.inr (slot_ne (Or.inl (hw _ (List.mem_of_getElem? (i := 10) rfl))) (Or.inl (hw _ (List.mem_of_getElem? (i := 18) rfl))) (by decide) (t := .long) (t' := .long) (by decide) (by decide)))
  have fF117 := fF104.other W108 (Or.inr (slot_ne (Or.inl (hw _ (List.mem_of_getElem? (i := 12) rfl))) (Or.inl (hw _ (List.mem_of_getElem? (i := 18) rfl))) (by decide) (t := .long) (t' := .long) (by decide) (by decide)))
  have fF118 := fF105.other W108 (Or.inr (slot_ne (Or.inl (hw _ (List.mem_of_getElem? (i := 14) rfl))) (Or.inl (hw _ (List.mem_of_getElem? (i := 18) rfl))) (by decide) (t := .long) (t' := .long) (by decide) (by decide)))
  have fF119 := fF106.other W108 (Or.inr (slot_ne (Or.inl (hw _ (List.mem_of_getElem? (i := 16) rfl))) (Or.inl (hw _ (List.mem_of_getElem? (i := 18) rfl))) (by decide) (t := .long) (t' := .long) (by decide) (by decide)))
  have fF120 := fF107.same W108
  have N108 := Fr.snoc X108 N95 g_b43
  have Z108 := Nat.le_trans Z95 (Keep.of_wr W108).1
  obtain ⟨cq121, kq121, q121a, q121b, q121c⟩ := isOf hZ e108 eE109
  obtain ⟨_, _, ⟨T121, L121, k121, n121⟩, -, X121, ⟨Lc121, hQ121, l121, y121, z121⟩, st121⟩ := X108.virtualBack hx (y := (⟨"com/example/sluis/sluis/cli/BenchRun$Tally", "add", "(Lcom/example/sluis/sluis/cli/BenchRun$Tally;)V"⟩ : MethodName)) (z := (⟨"com/example/sluis/sluis/cli/BenchRun$Tally", "add", "(Lcom/example/sluis/sluis/cli/BenchRun$Tally;)V"⟩ : MethodName)) hown (mvT hZ (hw _ (List.mem_of_getElem? (i := 19) rfl))) (mvT hZ (hw _ (List.mem_of_getElem? (i := 20) rfl))) (notFace_of_selects (args := #[]) (mvT hZ (hw _ (List.mem_of_getElem? (i := 22) rfl)))) (mvT hZ (hw _ (List.mem_of_getElem? (i := 22) rfl))) (mvT hZ (hw _ (List.mem_of_getElem? (i := 21) rfl))) (by decide) (backOf (W := 0) (rm3 l Z a0 hw [] b1 b43 q0 q1 q2 q3 q4 q5 q4 q3 q2 q1 h108 n0 Z108 fF110 fF111 fF112 fF113 fF114 eE109 g_b1 ne_b1_b43 eE115 fF116 fF117 fF118 fF119 fF120) hZ (hw _ (List.mem_of_getElem? (i := 23) rfl)) (hw _ (List.mem_of_getElem? (i := 2) rfl)) (by decide) (by decide)) q121a q121c (g := (mkF m 89 #[.val (.long q0), .second, .val (.long q1), .second, .val (.long q2), .second, .val (.long q3), .second, .val (.long q4), .second, .val (.long q5), .second, .val (.ref b1), .val (.ref b43), .unset, .unset] [(.ref b43), (.ref b1)])) rfl (by rw [hml]; rfl) (Steps.refl _) (argsL := [(.ref b43)]) (rest := []) (lenOf pd_2 rfl) rfl (by show 2 * 0 + _ ≤ _; exact Nat.le_of_eq rfl) (hb hby at_89) (fun _ _ => ⟨rfl, e108, (by decide : 2 + 0 ≤ _), (by decide : 10 + 0 ≤ _)⟩)
  dsimp only [Pt.U, Pt.locs, Pt.cells, Pt.slots] at X121 l121 y121 z121 st121 hQ121
  subst l121 y121 z121
  obtain ⟨rfl, N121q, K121, G122, G123, G124, G125, G126, G127⟩ := hQ121
  have eE128 := eE115.keep K121
  have fF129 := fF116.keep K121 (ninS (Ne.symm ne_b1_b43) nin0)
  have fF130 := fF117.keep K121 (ninS (Ne.symm ne_b1_b43) nin0)
  have fF131 := fF118.keep K121 (ninS (Ne.symm ne_b1_b43) nin0)
  have fF132 := fF119.keep K121 (ninS (Ne.symm ne_b1_b43) nin0)
  have fF133 := fF120.keep K121 (ninS (Ne.symm ne_b1_b43) nin0)
  have Z121 := Nat.le_trans Z108 K121.1
  have N121 := Fr.app N108 N121q
  obtain ⟨T134, X134, e134, st134⟩ := getF X121 hx hZ hown (host := "") (Or.inl (hw _ (List.mem_of_getElem? (i := 9) rfl))) Via.refl rfl G123 (g := (mkF m 94 #[.val (.long q0), .second, .val (.long q1), .second, .val (.long q2), .second, .val (.long q3), .second, .val (.long q4), .second, .val (.long q5), .second, .val (.ref b1), .val (.ref b43), .unset, .unset] [(.ref b1)])) rfl rfl (hb hby at_94)
  obtain ⟨T135, X135, e135, st135⟩ := getF X134 hx hZ hown (host := "") (Or.inl (hw _ (List.mem_of_getElem? (i := 11) rfl))) Via.refl e134 G124 (g := (mkF m 107 #[.val (.long q0), .second, .val (.long q1), .second, .val (.long q2), .second, .val (.long q3), .second, .val (.long q4), .second, .val (.long q5), .second, .val (.ref b1), .val (.ref b43), .unset, .unset] [(.ref b1)])) rfl rfl (hb hby at_107)
  obtain ⟨T136, X136, e136, st136⟩ := getF X135 hx hZ hown (host := "") (Or.inl (hw _ (List.mem_of_getElem? (i := 13) rfl))) Via.refl e135 G125 (g := (mkF m 120 #[.val (.long q0), .second, .val (.long q1), .second, .val (.long q2), .second, .val (.long q3), .second, .val (.long q4), .second, .val (.long q5), .second, .val (.ref b1), .val (.ref b43), .unset, .unset] [(.ref b1)])) rfl rfl (hb hby at_120)
  obtain ⟨T137, X137, e137, st137⟩ := getF X136 hx hZ hown (host := "") (Or.inl (hw _ (List.mem_of_getElem? (i := 15) rfl))) Via.refl e136 G126 (g := (mkF m 134 #[.val (.long q0), .second, .val (.long q1), .second, .val (.long q2), .second, .val (.long q3), .second, .val (.long q4), .second, .val (.long q5), .second, .val (.ref b1), .val (.ref b43), .unset, .unset] [(.ref b1)])) rfl rfl (hb hby at_134)
  obtain ⟨T138, X138, e138, st138⟩ := getF X137 hx hZ hown (host := "") (Or.inl (hw _ (List.mem_of_getElem? (i := 17) rfl))) Via.refl e137 G127 (g := (mkF m 148 #[.val (.long q0), .second, .val (.long q1), .second, .val (.long q2), .second, .val (.long q3), .second, .val (.long q4), .second, .val (.long q5), .second, .val (.ref b1), .val (.ref b43), .unset, .unset] [(.ref b1)])) rfl rfl (hb hby at_148)
  obtain ⟨_, _, ⟨T139, L139, k139, n139⟩, -, X139, ⟨Lc139, hQ139, l139, y139, z139⟩, st139⟩ := Jvm.LawKit.callS X138 hx (y := (⟨"com/example/sluis/sluis/cli/TallyAddPinLaw", "larger", "(JJ)J"⟩ : MethodName)) hown (mvT hZ (hw _ (List.mem_of_getElem? (i := 33) rfl))) (mvT hZ (hw _ (List.mem_of_getElem? (i := 34) rfl))) (mvT hZ (hw _ (List.mem_of_getElem? (i := 35) rfl))) (mvT hZ (hw _ (List.mem_of_getElem? (i := 36) rfl))) (by decide) (backOf (W := 2) (rm5 l Z a0 hw [] q4 q1 T121.heap n0 Z121) hZ (hw _ (List.mem_of_getElem? (i := 36) rfl)) (hw _ (List.mem_of_getElem? (i := 35) rfl)) (by decide) (by decide)) (g := (mkF m 154 #[.val (.long q0), .second, .val (.long q1), .second, .val (.long q2), .second, .val (.long q3), .second, .val (.long q4), .second, .val (.long q5), .second, .val (.ref b1), .val (.ref b43), .unset, .unset] [(.long q1), (.long q4), (.long (F4 q4 q1))])) rfl (by rw [hml]; rfl) (argsL := [(.long q4), (.long q1)]) (rest := [(.long (F4 q4 q1))]) (lenOf pd_1 rfl) rfl (by show 2 * 0 + _ ≤ _; exact Nat.le_of_eq rfl) (hb hby at_154) (fun _ _ => ⟨rfl, e138, (by decide : 2 + 0 ≤ _), (by decide : 10 + 0 ≤ _)⟩)
  dsimp only [Pt.U, Pt.locs, Pt.cells, Pt.slots] at X139 l139 y139 z139 st139 hQ139
  subst l139 y139 z139
  obtain ⟨rfl, N139q, e139⟩ := hQ139
  have N139 := Fr.app N121 N139q
  have hc158 : (F4 q4 q1) = (F5 q4 q1) := rfl
  obtain ⟨T140, X140, e140, st140⟩ := getF X139 hx hZ hown (host := "") (Or.inl (hw _ (List.mem_of_getElem? (i := 9) rfl))) Via.refl e139 fF129 (g := (mkF m 170 #[.val (.long q0), .second, .val (.long q1), .second, .val (.long q2), .second, .val (.long q3), .second, .val (.long q4), .second, .val (.long q5), .second, .val (.ref b1), .val (.ref b43), .val (.int (1 : Int32)), .unset] [(.ref b43)])) rfl rfl (hb hby at_170)
  obtain ⟨T141, X141, e141, st141⟩ := getF X140 hx hZ hown (host := "") (Or.inl (hw _ (List.mem_of_getElem? (i := 11) rfl))) Via.refl e140 fF130 (g := (mkF m 181 #[.val (.long q0), .second, .val (.long q1), .second, .val (.long q2), .second, .val (.long q3), .second, .val (.long q4), .second, .val (.long q5), .second, .val (.ref b1), .val (.ref b43), .val (.int (1 : Int32)), .unset] [(.ref b43)])) rfl rfl (hb hby at_181)
  obtain ⟨T142, X142, e142, st142⟩ := getF X141 hx hZ hown (host := "") (Or.inl (hw _ (List.mem_of_getElem? (i := 13) rfl))) Via.refl e141 fF131 (g := (mkF m 192 #[.val (.long q0), .second, .val (.long q1), .second, .val (.long q2), .second, .val (.long q3), .second, .val (.long q4), .second, .val (.long q5), .second, .val (.ref b1), .val (.ref b43), .val (.int (1 : Int32)), .unset] [(.ref b43)])) rfl rfl (hb hby at_192)
  obtain ⟨T143, X143, e143, st143⟩ := getF X142 hx hZ hown (host := "") (Or.inl (hw _ (List.mem_of_getElem? (i := 15) rfl))) Via.refl e142 fF132 (g := (mkF m 203 #[.val (.long q0), .second, .val (.long q1), .second, .val (.long q2), .second, .val (.long q3), .second, .val (.long q4), .second, .val (.long q5), .second, .val (.ref b1), .val (.ref b43), .val (.int (1 : Int32)), .unset] [(.ref b43)])) rfl rfl (hb hby at_203)
  obtain ⟨T144, X144, e144, st144⟩ := getF X143 hx hZ hown (host := "") (Or.inl (hw _ (List.mem_of_getElem? (i := 17) rfl))) Via.refl e143 fF133 (g := (mkF m 214 #[.val (.long q0), .second, .val (.long q1), .second, .val (.long q2), .second, .val (.long q3), .second, .val (.long q4), .second, .val (.long q5), .second, .val (.ref b1), .val (.ref b43), .val (.int (1 : Int32)), .unset] [(.ref b43)])) rfl rfl (hb hby at_214)
  obtain ⟨fs, hr, hrun, hended, hW, hsame⟩ := X144.leave (v := some (.int (1 : Int32))) (fun h => by rw [Bd.returns] at h; cases h)
  refine ⟨_, _, pre0 _ ?_, hrun, hended, _, _, rfl, ?_, ⟨_, rfl⟩, hW, hsame.mono (by decide) (by decide)⟩
  · show Steps p.tables e below (s₁.setTop (mkF m 0 #[.val (.long q0), .second, .val (.long q1), .second, .val (.long q2), .second, .val (.long q3), .second, .val (.long q4), .second, .val (.long q5), .second, .unset, .unset, .unset, .unset] [])) _
    refine st1 _ ?_
    show Steps p.tables e below (T1.setTop (mkF m 3 #[.val (.long q0), .second, .val (.long q1), .second, .val (.long q2), .second, .val (.long q3), .second, .val (.long q4), .second, .val (.long q5), .second, .unset, .unset, .unset, .unset] [(.ref b1)])) _
    refine XS.dup X1.here hx rfl (hb hby at_3) rfl rfl ?_
    show Steps p.tables e below (T1.setTop (mkF m 4 #[.val (.long q0), .second, .val (.long q1), .second, .val (.long q2), .second, .val (.long q3), .second, .val (.long q4), .second, .val (.long q5), .second, .unset, .unset, .unset, .unset] [(.ref b1), (.ref b1)])) _
    refine st7.trans ?_
    show Steps p.tables e below (T7.setTop (mkF m 7 #[.val (.long q0), .second, .val (.long q1), .second, .val (.long q2), .second, .val (.long q3), .second, .val (.long q4), .second, .val (.long q5), .second, .unset, .unset, .unset, .unset] [(.ref b1)])) _
    refine XS.astore X7.here hx rfl (hb hby at_7) rfl rfl (l' := #[.val (.long q0), .second, .val (.long q1), .second, .val (.long q2), .second, .val (.long q3), .second, .val (.long q4), .second, .val (.long q5), .second, .val (.ref b1), .unset, .unset, .unset]) rfl ?_
    show Steps p.tables e below (T7.setTop (mkF m 9 #[.val (.long q0), .second, .val (.long q1), .second, .val (.long q2), .second, .val (.long q3), .second, .val (.long q4), .second, .val (.long q5), .second, .val (.ref b1), .unset, .unset, .unset] [])) _
    refine XS.aload X7.here hx rfl (hb hby at_9) rfl rfl ?_
    show Steps p.tables e below (T7.setTop (mkF m 11 #[.val (.long q0), .second, .val (.long q1), .second, .val (.long q2), .second, .val (.long q3), .second, .val (.long q4), .second, .val (.long q5), .second, .val (.ref b1), .unset, .unset, .unset] [(.ref b1)])) _
    refine XS.lloadN X7.here hx rfl (hb hby at_11) rfl ?_
    show Steps p.tables e below (T7.setTop (mkF m 12 #[.val (.long q0), .second, .val (.long q1), .second, .val (.long q2), .second, .val (.long q3), .second, .val (.long q4), .second, .val (.long q5), .second, .val (.ref b1), .unset, .unset, .unset] [(.long q0), (.ref b1)])) _
    refine st8 _ ?_
    show Steps p.tables e below (T8.setTop (mkF m 15 #[.val (.long q0), .second, .val (.long q1), .second, .val (.long q2), .second, .val (.long q3), .second, .val (.long q4), .second, .val (.long q5), .second, .val (.ref b1), .unset, .unset, .unset] [])) _
    refine XS.aload X8.here hx rfl (hb hby at_15) rfl rfl ?_
    show Steps p.tables e below (T8.setTop (mkF m 17 #[.val (.long q0), .second, .val (.long q1), .second, .val (.long q2), .second, .val (.long q3), .second, .val (.long q4), .second, .val (.long q5), .second, .val (.ref b1), .unset, .unset, .unset] [(.ref b1)])) _
    refine XS.lloadN X8.here hx rfl (hb hby at_17) rfl ?_
    show Steps p.tables e below (T8.setTop (mkF m 18 #[.val (.long q0), .second, .val (.long q1), .second, .val (.long q2), .second, .val (.long q3), .second, .val (.long q4), .second, .val (.long q5), .second, .val (.ref b1), .unset, .unset, .unset] [(.long q1), (.ref b1)])) _
    refine st15 _ ?_
    show Steps p.tables e below (T15.setTop (mkF m 21 #[.val (.long q0), .second, .val (.long q1), .second, .val (.long q2), .second, .val (.long q3), .second, .val (.long q4), .second, .val (.long q5), .second, .val (.ref b1), .unset, .unset, .unset] [])) _
    refine XS.aload X15.here hx rfl (hb hby at_21) rfl rfl ?_
    show Steps p.tables e below (T15.setTop (mkF m 23 #[.val (.long q0), .second, .val (.long q1), .second, .val (.long q2), .second, .val (.long q3), .second, .val (.long q4), .second, .val (.long q5), .second, .val (.ref b1), .unset, .unset, .unset] [(.ref b1)])) _
    refine XS.lload X15.here hx rfl (hb hby at_23) rfl ?_
    show Steps p.tables e below (T15.setTop (mkF m 25 #[.val (.long q0), .second, .val (.long q1), .second, .val (.long q2), .second, .val (.long q3), .second, .val (.long q4), .second, .val (.long q5), .second, .val (.ref b1), .unset, .unset, .unset] [(.long q2), (.ref b1)])) _
    refine st22 _ ?_
    show Steps p.tables e below (T22.setTop (mkF m 28 #[.val (.long q0), .second, .val (.long q1), .second, .val (.long q2), .second, .val (.long q3), .second, .val (.long q4), .second, .val (.long q5), .second, .val (.ref b1), .unset, .unset, .unset] [])) _
    refine XS.aload X22.here hx rfl (hb hby at_28) rfl rfl ?_
    show Steps p.tables e below (T22.setTop (mkF m 30 #[.val (.long q0), .second, .val (.long q1), .second, .val (.long q2), .second, .val (.long q3), .second, .val (.long q4), .second, .val (.long q5), .second, .val (.ref b1), .unset, .unset, .unset] [(.ref b1)])) _
    refine XS.lload X22.here hx rfl (hb hby at_30) rfl ?_
    show Steps p.tables e below (T22.setTop (mkF m 32 #[.val (.long q0), .second, .val (.long q1), .second, .val (.long q2), .second, .val (.long q3), .second, .val (.long q4), .second, .val (.long q5), .second, .val (.ref b1), .unset, .unset, .unset] [(.long q3), (.ref b1)])) _
    refine st29 _ ?_
    show Steps p.tables e below (T29.setTop (mkF m 35 #[.val (.long q0), .second, .val (.long q1), .second, .val (.long q2), .second, .val (.long q3), .second, .val (.long q4), .second, .val (.long q5), .second, .val (.ref b1), .unset, .unset, .unset] [])) _
    refine XS.aload X29.here hx rfl (hb hby at_35) rfl rfl ?_
    show Steps p.tables e below (T29.setTop (mkF m 37 #[.val (.long q0), .second, .val (.long q1), .second, .val (.long q2), .second, .val (.long q3), .second, .val (.long q4), .second, .val (.long q5), .second, .val (.ref b1), .unset, .unset, .unset] [(.ref b1)])) _
    refine XS.lload X29.here hx rfl (hb hby at_37) rfl ?_
    show Steps p.tables e below (T29.setTop (mkF m 39 #[.val (.long q0), .second, .val (.long q1), .second, .val (.long q2), .second, .val (.long q3), .second, .val (.long q4), .second, .val (.long q5), .second, .val (.ref b1), .unset, .unset, .unset] [(.long q4), (.ref b1)])) _
    refine st36 _ ?_
    show Steps p.tables e below (T36.setTop (mkF m 42 #[.val (.long q0), .second, .val (.long q1), .second, .val (.long q2), .second, .val (.long q3), .second, .val (.long q4), .second, .val (.long q5), .second, .val (.ref b1), .unset, .unset, .unset] [])) _
    refine st43 _ ?_
    show Steps p.tables e below (T43.setTop (mkF m 45 #[.val (.long q0), .second, .val (.long q1), .second, .val (.long q2), .second, .val (.long q3), .second, .val (.long q4), .second, .val (.long q5), .second, .val (.ref b1), .unset, .unset, .unset] [(.ref b43)])) _
    refine XS.dup X43.here hx rfl (hb hby at_45) rfl rfl ?_
    show Steps p.tables e below (T43.setTop (mkF m 46 #[.val (.long q0), .second, .val (.long q1), .second, .val (.long q2), .second, .val (.long q3), .second, .val (.long q4), .second, .val (.long q5), .second, .val (.ref b1), .unset, .unset, .unset] [(.ref b43), (.ref b43)])) _
    refine st55.trans ?_
    show Steps p.tables e below (T55.setTop (mkF m 49 #[.val (.long q0), .second, .val (.long q1), .second, .val (.long q2), .second, .val (.long q3), .second, .val (.long q4), .second, .val (.long q5), .second, .val (.ref b1), .unset, .unset, .unset] [(.ref b43)])) _
    refine XS.astore X55.here hx rfl (hb hby at_49) rfl rfl (l' := #[.val (.long q0), .second, .val (.long q1), .second, .val (.long q2), .second, .val (.long q3), .second, .val (.long q4), .second, .val (.long q5), .second, .val (.ref b1), .val (.ref b43), .unset, .unset]) rfl ?_
    show Steps p.tables e below (T55.setTop (mkF m 51 #[.val (.long q0), .second, .val (.long q1), .second, .val (.long q2), .second, .val (.long q3), .second, .val (.long q4), .second, .val (.long q5), .second, .val (.ref b1), .val (.ref b43), .unset, .unset] [])) _
    refine XS.aload X55.here hx rfl (hb hby at_51) rfl rfl ?_
    show Steps p.tables e below (T55.setTop (mkF m 53 #[.val (.long q0), .second, .val (.long q1), .second, .val (.long q2), .second, .val (.long q3), .second, .val (.long q4), .second, .val (.long q5), .second, .val (.ref b1), .val (.ref b43), .unset, .unset] [(.ref b43)])) _
    refine XS.lload X55.here hx rfl (hb hby at_53) rfl ?_
    show Steps p.tables e below (T55.setTop (mkF m 55 #[.val (.long q0), .second, .val (.long q1), .second, .val (.long q2), .second, .val (.long q3), .second, .val (.long q4), .second, .val (.long q5), .second, .val (.ref b1), .val (.ref b43), .unset, .unset] [(.long q5), (.ref b43)])) _
    refine st56 _ ?_
    show Steps p.tables e below (T56.setTop (mkF m 58 #[.val (.long q0), .second, .val (.long q1), .second, .val (.long q2), .second, .val (.long q3), .second, .val (.long q4), .second, .val (.long q5), .second, .val (.ref b1), .val (.ref b43), .unset, .unset] [])) _
    refine XS.aload X56.here hx rfl (hb hby at_58) rfl rfl ?_
    show Steps p.tables e below (T56.setTop (mkF m 60 #[.val (.long q0), .second, .val (.long q1), .second, .val (.long q2), .second, .val (.long q3), .second, .val (.long q4), .second, .val (.long q5), .second, .val (.ref b1), .val (.ref b43), .unset, .unset] [(.ref b43)])) _
    refine XS.lload X56.here hx rfl (hb hby at_60) rfl ?_
    show Steps p.tables e below (T56.setTop (mkF m 62 #[.val (.long q0), .second, .val (.long q1), .second, .val (.long q2), .second, .val (.long q3), .second, .val (.long q4), .second, .val (.long q5), .second, .val (.ref b1), .val (.ref b43), .unset, .unset] [(.long q4), (.ref b43)])) _
    refine st69 _ ?_
    show Steps p.tables e below (T69.setTop (mkF m 65 #[.val (.long q0), .second, .val (.long q1), .second, .val (.long q2), .second, .val (.long q3), .second, .val (.long q4), .second, .val (.long q5), .second, .val (.ref b1), .val (.ref b43), .unset, .unset] [])) _
    refine XS.aload X69.here hx rfl (hb hby at_65) rfl rfl ?_
    show Steps p.tables e below (T69.setTop (mkF m 67 #[.val (.long q0), .second, .val (.long q1), .second, .val (.long q2), .second, .val (.long q3), .second, .val (.long q4), .second, .val (.long q5), .second, .val (.ref b1), .val (.ref b43), .unset, .unset] [(.ref b43)])) _
    refine XS.lload X69.here hx rfl (hb hby at_67) rfl ?_
    show Steps p.tables e below (T69.setTop (mkF m 69 #[.val (.long q0), .second, .val (.long q1), .second, .val (.long q2), .second, .val (.long q3), .second, .val (.long q4), .second, .val (.long q5), .second, .val (.ref b1), .val (.ref b43), .unset, .unset] [(.long q3), (.ref b43)])) _
    refine st82 _ ?_
    show Steps p.tables e below (T82.setTop (mkF m 72 #[.val (.long q0), .second, .val (.long q1), .second, .val (.long q2), .second, .val (.long q3), .second, .val (.long q4), .second, .val (.long q5), .second, .val (.ref b1), .val (.ref b43), .unset, .unset] [])) _
    refine XS.aload X82.here hx rfl (hb hby at_72) rfl rfl ?_
    show Steps p.tables e below (T82.setTop (mkF m 74 #[.val (.long q0), .second, .val (.long q1), .second, .val (.long q2), .second, .val (.long q3), .second, .val (.long q4), .second, .val (.long q5), .second, .val (.ref b1), .val (.ref b43), .unset, .unset] [(.ref b43)])) _
    refine XS.lload X82.here hx rfl (hb hby at_74) rfl ?_
    show Steps p.tables e below (T82.setTop (mkF m 76 #[.val (.long q0), .second, .val (.long q1), .second, .val (.long q2), .second, .val (.long q3), .second, .val (.long q4), .second, .val (.long q5), .second, .val (.ref b1), .val (.ref b43), .unset, .unset] [(.long q2), (.ref b43)])) _
    refine st95 _ ?_
    show Steps p.tables e below (T95.setTop (mkF m 79 #[.val (.long q0), .second, .val (.long q1), .second, .val (.long q2), .second, .val (.long q3), .second, .val (.long q4), .second, .val (.long q5), .second, .val (.ref b1), .val (.ref b43), .unset, .unset] [])) _
    refine XS.aload X95.here hx rfl (hb hby at_79) rfl rfl ?_
    show Steps p.tables e below (T95.setTop (mkF m 81 #[.val (.long q0), .second, .val (.long q1), .second, .val (.long q2), .second, .val (.long q3), .second, .val (.long q4), .second, .val (.long q5), .second, .val (.ref b1), .val (.ref b43), .unset, .unset] [(.ref b43)])) _
    refine XS.lloadN X95.here hx rfl (hb hby at_81) rfl ?_
    show Steps p.tables e below (T95.setTop (mkF m 82 #[.val (.long q0), .second, .val (.long q1), .second, .val (.long q2), .second, .val (.long q3), .second, .val (.long q4), .second, .val (.long q5), .second, .val (.ref b1), .val (.ref b43), .unset, .unset] [(.long q1), (.ref b43)])) _
    refine st108 _ ?_
    show Steps p.tables e below (T108.setTop (mkF m 85 #[.val (.long q0), .second, .val (.long q1), .second, .val (.long q2), .second, .val (.long q3), .second, .val (.long q4), .second, .val (.long q5), .second, .val (.ref b1), .val (.ref b43), .unset, .unset] [])) _
    refine XS.aload X108.here hx rfl (hb hby at_85) rfl rfl ?_
    show Steps p.tables e below (T108.setTop (mkF m 87 #[.val (.long q0), .second, .val (.long q1), .second, .val (.long q2), .second, .val (.long q3), .second, .val (.long q4), .second, .val (.long q5), .second, .val (.ref b1), .val (.ref b43), .unset, .unset] [(.ref b1)])) _
    refine XS.aload X108.here hx rfl (hb hby at_87) rfl rfl ?_
    show Steps p.tables e below (T108.setTop (mkF m 89 #[.val (.long q0), .second, .val (.long q1), .second, .val (.long q2), .second, .val (.long q3), .second, .val (.long q4), .second, .val (.long q5), .second, .val (.ref b1), .val (.ref b43), .unset, .unset] [(.ref b43), (.ref b1)])) _
    refine st121.trans ?_
    show Steps p.tables e below (T121.setTop (mkF m 92 #[.val (.long q0), .second, .val (.long q1), .second, .val (.long q2), .second, .val (.long q3), .second, .val (.long q4), .second, .val (.long q5), .second, .val (.ref b1), .val (.ref b43), .unset, .unset] [])) _
    refine XS.aload X121.here hx rfl (hb hby at_92) rfl rfl ?_
    show Steps p.tables e below (T121.setTop (mkF m 94 #[.val (.long q0), .second, .val (.long q1), .second, .val (.long q2), .second, .val (.long q3), .second, .val (.long q4), .second, .val (.long q5), .second, .val (.ref b1), .val (.ref b43), .unset, .unset] [(.ref b1)])) _
    refine st134 _ ?_
    show Steps p.tables e below (T134.setTop (mkF m 97 #[.val (.long q0), .second, .val (.long q1), .second, .val (.long q2), .second, .val (.long q3), .second, .val (.long q4), .second, .val (.long q5), .second, .val (.ref b1), .val (.ref b43), .unset, .unset] [(.long (q0 + q5))])) _
    refine XS.lloadN X134.here hx rfl (hb hby at_97) rfl ?_
    show Steps p.tables e below (T134.setTop (mkF m 98 #[.val (.long q0), .second, .val (.long q1), .second, .val (.long q2), .second, .val (.long q3), .second, .val (.long q4), .second, .val (.long q5), .second, .val (.ref b1), .val (.ref b43), .unset, .unset] [(.long q0), (.long (q0 + q5))])) _
    refine XS.lload X134.here hx rfl (hb hby at_98) rfl ?_
    show Steps p.tables e below (T134.setTop (mkF m 100 #[.val (.long q0), .second, .val (.long q1), .second, .val (.long q2), .second, .val (.long q3), .second, .val (.long q4), .second, .val (.long q5), .second, .val (.ref b1), .val (.ref b43), .unset, .unset] [(.long q5), (.long q0), (.long (q0 + q5))])) _
    refine XS.ladd X134.here hx rfl (hb hby at_100) rfl ?_
    show Steps p.tables e below (T134.setTop (mkF m 101 #[.val (.long q0), .second, .val (.long q1), .second, .val (.long q2), .second, .val (.long q3), .second, .val (.long q4), .second, .val (.long q5), .second, .val (.ref b1), .val (.ref b43), .unset, .unset] [(.long (q0 + q5)), (.long (q0 + q5))])) _
    refine XS.lcmp X134.here hx rfl (hb hby at_101) rfl ?_
    show Steps p.tables e below (T134.setTop (mkF m 102 #[.val (.long q0), .second, .val (.long q1), .second, .val (.long q2), .second, .val (.long q3), .second, .val (.long q4), .second, .val (.long q5), .second, .val (.ref b1), .val (.ref b43), .unset, .unset] [(.int (lcmpW (q0 + q5) (q0 + q5)))])) _
    refine XS.ifNo X134.here hx rfl (hb hby at_102) rfl (lcN_ne (rfl : (q0 + q5) = (q0 + q5))) ?_
    show Steps p.tables e below (T134.setTop (mkF m 105 #[.val (.long q0), .second, .val (.long q1), .second, .val (.long q2), .second, .val (.long q3), .second, .val (.long q4), .second, .val (.long q5), .second, .val (.ref b1), .val (.ref b43), .unset, .unset] [])) _
    refine XS.aload X134.here hx rfl (hb hby at_105) rfl rfl ?_
    show Steps p.tables e below (T134.setTop (mkF m 107 #[.val (.long q0), .second, .val (.long q1), .second, .val (.long q2), .second, .val (.long q3), .second, .val (.long q4), .second, .val (.long q5), .second, .val (.ref b1), .val (.ref b43), .unset, .unset] [(.ref b1)])) _
    refine st135 _ ?_
    show Steps p.tables e below (T135.setTop (mkF m 110 #[.val (.long q0), .second, .val (.long q1), .second, .val (.long q2), .second, .val (.long q3), .second, .val (.long q4), .second, .val (.long q5), .second, .val (.ref b1), .val (.ref b43), .unset, .unset] [(.long (q1 + q4))])) _
    refine XS.lloadN X135.here hx rfl (hb hby at_110) rfl ?_
    show Steps p.tables e below (T135.setTop (mkF m 111 #[.val (.long q0), .second, .val (.long q1), .second, .val (.long q2), .second, .val (.long q3), .second, .val (.long q4), .second, .val (.long q5), .second, .val (.ref b1), .val (.ref b43), .unset, .unset] [(.long q1), (.long (q1 + q4))])) _
    refine XS.lload X135.here hx rfl (hb hby at_111) rfl ?_
    show Steps p.tables e below (T135.setTop (mkF m 113 #[.val (.long q0), .second, .val (.long q1), .second, .val (.long q2), .second, .val (.long q3), .second, .val (.long q4), .second, .val (.long q5), .second, .val (.ref b1), .val (.ref b43), .unset, .unset] [(.long q4), (.long q1), (.long (q1 + q4))])) _
    refine XS.ladd X135.here hx rfl (hb hby at_113) rfl ?_
    show Steps p.tables e below (T135.setTop (mkF m 114 #[.val (.long q0), .second, .val (.long q1), .second, .val (.long q2), .second, .val (.long q3), .second, .val (.long q4), .second, .val (.long q5), .second, .val (.ref b1), .val (.ref b43), .unset, .unset] [(.long (q1 + q4)), (.long (q1 + q4))])) _
    refine XS.lcmp X135.here hx rfl (hb hby at_114) rfl ?_
    show Steps p.tables e below (T135.setTop (mkF m 115 #[.val (.long q0), .second, .val (.long q1), .second, .val (.long q2), .second, .val (.long q3), .second, .val (.long q4), .second, .val (.long q5), .second, .val (.ref b1), .val (.ref b43), .unset, .unset] [(.int (lcmpW (q1 + q4) (q1 + q4)))])) _
    refine XS.ifNo X135.here hx rfl (hb hby at_115) rfl (lcN_ne (rfl : (q1 + q4) = (q1 + q4))) ?_
    show Steps p.tables e below (T135.setTop (mkF m 118 #[.val (.long q0), .second, .val (.long q1), .second, .val (.long q2), .second, .val (.long q3), .second, .val (.long q4), .second, .val (.long q5), .second, .val (.ref b1), .val (.ref b43), .unset, .unset] [])) _
    refine XS.aload X135.here hx rfl (hb hby at_118) rfl rfl ?_
    show Steps p.tables e below (T135.setTop (mkF m 120 #[.val (.long q0), .second, .val (.long q1), .second, .val (.long q2), .second, .val (.long q3), .second, .val (.long q4), .second, .val (.long q5), .second, .val (.ref b1), .val (.ref b43), .unset, .unset] [(.ref b1)])) _
    refine st136 _ ?_
    show Steps p.tables e below (T136.setTop (mkF m 123 #[.val (.long q0), .second, .val (.long q1), .second, .val (.long q2), .second, .val (.long q3), .second, .val (.long q4), .second, .val (.long q5), .second, .val (.ref b1), .val (.ref b43), .unset, .unset] [(.long (q2 + q3))])) _
    refine XS.lload X136.here hx rfl (hb hby at_123) rfl ?_
    show Steps p.tables e below (T136.setTop (mkF m 125 #[.val (.long q0), .second, .val (.long q1), .second, .val (.long q2), .second, .val (.long q3), .second, .val (.long q4), .second, .val (.long q5), .second, .val (.ref b1), .val (.ref b43), .unset, .unset] [(.long q2), (.long (q2 + q3))])) _
    refine XS.lload X136.here hx rfl (hb hby at_125) rfl ?_
    show Steps p.tables e below (T136.setTop (mkF m 127 #[.val (.long q0), .second, .val (.long q1), .second, .val (.long q2), .second, .val (.long q3), .second, .val (.long q4), .second, .val (.long q5), .second, .val (.ref b1), .val (.ref b43), .unset, .unset] [(.long q3), (.long q2), (.long (q2 + q3))])) _
    refine XS.ladd X136.here hx rfl (hb hby at_127) rfl ?_
    show Steps p.tables e below (T136.setTop (mkF m 128 #[.val (.long q0), .second, .val (.long q1), .second, .val (.long q2), .second, .val (.long q3), .second, .val (.long q4), .second, .val (.long q5), .second, .val (.ref b1), .val (.ref b43), .unset, .unset] [(.long (q2 + q3)), (.long (q2 + q3))])) _
    refine XS.lcmp X136.here hx rfl (hb hby at_128) rfl ?_
    show Steps p.tables e below (T136.setTop (mkF m 129 #[.val (.long q0), .second, .val (.long q1), .second, .val (.long q2), .second, .val (.long q3), .second, .val (.long q4), .second, .val (.long q5), .second, .val (.ref b1), .val (.ref b43), .unset, .unset] [(.int (lcmpW (q2 + q3) (q2 + q3)))])) _
    refine XS.ifNo X136.here hx rfl (hb hby at_129) rfl (lcN_ne (rfl : (q2 + q3) = (q2 + q3))) ?_
    show Steps p.tables e below (T136.setTop (mkF m 132 #[.val (.long q0), .second, .val (.long q1), .second, .val (.long q2), .second, .val (.long q3), .second, .val (.long q4), .second, .val (.long q5), .second, .val (.ref b1), .val (.ref b43), .unset, .unset] [])) _
    refine XS.aload X136.here hx rfl (hb hby at_132) rfl rfl ?_
    show Steps p.tables e below (T136.setTop (mkF m 134 #[.val (.long q0), .second, .val (.long q1), .second, .val (.long q2), .second, .val (.long q3), .second, .val (.long q4), .second, .val (.long q5), .second, .val (.ref b1), .val (.ref b43), .unset, .unset] [(.ref b1)])) _
    refine st137 _ ?_
    show Steps p.tables e below (T137.setTop (mkF m 137 #[.val (.long q0), .second, .val (.long q1), .second, .val (.long q2), .second, .val (.long q3), .second, .val (.long q4), .second, .val (.long q5), .second, .val (.ref b1), .val (.ref b43), .unset, .unset] [(.long (q3 + q2))])) _
    refine XS.lload X137.here hx rfl (hb hby at_137) rfl ?_
    show Steps p.tables e below (T137.setTop (mkF m 139 #[.val (.long q0), .second, .val (.long q1), .second, .val (.long q2), .second, .val (.long q3), .second, .val (.long q4), .second, .val (.long q5), .second, .val (.ref b1), .val (.ref b43), .unset, .unset] [(.long q3), (.long (q3 + q2))])) _
    refine XS.lload X137.here hx rfl (hb hby at_139) rfl ?_
    show Steps p.tables e below (T137.setTop (mkF m 141 #[.val (.long q0), .second, .val (.long q1), .second, .val (.long q2), .second, .val (.long q3), .second, .val (.long q4), .second, .val (.long q5), .second, .val (.ref b1), .val (.ref b43), .unset, .unset] [(.long q2), (.long q3), (.long (q3 + q2))])) _
    refine XS.ladd X137.here hx rfl (hb hby at_141) rfl ?_
    show Steps p.tables e below (T137.setTop (mkF m 142 #[.val (.long q0), .second, .val (.long q1), .second, .val (.long q2), .second, .val (.long q3), .second, .val (.long q4), .second, .val (.long q5), .second, .val (.ref b1), .val (.ref b43), .unset, .unset] [(.long (q3 + q2)), (.long (q3 + q2))])) _
    refine XS.lcmp X137.here hx rfl (hb hby at_142) rfl ?_
    show Steps p.tables e below (T137.setTop (mkF m 143 #[.val (.long q0), .second, .val (.long q1), .second, .val (.long q2), .second, .val (.long q3), .second, .val (.long q4), .second, .val (.long q5), .second, .val (.ref b1), .val (.ref b43), .unset, .unset] [(.int (lcmpW (q3 + q2) (q3 + q2)))])) _
    refine XS.ifNo X137.here hx rfl (hb hby at_143) rfl (lcN_ne (rfl : (q3 + q2) = (q3 + q2))) ?_
    show Steps p.tables e below (T137.setTop (mkF m 146 #[.val (.long q0), .second, .val (.long q1), .second, .val (.long q2), .second, .val (.long q3), .second, .val (.long q4), .second, .val (.long q5), .second, .val (.ref b1), .val (.ref b43), .unset, .unset] [])) _
    refine XS.aload X137.here hx rfl (hb hby at_146) rfl rfl ?_
    show Steps p.tables e below (T137.setTop (mkF m 148 #[.val (.long q0), .second, .val (.long q1), .second, .val (.long q2), .second, .val (.long q3), .second, .val (.long q4), .second, .val (.long q5), .second, .val (.ref b1), .val (.ref b43), .unset, .unset] [(.ref b1)])) _
    refine st138 _ ?_
    show Steps p.tables e below (T138.setTop (mkF m 151 #[.val (.long q0), .second, .val (.long q1), .second, .val (.long q2), .second, .val (.long q3), .second, .val (.long q4), .second, .val (.long q5), .second, .val (.ref b1), .val (.ref b43), .unset, .unset] [(.long (F4 q4 q1))])) _
    refine XS.lload X138.here hx rfl (hb hby at_151) rfl ?_
    show Steps p.tables e below (T138.setTop (mkF m 153 #[.val (.long q0), .second, .val (.long q1), .second, .val (.long q2), .second, .val (.long q3), .second, .val (.long q4), .second, .val (.long q5), .second, .val (.ref b1), .val (.ref b43), .unset, .unset] [(.long q4), (.long (F4 q4 q1))])) _
    refine XS.lloadN X138.here hx rfl (hb hby at_153) rfl ?_
    show Steps p.tables e below (T138.setTop (mkF m 154 #[.val (.long q0), .second, .val (.long q1), .second, .val (.long q2), .second, .val (.long q3), .second, .val (.long q4), .second, .val (.long q5), .second, .val (.ref b1), .val (.ref b43), .unset, .unset] [(.long q1), (.long q4), (.long (F4 q4 q1))])) _
    refine st139 _ ?_
    show Steps p.tables e below (T139.setTop (mkF m 157 #[.val (.long q0), .second, .val (.long q1), .second, .val (.long q2), .second, .val (.long q3), .second, .val (.long q4), .second, .val (.long q5), .second, .val (.ref b1), .val (.ref b43), .unset, .unset] [(.long (F5 q4 q1)), (.long (F4 q4 q1))])) _
    refine XS.lcmp X139.here hx rfl (hb hby at_157) rfl ?_
    show Steps p.tables e below (T139.setTop (mkF m 158 #[.val (.long q0), .second, .val (.long q1), .second, .val (.long q2), .second, .val (.long q3), .second, .val (.long q4), .second, .val (.long q5), .second, .val (.ref b1), .val (.ref b43), .unset, .unset] [(.int (lcmpW (F4 q4 q1) (F5 q4 q1)))])) _
    refine XS.ifNo X139.here hx rfl (hb hby at_158) rfl (lcN_ne hc158) ?_
    show Steps p.tables e below (T139.setTop (mkF m 161 #[.val (.long q0), .second, .val (.long q1), .second, .val (.long q2), .second, .val (.long q3), .second, .val (.long q4), .second, .val (.long q5), .second, .val (.ref b1), .val (.ref b43), .unset, .unset] [])) _
    refine XS.iconst X139.here hx rfl (hb hby at_161) ?_
    show Steps p.tables e below (T139.setTop (mkF m 162 #[.val (.long q0), .second, .val (.long q1), .second, .val (.long q2), .second, .val (.long q3), .second, .val (.long q4), .second, .val (.long q5), .second, .val (.ref b1), .val (.ref b43), .unset, .unset] [(.int (1 : Int32))])) _
    refine XS.goto X139.here hx rfl (pc0 := 162) (pc' := 166) rfl (hb hby at_162) (by decide) (by decide) ?_
    show Steps p.tables e below (T139.setTop (mkF m 166 #[.val (.long q0), .second, .val (.long q1), .second, .val (.long q2), .second, .val (.long q3), .second, .val (.long q4), .second, .val (.long q5), .second, .val (.ref b1), .val (.ref b43), .unset, .unset] [(.int (1 : Int32))])) _
    refine XS.istore X139.here hx rfl (hb hby at_166) rfl (l' := #[.val (.long q0), .second, .val (.long q1), .second, .val (.long q2), .second, .val (.long q3), .second, .val (.long q4), .second, .val (.long q5), .second, .val (.ref b1), .val (.ref b43), .val (.int (1 : Int32)), .unset]) rfl ?_
    show Steps p.tables e below (T139.setTop (mkF m 168 #[.val (.long q0), .second, .val (.long q1), .second, .val (.long q2), .second, .val (.long q3), .second, .val (.long q4), .second, .val (.long q5), .second, .val (.ref b1), .val (.ref b43), .val (.int (1 : Int32)), .unset] [])) _
    refine XS.aload X139.here hx rfl (hb hby at_168) rfl rfl ?_
    show Steps p.tables e below (T139.setTop (mkF m 170 #[.val (.long q0), .second, .val (.long q1), .second, .val (.long q2), .second, .val (.long q3), .second, .val (.long q4), .second, .val (.long q5), .second, .val (.ref b1), .val (.ref b43), .val (.int (1 : Int32)), .unset] [(.ref b43)])) _
    refine st140 _ ?_
    show Steps p.tables e below (T140.setTop (mkF m 173 #[.val (.long q0), .second, .val (.long q1), .second, .val (.long q2), .second, .val (.long q3), .second, .val (.long q4), .second, .val (.long q5), .second, .val (.ref b1), .val (.ref b43), .val (.int (1 : Int32)), .unset] [(.long q5)])) _
    refine XS.lload X140.here hx rfl (hb hby at_173) rfl ?_
    show Steps p.tables e below (T140.setTop (mkF m 175 #[.val (.long q0), .second, .val (.long q1), .second, .val (.long q2), .second, .val (.long q3), .second, .val (.long q4), .second, .val (.long q5), .second, .val (.ref b1), .val (.ref b43), .val (.int (1 : Int32)), .unset] [(.long q5), (.long q5)])) _
    refine XS.lcmp X140.here hx rfl (hb hby at_175) rfl ?_
    show Steps p.tables e below (T140.setTop (mkF m 176 #[.val (.long q0), .second, .val (.long q1), .second, .val (.long q2), .second, .val (.long q3), .second, .val (.long q4), .second, .val (.long q5), .second, .val (.ref b1), .val (.ref b43), .val (.int (1 : Int32)), .unset] [(.int (lcmpW q5 q5))])) _
    refine XS.ifNo X140.here hx rfl (hb hby at_176) rfl (lcN_ne (rfl : q5 = q5)) ?_
    show Steps p.tables e below (T140.setTop (mkF m 179 #[.val (.long q0), .second, .val (.long q1), .second, .val (.long q2), .second, .val (.long q3), .second, .val (.long q4), .second, .val (.long q5), .second, .val (.ref b1), .val (.ref b43), .val (.int (1 : Int32)), .unset] [])) _
    refine XS.aload X140.here hx rfl (hb hby at_179) rfl rfl ?_
    show Steps p.tables e below (T140.setTop (mkF m 181 #[.val (.long q0), .second, .val (.long q1), .second, .val (.long q2), .second, .val (.long q3), .second, .val (.long q4), .second, .val (.long q5), .second, .val (.ref b1), .val (.ref b43), .val (.int (1 : Int32)), .unset] [(.ref b43)])) _
    refine st141 _ ?_
    show Steps p.tables e below (T141.setTop (mkF m 184 #[.val (.long q0), .second, .val (.long q1), .second, .val (.long q2), .second, .val (.long q3), .second, .val (.long q4), .second, .val (.long q5), .second, .val (.ref b1), .val (.ref b43), .val (.int (1 : Int32)), .unset] [(.long q4)])) _
    refine XS.lload X141.here hx rfl (hb hby at_184) rfl ?_
    show Steps p.tables e below (T141.setTop (mkF m 186 #[.val (.long q0), .second, .val (.long q1), .second, .val (.long q2), .second, .val (.long q3), .second, .val (.long q4), .second, .val (.long q5), .second, .val (.ref b1), .val (.ref b43), .val (.int (1 : Int32)), .unset] [(.long q4), (.long q4)])) _
    refine XS.lcmp X141.here hx rfl (hb hby at_186) rfl ?_
    show Steps p.tables e below (T141.setTop (mkF m 187 #[.val (.long q0), .second, .val (.long q1), .second, .val (.long q2), .second, .val (.long q3), .second, .val (.long q4), .second, .val (.long q5), .second, .val (.ref b1), .val (.ref b43), .val (.int (1 : Int32)), .unset] [(.int (lcmpW q4 q4))])) _
    refine XS.ifNo X141.here hx rfl (hb hby at_187) rfl (lcN_ne (rfl : q4 = q4)) ?_
    show Steps p.tables e below (T141.setTop (mkF m 190 #[.val (.long q0), .second, .val (.long q1), .second, .val (.long q2), .second, .val (.long q3), .second, .val (.long q4), .second, .val (.long q5), .second, .val (.ref b1), .val (.ref b43), .val (.int (1 : Int32)), .unset] [])) _
    refine XS.aload X141.here hx rfl (hb hby at_190) rfl rfl ?_
    show Steps p.tables e below (T141.setTop (mkF m 192 #[.val (.long q0), .second, .val (.long q1), .second, .val (.long q2), .second, .val (.long q3), .second, .val (.long q4), .second, .val (.long q5), .second, .val (.ref b1), .val (.ref b43), .val (.int (1 : Int32)), .unset] [(.ref b43)])) _
    refine st142 _ ?_
    show Steps p.tables e below (T142.setTop (mkF m 195 #[.val (.long q0), .second, .val (.long q1), .second, .val (.long q2), .second, .val (.long q3), .second, .val (.long q4), .second, .val (.long q5), .second, .val (.ref b1), .val (.ref b43), .val (.int (1 : Int32)), .unset] [(.long q3)])) _
    refine XS.lload X142.here hx rfl (hb hby at_195) rfl ?_
    show Steps p.tables e below (T142.setTop (mkF m 197 #[.val (.long q0), .second, .val (.long q1), .second, .val (.long q2), .second, .val (.long q3), .second, .val (.long q4), .second, .val (.long q5), .second, .val (.ref b1), .val (.ref b43), .val (.int (1 : Int32)), .unset] [(.long q3), (.long q3)])) _
    refine XS.lcmp X142.here hx rfl (hb hby at_197) rfl ?_
    show Steps p.tables e below (T142.setTop (mkF m 198 #[.val (.long q0), .second, .val (.long q1), .second, .val (.long q2), .second, .val (.long q3), .second, .val (.long q4), .second, .val (.long q5), .second, .val (.ref b1), .val (.ref b43), .val (.int (1 : Int32)), .unset] [(.int (lcmpW q3 q3))])) _
    refine XS.ifNo X142.here hx rfl (hb hby at_198) rfl (lcN_ne (rfl : q3 = q3)) ?_
    show Steps p.tables e below (T142.setTop (mkF m 201 #[.val (.long q0), .second, .val (.long q1), .second, .val (.long q2), .second, .val (.long q3), .second, .val (.long q4), .second, .val (.long q5), .second, .val (.ref b1), .val (.ref b43), .val (.int (1 : Int32)), .unset] [])) _
    refine XS.aload X142.here hx rfl (hb hby at_201) rfl rfl ?_
    show Steps p.tables e below (T142.setTop (mkF m 203 #[.val (.long q0), .second, .val (.long q1), .second, .val (.long q2), .second, .val (.long q3), .second, .val (.long q4), .second, .val (.long q5), .second, .val (.ref b1), .val (.ref b43), .val (.int (1 : Int32)), .unset] [(.ref b43)])) _
    refine st143 _ ?_
    show Steps p.tables e below (T143.setTop (mkF m 206 #[.val (.long q0), .second, .val (.long q1), .second, .val (.long q2), .second, .val (.long q3), .second, .val (.long q4), .second, .val (.long q5), .second, .val (.ref b1), .val (.ref b43), .val (.int (1 : Int32)), .unset] [(.long q2)])) _
    refine XS.lload X143.here hx rfl (hb hby at_206) rfl ?_
    show Steps p.tables e below (T143.setTop (mkF m 208 #[.val (.long q0), .second, .val (.long q1), .second, .val (.long q2), .second, .val (.long q3), .second, .val (.long q4), .second, .val (.long q5), .second, .val (.ref b1), .val (.ref b43), .val (.int (1 : Int32)), .unset] [(.long q2), (.long q2)])) _
    refine XS.lcmp X143.here hx rfl (hb hby at_208) rfl ?_
    show Steps p.tables e below (T143.setTop (mkF m 209 #[.val (.long q0), .second, .val (.long q1), .second, .val (.long q2), .second, .val (.long q3), .second, .val (.long q4), .second, .val (.long q5), .second, .val (.ref b1), .val (.ref b43), .val (.int (1 : Int32)), .unset] [(.int (lcmpW q2 q2))])) _
    refine XS.ifNo X143.here hx rfl (hb hby at_209) rfl (lcN_ne (rfl : q2 = q2)) ?_
    show Steps p.tables e below (T143.setTop (mkF m 212 #[.val (.long q0), .second, .val (.long q1), .second, .val (.long q2), .second, .val (.long q3), .second, .val (.long q4), .second, .val (.long q5), .second, .val (.ref b1), .val (.ref b43), .val (.int (1 : Int32)), .unset] [])) _
    refine XS.aload X143.here hx rfl (hb hby at_212) rfl rfl ?_
    show Steps p.tables e below (T143.setTop (mkF m 214 #[.val (.long q0), .second, .val (.long q1), .second, .val (.long q2), .second, .val (.long q3), .second, .val (.long q4), .second, .val (.long q5), .second, .val (.ref b1), .val (.ref b43), .val (.int (1 : Int32)), .unset] [(.ref b43)])) _
    refine st144 _ ?_
    show Steps p.tables e below (T144.setTop (mkF m 217 #[.val (.long q0), .second, .val (.long q1), .second, .val (.long q2), .second, .val (.long q3), .second, .val (.long q4), .second, .val (.long q5), .second, .val (.ref b1), .val (.ref b43), .val (.int (1 : Int32)), .unset] [(.long q1)])) _
    refine XS.lloadN X144.here hx rfl (hb hby at_217) rfl ?_
    show Steps p.tables e below (T144.setTop (mkF m 218 #[.val (.long q0), .second, .val (.long q1), .second, .val (.long q2), .second, .val (.long q3), .second, .val (.long q4), .second, .val (.long q5), .second, .val (.ref b1), .val (.ref b43), .val (.int (1 : Int32)), .unset] [(.long q1), (.long q1)])) _
    refine XS.lcmp X144.here hx rfl (hb hby at_218) rfl ?_
    show Steps p.tables e below (T144.setTop (mkF m 219 #[.val (.long q0), .second, .val (.long q1), .second, .val (.long q2), .second, .val (.long q3), .second, .val (.long q4), .second, .val (.long q5), .second, .val (.ref b1), .val (.ref b43), .val (.int (1 : Int32)), .unset] [(.int (lcmpW q1 q1))])) _
    refine XS.ifNo X144.here hx rfl (hb hby at_219) rfl (lcN_ne (rfl : q1 = q1)) ?_
    show Steps p.tables e below (T144.setTop (mkF m 222 #[.val (.long q0), .second, .val (.long q1), .second, .val (.long q2), .second, .val (.long q3), .second, .val (.long q4), .second, .val (.long q5), .second, .val (.ref b1), .val (.ref b43), .val (.int (1 : Int32)), .unset] [])) _
    refine XS.iconst X144.here hx rfl (hb hby at_222) ?_
    show Steps p.tables e below (T144.setTop (mkF m 223 #[.val (.long q0), .second, .val (.long q1), .second, .val (.long q2), .second, .val (.long q3), .second, .val (.long q4), .second, .val (.long q5), .second, .val (.ref b1), .val (.ref b43), .val (.int (1 : Int32)), .unset] [(.int (1 : Int32))])) _
    refine XS.goto X144.here hx rfl (pc0 := 223) (pc' := 227) rfl (hb hby at_223) (by decide) (by decide) ?_
    show Steps p.tables e below (T144.setTop (mkF m 227 #[.val (.long q0), .second, .val (.long q1), .second, .val (.long q2), .second, .val (.long q3), .second, .val (.long q4), .second, .val (.long q5), .second, .val (.ref b1), .val (.ref b43), .val (.int (1 : Int32)), .unset] [(.int (1 : Int32))])) _
    refine XS.istore X144.here hx rfl (hb hby at_227) rfl (l' := #[.val (.long q0), .second, .val (.long q1), .second, .val (.long q2), .second, .val (.long q3), .second, .val (.long q4), .second, .val (.long q5), .second, .val (.ref b1), .val (.ref b43), .val (.int (1 : Int32)), .val (.int (1 : Int32))]) rfl ?_
    show Steps p.tables e below (T144.setTop (mkF m 229 #[.val (.long q0), .second, .val (.long q1), .second, .val (.long q2), .second, .val (.long q3), .second, .val (.long q4), .second, .val (.long q5), .second, .val (.ref b1), .val (.ref b43), .val (.int (1 : Int32)), .val (.int (1 : Int32))] [])) _
    refine XS.iload X144.here hx rfl (hb hby at_229) rfl ?_
    show Steps p.tables e below (T144.setTop (mkF m 231 #[.val (.long q0), .second, .val (.long q1), .second, .val (.long q2), .second, .val (.long q3), .second, .val (.long q4), .second, .val (.long q5), .second, .val (.ref b1), .val (.ref b43), .val (.int (1 : Int32)), .val (.int (1 : Int32))] [(.int (1 : Int32))])) _
    refine XS.ifNo X144.here hx rfl (hb hby at_231) rfl ((if0 _ _).trans (feq (by decide : ¬ ((1 : Int32) = (0 : Int32)))).1) ?_
    show Steps p.tables e below (T144.setTop (mkF m 234 #[.val (.long q0), .second, .val (.long q1), .second, .val (.long q2), .second, .val (.long q3), .second, .val (.long q4), .second, .val (.long q5), .second, .val (.ref b1), .val (.ref b43), .val (.int (1 : Int32)), .val (.int (1 : Int32))] [])) _
    refine XS.iload X144.here hx rfl (hb hby at_234) rfl ?_
    show Steps p.tables e below (T144.setTop (mkF m 236 #[.val (.long q0), .second, .val (.long q1), .second, .val (.long q2), .second, .val (.long q3), .second, .val (.long q4), .second, .val (.long q5), .second, .val (.ref b1), .val (.ref b43), .val (.int (1 : Int32)), .val (.int (1 : Int32))] [(.int (1 : Int32))])) _
    refine XS.ifNo X144.here hx rfl (hb hby at_236) rfl ((if0 _ _).trans (feq (by decide : ¬ ((1 : Int32) = (0 : Int32)))).1) ?_
    show Steps p.tables e below (T144.setTop (mkF m 239 #[.val (.long q0), .second, .val (.long q1), .second, .val (.long q2), .second, .val (.long q3), .second, .val (.long q4), .second, .val (.long q5), .second, .val (.ref b1), .val (.ref b43), .val (.int (1 : Int32)), .val (.int (1 : Int32))] [])) _
    refine XS.iconst X144.here hx rfl (hb hby at_239) ?_
    show Steps p.tables e below (T144.setTop (mkF m 240 #[.val (.long q0), .second, .val (.long q1), .second, .val (.long q2), .second, .val (.long q3), .second, .val (.long q4), .second, .val (.long q5), .second, .val (.ref b1), .val (.ref b43), .val (.int (1 : Int32)), .val (.int (1 : Int32))] [(.int (1 : Int32))])) _
    refine XS.goto X144.here hx rfl (pc0 := 240) (pc' := 244) rfl (hb hby at_240) (by decide) (by decide) ?_
    show Steps p.tables e below (T144.setTop (mkF m 244 #[.val (.long q0), .second, .val (.long q1), .second, .val (.long q2), .second, .val (.long q3), .second, .val (.long q4), .second, .val (.long q5), .second, .val (.ref b1), .val (.ref b43), .val (.int (1 : Int32)), .val (.int (1 : Int32))] [(.int (1 : Int32))])) _
    exact retN X144 hx (t := .boolean) Bd.returns (by simp) (hb hby at_244) hr
  · show Q0 Z q0 q1 q2 q3 q4 q5 h0 n0 _ T144.heap _
    rw [e144]
    exact ⟨rfl, N139⟩
set_option maxRecDepth 65536 in
set_option maxHeartbeats 40000000 in
theorem comes_1 {Post : Tables → Env → Array Value → State → Outcome → State → Prop} (hpost : ∀ tb e args s v u, (limb_1_1.after args s (.returned v) u = true ∧ limb_1_2.after args s (.returned v) u = true ∧ True) → FrameEnd s (.returned v) u (Jvm.fieldLocs frame_1_writes args s ++ Jvm.arrayLocs frame_1_arrays args s ++ Jvm.staticLocs frame_1_statics s) 16 128 → Post tb e args s (.returned v) u) :
    ArmFor flags0 classFile x code maxLocals ret World_1 tables_1 room_1 Calls_1 rest_1 Pre_1 Post := by
  intro l hfl _ _ p e ha hc hk s m args below hf hA hF happ hP
  obtain ⟨hcalls, hrest, hpre⟩ := hP
  obtain ⟨-, -, -, hnamed, -, -, -, hat⟩ := (Spec.applies_iff hf).mp happ
  obtain ⟨hg, hn⟩ := and_e (Cond.before_iff.mp (show (Jvm.Cond.and given_1 narrow_1).before args s = true from hpre))
  obtain ⟨g1, g2⟩ := and_e hg
  obtain ⟨g3, g4⟩ := and_e g2
  obtain ⟨g5, g6⟩ := and_e g4
  obtain ⟨g7, g8⟩ := and_e g6
  obtain ⟨g9, g10⟩ := and_e g8
  obtain ⟨g11, g12⟩ := and_e g10
  obtain ⟨w0, w1, w2, w3, w4, w5, rfl⟩ : ∃ w0 w1 w2 w3 w4 w5 : Value, args = #[w0, w1, w2, w3, w4, w5] := by
    have hs : args.size = 6 := by simpa [Cond.value, given_1] using g1
    obtain ⟨L⟩ := args
    match L, hs with
    | [w0, w1, w2, w3, w4, w5], _ => exact ⟨w0, w1, w2, w3, w4, w5, rfl⟩
  have hw := fun d (hd : d ∈ tables_1) => atoms_spec (ws := Jvm.Cond.code x code maxLocals ret :: tables_1) hat d (List.mem_cons_of_mem _ hd)
  obtain ⟨i0, ei0⟩ := isL_v g3
  obtain rfl : w0 = (.long i0) := Option.some.inj ei0
  obtain ⟨i1, ei1⟩ := isL_v g5
  obtain rfl : w1 = (.long i1) := Option.some.inj ei1
  obtain ⟨i2, ei2⟩ := isL_v g7
  obtain rfl : w2 = (.long i2) := Option.some.inj ei2
  obtain ⟨i3, ei3⟩ := isL_v g9
  obtain rfl : w3 = (.long i3) := Option.some.inj ei3
  obtain ⟨i4, ei4⟩ := isL_v g11
  obtain rfl : w4 = (.long i4) := Option.some.inj ei4
  obtain ⟨i5, ei5⟩ := isL_v g12
  obtain rfl : w5 = (.long i5) := Option.some.inj ei5
  obtain ⟨n, o, h1, h2, h3, _, L, rfl, ⟨rfl, N⟩, hq⟩ := rm0 l s _ hw tables_1 i0 i1 i2 i3 i4 i5  s.heap s.heap.size (Nat.le_refl _)  p e ha hc hk s m _ below hf ((Spec.applies_iff_loose hf).mp happ).1 ⟨rfl, State.Warmed39.refl s, rfl⟩ trivial
  refine ⟨n, _, h1, h2, h3, hpost _ _ _ _ _ _ ⟨Cond.after_iff.mpr rfl, Cond.after_iff.mpr (eq_i res_at (Term.int_eval (1)) rfl), trivial⟩ ⟨hq.1, hq.2.1, (hq.2.2.sift fun y hy => Or.inr (N y hy)).mono (by decide) (by decide)⟩⟩
theorem main_1_1 : Claimed_1_1 := comes_1 fun _ _ _ _ _ _ h hF => ⟨h.1, hF⟩
theorem main_1_2 : Claimed_1_2 := comes_1 fun _ _ _ _ _ _ h hF => ⟨h.2.1, hF⟩
end Jvm.Pilot.@@N@@
namespace Jvm.Pilot.@@N@@
open Jvm Jvm.ClassFile Sem Op Lib Jvm.Free Jvm.Stand Jvm.Pilot.@@N@@.Jvm.D
/-! MADE BY PROGRAM (witnessworld.py) out of the Statement's table words and the real class files: 10 classes; the members and pool entries that the words name. The judged class is class 1, her method 2. -/
namespace start1
open Jvm.ClassFile
def u (s : String) : CpInfo := .utf8 (stringToUtf16 s)
/-- a pool by its gaps: so many unusable entries, then the entry; so many at the end -/
def gap : Nat → List CpInfo → List CpInfo
  | 0, r => r
  | n + 1, r => .unusable :: gap n r
def poolList (es : List (Nat × CpInfo)) (last : Nat) : List CpInfo := es.foldr (fun e r => gap e.1 (e.2 :: r)) (gap last [])
def pool (es : List (Nat × CpInfo)) (last : Nat) : Array CpInfo := ⟨poolList es last⟩
def fileOf (pool : Array CpInfo) (this : Nat) (attrs : Array Attribute := #[]) (ms : Array MethodInfo := #[]) (fl : Nat := 33) (sup : Nat := 0) (ifs : Array Nat := #[]) (fds : Array FieldInfo := #[]) : ClassFile where
  minorVersion := 0
  majorVersion := 65
  constantPool := pool
  accessFlags := fl
  thisClass := this
  superClass := sup
  interfaces := ifs
  fields := fds
  methods := ms
  attributes := attrs
def plain (name : String) (sup : Option ClassId) : Class where
  name := name
  kind := .ordinary
  loader := none
  accessFlags := 33
  super := sup
  interfaces := #[]
  cf := none
  fields := #[]
  methods := #[]
  instanceTypes := #[]
  staticTypes := #[]
  resolved := #[]
  callSites := []
  init := .initialized
  statics := none
  mirror := none

def pool0 : Array CpInfo := pool [(5, u "<init>"), (0, u "()V"), (1, .class_ 10), (1, u "java/lang/Object")] 113

def k0c0 : Code := { maxStack := 0, maxLocals := 1, code := object_method_1_code, exceptionTable := #[], attributes := #[] }
def k0m0 : Method := { name := "<init>", desc := "()V", sig := { parameters := [], returnType := none }, accessFlags := 1, code := some k0c0 }
/-- java/lang/Object -/
def k0 : Class := { plain "java/lang/Object" none with
  accessFlags := 33
  interfaces := #[]
  cf := some (fileOf pool0 8 #[] #[{ accessFlags := 1, nameIndex := 5, descriptorIndex := 6, attributes := #[] }] 33 0 #[] #[])
  fields := #[]
  methods := #[k0m0]
  instanceTypes := #[]
  staticTypes := #[]
  resolved := Array.replicate 124 none
  statics := none }

def pool1 : Array CpInfo := pool [(2, .class_ 4), (0, .nameAndType 5 6), (0, u "java/lang/Object"), (0, u "<init>"), (0, u "()V"), (0, .class_ 8), (0, u "com/example/sluis/sluis/cli/BenchRun$Tally"), (0, .methodref 7 3), (0, .fieldref 7 11), (0, .nameAndType 12 13), (0, u "admitted"), (0, u "J"), (0, .fieldref 7 15), (0, .nameAndType 16 13), (0, u "refused"), (0, .fieldref 7 18), (0, .nameAndType 19 13), (0, u "errors"), (0, .fieldref 7 21), (0, .nameAndType 22 13), (0, u "degraded"), (0, .fieldref 7 24), (0, .nameAndType 25 13), (0, u "longestNanos"), (0, .methodref 7 27), (0, .nameAndType 28 29), (0, u "add"), (0, u "(Lcom/example/sluis/sluis/cli/BenchRun$Tally;)V"), (0, .methodref 31 32), (0, .class_ 33), (0, .nameAndType 34 35), (0, u "com/example/sluis/sluis/cli/TallyAddPinLaw"), (0, u "larger"), (0, u "(JJ)J"), (3, u "law"), (0, u "(JJJJJJ)Z")] 6

def k1m0 : Method := { name := "<init>", desc := "()V", sig := { parameters := [], returnType := none }, accessFlags := 1, code := none }
def k1c1 : Code := { maxStack := 4, maxLocals := 4, code := method_2_code, exceptionTable := #[], attributes := #[] }
def k1m1 : Method := { name := "larger", desc := "(JJ)J", sig := { parameters := [.long, .long], returnType := some .long }, accessFlags := 10, code := some k1c1 }
def k1c2 : Code := { maxStack := 6, maxLocals := 16, code := code, exceptionTable := #[], attributes := #[] }
def k1m2 : Method := { name := "law", desc := "(JJJJJJ)Z", sig := { parameters := [.long, .long, .long, .long, .long, .long], returnType := some .boolean }, accessFlags := 9, code := some k1c2 }
/-- com/example/sluis/sluis/cli/TallyAddPinLaw -/
def k1 : Class := { plain "com/example/sluis/sluis/cli/TallyAddPinLaw" (some 0) with
  accessFlags := 49
  interfaces := #[]
  cf := some (fileOf pool1 31 #[] #[{ accessFlags := 1, nameIndex := 5, descriptorIndex := 6, attributes := #[] }, { accessFlags := 10, nameIndex := 34, descriptorIndex := 35, attributes := #[] }, { accessFlags := 9, nameIndex := 39, descriptorIndex := 40, attributes := #[] }] 49 2 #[] #[])
  fields := #[]
  methods := #[k1m0, k1m1, k1m2]
  instanceTypes := #[]
  staticTypes := #[]
  resolved := Array.replicate 47 none
  statics := none }

def pool2 : Array CpInfo := pool [(1, .methodref 2 3), (0, .class_ 4), (0, .nameAndType 5 6), (0, u "java/lang/Object"), (0, u "<init>"), (0, u "()V"), (0, .fieldref 8 9), (0, .class_ 10), (0, .nameAndType 11 12), (0, u "com/example/sluis/sluis/cli/BenchRun$Tally"), (0, u "admitted"), (0, u "J"), (0, .fieldref 8 14), (0, .nameAndType 15 12), (0, u "refused"), (0, .fieldref 8 17), (0, .nameAndType 18 12), (0, u "errors"), (0, .fieldref 8 20), (0, .nameAndType 21 12), (0, u "degraded"), (0, .fieldref 8 23), (0, .nameAndType 24 12), (0, u "longestNanos"), (0, .methodref 26 27), (0, .class_ 28), (0, .nameAndType 29 30), (0, u "java/lang/Math"), (0, u "max"), (0, u "(JJ)J"), (4, u "add"), (0, u "(Lcom/example/sluis/sluis/cli/BenchRun$Tally;)V"), (3, .class_ 41), (0, u "com/example/sluis/sluis/cli/BenchRun")] 2

def k2c0 : Code := { maxStack := 1, maxLocals := 1, code := prog_5_method_1_code, exceptionTable := #[], attributes := #[] }
def k2m0 : Method := { name := "<init>", desc := "()V", sig := { parameters := [], returnType := none }, accessFlags := 0, code := some k2c0 }
def k2c1 : Code := { maxStack := 5, maxLocals := 2, code := prog_5_method_3_code, exceptionTable := #[], attributes := #[] }
def k2m1 : Method := { name := "add", desc := "(Lcom/example/sluis/sluis/cli/BenchRun$Tally;)V", sig := { parameters := [(.object "com/example/sluis/sluis/cli/BenchRun$Tally")], returnType := none }, accessFlags := 0, code := some k2c1 }
/-- com/example/sluis/sluis/cli/BenchRun$Tally -/
def k2 : Class := { plain "com/example/sluis/sluis/cli/BenchRun$Tally" (some 0) with
  accessFlags := 32
  interfaces := #[]
  cf := some (fileOf pool2 8 #[.nestHost 40] #[{ accessFlags := 0, nameIndex := 5, descriptorIndex := 6, attributes := #[] }, { accessFlags := 0, nameIndex := 35, descriptorIndex := 36, attributes := #[] }] 32 2 #[] #[{ accessFlags := 0, nameIndex := 11, descriptorIndex := 12, attributes := #[] }, { accessFlags := 0, nameIndex := 15, descriptorIndex := 12, attributes := #[] }, { accessFlags := 0, nameIndex := 18, descriptorIndex := 12, attributes := #[] }, { accessFlags := 0, nameIndex := 21, descriptorIndex := 12, attributes := #[] }, { accessFlags := 0, nameIndex := 24, descriptorIndex := 12, attributes := #[] }])
  fields := #[{ name := "admitted", type := .long, accessFlags := 0, slot := 0, constantValue := 0 }, { name := "refused", type := .long, accessFlags := 0, slot := 1, constantValue := 0 }, { name := "errors", type := .long, accessFlags := 0, slot := 2, constantValue := 0 }, { name := "degraded", type := .long, accessFlags := 0, slot := 3, constantValue := 0 }, { name := "longestNanos", type := .long, accessFlags := 0, slot := 4, constantValue := 0 }]
  methods := #[k2m0, k2m1]
  instanceTypes := #[.long, .long, .long, .long, .long]
  staticTypes := #[]
  resolved := Array.replicate 44 none
  statics := none }

def pool3 : Array CpInfo := pool [(1, .class_ 2), (0, u "java/lang/Math"), (1, .class_ 6), (1, u "java/lang/Object"), (0, u "<init>"), (0, u "()V"), (89, .class_ 100), (1, u "java/lang/Math$RandomNumberGeneratorHolder"), (20, u "(JJ)J"), (50, u "negativeZeroFloatBits"), (0, u "J"), (2, u "negativeZeroDoubleBits"), (21, u "max"), (46, u "$assertionsDisabled"), (0, u "Z"), (91, u "twoToTheDoubleScaleDown"), (0, u "D"), (4, u "twoToTheDoubleScaleUp"), (9, u "E"), (3, u "PI"), (2, u "TAU"), (2, u "DEGREES_TO_RADIANS"), (0, u "RADIANS_TO_DEGREES")] 94

def k3m0 : Method := { name := "<init>", desc := "()V", sig := { parameters := [], returnType := none }, accessFlags := 2, code := none }
def k3c1 : Code := { maxStack := 4, maxLocals := 4, code := jdk_29_method_66_code, exceptionTable := #[], attributes := #[] }
def k3m1 : Method := { name := "max", desc := "(JJ)J", sig := { parameters := [.long, .long], returnType := some .long }, accessFlags := 9, code := some k3c1 }
/-- java/lang/Math -/
def k3 : Class := { plain "java/lang/Math" (some 0) with
  accessFlags := 49
  interfaces := #[]
  cf := some (fileOf pool3 1 #[.nestMembers #[98]] #[{ accessFlags := 2, nameIndex := 7, descriptorIndex := 8, attributes := #[] }, { accessFlags := 9, nameIndex := 198, descriptorIndex := 121, attributes := #[] }] 49 4 #[] #[{ accessFlags := 25, nameIndex := 354, descriptorIndex := 339, attributes := #[] }, { accessFlags := 25, nameIndex := 358, descriptorIndex := 339, attributes := #[] }, { accessFlags := 25, nameIndex := 361, descriptorIndex := 339, attributes := #[] }, { accessFlags := 26, nameIndex := 364, descriptorIndex := 339, attributes := #[] }, { accessFlags := 26, nameIndex := 365, descriptorIndex := 339, attributes := #[] }, { accessFlags := 26, nameIndex := 172, descriptorIndex := 173, attributes := #[] }, { accessFlags := 26, nameIndex := 176, descriptorIndex := 173, attributes := #[] }, { accessFlags := 8, nameIndex := 344, descriptorIndex := 339, attributes := #[] }, { accessFlags := 8, nameIndex := 338, descriptorIndex := 339, attributes := #[] }, { accessFlags := 4120, nameIndex := 245, descriptorIndex := 246, attributes := #[] }])
  fields := #[{ name := "E", type := .double, accessFlags := 25, slot := 0, constantValue := 0 }, { name := "PI", type := .double, accessFlags := 25, slot := 1, constantValue := 0 }, { name := "TAU", type := .double, accessFlags := 25, slot := 2, constantValue := 0 }, { name := "DEGREES_TO_RADIANS", type := .double, accessFlags := 26, slot := 3, constantValue := 0 }, { name := "RADIANS_TO_DEGREES", type := .double, accessFlags := 26, slot := 4, constantValue := 0 }, { name := "negativeZeroFloatBits", type := .long, accessFlags := 26, slot := 5, constantValue := 0 }, { name := "negativeZeroDoubleBits", type := .long, accessFlags := 26, slot := 6, constantValue := 0 }, { name := "twoToTheDoubleScaleUp", type := .double, accessFlags := 8, slot := 7, constantValue := 0 }, { name := "twoToTheDoubleScaleDown", type := .double, accessFlags := 8, slot := 8, constantValue := 0 }, { name := "$assertionsDisabled", type := .boolean, accessFlags := 4120, slot := 9, constantValue := 0 }]
  methods := #[k3m0, k3m1]
  instanceTypes := #[]
  staticTypes := #[.double, .double, .double, .double, .double, .long, .long, .double, .double, .boolean]
  resolved := Array.replicate 460 none
  statics := none }

def pool4 : Array CpInfo := pool [(1, u "java/lang/Cloneable"), (0, .class_ 1), (0, u "java/lang/Object"), (0, .class_ 3)] 3

/-- java/lang/Cloneable -/
def k4 : Class := { plain "java/lang/Cloneable" (some 0) with
  accessFlags := 1537
  interfaces := #[]
  cf := some (fileOf pool4 2 #[] #[] 1537 4 #[] #[])
  fields := #[]
  methods := #[]
  instanceTypes := #[]
  staticTypes := #[]
  resolved := Array.replicate 8 none
  statics := none }

def pool5 : Array CpInfo := pool [(1, u "java/io/Serializable"), (0, .class_ 1), (0, u "java/lang/Object"), (0, .class_ 3)] 3

/-- java/io/Serializable -/
def k5 : Class := { plain "java/io/Serializable" (some 0) with
  accessFlags := 1537
  interfaces := #[]
  cf := some (fileOf pool5 2 #[] #[] 1537 4 #[] #[])
  fields := #[]
  methods := #[]
  instanceTypes := #[]
  staticTypes := #[]
  resolved := Array.replicate 8 none
  statics := none }

/-- the primitive byte -/
def k6 : Class := { plain "byte" none with kind := .primitive 'B', accessFlags := 0x411 }
/-- [B -/
def k7 : Class := { plain "[B" (some 0) with kind := .array 6 .byte, interfaces := #[4, 5], accessFlags := 1041 }

/-- the primitive int -/
def k8 : Class := { plain "int" none with kind := .primitive 'I', accessFlags := 0x411 }
/-- [I -/
def k9 : Class := { plain "[I" (some 0) with kind := .array 8 .int, interfaces := #[4, 5], accessFlags := 1041 }

def heap : Heap := #[]
def classes : Array Class := #[k0, k1, k2, k3, k4, k5, k6, k7, k8, k9]
def interned : List (Array UInt16 × Addr) := []
def slotsUsed : Nat := 0
def theMethod : MethodId := ⟨1, 2⟩
def args0 : Array Value := #[.long 0, .long 1, .long 2, .long 3, .long 4, .long 5]
def aboutOver (below : List Frame) : State where
  vm := { classes := classes, interned := interned.toArray }
  heap := heap
  slotsUsed := slotsUsed
  threads := #[{ frames := .invoking theMethod args0 :: below }]
def below0 : List Frame := [.native { method := ⟨0, 0⟩, args := #[] }]
def about1 : State := aboutOver below0
def p0 : Program := .bare "" "" ""
def e0 : Env := launch0.env 0 0 0
theorem w_frames : about1.frames = Frame.invoking theMethod args0 :: below0 := rfl
set_option maxRecDepth 65536 in
theorem w_args : argsFit about1.vm theMethod args0 = true := by decide +kernel
set_option maxRecDepth 65536 in
theorem w_heap : heapFits about1 = true := by decide +kernel
set_option maxRecDepth 65536 in
theorem w_runnable : about1.curStatus? = some .runnable := by decide +kernel
set_option maxRecDepth 65536 in
theorem w_alone : about1.alone = true := by decide +kernel
set_option maxRecDepth 65536 in
theorem w_named : about1.methodNamed? x = some theMethod := by decide +kernel
set_option maxRecDepth 65536 in
theorem w_hears : about1.hears theMethod below0 = true := by decide +kernel
set_option maxRecDepth 65536 in
theorem w_ripe : about1.ripe theMethod args0 below0 = true := by decide +kernel
theorem w_running : about1.status = .running := rfl
set_option maxRecDepth 65536 in
theorem w_room : about1.hasRoom e0.platform room_1 = true :=
  launch0.hasRoom_least _ room_1 (by decide +kernel) (by decide +kernel) (by decide +kernel) (by decide +kernel) (by decide +kernel) (by decide +kernel)
theorem allAtoms_all (ts : List Jvm.Cond) (a : Array Jvm.Value) (st : Jvm.State) : (allAtoms ts).before a st = ts.all (fun c => c.before a st) := by
  induction ts with
  | nil => rfl
  | cons c t ih =>
    show (Jvm.Cond.and c (allAtoms t)).before a st = _
    rw [Jvm.Cond.before_and, ih, List.all_cons]
def words1 : List Jvm.Cond := Jvm.Cond.code x code maxLocals ret :: tables_1
/-- a 'code' word, met by the world's own term for the bytes: nothing is compared byte by byte -/
theorem code_word {y : MethodName} {bytes : ByteArray} {mx : Nat} {rt : Option FieldType} {a : Array Value} {s : State} {m : MethodId} {meth : Method} {c : Code} (h1 : s.methodNamed? y = some m) (h2 : s.vm.method? m = some meth) (h3 : meth.code = some c) (h4 : c.code = bytes)
    (h5 : (c.maxLocals == mx && c.exceptionTable.isEmpty && decide (c.maxStack ≤ mostOperands) && decide (meth.sig.returnType = rt) && !meth.locks && decide (parseMethodDescriptor y.desc = some meth.sig)) = true) : (Jvm.Cond.code y bytes mx rt).before a s = true := by
  simp only [Bool.and_eq_true, beq_iff_eq, Bool.not_eq_true', decide_eq_true_eq] at h5
  obtain ⟨⟨⟨⟨⟨g1, g2⟩, g3⟩, g4⟩, g5⟩, g6⟩ := h5
  simp [Cond.before, Cond.holds, Cond.value, h1, h2, h3, h4, g1, g2, g3, g4, g5, g6]
def isCode : Jvm.Cond → Bool
  | .code _ _ _ _ => true
  | _ => false
theorem all_split {L : List Jvm.Cond} {P : Jvm.Cond → Bool} (h1 : L.all (fun c => isCode c || P c) = true) (h2 : ∀ c ∈ L.filter isCode, P c = true) : L.all P = true := by
  refine List.all_eq_true.mpr fun c hc => ?_
  have h := List.all_eq_true.mp h1 c hc
  rcases Bool.eq_false_or_eq_true (isCode c) with hi | hi
  · exact h2 c (List.mem_filter.mpr ⟨hc, hi⟩)
  · simpa [hi] using h
set_option maxRecDepth 65536 in
theorem w_c0 : (Jvm.Cond.code x code maxLocals ret).before args0 about1 = true := code_word (m := ⟨1, 2⟩) (meth := k1m2) (c := k1c2) (by decide +kernel) rfl rfl rfl (by decide +kernel)
set_option maxRecDepth 65536 in
theorem w_c1 : (Jvm.Cond.code ({ cls := "com/example/sluis/sluis/cli/BenchRun$Tally", name := "<init>", desc := "()V" } : Jvm.MethodName) prog_5_method_1_code (1 : Nat) (Option.none : Option Jvm.ClassFile.FieldType)).before args0 about1 = true := code_word (m := ⟨2, 0⟩) (meth := k2m0) (c := k2c0) (by decide +kernel) rfl rfl rfl (by decide +kernel)
set_option maxRecDepth 65536 in
theorem w_c2 : (Jvm.Cond.code ({ cls := "java/lang/Object", name := "<init>", desc := "()V" } : Jvm.MethodName) object_method_1_code (1 : Nat) (Option.none : Option Jvm.ClassFile.FieldType)).before args0 about1 = true := code_word (m := ⟨0, 0⟩) (meth := k0m0) (c := k0c0) (by decide +kernel) rfl rfl rfl (by decide +kernel)
set_option maxRecDepth 65536 in
theorem w_c3 : (Jvm.Cond.code ({ cls := "com/example/sluis/sluis/cli/BenchRun$Tally", name := "add", desc := "(Lcom/example/sluis/sluis/cli/BenchRun$Tally;)V" } : Jvm.MethodName) prog_5_method_3_code (2 : Nat) (Option.none : Option Jvm.ClassFile.FieldType)).before args0 about1 = true := code_word (m := ⟨2, 1⟩) (meth := k2m1) (c := k2c1) (by decide +kernel) rfl rfl rfl (by decide +kernel)
set_option maxRecDepth 65536 in
theorem w_c4 : (Jvm.Cond.code ({ cls := "java/lang/Math", name := "max", desc := "(JJ)J" } : Jvm.MethodName) jdk_29_method_66_code (4 : Nat) (Option.some Jvm.ClassFile.FieldType.long)).before args0 about1 = true := code_word (m := ⟨3, 1⟩) (meth := k3m1) (c := k3c1) (by decide +kernel) rfl rfl rfl (by decide +kernel)
set_option maxRecDepth 65536 in
theorem w_c5 : (Jvm.Cond.code ({ cls := "com/example/sluis/sluis/cli/TallyAddPinLaw", name := "larger", desc := "(JJ)J" } : Jvm.MethodName) method_2_code (4 : Nat) (Option.some Jvm.ClassFile.FieldType.long)).before args0 about1 = true := code_word (m := ⟨1, 1⟩) (meth := k1m1) (c := k1c1) (by decide +kernel) rfl rfl rfl (by decide +kernel)
def codes1 : List Jvm.Cond := [Jvm.Cond.code x code maxLocals ret, Jvm.Cond.code ({ cls := "com/example/sluis/sluis/cli/BenchRun$Tally", name := "<init>", desc := "()V" } : Jvm.MethodName) prog_5_method_1_code (1 : Nat) (Option.none : Option Jvm.ClassFile.FieldType), Jvm.Cond.code ({ cls := "java/lang/Object", name := "<init>", desc := "()V" } : Jvm.MethodName) object_method_1_code (1 : Nat) (Option.none : Option Jvm.ClassFile.FieldType), Jvm.Cond.code ({ cls := "com/example/sluis/sluis/cli/BenchRun$Tally", name := "add", desc := "(Lcom/example/sluis/sluis/cli/BenchRun$Tally;)V" } : Jvm.MethodName) prog_5_method_3_code (2 : Nat) (Option.none : Option Jvm.ClassFile.FieldType), Jvm.Cond.code ({ cls := "java/lang/Math", name := "max", desc := "(JJ)J" } : Jvm.MethodName) jdk_29_method_66_code (4 : Nat) (Option.some Jvm.ClassFile.FieldType.long), Jvm.Cond.code ({ cls := "com/example/sluis/sluis/cli/TallyAddPinLaw", name := "larger", desc := "(JJ)J" } : Jvm.MethodName) method_2_code (4 : Nat) (Option.some Jvm.ClassFile.FieldType.long)]
set_option maxRecDepth 65536 in
theorem codes_eq : words1.filter isCode = codes1 := rfl
theorem w_codes : ∀ c ∈ words1.filter isCode, c.before args0 about1 = true := by
  rw [codes_eq]
  intro c hc
  simp only [codes1, List.mem_cons, List.not_mem_nil, or_false] at hc
  rcases hc with rfl | rfl | rfl | rfl | rfl | rfl
  · exact w_c0
  · exact w_c1
  · exact w_c2
  · exact w_c3
  · exact w_c4
  · exact w_c5
set_option maxRecDepth 65536 in
theorem w_t1 : (words1.take 24).all (fun c => isCode c || c.before args0 about1) = true := by decide +kernel
set_option maxRecDepth 65536 in
theorem w_t2 : (words1.drop 24).all (fun c => isCode c || c.before args0 about1) = true := by decide +kernel
theorem w_tables : (allAtoms (Jvm.Cond.code x code maxLocals ret :: tables_1)).before args0 about1 = true := by
  rw [allAtoms_all]
  show words1.all (fun c => c.before args0 about1) = true
  refine all_split ?_ w_codes
  rw [← List.take_append_drop 24 words1, List.all_append, w_t1, w_t2]
  rfl
set_option maxRecDepth 65536 in
theorem w_case : (Jvm.Cond.and given_1 narrow_1).before args0 about1 = true := by decide +kernel
theorem w_applies : (headSpec (Jvm.Cond.code x code maxLocals ret :: tables_1) room_1).applies x e0.platform about1 = true :=
  (Spec.applies_iff w_frames).mpr ⟨w_running, w_runnable, w_alone, w_named, w_hears, w_ripe, w_room, w_tables⟩
theorem atStart : AtStart classFile x code maxLocals ret World_1 tables_1 room_1 Calls_1 rest_1 Pre_1 launch0 p0 e0 about1 theMethod args0 below0 :=
  ⟨lists_1, trivial, launch0.admits_env _ _ _, launch0.least_env, fairChoices_fair.cas, fairChoices_fair.clock, w_frames, w_args, w_heap, w_applies, trivial, trivial, w_case⟩
end start1
theorem witness_1 : WitnessClaimed_1 := ⟨start1.p0, start1.e0, start1.about1, start1.theMethod, start1.args0, start1.below0, start1.atStart⟩
end Jvm.Pilot.@@N@@
