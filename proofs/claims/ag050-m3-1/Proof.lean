import JvmDerived
import JvmDerived.Pilot.@@N@@Statement
import JvmDerived.Pilot.@@N@@Code
set_option linter.unusedVariables false
set_option linter.unusedSimpArgs false
namespace Jvm.Pilot.@@N@@
open Jvm Jvm.ClassFile Sem Op Lib Jvm.Free Jvm.Stand Jvm.LawKit Jvm.RoadKit Bundle Jvm.Pilot.@@N@@.Jvm.D
theorem own_sta {Z : State} {h h' : Heap} {C n d C' : String} {w : Value} {o : Addr} (F : Sta Z h C n d w) (K : Keep h h' [o]) (E : Exa Z h o C') : Sta Z h' C n d w := by
  obtain ⟨cf, i, k, f, st, cell, h1, h2, h3, h4, h5, h6, h7⟩ := F
  obtain ⟨ce, ke, e1, e2, e3, e4, e5⟩ := E
  refine ⟨cf, i, k, f, st, cell, h1, h2, h3, h4, K.2.1 st cell h5 (fun hm => ?_), h6, h7⟩
  cases List.mem_singleton.mp hm
  rw [e1] at h5; cases h5; rw [h6] at e4; cases e4
theorem own_fint {s : State} {args : Array Value} {t : Term} {C n d : String} {k : Int32} {w : Addr} (ht : t.eval args s none [] s = some (.ref w)) (h : (Jvm.Cond.eq (.field t C n d) (.int k)).value args s none s [] = some true) : Fld s s.heap w C n d (.int k) := by
  refine Fld.start ?_
  have e := fld_at (args := args) (first := s) (o := none) (idx := []) (s := s) (C := C) (n := n) (dd := d) ht
  obtain ⟨x, y, hx, hy, -, -⟩ := cmp_v (Or.inl h)
  rw [← e, hx]
  cases (Term.int_eval k).symm.trans hy
  cases x <;> simp [Jvm.Cond.value, hx, hy] at h
  rw [h]
theorem own_rem32 (x m : Int32) (hx : 0 ≤ x.toInt) : (x % m).toInt = x.toInt % m.toInt := by rw [Int32.toInt_mod, Int.tmod_eq_emod_of_nonneg hx]
theorem own_lc0 (x y : Int64) : (lcmpW x y < 0 ↔ x < y) ∧ (0 < lcmpW x y ↔ y < x) ∧ (lcmpW x y = 0 ↔ x = y) := by rw [lcW]; exact ⟨lc_lt x y, lc_gt x y, lc_eq x y⟩
theorem lcY_lt {x y : Int64} (h : x < y) : ifCond.holds .lt (lcmpW x y) = true := (if0 _ _).trans (tlt ((own_lc0 x y).1.mpr h)).1
theorem lcN_lt {x y : Int64} (h : ¬ x < y) : ifCond.holds .lt (lcmpW x y) = false := (if0 _ _).trans (flt fun q => h ((own_lc0 x y).1.mp q)).1
theorem lcN_ge {x y : Int64} (h : x < y) : ifCond.holds .ge (lcmpW x y) = false := (if0 _ _).trans (tlt ((own_lc0 x y).1.mpr h)).2.1
theorem lcY_ge {x y : Int64} (h : ¬ x < y) : ifCond.holds .ge (lcmpW x y) = true := (if0 _ _).trans (flt fun q => h ((own_lc0 x y).1.mp q)).2.1
theorem lcY_gt {x y : Int64} (h : y < x) : ifCond.holds .gt (lcmpW x y) = true := (if0 _ _).trans (tlt ((own_lc0 x y).2.1.mpr h)).2.2.1
theorem lcN_gt {x y : Int64} (h : ¬ y < x) : ifCond.holds .gt (lcmpW x y) = false := (if0 _ _).trans (flt fun q => h ((own_lc0 x y).2.1.mp q)).2.2.1
theorem lcN_le {x y : Int64} (h : y < x) : ifCond.holds .le (lcmpW x y) = false := (if0 _ _).trans (tlt ((own_lc0 x y).2.1.mpr h)).2.2.2
theorem lcY_le {x y : Int64} (h : ¬ y < x) : ifCond.holds .le (lcmpW x y) = true := (if0 _ _).trans (flt fun q => h ((own_lc0 x y).2.1.mp q)).2.2.2
theorem lcY_eq {x y : Int64} (h : x = y) : ifCond.holds .eq (lcmpW x y) = true := (if0 _ _).trans (teq ((own_lc0 x y).2.2.mpr h)).1
theorem lcN_eq {x y : Int64} (h : ¬ x = y) : ifCond.holds .eq (lcmpW x y) = false := (if0 _ _).trans (feq fun q => h ((own_lc0 x y).2.2.mp q)).1
theorem lcN_ne {x y : Int64} (h : x = y) : ifCond.holds .ne (lcmpW x y) = false := (if0 _ _).trans (teq ((own_lc0 x y).2.2.mpr h)).2
theorem lcY_ne {x y : Int64} (h : ¬ x = y) : ifCond.holds .ne (lcmpW x y) = true := (if0 _ _).trans (feq fun q => h ((own_lc0 x y).2.2.mp q)).2
theorem d1_0 : decode prog_26_method_1_code 0 = .ok (.aload_n 0, 1) := by decide +kernel
theorem d1_1 : decode prog_26_method_1_code 1 = .ok (.invokespecial 1, 3) := by decide +kernel
theorem d1_4 : decode prog_26_method_1_code 4 = .ok (.return_, 1) := by decide +kernel
theorem pn_1 : plainName "com/example/aveiro/aveiro/lock/LamportClock" = true := by first | (simp [plainName, overriddenIn]; done) | decide +kernel
theorem ef_1 (m : MethodId) (ob0 : Addr) : entryFrame m #[(.ref ob0)] 1 = mkF m 0 #[.val (.ref ob0)] [] := by first | (simp [entryFrame, mkF, argsToLocals, Value.category]; done) | rfl
def Q1 (Z : State) (ob0 : Addr) (h0 : Heap) (n0 : Nat) (v : Option Value) (h : Heap) (L : List Loc) : Prop := v = none ∧ Fr n0 L ∧ h = h0
set_option maxRecDepth 65536 in
set_option maxHeartbeats 40000000 in
theorem rm1 (l : Launch) (Z : State) (a0 : Array Value) (hw : ∀ d ∈ tables_1, d.before a0 Z = true) (ws : List Jvm.Cond) (ob0 : Addr) (h0 : Heap) (n0 : Nat) (Z0 : n0 ≤ h0.size) :
    MetFree l (⟨"com/example/aveiro/aveiro/lock/LamportClock", "<init>", "()V"⟩ : MethodName) (head1 (Jvm.Cond.code (⟨"com/example/aveiro/aveiro/lock/LamportClock", "<init>", "()V"⟩ : MethodName) prog_26_method_1_code 1 none :: ws) ({ frames := 1, cells := 0, slots := 0, locals := 12 } : Room)) (fun a U => a = #[(.ref ob0)] ∧ Z.Warmed39 U.vm ∧ U.heap = h0) (fun _ _ _ _ _ => True) (fun _ U o U' => ∃ v L, o = .returned v ∧ Q1 Z ob0 h0 n0 v U'.heap L ∧ FrameEnd U o U' L ({ frames := 1, cells := 0, slots := 0, locals := 12 } : Room).cells ({ frames := 1, cells := 0, slots := 0, locals := 12 } : Room).slots) := by
  refine MetFree.of_bodySF (plainFor_of_name pn_1) hisR ?_
  intro p e s m args below meth c s₁ Bd hml0 hP hK
  obtain ⟨rfl, hZ, hh⟩ := hP
  have hx := Bd.exec
  have hby := Bd.bytes
  have hml : c.maxLocals = 1 := hml0
  have hown : s.vm.findClass "com/example/aveiro/aveiro/lock/LamportClock" = some m.cls := findClass_of_methodNamed Bd.named
  have hnm := (name_of_methodNamed Bd.named Bd.method).1
  have X0 : Stand p l e ({ frames := 1, cells := 0, slots := 0, locals := 12 } : Room) s m #[(.ref ob0)] below meth c s₁ [] 0 0 := Stand.of_body Bd
  have e0 : s₁.heap = h0 := by rw [← hh, Bd.state]; rfl
  have N0 := Fr.nil n0
  have pre0 : ∀ t, Steps p.tables e below (s₁.setTop (mkF m 0 #[.val (.ref ob0)] [])) t → Steps p.tables e below (s₁.setTop (entryFrame m #[(.ref ob0)] 1)) t := fun t k => castTop (ef_1 m ob0) k
  obtain ⟨T1, X1, e1, st1⟩ := initO X0 hx hZ hown (hw _ (List.mem_of_getElem? (i := 6) rfl)) (hw _ (List.mem_of_getElem? (i := 7) rfl)) (hw _ (List.mem_of_getElem? (i := 8) rfl)) e0 (g := (mkF m 1 #[.val (.ref ob0)] [(.ref ob0)])) rfl (by rw [hml]; rfl) rfl (hb hby d1_1) (by decide) (W := 0) (by show 2 * 0 + _ ≤ _; exact Nat.le_of_eq rfl) (by decide)
  obtain ⟨fs, hr, hrun, hended, hW, hsame⟩ := X1.leave (v := none) (fun _ => rfl)
  refine ⟨_, _, pre0 _ ?_, hrun, hended, _, _, rfl, ?_, ⟨_, rfl⟩, hW, hsame.mono (by decide) (by decide)⟩
  · show Steps p.tables e below (s₁.setTop (mkF m 0 #[.val (.ref ob0)] [])) _
    refine XS.aloadN X0.here hx rfl (hb hby d1_0) rfl rfl ?_
    show Steps p.tables e below (s₁.setTop (mkF m 1 #[.val (.ref ob0)] [(.ref ob0)])) _
    refine st1 _ ?_
    show Steps p.tables e below (T1.setTop (mkF m 4 #[.val (.ref ob0)] [])) _
    exact X1.returnOut hx Bd.returns (hb hby d1_4) hr
  · show Q1 Z ob0 h0 n0 _ T1.heap _
    rw [e1]
    exact ⟨rfl, N0, rfl⟩
theorem pd_0 : parseMethodDescriptor "()V" = some ⟨[], none⟩ := by decide +kernel
theorem d3_0 : decode prog_26_method_4_code 0 = .ok (.aload_n 0, 1) := by decide +kernel
theorem d3_1 : decode prog_26_method_4_code 1 = .ok (.getfield 7, 3) := by decide +kernel
theorem d3_4 : decode prog_26_method_4_code 4 = .ok (.lreturn, 1) := by decide +kernel
theorem pn_3 : plainName "com/example/aveiro/aveiro/lock/LamportClock" = true := by first | (simp [plainName, overriddenIn]; done) | decide +kernel
theorem ef_3 (m : MethodId) (ob0 : Addr) : entryFrame m #[(.ref ob0)] 1 = mkF m 0 #[.val (.ref ob0)] [] := by first | (simp [entryFrame, mkF, argsToLocals, Value.category]; done) | rfl
def Q3 (Z : State) (ob0 : Addr) (w_ob0_time : Int64) (h0 : Heap) (n0 : Nat) (v : Option Value) (h : Heap) (L : List Loc) : Prop := v = some (.long w_ob0_time) ∧ Fr n0 L ∧ h = h0
set_option maxRecDepth 65536 in
set_option maxHeartbeats 40000000 in
theorem rm3 (l : Launch) (Z : State) (a0 : Array Value) (hw : ∀ d ∈ tables_1, d.before a0 Z = true) (ws : List Jvm.Cond) (ob0 : Addr) (w_ob0_time : Int64) (h0 : Heap) (n0 : Nat) (Z0 : n0 ≤ h0.size) (F_time_ob0 : Fld Z h0 ob0 "com/example/aveiro/aveiro/lock/LamportClock" "time" "J" (.long w_ob0_time)) :
    MetFree l (⟨"com/example/aveiro/aveiro/lock/LamportClock", "time", "()J"⟩ : MethodName) (head1 (Jvm.Cond.code (⟨"com/example/aveiro/aveiro/lock/LamportClock", "time", "()J"⟩ : MethodName) prog_26_method_4_code 1 (some .long) :: ws) ({ frames := 0, cells := 0, slots := 0, locals := 0 } : Room)) (fun a U => a = #[(.ref ob0)] ∧ Z.Warmed39 U.vm ∧ U.heap = h0) (fun _ _ _ _ _ => True) (fun _ U o U' => ∃ v L, o = .returned v ∧ Q3 Z ob0 w_ob0_time h0 n0 v U'.heap L ∧ FrameEnd U o U' L ({ frames := 0, cells := 0, slots := 0, locals := 0 } : Room).cells ({ frames := 0, cells := 0, slots := 0, locals := 0 } : Room).slots) := by
  refine MetFree.of_bodySF (plainFor_of_name pn_3) hisR ?_
  intro p e s m args below meth c s₁ Bd hml0 hP hK
  obtain ⟨rfl, hZ, hh⟩ := hP
  have hx := Bd.exec
  have hby := Bd.bytes
  have hml : c.maxLocals = 1 := hml0
  have hown : s.vm.findClass "com/example/aveiro/aveiro/lock/LamportClock" = some m.cls := findClass_of_methodNamed Bd.named
  have hnm := (name_of_methodNamed Bd.named Bd.method).1
  have X0 : Stand p l e ({ frames := 0, cells := 0, slots := 0, locals := 0 } : Room) s m #[(.ref ob0)] below meth c s₁ [] 0 0 := Stand.of_body Bd
  have e0 : s₁.heap = h0 := by rw [← hh, Bd.state]; rfl
  have N0 := Fr.nil n0
  have pre0 : ∀ t, Steps p.tables e below (s₁.setTop (mkF m 0 #[.val (.ref ob0)] [])) t → Steps p.tables e below (s₁.setTop (entryFrame m #[(.ref ob0)] 1)) t := fun t k => castTop (ef_3 m ob0) k
  obtain ⟨T1, X1, e1, st1⟩ := getF X0 hx hZ hown (host := "") (Or.inl (hw _ (List.mem_of_getElem? (i := 14) rfl))) Via.refl e0 F_time_ob0 (g := (mkF m 1 #[.val (.ref ob0)] [(.ref ob0)])) rfl rfl (hb hby d3_1)
  obtain ⟨fs, hr, hrun, hended, hW, hsame⟩ := X1.leave (v := some (.long w_ob0_time)) (fun h => by rw [Bd.returns] at h; cases h)
  refine ⟨_, _, pre0 _ ?_, hrun, hended, _, _, rfl, ?_, ⟨_, rfl⟩, hW, hsame.mono (by decide) (by decide)⟩
  · show Steps p.tables e below (s₁.setTop (mkF m 0 #[.val (.ref ob0)] [])) _
    refine XS.aloadN X0.here hx rfl (hb hby d3_0) rfl rfl ?_
    show Steps p.tables e below (s₁.setTop (mkF m 1 #[.val (.ref ob0)] [(.ref ob0)])) _
    refine st1 _ ?_
    show Steps p.tables e below (T1.setTop (mkF m 4 #[.val (.ref ob0)] [(.long w_ob0_time)])) _
    exact retOut X1 hx Bd.returns rfl (Or.inr (Or.inl ⟨rfl, rfl, _, rfl⟩)) (hb hby d3_4) hr
  · show Q3 Z ob0 w_ob0_time h0 n0 _ T1.heap _
    rw [e1]
    exact ⟨rfl, N0, rfl⟩
theorem pd_1 : parseMethodDescriptor "()J" = some ⟨[], some .long⟩ := by decide +kernel
def F5 (q0 : Int64) (q1 : Int64) : Int64 :=
  if q0 < q1 then q1 else q0
theorem d5_0 : decode jdk_29_method_66_code 0 = .ok (.lload_n 0, 1) := by decide +kernel
theorem d5_1 : decode jdk_29_method_66_code 1 = .ok (.lload_n 2, 1) := by decide +kernel
theorem d5_2 : decode jdk_29_method_66_code 2 = .ok (.lcmp, 1) := by decide +kernel
theorem d5_3 : decode jdk_29_method_66_code 3 = .ok (.ifCond .lt 7, 3) := by decide +kernel
theorem d5_6 : decode jdk_29_method_66_code 6 = .ok (.lload_n 0, 1) := by decide +kernel
theorem d5_7 : decode jdk_29_method_66_code 7 = .ok (.goto 4, 3) := by decide +kernel
theorem d5_10 : decode jdk_29_method_66_code 10 = .ok (.lload_n 2, 1) := by decide +kernel
theorem d5_11 : decode jdk_29_method_66_code 11 = .ok (.lreturn, 1) := by decide +kernel
theorem ef_5 (m : MethodId) (q0 : Int64) (q1 : Int64) : entryFrame m #[(.long q0), (.long q1)] 4 = mkF m 0 #[.val (.long q0), .second, .val (.long q1), .second] [] := by first | (simp [entryFrame, mkF, argsToLocals, Value.category]; done) | rfl
def Q5 (Z : State) (q0 : Int64) (q1 : Int64) (h0 : Heap) (n0 : Nat) (v : Option Value) (h : Heap) (L : List Loc) : Prop := v = some (.long (F5 q0 q1)) ∧ Fr n0 L ∧ h = h0
set_option maxRecDepth 65536 in
set_option maxHeartbeats 40000000 in
theorem rm5 (l : Launch) (Z : State) (a0 : Array Value) (hw : ∀ d ∈ tables_1, d.before a0 Z = true) (ws : List Jvm.Cond) (q0 : Int64) (q1 : Int64) (h0 : Heap) (n0 : Nat) (Z0 : n0 ≤ h0.size) :
    MetFree l (⟨"java/lang/Math", "max", "(JJ)J"⟩ : MethodName) (head1 (Jvm.Cond.code (⟨"java/lang/Math", "max", "(JJ)J"⟩ : MethodName) jdk_29_method_66_code 4 (some .long) :: ws) ({ frames := 0, cells := 0, slots := 0, locals := 0 } : Room)) (fun a U => a = #[(.long q0), (.long q1)] ∧ Z.Warmed39 U.vm ∧ U.heap = h0) (fun _ _ _ _ _ => True) (fun _ U o U' => ∃ v L, o = .returned v ∧ Q5 Z q0 q1 h0 n0 v U'.heap L ∧ FrameEnd U o U' L ({ frames := 0, cells := 0, slots := 0, locals := 0 } : Room).cells ({ frames := 0, cells := 0, slots := 0, locals := 0 } : Room).slots) := by
  refine MetFree.of_bodySF (Jvm.Free.JP.mathPlain rfl (by decide +kernel)) hisR ?_
  intro p e s m args below meth c s₁ Bd hml0 hP hK
  obtain ⟨rfl, hZ, hh⟩ := hP
  have hx := Bd.exec
  have hby := Bd.bytes
  have hml : c.maxLocals = 4 := hml0
  have hown : s.vm.findClass "java/lang/Math" = some m.cls := findClass_of_methodNamed Bd.named
  have hnm := (name_of_methodNamed Bd.named Bd.method).1
  have X0 : Stand p l e ({ frames := 0, cells := 0, slots := 0, locals := 0 } : Room) s m #[(.long q0), (.long q1)] below meth c s₁ [] 0 0 := Stand.of_body Bd
  have e0 : s₁.heap = h0 := by rw [← hh, Bd.state]; rfl
  have N0 := Fr.nil n0
  have pre0 : ∀ t, Steps p.tables e below (s₁.setTop (mkF m 0 #[.val (.long q0), .second, .val (.long q1), .second] [])) t → Steps p.tables e below (s₁.setTop (entryFrame m #[(.long q0), (.long q1)] 4)) t := fun t k => castTop (ef_5 m q0 q1) k
  have pre1 : ∀ t, Steps p.tables e below (s₁.setTop (mkF m 3 #[.val (.long q0), .second, .val (.long q1), .second] [(.int (lcmpW q0 q1))])) t → Steps p.tables e below (s₁.setTop (entryFrame m #[(.long q0), (.long q1)] 4)) t := fun t k => by
    refine pre0 t ?_
    show Steps p.tables e below (s₁.setTop (mkF m 0 #[.val (.long q0), .second, .val (.long q1), .second] [])) _
    refine XS.lloadN X0.here hx rfl (hb hby d5_0) rfl ?_
    show Steps p.tables e below (s₁.setTop (mkF m 1 #[.val (.long q0), .second, .val (.long q1), .second] [(.long q0)])) _
    refine XS.lloadN X0.here hx rfl (hb hby d5_1) rfl ?_
    show Steps p.tables e below (s₁.setTop (mkF m 2 #[.val (.long q0), .second, .val (.long q1), .second] [(.long q1), (.long q0)])) _
    refine XS.lcmp X0.here hx rfl (hb hby d5_2) rfl ?_
    exact k
  by_cases hc3 : q0 < q1
  · obtain ⟨fs, hr, hrun, hended, hW, hsame⟩ := X0.leave (v := some (.long q1)) (fun h => by rw [Bd.returns] at h; cases h)
    refine ⟨_, _, pre1 _ ?_, hrun, hended, _, _, rfl, ?_, ⟨_, rfl⟩, hW, hsame.mono (by decide) (by decide)⟩
    · show Steps p.tables e below (s₁.setTop (mkF m 3 #[.val (.long q0), .second, .val (.long q1), .second] [(.int (lcmpW q0 q1))])) _
      refine XS.ifYes X0.here hx rfl (pc0 := 3) (pc' := 10) rfl (hb hby d5_3) rfl (lcY_lt hc3) (by decide) (by decide) ?_
      show Steps p.tables e below (s₁.setTop (mkF m 10 #[.val (.long q0), .second, .val (.long q1), .second] [])) _
      refine XS.lloadN X0.here hx rfl (hb hby d5_10) rfl ?_
      show Steps p.tables e below (s₁.setTop (mkF m 11 #[.val (.long q0), .second, .val (.long q1), .second] [(.long q1)])) _
      exact retOut X0 hx Bd.returns rfl (Or.inr (Or.inl ⟨rfl, rfl, _, rfl⟩)) (hb hby d5_11) hr
    · show Q5 Z q0 q1 h0 n0 _ s₁.heap _
      rw [e0]
      exact ⟨(by rw [F5, if_pos hc3]), N0, rfl⟩
  · obtain ⟨fs, hr, hrun, hended, hW, hsame⟩ := X0.leave (v := some (.long q0)) (fun h => by rw [Bd.returns] at h; cases h)
    refine ⟨_, _, pre1 _ ?_, hrun, hended, _, _, rfl, ?_, ⟨_, rfl⟩, hW, hsame.mono (by decide) (by decide)⟩
    · show Steps p.tables e below (s₁.setTop (mkF m 3 #[.val (.long q0), .second, .val (.long q1), .second] [(.int (lcmpW q0 q1))])) _
      refine XS.ifNo X0.here hx rfl (hb hby d5_3) rfl (lcN_lt hc3) ?_
      show Steps p.tables e below (s₁.setTop (mkF m 6 #[.val (.long q0), .second, .val (.long q1), .second] [])) _
      refine XS.lloadN X0.here hx rfl (hb hby d5_6) rfl ?_
      show Steps p.tables e below (s₁.setTop (mkF m 7 #[.val (.long q0), .second, .val (.long q1), .second] [(.long q0)])) _
      refine XS.goto X0.here hx rfl (pc0 := 7) (pc' := 11) rfl (hb hby d5_7) (by decide) (by decide) ?_
      show Steps p.tables e below (s₁.setTop (mkF m 11 #[.val (.long q0), .second, .val (.long q1), .second] [(.long q0)])) _
      exact retOut X0 hx Bd.returns rfl (Or.inr (Or.inl ⟨rfl, rfl, _, rfl⟩)) (hb hby d5_11) hr
    · show Q5 Z q0 q1 h0 n0 _ s₁.heap _
      rw [e0]
      exact ⟨(by rw [F5, if_neg hc3]), N0, rfl⟩
theorem pd_2 : parseMethodDescriptor "(JJ)J" = some ⟨[.long, .long], some .long⟩ := by decide +kernel
theorem d4_0 : decode prog_26_method_3_code 0 = .ok (.aload_n 0, 1) := by decide +kernel
theorem d4_1 : decode prog_26_method_3_code 1 = .ok (.aload_n 0, 1) := by decide +kernel
theorem d4_2 : decode prog_26_method_3_code 2 = .ok (.getfield 7, 3) := by decide +kernel
theorem d4_5 : decode prog_26_method_3_code 5 = .ok (.lload_n 1, 1) := by decide +kernel
theorem d4_6 : decode prog_26_method_3_code 6 = .ok (.invokestatic 13, 3) := by decide +kernel
theorem d4_9 : decode prog_26_method_3_code 9 = .ok (.lconst 1, 1) := by decide +kernel
theorem d4_10 : decode prog_26_method_3_code 10 = .ok (.ladd, 1) := by decide +kernel
theorem d4_11 : decode prog_26_method_3_code 11 = .ok (.putfield 7, 3) := by decide +kernel
theorem d4_14 : decode prog_26_method_3_code 14 = .ok (.return_, 1) := by decide +kernel
theorem pn_4 : plainName "com/example/aveiro/aveiro/lock/LamportClock" = true := by first | (simp [plainName, overriddenIn]; done) | decide +kernel
theorem ef_4 (m : MethodId) (ob0 : Addr) (q1 : Int64) : entryFrame m #[(.ref ob0), (.long q1)] 3 = mkF m 0 #[.val (.ref ob0), .val (.long q1), .second] [] := by first | (simp [entryFrame, mkF, argsToLocals, Value.category]; done) | rfl
def Q4 (Z : State) (ob0 : Addr) (q1 : Int64) (u_time : Int64) (h0 : Heap) (n0 : Nat) (v : Option Value) (h : Heap) (L : List Loc) : Prop := v = none ∧ Fr n0 L ∧ Keep h0 h [ob0] ∧ Exa Z h ob0 "com/example/aveiro/aveiro/lock/LamportClock" ∧ Fld Z h ob0 "com/example/aveiro/aveiro/lock/LamportClock" "time" "J" (.long ((F5 u_time q1) + (1 : Int64)))
set_option maxRecDepth 65536 in
set_option maxHeartbeats 40000000 in
theorem rm4 (l : Launch) (Z : State) (a0 : Array Value) (hw : ∀ d ∈ tables_1, d.before a0 Z = true) (ws : List Jvm.Cond) (ob0 : Addr) (q1 : Int64) (u_time : Int64) (h0 : Heap) (n0 : Nat) (Z0 : n0 ≤ h0.size) (F_time_ob0 : Fld Z h0 ob0 "com/example/aveiro/aveiro/lock/LamportClock" "time" "J" (.long u_time)) (E_ob0 : Exa Z h0 ob0 "com/example/aveiro/aveiro/lock/LamportClock") (g_ob0 : n0 ≤ ob0) :
    MetFree l (⟨"com/example/aveiro/aveiro/lock/LamportClock", "receive", "(J)V"⟩ : MethodName) (head1 (Jvm.Cond.code (⟨"com/example/aveiro/aveiro/lock/LamportClock", "receive", "(J)V"⟩ : MethodName) prog_26_method_3_code 3 none :: ws) ({ frames := 1, cells := 0, slots := 0, locals := 16 } : Room)) (fun a U => a = #[(.ref ob0), (.long q1)] ∧ Z.Warmed39 U.vm ∧ U.heap = h0) (fun _ _ _ _ _ => True) (fun _ U o U' => ∃ v L, o = .returned v ∧ Q4 Z ob0 q1 u_time h0 n0 v U'.heap L ∧ FrameEnd U o U' L ({ frames := 1, cells := 0, slots := 0, locals := 16 } : Room).cells ({ frames := 1, cells := 0, slots := 0, locals := 16 } : Room).slots) := by
  refine MetFree.of_bodySF (plainFor_of_name pn_4) hisR ?_
  intro p e s m args below meth c s₁ Bd hml0 hP hK
  obtain ⟨rfl, hZ, hh⟩ := hP
  have hx := Bd.exec
  have hby := Bd.bytes
  have hml : c.maxLocals = 3 := hml0
  have hown : s.vm.findClass "com/example/aveiro/aveiro/lock/LamportClock" = some m.cls := findClass_of_methodNamed Bd.named
  have hnm := (name_of_methodNamed Bd.named Bd.method).1
  have X0 : Stand p l e ({ frames := 1, cells := 0, slots := 0, locals := 16 } : Room) s m #[(.ref ob0), (.long q1)] below meth c s₁ [] 0 0 := Stand.of_body Bd
  have e0 : s₁.heap = h0 := by rw [← hh, Bd.state]; rfl
  have N0 := Fr.nil n0
  have pre0 : ∀ t, Steps p.tables e below (s₁.setTop (mkF m 0 #[.val (.ref ob0), .val (.long q1), .second] [])) t → Steps p.tables e below (s₁.setTop (entryFrame m #[(.ref ob0), (.long q1)] 3)) t := fun t k => castTop (ef_4 m ob0 q1) k
  obtain ⟨T1, X1, e1, st1⟩ := getF X0 hx hZ hown (host := "") (Or.inl (hw _ (List.mem_of_getElem? (i := 14) rfl))) Via.refl e0 F_time_ob0 (g := (mkF m 2 #[.val (.ref ob0), .val (.long q1), .second] [(.ref ob0), (.ref ob0)])) rfl rfl (hb hby d4_2)
  obtain ⟨_, _, ⟨T2, L2, k2, n2⟩, -, X2, ⟨Lc2, hQ2, l2, y2, z2⟩, st2⟩ := Jvm.LawKit.callS X1 hx (y := (⟨"java/lang/Math", "max", "(JJ)J"⟩ : MethodName)) hown (mvT hZ (hw _ (List.mem_of_getElem? (i := 21) rfl))) (mvT hZ (hw _ (List.mem_of_getElem? (i := 22) rfl))) (mvT hZ (hw _ (List.mem_of_getElem? (i := 23) rfl))) (mvT hZ (hw _ (List.mem_of_getElem? (i := 24) rfl))) (by decide) (backOf (W := 1) (rm5 l Z a0 hw [] u_time q1 h0 n0 Z0) hZ (hw _ (List.mem_of_getElem? (i := 24) rfl)) (hw _ (List.mem_of_getElem? (i := 23) rfl)) (by decide) (by decide)) (g := (mkF m 6 #[.val (.ref ob0), .val (.long q1), .second] [(.long q1), (.long u_time), (.ref ob0)])) rfl (by rw [hml]; rfl) (argsL := [(.long u_time), (.long q1)]) (rest := [(.ref ob0)]) (lenOf pd_2 rfl) rfl (by show 2 * 0 + _ ≤ _; exact Nat.le_of_eq rfl) (hb hby d4_6) (fun _ _ => ⟨rfl, e1, (by decide : 0 + 0 ≤ _), (by decide : 0 + 0 ≤ _)⟩)
  dsimp only [Pt.U, Pt.locs, Pt.cells, Pt.slots] at X2 l2 y2 z2 st2 hQ2
  subst l2 y2 z2
  obtain ⟨rfl, N2q, e2⟩ := hQ2
  have N2 := Fr.app N0 N2q
  obtain ⟨T3, h3, X3, e3, W3, st3⟩ := putF X2 hx hZ hown (host := "") (Or.inl (hw _ (List.mem_of_getElem? (i := 14) rfl))) Via.refl e2 F_time_ob0 E_ob0 (Or.inl (hw _ (List.mem_of_getElem? (i := 15) rfl))) (hw _ (List.mem_of_getElem? (i := 1) rfl)) (ty := .long) (by decide) rfl rfl (g := (mkF m 11 #[.val (.ref ob0), .val (.long q1), .second] [(.long ((F5 u_time q1) + (1 : Int64))), (.ref ob0)])) rfl rfl (hb hby d4_11)
  have fF4 := F_time_ob0.same W3
  have eE5 := E_ob0.wr W3
  have N3 := Fr.snoc X3 N2 g_ob0
  have Z3 := Nat.le_trans Z0 (Keep.of_wr W3).1
  have K3 := (Keep.refl h0 [ob0]).wr W3 (Or.inl (List.mem_of_getElem? (i := 0) rfl))
  obtain ⟨fs, hr, hrun, hended, hW, hsame⟩ := X3.leave (v := none) (fun _ => rfl)
  refine ⟨_, _, pre0 _ ?_, hrun, hended, _, _, rfl, ?_, ⟨_, rfl⟩, hW, hsame.mono (by decide) (by decide)⟩
  · show Steps p.tables e below (s₁.setTop (mkF m 0 #[.val (.ref ob0), .val (.long q1), .second] [])) _
    refine XS.aloadN X0.here hx rfl (hb hby d4_0) rfl rfl ?_
    show Steps p.tables e below (s₁.setTop (mkF m 1 #[.val (.ref ob0), .val (.long q1), .second] [(.ref ob0)])) _
    refine XS.aloadN X0.here hx rfl (hb hby d4_1) rfl rfl ?_
    show Steps p.tables e below (s₁.setTop (mkF m 2 #[.val (.ref ob0), .val (.long q1), .second] [(.ref ob0), (.ref ob0)])) _
    refine st1 _ ?_
    show Steps p.tables e below (T1.setTop (mkF m 5 #[.val (.ref ob0), .val (.long q1), .second] [(.long u_time), (.ref ob0)])) _
    refine XS.lloadN X1.here hx rfl (hb hby d4_5) rfl ?_
    show Steps p.tables e below (T1.setTop (mkF m 6 #[.val (.ref ob0), .val (.long q1), .second] [(.long q1), (.long u_time), (.ref ob0)])) _
    refine st2 _ ?_
    show Steps p.tables e below (T2.setTop (mkF m 9 #[.val (.ref ob0), .val (.long q1), .second] [(.long (F5 u_time q1)), (.ref ob0)])) _
    refine XS.lconst X2.here hx rfl (hb hby d4_9) ?_
    show Steps p.tables e below (T2.setTop (mkF m 10 #[.val (.ref ob0), .val (.long q1), .second] [(.long (1 : Int64)), (.long (F5 u_time q1)), (.ref ob0)])) _
    refine XS.ladd X2.here hx rfl (hb hby d4_10) rfl ?_
    show Steps p.tables e below (T2.setTop (mkF m 11 #[.val (.ref ob0), .val (.long q1), .second] [(.long ((F5 u_time q1) + (1 : Int64))), (.ref ob0)])) _
    refine st3 _ ?_
    show Steps p.tables e below (T3.setTop (mkF m 14 #[.val (.ref ob0), .val (.long q1), .second] [])) _
    exact X3.returnOut hx Bd.returns (hb hby d4_14) hr
  · show Q4 Z ob0 q1 u_time h0 n0 _ T3.heap _
    rw [e3]
    exact ⟨rfl, N3, K3, eE5, fF4⟩
theorem pd_3 : parseMethodDescriptor "(J)V" = some ⟨[.long], none⟩ := by decide +kernel
def F6 (q0 : Int64) (q1 : Int64) : Int64 :=
  if q0 < q1 then (q1 + (1 : Int64)) else (q0 + (1 : Int64))
theorem own_eq (a b : Int64) : F5 a b + (1 : Int64) = F6 a b := by
  rw [F5, F6]
  by_cases c : a < b
  · rw [if_pos c, if_pos c]
  · rw [if_neg c, if_neg c]
theorem d6_0 : decode method_2_code 0 = .ok (.lload_n 2, 1) := by decide +kernel
theorem d6_1 : decode method_2_code 1 = .ok (.lload_n 0, 1) := by decide +kernel
theorem d6_2 : decode method_2_code 2 = .ok (.lcmp, 1) := by decide +kernel
theorem d6_3 : decode method_2_code 3 = .ok (.ifCond .le 7, 3) := by decide +kernel
theorem d6_6 : decode method_2_code 6 = .ok (.lload_n 2, 1) := by decide +kernel
theorem d6_7 : decode method_2_code 7 = .ok (.lconst 1, 1) := by decide +kernel
theorem d6_8 : decode method_2_code 8 = .ok (.ladd, 1) := by decide +kernel
theorem d6_9 : decode method_2_code 9 = .ok (.lreturn, 1) := by decide +kernel
theorem d6_10 : decode method_2_code 10 = .ok (.lload_n 0, 1) := by decide +kernel
theorem d6_11 : decode method_2_code 11 = .ok (.lconst 1, 1) := by decide +kernel
theorem d6_12 : decode method_2_code 12 = .ok (.ladd, 1) := by decide +kernel
theorem d6_13 : decode method_2_code 13 = .ok (.lreturn, 1) := by decide +kernel
theorem pn_6 : plainName "com/example/aveiro/aveiro/lock/LamportClockReceivePinLaw" = true := by first | (simp [plainName, overriddenIn]; done) | decide +kernel
theorem ef_6 (m : MethodId) (q0 : Int64) (q1 : Int64) : entryFrame m #[(.long q0), (.long q1)] 4 = mkF m 0 #[.val (.long q0), .second, .val (.long q1), .second] [] := by first | (simp [entryFrame, mkF, argsToLocals, Value.category]; done) | rfl
def Q6 (Z : State) (q0 : Int64) (q1 : Int64) (h0 : Heap) (n0 : Nat) (v : Option Value) (h : Heap) (L : List Loc) : Prop := v = some (.long (F6 q0 q1)) ∧ Fr n0 L ∧ h = h0
set_option maxRecDepth 65536 in
set_option maxHeartbeats 40000000 in
theorem rm6 (l : Launch) (Z : State) (a0 : Array Value) (hw : ∀ d ∈ tables_1, d.before a0 Z = true) (ws : List Jvm.Cond) (q0 : Int64) (q1 : Int64) (h0 : Heap) (n0 : Nat) (Z0 : n0 ≤ h0.size) :
    MetFree l (⟨"com/example/aveiro/aveiro/lock/LamportClockReceivePinLaw", "expectedAfterReceive", "(JJ)J"⟩ : MethodName) (head1 (Jvm.Cond.code (⟨"com/example/aveiro/aveiro/lock/LamportClockReceivePinLaw", "expectedAfterReceive", "(JJ)J"⟩ : MethodName) method_2_code 4 (some .long) :: ws) ({ frames := 0, cells := 0, slots := 0, locals := 0 } : Room)) (fun a U => a = #[(.long q0), (.long q1)] ∧ Z.Warmed39 U.vm ∧ U.heap = h0) (fun _ _ _ _ _ => True) (fun _ U o U' => ∃ v L, o = .returned v ∧ Q6 Z q0 q1 h0 n0 v U'.heap L ∧ FrameEnd U o U' L ({ frames := 0, cells := 0, slots := 0, locals := 0 } : Room).cells ({ frames := 0, cells := 0, slots := 0, locals := 0 } : Room).slots) := by
  refine MetFree.of_bodySF (plainFor_of_name pn_6) hisR ?_
  intro p e s m args below meth c s₁ Bd hml0 hP hK
  obtain ⟨rfl, hZ, hh⟩ := hP
  have hx := Bd.exec
  have hby := Bd.bytes
  have hml : c.maxLocals = 4 := hml0
  have hown : s.vm.findClass "com/example/aveiro/aveiro/lock/LamportClockReceivePinLaw" = some m.cls := findClass_of_methodNamed Bd.named
  have hnm := (name_of_methodNamed Bd.named Bd.method).1
  have X0 : Stand p l e ({ frames := 0, cells := 0, slots := 0, locals := 0 } : Room) s m #[(.long q0), (.long q1)] below meth c s₁ [] 0 0 := Stand.of_body Bd
  have e0 : s₁.heap = h0 := by rw [← hh, Bd.state]; rfl
  have N0 := Fr.nil n0
  have pre0 : ∀ t, Steps p.tables e below (s₁.setTop (mkF m 0 #[.val (.long q0), .second, .val (.long q1), .second] [])) t → Steps p.tables e below (s₁.setTop (entryFrame m #[(.long q0), (.long q1)] 4)) t := fun t k => castTop (ef_6 m q0 q1) k
  have pre1 : ∀ t, Steps p.tables e below (s₁.setTop (mkF m 3 #[.val (.long q0), .second, .val (.long q1), .second] [(.int (lcmpW q1 q0))])) t → Steps p.tables e below (s₁.setTop (entryFrame m #[(.long q0), (.long q1)] 4)) t := fun t k => by
    refine pre0 t ?_
    show Steps p.tables e below (s₁.setTop (mkF m 0 #[.val (.long q0), .second, .val (.long q1), .second] [])) _
    refine XS.lloadN X0.here hx rfl (hb hby d6_0) rfl ?_
    show Steps p.tables e below (s₁.setTop (mkF m 1 #[.val (.long q0), .second, .val (.long q1), .second] [(.long q1)])) _
    refine XS.lloadN X0.here hx rfl (hb hby d6_1) rfl ?_
    show Steps p.tables e below (s₁.setTop (mkF m 2 #[.val (.long q0), .second, .val (.long q1), .second] [(.long q0), (.long q1)])) _
    refine XS.lcmp X0.here hx rfl (hb hby d6_2) rfl ?_
    exact k
  by_cases hc3 : q0 < q1
  · obtain ⟨fs, hr, hrun, hended, hW, hsame⟩ := X0.leave (v := some (.long (q1 + (1 : Int64)))) (fun h => by rw [Bd.returns] at h; cases h)
    refine ⟨_, _, pre1 _ ?_, hrun, hended, _, _, rfl, ?_, ⟨_, rfl⟩, hW, hsame.mono (by decide) (by decide)⟩
    · show Steps p.tables e below (s₁.setTop (mkF m 3 #[.val (.long q0), .second, .val (.long q1), .second] [(.int (lcmpW q1 q0))])) _
      refine XS.ifNo X0.here hx rfl (hb hby d6_3) rfl (lcN_le hc3) ?_
      show Steps p.tables e below (s₁.setTop (mkF m 6 #[.val (.long q0), .second, .val (.long q1), .second] [])) _
      refine XS.lloadN X0.here hx rfl (hb hby d6_6) rfl ?_
      show Steps p.tables e below (s₁.setTop (mkF m 7 #[.val (.long q0), .second, .val (.long q1), .second] [(.long q1)])) _
      refine XS.lconst X0.here hx rfl (hb hby d6_7) ?_
      show Steps p.tables e below (s₁.setTop (mkF m 8 #[.val (.long q0), .second, .val (.long q1), .second] [(.long (1 : Int64)), (.long q1)])) _
      refine XS.ladd X0.here hx rfl (hb hby d6_8) rfl ?_
      show Steps p.tables e below (s₁.setTop (mkF m 9 #[.val (.long q0), .second, .val (.long q1), .second] [(.long (q1 + (1 : Int64)))])) _
      exact retOut X0 hx Bd.returns rfl (Or.inr (Or.inl ⟨rfl, rfl, _, rfl⟩)) (hb hby d6_9) hr
    · show Q6 Z q0 q1 h0 n0 _ s₁.heap _
      rw [e0]
      exact ⟨(by rw [F6, if_pos hc3]), N0, rfl⟩
  · obtain ⟨fs, hr, hrun, hended, hW, hsame⟩ := X0.leave (v := some (.long (q0 + (1 : Int64)))) (fun h => by rw [Bd.returns] at h; cases h)
    refine ⟨_, _, pre1 _ ?_, hrun, hended, _, _, rfl, ?_, ⟨_, rfl⟩, hW, hsame.mono (by decide) (by decide)⟩
    · show Steps p.tables e below (s₁.setTop (mkF m 3 #[.val (.long q0), .second, .val (.long q1), .second] [(.int (lcmpW q1 q0))])) _
      refine XS.ifYes X0.here hx rfl (pc0 := 3) (pc' := 10) rfl (hb hby d6_3) rfl (lcY_le hc3) (by decide) (by decide) ?_
      show Steps p.tables e below (s₁.setTop (mkF m 10 #[.val (.long q0), .second, .val (.long q1), .second] [])) _
      refine XS.lloadN X0.here hx rfl (hb hby d6_10) rfl ?_
      show Steps p.tables e below (s₁.setTop (mkF m 11 #[.val (.long q0), .second, .val (.long q1), .second] [(.long q0)])) _
      refine XS.lconst X0.here hx rfl (hb hby d6_11) ?_
      show Steps p.tables e below (s₁.setTop (mkF m 12 #[.val (.long q0), .second, .val (.long q1), .second] [(.long (1 : Int64)), (.long q0)])) _
      refine XS.ladd X0.here hx rfl (hb hby d6_12) rfl ?_
      show Steps p.tables e below (s₁.setTop (mkF m 13 #[.val (.long q0), .second, .val (.long q1), .second] [(.long (q0 + (1 : Int64)))])) _
      exact retOut X0 hx Bd.returns rfl (Or.inr (Or.inl ⟨rfl, rfl, _, rfl⟩)) (hb hby d6_13) hr
    · show Q6 Z q0 q1 h0 n0 _ s₁.heap _
      rw [e0]
      exact ⟨(by rw [F6, if_neg hc3]), N0, rfl⟩
theorem d7_0 : decode prog_26_method_2_code 0 = .ok (.aload_n 0, 1) := by decide +kernel
theorem d7_1 : decode prog_26_method_2_code 1 = .ok (.dup, 1) := by decide +kernel
theorem d7_2 : decode prog_26_method_2_code 2 = .ok (.getfield 7, 3) := by decide +kernel
theorem d7_5 : decode prog_26_method_2_code 5 = .ok (.lconst 1, 1) := by decide +kernel
theorem d7_6 : decode prog_26_method_2_code 6 = .ok (.ladd, 1) := by decide +kernel
theorem d7_7 : decode prog_26_method_2_code 7 = .ok (.putfield 7, 3) := by decide +kernel
theorem d7_10 : decode prog_26_method_2_code 10 = .ok (.aload_n 0, 1) := by decide +kernel
theorem d7_11 : decode prog_26_method_2_code 11 = .ok (.getfield 7, 3) := by decide +kernel
theorem d7_14 : decode prog_26_method_2_code 14 = .ok (.lreturn, 1) := by decide +kernel
theorem pn_7 : plainName "com/example/aveiro/aveiro/lock/LamportClock" = true := by first | (simp [plainName, overriddenIn]; done) | decide +kernel
theorem ef_7 (m : MethodId) (ob0 : Addr) : entryFrame m #[(.ref ob0)] 1 = mkF m 0 #[.val (.ref ob0)] [] := by first | (simp [entryFrame, mkF, argsToLocals, Value.category]; done) | rfl
def Q7 (Z : State) (ob0 : Addr) (u_time : Int64) (h0 : Heap) (n0 : Nat) (v : Option Value) (h : Heap) (L : List Loc) : Prop := v = some (.long (u_time + (1 : Int64))) ∧ Fr n0 L ∧ Keep h0 h [ob0] ∧ Exa Z h ob0 "com/example/aveiro/aveiro/lock/LamportClock" ∧ Fld Z h ob0 "com/example/aveiro/aveiro/lock/LamportClock" "time" "J" (.long (u_time + (1 : Int64)))
set_option maxRecDepth 65536 in
set_option maxHeartbeats 40000000 in
theorem rm7 (l : Launch) (Z : State) (a0 : Array Value) (hw : ∀ d ∈ tables_1, d.before a0 Z = true) (ws : List Jvm.Cond) (ob0 : Addr) (u_time : Int64) (h0 : Heap) (n0 : Nat) (Z0 : n0 ≤ h0.size) (F_time_ob0 : Fld Z h0 ob0 "com/example/aveiro/aveiro/lock/LamportClock" "time" "J" (.long u_time)) (E_ob0 : Exa Z h0 ob0 "com/example/aveiro/aveiro/lock/LamportClock") (g_ob0 : n0 ≤ ob0) :
    MetFree l (⟨"com/example/aveiro/aveiro/lock/LamportClock", "advance", "()J"⟩ : MethodName) (head1 (Jvm.Cond.code (⟨"com/example/aveiro/aveiro/lock/LamportClock", "advance", "()J"⟩ : MethodName) prog_26_method_2_code 1 (some .long) :: ws) ({ frames := 0, cells := 0, slots := 0, locals := 0 } : Room)) (fun a U => a = #[(.ref ob0)] ∧ Z.Warmed39 U.vm ∧ U.heap = h0) (fun _ _ _ _ _ => True) (fun _ U o U' => ∃ v L, o = .returned v ∧ Q7 Z ob0 u_time h0 n0 v U'.heap L ∧ FrameEnd U o U' L ({ frames := 0, cells := 0, slots := 0, locals := 0 } : Room).cells ({ frames := 0, cells := 0, slots := 0, locals := 0 } : Room).slots) := by
  refine MetFree.of_bodySF (plainFor_of_name pn_7) hisR ?_
  intro p e s m args below meth c s₁ Bd hml0 hP hK
  obtain ⟨rfl, hZ, hh⟩ := hP
  have hx := Bd.exec
  have hby := Bd.bytes
  have hml : c.maxLocals = 1 := hml0
  have hown : s.vm.findClass "com/example/aveiro/aveiro/lock/LamportClock" = some m.cls := findClass_of_methodNamed Bd.named
  have hnm := (name_of_methodNamed Bd.named Bd.method).1
  have X0 : Stand p l e ({ frames := 0, cells := 0, slots := 0, locals := 0 } : Room) s m #[(.ref ob0)] below meth c s₁ [] 0 0 := Stand.of_body Bd
  have e0 : s₁.heap = h0 := by rw [← hh, Bd.state]; rfl
  have N0 := Fr.nil n0
  have pre0 : ∀ t, Steps p.tables e below (s₁.setTop (mkF m 0 #[.val (.ref ob0)] [])) t → Steps p.tables e below (s₁.setTop (entryFrame m #[(.ref ob0)] 1)) t := fun t k => castTop (ef_7 m ob0) k
  obtain ⟨T1, X1, e1, st1⟩ := getF X0 hx hZ hown (host := "") (Or.inl (hw _ (List.mem_of_getElem? (i := 14) rfl))) Via.refl e0 F_time_ob0 (g := (mkF m 2 #[.val (.ref ob0)] [(.ref ob0), (.ref ob0)])) rfl rfl (hb hby d7_2)
  obtain ⟨T2, h2, X2, e2, W2, st2⟩ := putF X1 hx hZ hown (host := "") (Or.inl (hw _ (List.mem_of_getElem? (i := 14) rfl))) Via.refl e1 F_time_ob0 E_ob0 (Or.inl (hw _ (List.mem_of_getElem? (i := 15) rfl))) (hw _ (List.mem_of_getElem? (i := 1) rfl)) (ty := .long) (by decide) rfl rfl (g := (mkF m 7 #[.val (.ref ob0)] [(.long (u_time + (1 : Int64))), (.ref ob0)])) rfl rfl (hb hby d7_7)
  have fF3 := F_time_ob0.same W2
  have eE4 := E_ob0.wr W2
  have N2 := Fr.snoc X2 N0 g_ob0
  have Z2 := Nat.le_trans Z0 (Keep.of_wr W2).1
  have K2 := (Keep.refl h0 [ob0]).wr W2 (Or.inl (List.mem_of_getElem? (i := 0) rfl))
  obtain ⟨T5, X5, e5, st5⟩ := getF X2 hx hZ hown (host := "") (Or.inl (hw _ (List.mem_of_getElem? (i := 14) rfl))) Via.refl e2 fF3 (g := (mkF m 11 #[.val (.ref ob0)] [(.ref ob0)])) rfl rfl (hb hby d7_11)
  obtain ⟨fs, hr, hrun, hended, hW, hsame⟩ := X5.leave (v := some (.long (u_time + (1 : Int64)))) (fun h => by rw [Bd.returns] at h; cases h)
  refine ⟨_, _, pre0 _ ?_, hrun, hended, _, _, rfl, ?_, ⟨_, rfl⟩, hW, hsame.mono (by decide) (by decide)⟩
  · show Steps p.tables e below (s₁.setTop (mkF m 0 #[.val (.ref ob0)] [])) _
    refine XS.aloadN X0.here hx rfl (hb hby d7_0) rfl rfl ?_
    show Steps p.tables e below (s₁.setTop (mkF m 1 #[.val (.ref ob0)] [(.ref ob0)])) _
    refine XS.dup X0.here hx rfl (hb hby d7_1) rfl rfl ?_
    show Steps p.tables e below (s₁.setTop (mkF m 2 #[.val (.ref ob0)] [(.ref ob0), (.ref ob0)])) _
    refine st1 _ ?_
    show Steps p.tables e below (T1.setTop (mkF m 5 #[.val (.ref ob0)] [(.long u_time), (.ref ob0)])) _
    refine XS.lconst X1.here hx rfl (hb hby d7_5) ?_
    show Steps p.tables e below (T1.setTop (mkF m 6 #[.val (.ref ob0)] [(.long (1 : Int64)), (.long u_time), (.ref ob0)])) _
    refine XS.ladd X1.here hx rfl (hb hby d7_6) rfl ?_
    show Steps p.tables e below (T1.setTop (mkF m 7 #[.val (.ref ob0)] [(.long (u_time + (1 : Int64))), (.ref ob0)])) _
    refine st2 _ ?_
    show Steps p.tables e below (T2.setTop (mkF m 10 #[.val (.ref ob0)] [])) _
    refine XS.aloadN X2.here hx rfl (hb hby d7_10) rfl rfl ?_
    show Steps p.tables e below (T2.setTop (mkF m 11 #[.val (.ref ob0)] [(.ref ob0)])) _
    refine st5 _ ?_
    show Steps p.tables e below (T5.setTop (mkF m 14 #[.val (.ref ob0)] [(.long (u_time + (1 : Int64)))])) _
    exact retOut X5 hx Bd.returns rfl (Or.inr (Or.inl ⟨rfl, rfl, _, rfl⟩)) (hb hby d7_14) hr
  · show Q7 Z ob0 u_time h0 n0 _ T5.heap _
    rw [e5]
    exact ⟨rfl, N2, K2, eE4, fF3⟩
theorem pn_0 : plainName "com/example/aveiro/aveiro/lock/LamportClockReceivePinLaw" = true := by first | (simp [plainName, overriddenIn]; done) | decide +kernel
theorem ef_0 (m : MethodId) (q0 : Int64) (q1 : Int64) (p2 : Int32) : entryFrame m #[(.long q0), (.long q1), (.int p2)] maxLocals = mkF m 0 #[.val (.long q0), .second, .val (.long q1), .second, .val (.int p2), .unset, .unset, .unset, .unset, .unset, .unset, .unset, .unset, .unset, .unset, .unset, .unset, .unset, .unset, .unset] [] := by first | (simp [entryFrame, mkF, argsToLocals, Value.category, maxLocals]; done) | rfl
def Q0 (Z : State) (q0 : Int64) (q1 : Int64) (p2 : Int32) (h0 : Heap) (n0 : Nat) (v : Option Value) (h : Heap) (L : List Loc) : Prop := v = some (.int 1) ∧ Fr n0 L
set_option maxRecDepth 65536 in
set_option maxHeartbeats 40000000 in
theorem rm0 (l : Launch) (Z : State) (a0 : Array Value) (hw : ∀ d ∈ tables_1, d.before a0 Z = true) (ws : List Jvm.Cond) (q0 : Int64) (q1 : Int64) (p2 : Int32) (h0 : Heap) (n0 : Nat) (Z0 : n0 ≤ h0.size) :
    MetFree l x (head1 (Jvm.Cond.code x code maxLocals ret :: ws) room_1) (fun a U => a = #[(.long q0), (.long q1), (.int p2)] ∧ Z.Warmed39 U.vm ∧ U.heap = h0) (fun _ _ _ _ _ => True) (fun _ U o U' => ∃ v L, o = .returned v ∧ Q0 Z q0 q1 p2 h0 n0 v U'.heap L ∧ FrameEnd U o U' L room_1.cells room_1.slots) := by
  refine MetFree.of_bodySF (plainFor_of_name pn_0) hisR ?_
  intro p e s m args below meth c s₁ Bd hml0 hP hK
  obtain ⟨rfl, hZ, hh⟩ := hP
  have hx := Bd.exec
  have hby := Bd.bytes
  have hml : c.maxLocals = 20 := hml0
  have hown : s.vm.findClass "com/example/aveiro/aveiro/lock/LamportClockReceivePinLaw" = some m.cls := findClass_of_methodNamed Bd.named
  have hnm := (name_of_methodNamed Bd.named Bd.method).1
  have X0 : Stand p l e room_1 s m #[(.long q0), (.long q1), (.int p2)] below meth c s₁ [] 0 0 := Stand.of_body Bd
  have e0 : s₁.heap = h0 := by rw [← hh, Bd.state]; rfl
  have N0 := Fr.nil n0
  have pre0 : ∀ t, Steps p.tables e below (s₁.setTop (mkF m 0 #[.val (.long q0), .second, .val (.long q1), .second, .val (.int p2), .unset, .unset, .unset, .unset, .unset, .unset, .unset, .unset, .unset, .unset, .unset, .unset, .unset, .unset, .unset] [])) t → Steps p.tables e below (s₁.setTop (entryFrame m #[(.long q0), (.long q1), (.int p2)] maxLocals)) t := fun t k => castTop (ef_0 m q0 q1 p2) k
  obtain ⟨T1, h1, X1, e1, E1, A1, D1, -, st1⟩ := newO X0 hx hZ hown (hw _ (List.mem_of_getElem? (i := 0) rfl)) (hw _ (List.mem_of_getElem? (i := 1) rfl)) (hw _ (List.mem_of_getElem? (i := 2) rfl)) e0 (g := (mkF m 0 #[.val (.long q0), .second, .val (.long q1), .second, .val (.int p2), .unset, .unset, .unset, .unset, .unset, .unset, .unset, .unset, .unset, .unset, .unset, .unset, .unset, .unset, .unset] [])) rfl (hb hby at_0) (by decide) (by decide)
  obtain ⟨b1, g1⟩ : ∃ z, z = h0.size := ⟨_, rfl⟩
  rw [← g1] at A1 D1 st1
  have g_b1 : n0 ≤ b1 := Nat.le_trans Z0 (Nat.le_of_eq g1.symm)
  have Z1 := Nat.le_trans Z0 E1.1
  have fF2 : Fld Z h1 b1 "com/example/aveiro/aveiro/lock/LamportClock" "time" "J" (.long (0 : Int64)) := D1 (Or.inl (hw _ (List.mem_of_getElem? (i := 15) rfl))) (ty := .long) (by decide)
  obtain ⟨_, _, ⟨T3, L3, k3, n3⟩, -, X3, ⟨Lc3, hQ3, l3, y3, z3⟩, st3⟩ := X1.specialBack hx (y := (⟨"com/example/aveiro/aveiro/lock/LamportClock", "<init>", "()V"⟩ : MethodName)) rfl hown (mvT hZ (hw _ (List.mem_of_getElem? (i := 3) rfl))) (mvT hZ (hw _ (List.mem_of_getElem? (i := 4) rfl))) (mvT hZ (hw _ (List.mem_of_getElem? (i := 5) rfl))) (by decide) (backOf (W := 1) (rm1 l Z a0 hw [] b1 h1 n0 Z1) hZ (hw _ (List.mem_of_getElem? (i := 5) rfl)) (hw _ (List.mem_of_getElem? (i := 2) rfl)) (by decide) (by decide)) (g := (mkF m 4 #[.val (.long q0), .second, .val (.long q1), .second, .val (.int p2), .unset, .unset, .unset, .unset, .unset, .unset, .unset, .unset, .unset, .unset, .unset, .unset, .unset, .unset, .unset] [(.ref b1), (.ref b1)])) rfl (by rw [hml]; rfl) (Steps.refl _) (a := b1) (argsL := []) (rest := [(.ref b1)]) (lenOf pd_0 rfl) rfl (by show 2 * 0 + _ ≤ _; exact Nat.le_of_eq rfl) (hb hby at_4) (fun _ _ => ⟨rfl, e1, (by decide : 1 + 0 ≤ _), (by decide : 1 + 0 ≤ _)⟩)
  dsimp only [Pt.U, Pt.locs, Pt.cells, Pt.slots] at X3 l3 y3 z3 st3 hQ3
  subst l3 y3 z3
  obtain ⟨rfl, N3q, e3⟩ := hQ3
  have N3 := Fr.app N0 N3q
  obtain ⟨cq4, kq4, q4a, q4b, q4c⟩ := isOf hZ e3 A1
  obtain ⟨_, _, ⟨T4, L4, k4, n4⟩, -, X4, ⟨Lc4, hQ4, l4, y4, z4⟩, st4⟩ := X3.virtualBack hx (y := (⟨"com/example/aveiro/aveiro/lock/LamportClock", "time", "()J"⟩ : MethodName)) (z := (⟨"com/example/aveiro/aveiro/lock/LamportClock", "time", "()J"⟩ : MethodName)) hown (mvT hZ (hw _ (List.mem_of_getElem? (i := 9) rfl))) (mvT hZ (hw _ (List.mem_of_getElem? (i := 10) rfl))) (notFace_of_selects (args := #[]) (mvT hZ (hw _ (List.mem_of_getElem? (i := 12) rfl)))) (mvT hZ (hw _ (List.mem_of_getElem? (i := 12) rfl))) (mvT hZ (hw _ (List.mem_of_getElem? (i := 11) rfl))) (by decide) (backOf (W := 0) (rm3 l Z a0 hw [] b1 (0 : Int64) h1 n0 Z1 fF2) hZ (hw _ (List.mem_of_getElem? (i := 13) rfl)) (hw _ (List.mem_of_getElem? (i := 2) rfl)) (by decide) (by decide)) q4a q4c (g := (mkF m 11 #[.val (.long q0), .second, .val (.long q1), .second, .val (.int p2), .val (.ref b1), .unset, .unset, .unset, .unset, .unset, .unset, .unset, .unset, .unset, .unset, .unset, .unset, .unset, .unset] [(.ref b1)])) rfl (by rw [hml]; rfl) (Steps.refl _) (argsL := []) (rest := []) (lenOf pd_1 rfl) rfl (by show 2 * 0 + _ ≤ _; exact Nat.le_of_eq rfl) (hb hby at_11) (fun _ _ => ⟨rfl, e3, (by decide : 1 + 0 ≤ _), (by decide : 1 + 0 ≤ _)⟩)
  dsimp only [Pt.U, Pt.locs, Pt.cells, Pt.slots] at X4 l4 y4 z4 st4 hQ4
  subst l4 y4 z4
  obtain ⟨rfl, N4q, e4⟩ := hQ4
  have N4 := Fr.app N3 N4q
  obtain ⟨cq5, kq5, q5a, q5b, q5c⟩ := isOf hZ e4 A1
  obtain ⟨_, _, ⟨T5, L5, k5, n5⟩, -, X5, ⟨Lc5, hQ5, l5, y5, z5⟩, st5⟩ := X4.virtualBack hx (y := (⟨"com/example/aveiro/aveiro/lock/LamportClock", "receive", "(J)V"⟩ : MethodName)) (z := (⟨"com/example/aveiro/aveiro/lock/LamportClock", "receive", "(J)V"⟩ : MethodName)) hown (mvT hZ (hw _ (List.mem_of_getElem? (i := 16) rfl))) (mvT hZ (hw _ (List.mem_of_getElem? (i := 17) rfl))) (notFace_of_selects (args := #[]) (mvT hZ (hw _ (List.mem_of_getElem? (i := 19) rfl)))) (mvT hZ (hw _ (List.mem_of_getElem? (i := 19) rfl))) (mvT hZ (hw _ (List.mem_of_getElem? (i := 18) rfl))) (by decide) (backOf (W := 0) (rm4 l Z a0 hw [] b1 q0 (0 : Int64) h1 n0 Z1 fF2 A1 g_b1) hZ (hw _ (List.mem_of_getElem? (i := 20) rfl)) (hw _ (List.mem_of_getElem? (i := 2) rfl)) (by decide) (by decide)) q5a q5c (g := (mkF m 28 #[.val (.long q0), .second, .val (.long q1), .second, .val (.int p2), .val (.ref b1), .val (.long (0 : Int64)), .second, .unset, .unset, .unset, .unset, .unset, .unset, .unset, .unset, .unset, .unset, .unset, .unset] [(.long q0), (.ref b1)])) rfl (by rw [hml]; rfl) (Steps.refl _) (argsL := [(.long q0)]) (rest := []) (lenOf pd_3 rfl) rfl (by show 2 * 0 + _ ≤ _; exact Nat.le_of_eq rfl) (hb hby at_28) (fun _ _ => ⟨rfl, e4, (by decide : 1 + 0 ≤ _), (by decide : 1 + 0 ≤ _)⟩)
  dsimp only [Pt.U, Pt.locs, Pt.cells, Pt.slots] at X5 l5 y5 z5 st5 hQ5
  subst l5 y5 z5
  obtain ⟨rfl, N5q, K5, G6, G7⟩ := hQ5
  have Z5 := Nat.le_trans Z1 K5.1
  have N5 := Fr.app N4 N5q
  obtain ⟨cq8, kq8, q8a, q8b, q8c⟩ := isOf hZ rfl G6
  obtain ⟨_, _, ⟨T8, L8, k8, n8⟩, -, X8, ⟨Lc8, hQ8, l8, y8, z8⟩, st8⟩ := X5.virtualBack hx (y := (⟨"com/example/aveiro/aveiro/lock/LamportClock", "time", "()J"⟩ : MethodName)) (z := (⟨"com/example/aveiro/aveiro/lock/LamportClock", "time", "()J"⟩ : MethodName)) hown (mvT hZ (hw _ (List.mem_of_getElem? (i := 9) rfl))) (mvT hZ (hw _ (List.mem_of_getElem? (i := 10) rfl))) (notFace_of_selects (args := #[]) (mvT hZ (hw _ (List.mem_of_getElem? (i := 12) rfl)))) (mvT hZ (hw _ (List.mem_of_getElem? (i := 12) rfl))) (mvT hZ (hw _ (List.mem_of_getElem? (i := 11) rfl))) (by decide) (backOf (W := 0) (rm3 l Z a0 hw [] b1 ((F5 (0 : Int64) q0) + (1 : Int64)) T5.heap n0 Z5 G7) hZ (hw _ (List.mem_of_getElem? (i := 13) rfl)) (hw _ (List.mem_of_getElem? (i := 2) rfl)) (by decide) (by decide)) q8a q8c (g := (mkF m 33 #[.val (.long q0), .second, .val (.long q1), .second, .val (.int p2), .val (.ref b1), .val (.long (0 : Int64)), .second, .unset, .unset, .unset, .unset, .unset, .unset, .unset, .unset, .unset, .unset, .unset, .unset] [(.ref b1)])) rfl (by rw [hml]; rfl) (Steps.refl _) (argsL := []) (rest := []) (lenOf pd_1 rfl) rfl (by show 2 * 0 + _ ≤ _; exact Nat.le_of_eq rfl) (hb hby at_33) (fun _ _ => ⟨rfl, rfl, (by decide : 1 + 0 ≤ _), (by decide : 1 + 0 ≤ _)⟩)
  dsimp only [Pt.U, Pt.locs, Pt.cells, Pt.slots] at X8 l8 y8 z8 st8 hQ8
  subst l8 y8 z8
  obtain ⟨rfl, N8q, e8⟩ := hQ8
  have N8 := Fr.app N5 N8q
  obtain ⟨_, _, ⟨T9, L9, k9, n9⟩, -, X9, ⟨Lc9, hQ9, l9, y9, z9⟩, st9⟩ := Jvm.LawKit.callS X8 hx (y := (⟨"com/example/aveiro/aveiro/lock/LamportClockReceivePinLaw", "expectedAfterReceive", "(JJ)J"⟩ : MethodName)) hown (mvT hZ (hw _ (List.mem_of_getElem? (i := 25) rfl))) (mvT hZ (hw _ (List.mem_of_getElem? (i := 26) rfl))) (mvT hZ (hw _ (List.mem_of_getElem? (i := 27) rfl))) (mvT hZ (hw _ (List.mem_of_getElem? (i := 28) rfl))) (by decide) (backOf (W := 0) (rm6 l Z a0 hw [] (0 : Int64) q0 T5.heap n0 Z5) hZ (hw _ (List.mem_of_getElem? (i := 28) rfl)) (hw _ (List.mem_of_getElem? (i := 27) rfl)) (by decide) (by decide)) (g := (mkF m 40 #[.val (.long q0), .second, .val (.long q1), .second, .val (.int p2), .val (.ref b1), .val (.long (0 : Int64)), .second, .val (.long ((F5 (0 : Int64) q0) + (1 : Int64))), .second, .unset, .unset, .unset, .unset, .unset, .unset, .unset, .unset, .unset, .unset] [(.long q0), (.long (0 : Int64))])) rfl (by rw [hml]; rfl) (argsL := [(.long (0 : Int64)), (.long q0)]) (rest := []) (lenOf pd_2 rfl) rfl (by show 2 * 0 + _ ≤ _; exact Nat.le_of_eq rfl) (hb hby at_40) (fun _ _ => ⟨rfl, e8, (by decide : 1 + 0 ≤ _), (by decide : 1 + 0 ≤ _)⟩)
  dsimp only [Pt.U, Pt.locs, Pt.cells, Pt.slots] at X9 l9 y9 z9 st9 hQ9
  subst l9 y9 z9
  obtain ⟨rfl, N9q, e9⟩ := hQ9
  have N9 := Fr.app N8 N9q
  have pre10 : ∀ t, Steps p.tables e below (T9.setTop (mkF m 53 #[.val (.long q0), .second, .val (.long q1), .second, .val (.int p2), .val (.ref b1), .val (.long (0 : Int64)), .second, .val (.long ((F5 (0 : Int64) q0) + (1 : Int64))), .second, .val (.long (F6 (0 : Int64) q0)), .second, .val (.long ((F5 (0 : Int64) q0) + (1 : Int64))), .second, .unset, .unset, .unset, .unset, .unset, .unset] [(.int (p2 &&& (1 : Int32)))])) t → Steps p.tables e below (s₁.setTop (entryFrame m #[(.long q0), (.long q1), (.int p2)] maxLocals)) t := fun t k => by
    refine pre0 t ?_
    show Steps p.tables e below (s₁.setTop (mkF m 0 #[.val (.long q0), .second, .val (.long q1), .second, .val (.int p2), .unset, .unset, .unset, .unset, .unset, .unset, .unset, .unset, .unset, .unset, .unset, .unset, .unset, .unset, .unset] [])) _
    refine st1 _ ?_
    show Steps p.tables e below (T1.setTop (mkF m 3 #[.val (.long q0), .second, .val (.long q1), .second, .val (.int p2), .unset, .unset, .unset, .unset, .unset, .unset, .unset, .unset, .unset, .unset, .unset, .unset, .unset, .unset, .unset] [(.ref b1)])) _
    refine XS.dup X1.here hx rfl (hb hby at_3) rfl rfl ?_
    show Steps p.tables e below (T1.setTop (mkF m 4 #[.val (.long q0), .second, .val (.long q1), .second, .val (.int p2), .unset, .unset, .unset, .unset, .unset, .unset, .unset, .unset, .unset, .unset, .unset, .unset, .unset, .unset, .unset] [(.ref b1), (.ref b1)])) _
    refine st3.trans ?_
    show Steps p.tables e below (T3.setTop (mkF m 7 #[.val (.long q0), .second, .val (.long q1), .second, .val (.int p2), .unset, .unset, .unset, .unset, .unset, .unset, .unset, .unset, .unset, .unset, .unset, .unset, .unset, .unset, .unset] [(.ref b1)])) _
    refine XS.astore X3.here hx rfl (hb hby at_7) rfl rfl (l' := #[.val (.long q0), .second, .val (.long q1), .second, .val (.int p2), .val (.ref b1), .unset, .unset, .unset, .unset, .unset, .unset, .unset, .unset, .unset, .unset, .unset, .unset, .unset, .unset]) rfl ?_
    show Steps p.tables e below (T3.setTop (mkF m 9 #[.val (.long q0), .second, .val (.long q1), .second, .val (.int p2), .val (.ref b1), .unset, .unset, .unset, .unset, .unset, .unset, .unset, .unset, .unset, .unset, .unset, .unset, .unset, .unset] [])) _
    refine XS.aload X3.here hx rfl (hb hby at_9) rfl rfl ?_
    show Steps p.tables e below (T3.setTop (mkF m 11 #[.val (.long q0), .second, .val (.long q1), .second, .val (.int p2), .val (.ref b1), .unset, .unset, .unset, .unset, .unset, .unset, .unset, .unset, .unset, .unset, .unset, .unset, .unset, .unset] [(.ref b1)])) _
    refine st4.trans ?_
    show Steps p.tables e below (T4.setTop (mkF m 14 #[.val (.long q0), .second, .val (.long q1), .second, .val (.int p2), .val (.ref b1), .unset, .unset, .unset, .unset, .unset, .unset, .unset, .unset, .unset, .unset, .unset, .unset, .unset, .unset] [(.long (0 : Int64))])) _
    refine XS.lstore X4.here hx rfl (hb hby at_14) rfl (l' := #[.val (.long q0), .second, .val (.long q1), .second, .val (.int p2), .val (.ref b1), .val (.long (0 : Int64)), .second, .unset, .unset, .unset, .unset, .unset, .unset, .unset, .unset, .unset, .unset, .unset, .unset]) rfl ?_
    show Steps p.tables e below (T4.setTop (mkF m 16 #[.val (.long q0), .second, .val (.long q1), .second, .val (.int p2), .val (.ref b1), .val (.long (0 : Int64)), .second, .unset, .unset, .unset, .unset, .unset, .unset, .unset, .unset, .unset, .unset, .unset, .unset] [])) _
    refine XS.lload X4.here hx rfl (hb hby at_16) rfl ?_
    show Steps p.tables e below (T4.setTop (mkF m 18 #[.val (.long q0), .second, .val (.long q1), .second, .val (.int p2), .val (.ref b1), .val (.long (0 : Int64)), .second, .unset, .unset, .unset, .unset, .unset, .unset, .unset, .unset, .unset, .unset, .unset, .unset] [(.long (0 : Int64))])) _
    refine XS.lconst X4.here hx rfl (hb hby at_18) ?_
    show Steps p.tables e below (T4.setTop (mkF m 19 #[.val (.long q0), .second, .val (.long q1), .second, .val (.int p2), .val (.ref b1), .val (.long (0 : Int64)), .second, .unset, .unset, .unset, .unset, .unset, .unset, .unset, .unset, .unset, .unset, .unset, .unset] [(.long (0 : Int64)), (.long (0 : Int64))])) _
    refine XS.lcmp X4.here hx rfl (hb hby at_19) rfl ?_
    show Steps p.tables e below (T4.setTop (mkF m 20 #[.val (.long q0), .second, .val (.long q1), .second, .val (.int p2), .val (.ref b1), .val (.long (0 : Int64)), .second, .unset, .unset, .unset, .unset, .unset, .unset, .unset, .unset, .unset, .unset, .unset, .unset] [(.int (lcmpW (0 : Int64) (0 : Int64)))])) _
    refine XS.ifYes X4.here hx rfl (pc0 := 20) (pc' := 25) rfl (hb hby at_20) rfl (lcY_eq (by decide : (0 : Int64) = (0 : Int64))) (by decide) (by decide) ?_
    show Steps p.tables e below (T4.setTop (mkF m 25 #[.val (.long q0), .second, .val (.long q1), .second, .val (.int p2), .val (.ref b1), .val (.long (0 : Int64)), .second, .unset, .unset, .unset, .unset, .unset, .unset, .unset, .unset, .unset, .unset, .unset, .unset] [])) _
    refine XS.aload X4.here hx rfl (hb hby at_25) rfl rfl ?_
    show Steps p.tables e below (T4.setTop (mkF m 27 #[.val (.long q0), .second, .val (.long q1), .second, .val (.int p2), .val (.ref b1), .val (.long (0 : Int64)), .second, .unset, .unset, .unset, .unset, .unset, .unset, .unset, .unset, .unset, .unset, .unset, .unset] [(.ref b1)])) _
    refine XS.lloadN X4.here hx rfl (hb hby at_27) rfl ?_
    show Steps p.tables e below (T4.setTop (mkF m 28 #[.val (.long q0), .second, .val (.long q1), .second, .val (.int p2), .val (.ref b1), .val (.long (0 : Int64)), .second, .unset, .unset, .unset, .unset, .unset, .unset, .unset, .unset, .unset, .unset, .unset, .unset] [(.long q0), (.ref b1)])) _
    refine st5.trans ?_
    show Steps p.tables e below (T5.setTop (mkF m 31 #[.val (.long q0), .second, .val (.long q1), .second, .val (.int p2), .val (.ref b1), .val (.long (0 : Int64)), .second, .unset, .unset, .unset, .unset, .unset, .unset, .unset, .unset, .unset, .unset, .unset, .unset] [])) _
    refine XS.aload X5.here hx rfl (hb hby at_31) rfl rfl ?_
    show Steps p.tables e below (T5.setTop (mkF m 33 #[.val (.long q0), .second, .val (.long q1), .second, .val (.int p2), .val (.ref b1), .val (.long (0 : Int64)), .second, .unset, .unset, .unset, .unset, .unset, .unset, .unset, .unset, .unset, .unset, .unset, .unset] [(.ref b1)])) _
    refine st8.trans ?_
    show Steps p.tables e below (T8.setTop (mkF m 36 #[.val (.long q0), .second, .val (.long q1), .second, .val (.int p2), .val (.ref b1), .val (.long (0 : Int64)), .second, .unset, .unset, .unset, .unset, .unset, .unset, .unset, .unset, .unset, .unset, .unset, .unset] [(.long ((F5 (0 : Int64) q0) + (1 : Int64)))])) _
    refine XS.lstore X8.here hx rfl (hb hby at_36) rfl (l' := #[.val (.long q0), .second, .val (.long q1), .second, .val (.int p2), .val (.ref b1), .val (.long (0 : Int64)), .second, .val (.long ((F5 (0 : Int64) q0) + (1 : Int64))), .second, .unset, .unset, .unset, .unset, .unset, .unset, .unset, .unset, .unset, .unset]) rfl ?_
    show Steps p.tables e below (T8.setTop (mkF m 38 #[.val (.long q0), .second, .val (.long q1), .second, .val (.int p2), .val (.ref b1), .val (.long (0 : Int64)), .second, .val (.long ((F5 (0 : Int64) q0) + (1 : Int64))), .second, .unset, .unset, .unset, .unset, .unset, .unset, .unset, .unset, .unset, .unset] [])) _
    refine XS.lconst X8.here hx rfl (hb hby at_38) ?_
    show Steps p.tables e below (T8.setTop (mkF m 39 #[.val (.long q0), .second, .val (.long q1), .second, .val (.int p2), .val (.ref b1), .val (.long (0 : Int64)), .second, .val (.long ((F5 (0 : Int64) q0) + (1 : Int64))), .second, .unset, .unset, .unset, .unset, .unset, .unset, .unset, .unset, .unset, .unset] [(.long (0 : Int64))])) _
    refine XS.lloadN X8.here hx rfl (hb hby at_39) rfl ?_
    show Steps p.tables e below (T8.setTop (mkF m 40 #[.val (.long q0), .second, .val (.long q1), .second, .val (.int p2), .val (.ref b1), .val (.long (0 : Int64)), .second, .val (.long ((F5 (0 : Int64) q0) + (1 : Int64))), .second, .unset, .unset, .unset, .unset, .unset, .unset, .unset, .unset, .unset, .unset] [(.long q0), (.long (0 : Int64))])) _
    refine st9 _ ?_
    show Steps p.tables e below (T9.setTop (mkF m 43 #[.val (.long q0), .second, .val (.long q1), .second, .val (.int p2), .val (.ref b1), .val (.long (0 : Int64)), .second, .val (.long ((F5 (0 : Int64) q0) + (1 : Int64))), .second, .unset, .unset, .unset, .unset, .unset, .unset, .unset, .unset, .unset, .unset] [(.long (F6 (0 : Int64) q0))])) _
    refine XS.lstore X9.here hx rfl (hb hby at_43) rfl (l' := #[.val (.long q0), .second, .val (.long q1), .second, .val (.int p2), .val (.ref b1), .val (.long (0 : Int64)), .second, .val (.long ((F5 (0 : Int64) q0) + (1 : Int64))), .second, .val (.long (F6 (0 : Int64) q0)), .second, .unset, .unset, .unset, .unset, .unset, .unset, .unset, .unset]) rfl ?_
    show Steps p.tables e below (T9.setTop (mkF m 45 #[.val (.long q0), .second, .val (.long q1), .second, .val (.int p2), .val (.ref b1), .val (.long (0 : Int64)), .second, .val (.long ((F5 (0 : Int64) q0) + (1 : Int64))), .second, .val (.long (F6 (0 : Int64) q0)), .second, .unset, .unset, .unset, .unset, .unset, .unset, .unset, .unset] [])) _
    refine XS.lload X9.here hx rfl (hb hby at_45) rfl ?_
    show Steps p.tables e below (T9.setTop (mkF m 47 #[.val (.long q0), .second, .val (.long q1), .second, .val (.int p2), .val (.ref b1), .val (.long (0 : Int64)), .second, .val (.long ((F5 (0 : Int64) q0) + (1 : Int64))), .second, .val (.long (F6 (0 : Int64) q0)), .second, .unset, .unset, .unset, .unset, .unset, .unset, .unset, .unset] [(.long ((F5 (0 : Int64) q0) + (1 : Int64)))])) _
    refine XS.lstore X9.here hx rfl (hb hby at_47) rfl (l' := #[.val (.long q0), .second, .val (.long q1), .second, .val (.int p2), .val (.ref b1), .val (.long (0 : Int64)), .second, .val (.long ((F5 (0 : Int64) q0) + (1 : Int64))), .second, .val (.long (F6 (0 : Int64) q0)), .second, .val (.long ((F5 (0 : Int64) q0) + (1 : Int64))), .second, .unset, .unset, .unset, .unset, .unset, .unset]) rfl ?_
    show Steps p.tables e below (T9.setTop (mkF m 49 #[.val (.long q0), .second, .val (.long q1), .second, .val (.int p2), .val (.ref b1), .val (.long (0 : Int64)), .second, .val (.long ((F5 (0 : Int64) q0) + (1 : Int64))), .second, .val (.long (F6 (0 : Int64) q0)), .second, .val (.long ((F5 (0 : Int64) q0) + (1 : Int64))), .second, .unset, .unset, .unset, .unset, .unset, .unset] [])) _
    refine XS.iload X9.here hx rfl (hb hby at_49) rfl ?_
    show Steps p.tables e below (T9.setTop (mkF m 51 #[.val (.long q0), .second, .val (.long q1), .second, .val (.int p2), .val (.ref b1), .val (.long (0 : Int64)), .second, .val (.long ((F5 (0 : Int64) q0) + (1 : Int64))), .second, .val (.long (F6 (0 : Int64) q0)), .second, .val (.long ((F5 (0 : Int64) q0) + (1 : Int64))), .second, .unset, .unset, .unset, .unset, .unset, .unset] [(.int p2)])) _
    refine XS.iconst X9.here hx rfl (hb hby at_51) ?_
    show Steps p.tables e below (T9.setTop (mkF m 52 #[.val (.long q0), .second, .val (.long q1), .second, .val (.int p2), .val (.ref b1), .val (.long (0 : Int64)), .second, .val (.long ((F5 (0 : Int64) q0) + (1 : Int64))), .second, .val (.long (F6 (0 : Int64) q0)), .second, .val (.long ((F5 (0 : Int64) q0) + (1 : Int64))), .second, .unset, .unset, .unset, .unset, .unset, .unset] [(.int (1 : Int32)), (.int p2)])) _
    refine XS.iand X9.here hx rfl (hb hby at_52) rfl ?_
    exact k
  by_cases hc53 : (p2 &&& (1 : Int32)) = (0 : Int32)
  · have pre11 : ∀ t, Steps p.tables e below (T9.setTop (mkF m 72 #[.val (.long q0), .second, .val (.long q1), .second, .val (.int p2), .val (.ref b1), .val (.long (0 : Int64)), .second, .val (.long ((F5 (0 : Int64) q0) + (1 : Int64))), .second, .val (.long (F6 (0 : Int64) q0)), .second, .val (.long ((F5 (0 : Int64) q0) + (1 : Int64))), .second, .unset, .unset, .unset, .unset, .unset, .unset] [(.int (p2 &&& (2 : Int32)))])) t → Steps p.tables e below (s₁.setTop (entryFrame m #[(.long q0), (.long q1), (.int p2)] maxLocals)) t := fun t k => by
      refine pre10 t ?_
      show Steps p.tables e below (T9.setTop (mkF m 53 #[.val (.long q0), .second, .val (.long q1), .second, .val (.int p2), .val (.ref b1), .val (.long (0 : Int64)), .second, .val (.long ((F5 (0 : Int64) q0) + (1 : Int64))), .second, .val (.long (F6 (0 : Int64) q0)), .second, .val (.long ((F5 (0 : Int64) q0) + (1 : Int64))), .second, .unset, .unset, .unset, .unset, .unset, .unset] [(.int (p2 &&& (1 : Int32)))])) _
      refine XS.ifYes X9.here hx rfl (pc0 := 53) (pc' := 68) rfl (hb hby at_53) rfl ((if0 _ _).trans (teq hc53).1) (by decide) (by decide) ?_
      show Steps p.tables e below (T9.setTop (mkF m 68 #[.val (.long q0), .second, .val (.long q1), .second, .val (.int p2), .val (.ref b1), .val (.long (0 : Int64)), .second, .val (.long ((F5 (0 : Int64) q0) + (1 : Int64))), .second, .val (.long (F6 (0 : Int64) q0)), .second, .val (.long ((F5 (0 : Int64) q0) + (1 : Int64))), .second, .unset, .unset, .unset, .unset, .unset, .unset] [])) _
      refine XS.iload X9.here hx rfl (hb hby at_68) rfl ?_
      show Steps p.tables e below (T9.setTop (mkF m 70 #[.val (.long q0), .second, .val (.long q1), .second, .val (.int p2), .val (.ref b1), .val (.long (0 : Int64)), .second, .val (.long ((F5 (0 : Int64) q0) + (1 : Int64))), .second, .val (.long (F6 (0 : Int64) q0)), .second, .val (.long ((F5 (0 : Int64) q0) + (1 : Int64))), .second, .unset, .unset, .unset, .unset, .unset, .unset] [(.int p2)])) _
      refine XS.iconst X9.here hx rfl (hb hby at_70) ?_
      show Steps p.tables e below (T9.setTop (mkF m 71 #[.val (.long q0), .second, .val (.long q1), .second, .val (.int p2), .val (.ref b1), .val (.long (0 : Int64)), .second, .val (.long ((F5 (0 : Int64) q0) + (1 : Int64))), .second, .val (.long (F6 (0 : Int64) q0)), .second, .val (.long ((F5 (0 : Int64) q0) + (1 : Int64))), .second, .unset, .unset, .unset, .unset, .unset, .unset] [(.int (2 : Int32)), (.int p2)])) _
      refine XS.iand X9.here hx rfl (hb hby at_71) rfl ?_
      exact k
    by_cases hc72 : (p2 &&& (2 : Int32)) = (0 : Int32)
    · obtain ⟨cq12, kq12, q12a, q12b, q12c⟩ := isOf hZ e9 G6
      obtain ⟨_, _, ⟨T12, L12, k12, n12⟩, -, X12, ⟨Lc12, hQ12, l12, y12, z12⟩, st12⟩ := X9.virtualBack hx (y := (⟨"com/example/aveiro/aveiro/lock/LamportClock", "time", "()J"⟩ : MethodName)) (z := (⟨"com/example/aveiro/aveiro/lock/LamportClock", "time", "()J"⟩ : MethodName)) hown (mvT hZ (hw _ (List.mem_of_getElem? (i := 9) rfl))) (mvT hZ (hw _ (List.mem_of_getElem? (i := 10) rfl))) (notFace_of_selects (args := #[]) (mvT hZ (hw _ (List.mem_of_getElem? (i := 12) rfl)))) (mvT hZ (hw _ (List.mem_of_getElem? (i := 12) rfl))) (mvT hZ (hw _ (List.mem_of_getElem? (i := 11) rfl))) (by decide) (backOf (W := 0) (rm3 l Z a0 hw [] b1 ((F5 (0 : Int64) q0) + (1 : Int64)) T5.heap n0 Z5 G7) hZ (hw _ (List.mem_of_getElem? (i := 13) rfl)) (hw _ (List.mem_of_getElem? (i := 2) rfl)) (by decide) (by decide)) q12a q12c (g := (mkF m 89 #[.val (.long q0), .second, .val (.long q1), .second, .val (.int p2), .val (.ref b1), .val (.long (0 : Int64)), .second, .val (.long ((F5 (0 : Int64) q0) + (1 : Int64))), .second, .val (.long (F6 (0 : Int64) q0)), .second, .val (.long ((F5 (0 : Int64) q0) + (1 : Int64))), .second, .unset, .unset, .unset, .unset, .unset, .unset] [(.ref b1)])) rfl (by rw [hml]; rfl) (Steps.refl _) (argsL := []) (rest := []) (lenOf pd_1 rfl) rfl (by show 2 * 0 + _ ≤ _; exact Nat.le_of_eq rfl) (hb hby at_89) (fun _ _ => ⟨rfl, e9, (by decide : 1 + 0 ≤ _), (by decide : 1 + 0 ≤ _)⟩)
      dsimp only [Pt.U, Pt.locs, Pt.cells, Pt.slots] at X12 l12 y12 z12 st12 hQ12
      subst l12 y12 z12
      obtain ⟨rfl, N12q, e12⟩ := hQ12
      have N12 := Fr.app N9 N12q
      obtain ⟨cq13, kq13, q13a, q13b, q13c⟩ := isOf hZ e12 G6
      obtain ⟨_, _, ⟨T13, L13, k13, n13⟩, -, X13, ⟨Lc13, hQ13, l13, y13, z13⟩, st13⟩ := X12.virtualBack hx (y := (⟨"com/example/aveiro/aveiro/lock/LamportClock", "receive", "(J)V"⟩ : MethodName)) (z := (⟨"com/example/aveiro/aveiro/lock/LamportClock", "receive", "(J)V"⟩ : MethodName)) hown (mvT hZ (hw _ (List.mem_of_getElem? (i := 16) rfl))) (mvT hZ (hw _ (List.mem_of_getElem? (i := 17) rfl))) (notFace_of_selects (args := #[]) (mvT hZ (hw _ (List.mem_of_getElem? (i := 19) rfl)))) (mvT hZ (hw _ (List.mem_of_getElem? (i := 19) rfl))) (mvT hZ (hw _ (List.mem_of_getElem? (i := 18) rfl))) (by decide) (backOf (W := 0) (rm4 l Z a0 hw [] b1 q1 ((F5 (0 : Int64) q0) + (1 : Int64)) T5.heap n0 Z5 G7 G6 g_b1) hZ (hw _ (List.mem_of_getElem? (i := 20) rfl)) (hw _ (List.mem_of_getElem? (i := 2) rfl)) (by decide) (by decide)) q13a q13c (g := (mkF m 97 #[.val (.long q0), .second, .val (.long q1), .second, .val (.int p2), .val (.ref b1), .val (.long (0 : Int64)), .second, .val (.long ((F5 (0 : Int64) q0) + (1 : Int64))), .second, .val (.long (F6 (0 : Int64) q0)), .second, .val (.long ((F5 (0 : Int64) q0) + (1 : Int64))), .second, .val (.long ((F5 (0 : Int64) q0) + (1 : Int64))), .second, .unset, .unset, .unset, .unset] [(.long q1), (.ref b1)])) rfl (by rw [hml]; rfl) (Steps.refl _) (argsL := [(.long q1)]) (rest := []) (lenOf pd_3 rfl) rfl (by show 2 * 0 + _ ≤ _; exact Nat.le_of_eq rfl) (hb hby at_97) (fun _ _ => ⟨rfl, e12, (by decide : 1 + 0 ≤ _), (by decide : 1 + 0 ≤ _)⟩)
      dsimp only [Pt.U, Pt.locs, Pt.cells, Pt.slots] at X13 l13 y13 z13 st13 hQ13
      subst l13 y13 z13
      obtain ⟨rfl, N13q, K13, G14, G15⟩ := hQ13
      have Z13 := Nat.le_trans Z5 K13.1
      have N13 := Fr.app N12 N13q
      obtain ⟨cq16, kq16, q16a, q16b, q16c⟩ := isOf hZ rfl G14
      obtain ⟨_, _, ⟨T16, L16, k16, n16⟩, -, X16, ⟨Lc16, hQ16, l16, y16, z16⟩, st16⟩ := X13.virtualBack hx (y := (⟨"com/example/aveiro/aveiro/lock/LamportClock", "time", "()J"⟩ : MethodName)) (z := (⟨"com/example/aveiro/aveiro/lock/LamportClock", "time", "()J"⟩ : MethodName)) hown (mvT hZ (hw _ (List.mem_of_getElem? (i := 9) rfl))) (mvT hZ (hw _ (List.mem_of_getElem? (i := 10) rfl))) (notFace_of_selects (args := #[]) (mvT hZ (hw _ (List.mem_of_getElem? (i := 12) rfl)))) (mvT hZ (hw _ (List.mem_of_getElem? (i := 12) rfl))) (mvT hZ (hw _ (List.mem_of_getElem? (i := 11) rfl))) (by decide) (backOf (W := 0) (rm3 l Z a0 hw [] b1 ((F5 ((F5 (0 : Int64) q0) + (1 : Int64)) q1) + (1 : Int64)) T13.heap n0 Z13 G15) hZ (hw _ (List.mem_of_getElem? (i := 13) rfl)) (hw _ (List.mem_of_getElem? (i := 2) rfl)) (by decide) (by decide)) q16a q16c (g := (mkF m 102 #[.val (.long q0), .second, .val (.long q1), .second, .val (.int p2), .val (.ref b1), .val (.long (0 : Int64)), .second, .val (.long ((F5 (0 : Int64) q0) + (1 : Int64))), .second, .val (.long (F6 (0 : Int64) q0)), .second, .val (.long ((F5 (0 : Int64) q0) + (1 : Int64))), .second, .val (.long ((F5 (0 : Int64) q0) + (1 : Int64))), .second, .unset, .unset, .unset, .unset] [(.ref b1)])) rfl (by rw [hml]; rfl) (Steps.refl _) (argsL := []) (rest := []) (lenOf pd_1 rfl) rfl (by show 2 * 0 + _ ≤ _; exact Nat.le_of_eq rfl) (hb hby at_102) (fun _ _ => ⟨rfl, rfl, (by decide : 1 + 0 ≤ _), (by decide : 1 + 0 ≤ _)⟩)
      dsimp only [Pt.U, Pt.locs, Pt.cells, Pt.slots] at X16 l16 y16 z16 st16 hQ16
      subst l16 y16 z16
      obtain ⟨rfl, N16q, e16⟩ := hQ16
      have N16 := Fr.app N13 N16q
      obtain ⟨_, _, ⟨T17, L17, k17, n17⟩, -, X17, ⟨Lc17, hQ17, l17, y17, z17⟩, st17⟩ := Jvm.LawKit.callS X16 hx (y := (⟨"com/example/aveiro/aveiro/lock/LamportClockReceivePinLaw", "expectedAfterReceive", "(JJ)J"⟩ : MethodName)) hown (mvT hZ (hw _ (List.mem_of_getElem? (i := 25) rfl))) (mvT hZ (hw _ (List.mem_of_getElem? (i := 26) rfl))) (mvT hZ (hw _ (List.mem_of_getElem? (i := 27) rfl))) (mvT hZ (hw _ (List.mem_of_getElem? (i := 28) rfl))) (by decide) (backOf (W := 0) (rm6 l Z a0 hw [] ((F5 (0 : Int64) q0) + (1 : Int64)) q1 T13.heap n0 Z13) hZ (hw _ (List.mem_of_getElem? (i := 28) rfl)) (hw _ (List.mem_of_getElem? (i := 27) rfl)) (by decide) (by decide)) (g := (mkF m 110 #[.val (.long q0), .second, .val (.long q1), .second, .val (.int p2), .val (.ref b1), .val (.long (0 : Int64)), .second, .val (.long ((F5 (0 : Int64) q0) + (1 : Int64))), .second, .val (.long (F6 (0 : Int64) q0)), .second, .val (.long ((F5 (0 : Int64) q0) + (1 : Int64))), .second, .val (.long ((F5 (0 : Int64) q0) + (1 : Int64))), .second, .val (.long ((F5 ((F5 (0 : Int64) q0) + (1 : Int64)) q1) + (1 : Int64))), .second, .unset, .unset] [(.long q1), (.long ((F5 (0 : Int64) q0) + (1 : Int64)))])) rfl (by rw [hml]; rfl) (argsL := [(.long ((F5 (0 : Int64) q0) + (1 : Int64))), (.long q1)]) (rest := []) (lenOf pd_2 rfl) rfl (by show 2 * 0 + _ ≤ _; exact Nat.le_of_eq rfl) (hb hby at_110) (fun _ _ => ⟨rfl, e16, (by decide : 1 + 0 ≤ _), (by decide : 1 + 0 ≤ _)⟩)
      dsimp only [Pt.U, Pt.locs, Pt.cells, Pt.slots] at X17 l17 y17 z17 st17 hQ17
      subst l17 y17 z17
      obtain ⟨rfl, N17q, e17⟩ := hQ17
      have N17 := Fr.app N16 N17q
      have hc120 : ((F5 (0 : Int64) q0) + (1 : Int64)) = (F6 (0 : Int64) q0) := own_eq _ _
      have hc136 : ((F5 ((F5 (0 : Int64) q0) + (1 : Int64)) q1) + (1 : Int64)) = (F6 ((F5 (0 : Int64) q0) + (1 : Int64)) q1) := own_eq _ _
      obtain ⟨fs, hr, hrun, hended, hW, hsame⟩ := X17.leave (v := some (.int (1 : Int32))) (fun h => by rw [Bd.returns] at h; cases h)
      refine ⟨_, _, pre11 _ ?_, hrun, hended, _, _, rfl, ?_, ⟨_, rfl⟩, hW, hsame.mono (by decide) (by decide)⟩
      · show Steps p.tables e below (T9.setTop (mkF m 72 #[.val (.long q0), .second, .val (.long q1), .second, .val (.int p2), .val (.ref b1), .val (.long (0 : Int64)), .second, .val (.long ((F5 (0 : Int64) q0) + (1 : Int64))), .second, .val (.long (F6 (0 : Int64) q0)), .second, .val (.long ((F5 (0 : Int64) q0) + (1 : Int64))), .second, .unset, .unset, .unset, .unset, .unset, .unset] [(.int (p2 &&& (2 : Int32)))])) _
        refine XS.ifYes X9.here hx rfl (pc0 := 72) (pc' := 87) rfl (hb hby at_72) rfl ((if0 _ _).trans (teq hc72).1) (by decide) (by decide) ?_
        show Steps p.tables e below (T9.setTop (mkF m 87 #[.val (.long q0), .second, .val (.long q1), .second, .val (.int p2), .val (.ref b1), .val (.long (0 : Int64)), .second, .val (.long ((F5 (0 : Int64) q0) + (1 : Int64))), .second, .val (.long (F6 (0 : Int64) q0)), .second, .val (.long ((F5 (0 : Int64) q0) + (1 : Int64))), .second, .unset, .unset, .unset, .unset, .unset, .unset] [])) _
        refine XS.aload X9.here hx rfl (hb hby at_87) rfl rfl ?_
        show Steps p.tables e below (T9.setTop (mkF m 89 #[.val (.long q0), .second, .val (.long q1), .second, .val (.int p2), .val (.ref b1), .val (.long (0 : Int64)), .second, .val (.long ((F5 (0 : Int64) q0) + (1 : Int64))), .second, .val (.long (F6 (0 : Int64) q0)), .second, .val (.long ((F5 (0 : Int64) q0) + (1 : Int64))), .second, .unset, .unset, .unset, .unset, .unset, .unset] [(.ref b1)])) _
        refine st12.trans ?_
        show Steps p.tables e below (T12.setTop (mkF m 92 #[.val (.long q0), .second, .val (.long q1), .second, .val (.int p2), .val (.ref b1), .val (.long (0 : Int64)), .second, .val (.long ((F5 (0 : Int64) q0) + (1 : Int64))), .second, .val (.long (F6 (0 : Int64) q0)), .second, .val (.long ((F5 (0 : Int64) q0) + (1 : Int64))), .second, .unset, .unset, .unset, .unset, .unset, .unset] [(.long ((F5 (0 : Int64) q0) + (1 : Int64)))])) _
        refine XS.lstore X12.here hx rfl (hb hby at_92) rfl (l' := #[.val (.long q0), .second, .val (.long q1), .second, .val (.int p2), .val (.ref b1), .val (.long (0 : Int64)), .second, .val (.long ((F5 (0 : Int64) q0) + (1 : Int64))), .second, .val (.long (F6 (0 : Int64) q0)), .second, .val (.long ((F5 (0 : Int64) q0) + (1 : Int64))), .second, .val (.long ((F5 (0 : Int64) q0) + (1 : Int64))), .second, .unset, .unset, .unset, .unset]) rfl ?_
        show Steps p.tables e below (T12.setTop (mkF m 94 #[.val (.long q0), .second, .val (.long q1), .second, .val (.int p2), .val (.ref b1), .val (.long (0 : Int64)), .second, .val (.long ((F5 (0 : Int64) q0) + (1 : Int64))), .second, .val (.long (F6 (0 : Int64) q0)), .second, .val (.long ((F5 (0 : Int64) q0) + (1 : Int64))), .second, .val (.long ((F5 (0 : Int64) q0) + (1 : Int64))), .second, .unset, .unset, .unset, .unset] [])) _
        refine XS.aload X12.here hx rfl (hb hby at_94) rfl rfl ?_
        show Steps p.tables e below (T12.setTop (mkF m 96 #[.val (.long q0), .second, .val (.long q1), .second, .val (.int p2), .val (.ref b1), .val (.long (0 : Int64)), .second, .val (.long ((F5 (0 : Int64) q0) + (1 : Int64))), .second, .val (.long (F6 (0 : Int64) q0)), .second, .val (.long ((F5 (0 : Int64) q0) + (1 : Int64))), .second, .val (.long ((F5 (0 : Int64) q0) + (1 : Int64))), .second, .unset, .unset, .unset, .unset] [(.ref b1)])) _
        refine XS.lloadN X12.here hx rfl (hb hby at_96) rfl ?_
        show Steps p.tables e below (T12.setTop (mkF m 97 #[.val (.long q0), .second, .val (.long q1), .second, .val (.int p2), .val (.ref b1), .val (.long (0 : Int64)), .second, .val (.long ((F5 (0 : Int64) q0) + (1 : Int64))), .second, .val (.long (F6 (0 : Int64) q0)), .second, .val (.long ((F5 (0 : Int64) q0) + (1 : Int64))), .second, .val (.long ((F5 (0 : Int64) q0) + (1 : Int64))), .second, .unset, .unset, .unset, .unset] [(.long q1), (.ref b1)])) _
        refine st13.trans ?_
        show Steps p.tables e below (T13.setTop (mkF m 100 #[.val (.long q0), .second, .val (.long q1), .second, .val (.int p2), .val (.ref b1), .val (.long (0 : Int64)), .second, .val (.long ((F5 (0 : Int64) q0) + (1 : Int64))), .second, .val (.long (F6 (0 : Int64) q0)), .second, .val (.long ((F5 (0 : Int64) q0) + (1 : Int64))), .second, .val (.long ((F5 (0 : Int64) q0) + (1 : Int64))), .second, .unset, .unset, .unset, .unset] [])) _
        refine XS.aload X13.here hx rfl (hb hby at_100) rfl rfl ?_
        show Steps p.tables e below (T13.setTop (mkF m 102 #[.val (.long q0), .second, .val (.long q1), .second, .val (.int p2), .val (.ref b1), .val (.long (0 : Int64)), .second, .val (.long ((F5 (0 : Int64) q0) + (1 : Int64))), .second, .val (.long (F6 (0 : Int64) q0)), .second, .val (.long ((F5 (0 : Int64) q0) + (1 : Int64))), .second, .val (.long ((F5 (0 : Int64) q0) + (1 : Int64))), .second, .unset, .unset, .unset, .unset] [(.ref b1)])) _
        refine st16.trans ?_
        show Steps p.tables e below (T16.setTop (mkF m 105 #[.val (.long q0), .second, .val (.long q1), .second, .val (.int p2), .val (.ref b1), .val (.long (0 : Int64)), .second, .val (.long ((F5 (0 : Int64) q0) + (1 : Int64))), .second, .val (.long (F6 (0 : Int64) q0)), .second, .val (.long ((F5 (0 : Int64) q0) + (1 : Int64))), .second, .val (.long ((F5 (0 : Int64) q0) + (1 : Int64))), .second, .unset, .unset, .unset, .unset] [(.long ((F5 ((F5 (0 : Int64) q0) + (1 : Int64)) q1) + (1 : Int64)))])) _
        refine XS.lstore X16.here hx rfl (hb hby at_105) rfl (l' := #[.val (.long q0), .second, .val (.long q1), .second, .val (.int p2), .val (.ref b1), .val (.long (0 : Int64)), .second, .val (.long ((F5 (0 : Int64) q0) + (1 : Int64))), .second, .val (.long (F6 (0 : Int64) q0)), .second, .val (.long ((F5 (0 : Int64) q0) + (1 : Int64))), .second, .val (.long ((F5 (0 : Int64) q0) + (1 : Int64))), .second, .val (.long ((F5 ((F5 (0 : Int64) q0) + (1 : Int64)) q1) + (1 : Int64))), .second, .unset, .unset]) rfl ?_
        show Steps p.tables e below (T16.setTop (mkF m 107 #[.val (.long q0), .second, .val (.long q1), .second, .val (.int p2), .val (.ref b1), .val (.long (0 : Int64)), .second, .val (.long ((F5 (0 : Int64) q0) + (1 : Int64))), .second, .val (.long (F6 (0 : Int64) q0)), .second, .val (.long ((F5 (0 : Int64) q0) + (1 : Int64))), .second, .val (.long ((F5 (0 : Int64) q0) + (1 : Int64))), .second, .val (.long ((F5 ((F5 (0 : Int64) q0) + (1 : Int64)) q1) + (1 : Int64))), .second, .unset, .unset] [])) _
        refine XS.lload X16.here hx rfl (hb hby at_107) rfl ?_
        show Steps p.tables e below (T16.setTop (mkF m 109 #[.val (.long q0), .second, .val (.long q1), .second, .val (.int p2), .val (.ref b1), .val (.long (0 : Int64)), .second, .val (.long ((F5 (0 : Int64) q0) + (1 : Int64))), .second, .val (.long (F6 (0 : Int64) q0)), .second, .val (.long ((F5 (0 : Int64) q0) + (1 : Int64))), .second, .val (.long ((F5 (0 : Int64) q0) + (1 : Int64))), .second, .val (.long ((F5 ((F5 (0 : Int64) q0) + (1 : Int64)) q1) + (1 : Int64))), .second, .unset, .unset] [(.long ((F5 (0 : Int64) q0) + (1 : Int64)))])) _
        refine XS.lloadN X16.here hx rfl (hb hby at_109) rfl ?_
        show Steps p.tables e below (T16.setTop (mkF m 110 #[.val (.long q0), .second, .val (.long q1), .second, .val (.int p2), .val (.ref b1), .val (.long (0 : Int64)), .second, .val (.long ((F5 (0 : Int64) q0) + (1 : Int64))), .second, .val (.long (F6 (0 : Int64) q0)), .second, .val (.long ((F5 (0 : Int64) q0) + (1 : Int64))), .second, .val (.long ((F5 (0 : Int64) q0) + (1 : Int64))), .second, .val (.long ((F5 ((F5 (0 : Int64) q0) + (1 : Int64)) q1) + (1 : Int64))), .second, .unset, .unset] [(.long q1), (.long ((F5 (0 : Int64) q0) + (1 : Int64)))])) _
        refine st17 _ ?_
        show Steps p.tables e below (T17.setTop (mkF m 113 #[.val (.long q0), .second, .val (.long q1), .second, .val (.int p2), .val (.ref b1), .val (.long (0 : Int64)), .second, .val (.long ((F5 (0 : Int64) q0) + (1 : Int64))), .second, .val (.long (F6 (0 : Int64) q0)), .second, .val (.long ((F5 (0 : Int64) q0) + (1 : Int64))), .second, .val (.long ((F5 (0 : Int64) q0) + (1 : Int64))), .second, .val (.long ((F5 ((F5 (0 : Int64) q0) + (1 : Int64)) q1) + (1 : Int64))), .second, .unset, .unset] [(.long (F6 ((F5 (0 : Int64) q0) + (1 : Int64)) q1))])) _
        refine XS.lstore X17.here hx rfl (hb hby at_113) rfl (l' := #[.val (.long q0), .second, .val (.long q1), .second, .val (.int p2), .val (.ref b1), .val (.long (0 : Int64)), .second, .val (.long ((F5 (0 : Int64) q0) + (1 : Int64))), .second, .val (.long (F6 (0 : Int64) q0)), .second, .val (.long ((F5 (0 : Int64) q0) + (1 : Int64))), .second, .val (.long ((F5 (0 : Int64) q0) + (1 : Int64))), .second, .val (.long ((F5 ((F5 (0 : Int64) q0) + (1 : Int64)) q1) + (1 : Int64))), .second, .val (.long (F6 ((F5 (0 : Int64) q0) + (1 : Int64)) q1)), .second]) rfl ?_
        show Steps p.tables e below (T17.setTop (mkF m 115 #[.val (.long q0), .second, .val (.long q1), .second, .val (.int p2), .val (.ref b1), .val (.long (0 : Int64)), .second, .val (.long ((F5 (0 : Int64) q0) + (1 : Int64))), .second, .val (.long (F6 (0 : Int64) q0)), .second, .val (.long ((F5 (0 : Int64) q0) + (1 : Int64))), .second, .val (.long ((F5 (0 : Int64) q0) + (1 : Int64))), .second, .val (.long ((F5 ((F5 (0 : Int64) q0) + (1 : Int64)) q1) + (1 : Int64))), .second, .val (.long (F6 ((F5 (0 : Int64) q0) + (1 : Int64)) q1)), .second] [])) _
        refine XS.lload X17.here hx rfl (hb hby at_115) rfl ?_
        show Steps p.tables e below (T17.setTop (mkF m 117 #[.val (.long q0), .second, .val (.long q1), .second, .val (.int p2), .val (.ref b1), .val (.long (0 : Int64)), .second, .val (.long ((F5 (0 : Int64) q0) + (1 : Int64))), .second, .val (.long (F6 (0 : Int64) q0)), .second, .val (.long ((F5 (0 : Int64) q0) + (1 : Int64))), .second, .val (.long ((F5 (0 : Int64) q0) + (1 : Int64))), .second, .val (.long ((F5 ((F5 (0 : Int64) q0) + (1 : Int64)) q1) + (1 : Int64))), .second, .val (.long (F6 ((F5 (0 : Int64) q0) + (1 : Int64)) q1)), .second] [(.long ((F5 (0 : Int64) q0) + (1 : Int64)))])) _
        refine XS.lload X17.here hx rfl (hb hby at_117) rfl ?_
        show Steps p.tables e below (T17.setTop (mkF m 119 #[.val (.long q0), .second, .val (.long q1), .second, .val (.int p2), .val (.ref b1), .val (.long (0 : Int64)), .second, .val (.long ((F5 (0 : Int64) q0) + (1 : Int64))), .second, .val (.long (F6 (0 : Int64) q0)), .second, .val (.long ((F5 (0 : Int64) q0) + (1 : Int64))), .second, .val (.long ((F5 (0 : Int64) q0) + (1 : Int64))), .second, .val (.long ((F5 ((F5 (0 : Int64) q0) + (1 : Int64)) q1) + (1 : Int64))), .second, .val (.long (F6 ((F5 (0 : Int64) q0) + (1 : Int64)) q1)), .second] [(.long (F6 (0 : Int64) q0)), (.long ((F5 (0 : Int64) q0) + (1 : Int64)))])) _
        refine XS.lcmp X17.here hx rfl (hb hby at_119) rfl ?_
        show Steps p.tables e below (T17.setTop (mkF m 120 #[.val (.long q0), .second, .val (.long q1), .second, .val (.int p2), .val (.ref b1), .val (.long (0 : Int64)), .second, .val (.long ((F5 (0 : Int64) q0) + (1 : Int64))), .second, .val (.long (F6 (0 : Int64) q0)), .second, .val (.long ((F5 (0 : Int64) q0) + (1 : Int64))), .second, .val (.long ((F5 (0 : Int64) q0) + (1 : Int64))), .second, .val (.long ((F5 ((F5 (0 : Int64) q0) + (1 : Int64)) q1) + (1 : Int64))), .second, .val (.long (F6 ((F5 (0 : Int64) q0) + (1 : Int64)) q1)), .second] [(.int (lcmpW ((F5 (0 : Int64) q0) + (1 : Int64)) (F6 (0 : Int64) q0)))])) _
        refine XS.ifNo X17.here hx rfl (hb hby at_120) rfl (lcN_ne hc120) ?_
        show Steps p.tables e below (T17.setTop (mkF m 123 #[.val (.long q0), .second, .val (.long q1), .second, .val (.int p2), .val (.ref b1), .val (.long (0 : Int64)), .second, .val (.long ((F5 (0 : Int64) q0) + (1 : Int64))), .second, .val (.long (F6 (0 : Int64) q0)), .second, .val (.long ((F5 (0 : Int64) q0) + (1 : Int64))), .second, .val (.long ((F5 (0 : Int64) q0) + (1 : Int64))), .second, .val (.long ((F5 ((F5 (0 : Int64) q0) + (1 : Int64)) q1) + (1 : Int64))), .second, .val (.long (F6 ((F5 (0 : Int64) q0) + (1 : Int64)) q1)), .second] [])) _
        refine XS.lload X17.here hx rfl (hb hby at_123) rfl ?_
        show Steps p.tables e below (T17.setTop (mkF m 125 #[.val (.long q0), .second, .val (.long q1), .second, .val (.int p2), .val (.ref b1), .val (.long (0 : Int64)), .second, .val (.long ((F5 (0 : Int64) q0) + (1 : Int64))), .second, .val (.long (F6 (0 : Int64) q0)), .second, .val (.long ((F5 (0 : Int64) q0) + (1 : Int64))), .second, .val (.long ((F5 (0 : Int64) q0) + (1 : Int64))), .second, .val (.long ((F5 ((F5 (0 : Int64) q0) + (1 : Int64)) q1) + (1 : Int64))), .second, .val (.long (F6 ((F5 (0 : Int64) q0) + (1 : Int64)) q1)), .second] [(.long ((F5 (0 : Int64) q0) + (1 : Int64)))])) _
        refine XS.lload X17.here hx rfl (hb hby at_125) rfl ?_
        show Steps p.tables e below (T17.setTop (mkF m 127 #[.val (.long q0), .second, .val (.long q1), .second, .val (.int p2), .val (.ref b1), .val (.long (0 : Int64)), .second, .val (.long ((F5 (0 : Int64) q0) + (1 : Int64))), .second, .val (.long (F6 (0 : Int64) q0)), .second, .val (.long ((F5 (0 : Int64) q0) + (1 : Int64))), .second, .val (.long ((F5 (0 : Int64) q0) + (1 : Int64))), .second, .val (.long ((F5 ((F5 (0 : Int64) q0) + (1 : Int64)) q1) + (1 : Int64))), .second, .val (.long (F6 ((F5 (0 : Int64) q0) + (1 : Int64)) q1)), .second] [(.long ((F5 (0 : Int64) q0) + (1 : Int64))), (.long ((F5 (0 : Int64) q0) + (1 : Int64)))])) _
        refine XS.lcmp X17.here hx rfl (hb hby at_127) rfl ?_
        show Steps p.tables e below (T17.setTop (mkF m 128 #[.val (.long q0), .second, .val (.long q1), .second, .val (.int p2), .val (.ref b1), .val (.long (0 : Int64)), .second, .val (.long ((F5 (0 : Int64) q0) + (1 : Int64))), .second, .val (.long (F6 (0 : Int64) q0)), .second, .val (.long ((F5 (0 : Int64) q0) + (1 : Int64))), .second, .val (.long ((F5 (0 : Int64) q0) + (1 : Int64))), .second, .val (.long ((F5 ((F5 (0 : Int64) q0) + (1 : Int64)) q1) + (1 : Int64))), .second, .val (.long (F6 ((F5 (0 : Int64) q0) + (1 : Int64)) q1)), .second] [(.int (lcmpW ((F5 (0 : Int64) q0) + (1 : Int64)) ((F5 (0 : Int64) q0) + (1 : Int64))))])) _
        refine XS.ifNo X17.here hx rfl (hb hby at_128) rfl (lcN_ne (rfl : ((F5 (0 : Int64) q0) + (1 : Int64)) = ((F5 (0 : Int64) q0) + (1 : Int64)))) ?_
        show Steps p.tables e below (T17.setTop (mkF m 131 #[.val (.long q0), .second, .val (.long q1), .second, .val (.int p2), .val (.ref b1), .val (.long (0 : Int64)), .second, .val (.long ((F5 (0 : Int64) q0) + (1 : Int64))), .second, .val (.long (F6 (0 : Int64) q0)), .second, .val (.long ((F5 (0 : Int64) q0) + (1 : Int64))), .second, .val (.long ((F5 (0 : Int64) q0) + (1 : Int64))), .second, .val (.long ((F5 ((F5 (0 : Int64) q0) + (1 : Int64)) q1) + (1 : Int64))), .second, .val (.long (F6 ((F5 (0 : Int64) q0) + (1 : Int64)) q1)), .second] [])) _
        refine XS.lload X17.here hx rfl (hb hby at_131) rfl ?_
        show Steps p.tables e below (T17.setTop (mkF m 133 #[.val (.long q0), .second, .val (.long q1), .second, .val (.int p2), .val (.ref b1), .val (.long (0 : Int64)), .second, .val (.long ((F5 (0 : Int64) q0) + (1 : Int64))), .second, .val (.long (F6 (0 : Int64) q0)), .second, .val (.long ((F5 (0 : Int64) q0) + (1 : Int64))), .second, .val (.long ((F5 (0 : Int64) q0) + (1 : Int64))), .second, .val (.long ((F5 ((F5 (0 : Int64) q0) + (1 : Int64)) q1) + (1 : Int64))), .second, .val (.long (F6 ((F5 (0 : Int64) q0) + (1 : Int64)) q1)), .second] [(.long ((F5 ((F5 (0 : Int64) q0) + (1 : Int64)) q1) + (1 : Int64)))])) _
        refine XS.lload X17.here hx rfl (hb hby at_133) rfl ?_
        show Steps p.tables e below (T17.setTop (mkF m 135 #[.val (.long q0), .second, .val (.long q1), .second, .val (.int p2), .val (.ref b1), .val (.long (0 : Int64)), .second, .val (.long ((F5 (0 : Int64) q0) + (1 : Int64))), .second, .val (.long (F6 (0 : Int64) q0)), .second, .val (.long ((F5 (0 : Int64) q0) + (1 : Int64))), .second, .val (.long ((F5 (0 : Int64) q0) + (1 : Int64))), .second, .val (.long ((F5 ((F5 (0 : Int64) q0) + (1 : Int64)) q1) + (1 : Int64))), .second, .val (.long (F6 ((F5 (0 : Int64) q0) + (1 : Int64)) q1)), .second] [(.long (F6 ((F5 (0 : Int64) q0) + (1 : Int64)) q1)), (.long ((F5 ((F5 (0 : Int64) q0) + (1 : Int64)) q1) + (1 : Int64)))])) _
        refine XS.lcmp X17.here hx rfl (hb hby at_135) rfl ?_
        show Steps p.tables e below (T17.setTop (mkF m 136 #[.val (.long q0), .second, .val (.long q1), .second, .val (.int p2), .val (.ref b1), .val (.long (0 : Int64)), .second, .val (.long ((F5 (0 : Int64) q0) + (1 : Int64))), .second, .val (.long (F6 (0 : Int64) q0)), .second, .val (.long ((F5 (0 : Int64) q0) + (1 : Int64))), .second, .val (.long ((F5 (0 : Int64) q0) + (1 : Int64))), .second, .val (.long ((F5 ((F5 (0 : Int64) q0) + (1 : Int64)) q1) + (1 : Int64))), .second, .val (.long (F6 ((F5 (0 : Int64) q0) + (1 : Int64)) q1)), .second] [(.int (lcmpW ((F5 ((F5 (0 : Int64) q0) + (1 : Int64)) q1) + (1 : Int64)) (F6 ((F5 (0 : Int64) q0) + (1 : Int64)) q1)))])) _
        refine XS.ifNo X17.here hx rfl (hb hby at_136) rfl (lcN_ne hc136) ?_
        show Steps p.tables e below (T17.setTop (mkF m 139 #[.val (.long q0), .second, .val (.long q1), .second, .val (.int p2), .val (.ref b1), .val (.long (0 : Int64)), .second, .val (.long ((F5 (0 : Int64) q0) + (1 : Int64))), .second, .val (.long (F6 (0 : Int64) q0)), .second, .val (.long ((F5 (0 : Int64) q0) + (1 : Int64))), .second, .val (.long ((F5 (0 : Int64) q0) + (1 : Int64))), .second, .val (.long ((F5 ((F5 (0 : Int64) q0) + (1 : Int64)) q1) + (1 : Int64))), .second, .val (.long (F6 ((F5 (0 : Int64) q0) + (1 : Int64)) q1)), .second] [])) _
        refine XS.iconst X17.here hx rfl (hb hby at_139) ?_
        show Steps p.tables e below (T17.setTop (mkF m 140 #[.val (.long q0), .second, .val (.long q1), .second, .val (.int p2), .val (.ref b1), .val (.long (0 : Int64)), .second, .val (.long ((F5 (0 : Int64) q0) + (1 : Int64))), .second, .val (.long (F6 (0 : Int64) q0)), .second, .val (.long ((F5 (0 : Int64) q0) + (1 : Int64))), .second, .val (.long ((F5 (0 : Int64) q0) + (1 : Int64))), .second, .val (.long ((F5 ((F5 (0 : Int64) q0) + (1 : Int64)) q1) + (1 : Int64))), .second, .val (.long (F6 ((F5 (0 : Int64) q0) + (1 : Int64)) q1)), .second] [(.int (1 : Int32))])) _
        refine XS.goto X17.here hx rfl (pc0 := 140) (pc' := 144) rfl (hb hby at_140) (by decide) (by decide) ?_
        show Steps p.tables e below (T17.setTop (mkF m 144 #[.val (.long q0), .second, .val (.long q1), .second, .val (.int p2), .val (.ref b1), .val (.long (0 : Int64)), .second, .val (.long ((F5 (0 : Int64) q0) + (1 : Int64))), .second, .val (.long (F6 (0 : Int64) q0)), .second, .val (.long ((F5 (0 : Int64) q0) + (1 : Int64))), .second, .val (.long ((F5 (0 : Int64) q0) + (1 : Int64))), .second, .val (.long ((F5 ((F5 (0 : Int64) q0) + (1 : Int64)) q1) + (1 : Int64))), .second, .val (.long (F6 ((F5 (0 : Int64) q0) + (1 : Int64)) q1)), .second] [(.int (1 : Int32))])) _
        exact retN X17 hx (t := .boolean) Bd.returns (by simp) (hb hby at_144) hr
      · show Q0 Z q0 q1 p2 h0 n0 _ T17.heap _
        rw [e17]
        exact ⟨rfl, N17⟩
    · obtain ⟨cq18, kq18, q18a, q18b, q18c⟩ := isOf hZ e9 G6
      obtain ⟨_, _, ⟨T18, L18, k18, n18⟩, -, X18, ⟨Lc18, hQ18, l18, y18, z18⟩, st18⟩ := X9.virtualBack hx (y := (⟨"com/example/aveiro/aveiro/lock/LamportClock", "advance", "()J"⟩ : MethodName)) (z := (⟨"com/example/aveiro/aveiro/lock/LamportClock", "advance", "()J"⟩ : MethodName)) hown (mvT hZ (hw _ (List.mem_of_getElem? (i := 29) rfl))) (mvT hZ (hw _ (List.mem_of_getElem? (i := 30) rfl))) (notFace_of_selects (args := #[]) (mvT hZ (hw _ (List.mem_of_getElem? (i := 32) rfl)))) (mvT hZ (hw _ (List.mem_of_getElem? (i := 32) rfl))) (mvT hZ (hw _ (List.mem_of_getElem? (i := 31) rfl))) (by decide) (backOf (W := 0) (rm7 l Z a0 hw [] b1 ((F5 (0 : Int64) q0) + (1 : Int64)) T5.heap n0 Z5 G7 G6 g_b1) hZ (hw _ (List.mem_of_getElem? (i := 33) rfl)) (hw _ (List.mem_of_getElem? (i := 2) rfl)) (by decide) (by decide)) q18a q18c (g := (mkF m 77 #[.val (.long q0), .second, .val (.long q1), .second, .val (.int p2), .val (.ref b1), .val (.long (0 : Int64)), .second, .val (.long ((F5 (0 : Int64) q0) + (1 : Int64))), .second, .val (.long (F6 (0 : Int64) q0)), .second, .val (.long ((F5 (0 : Int64) q0) + (1 : Int64))), .second, .unset, .unset, .unset, .unset, .unset, .unset] [(.ref b1)])) rfl (by rw [hml]; rfl) (Steps.refl _) (argsL := []) (rest := []) (lenOf pd_1 rfl) rfl (by show 2 * 0 + _ ≤ _; exact Nat.le_of_eq rfl) (hb hby at_77) (fun _ _ => ⟨rfl, e9, (by decide : 1 + 0 ≤ _), (by decide : 1 + 0 ≤ _)⟩)
      dsimp only [Pt.U, Pt.locs, Pt.cells, Pt.slots] at X18 l18 y18 z18 st18 hQ18
      subst l18 y18 z18
      obtain ⟨rfl, N18q, K18, G19, G20⟩ := hQ18
      have Z18 := Nat.le_trans Z5 K18.1
      have N18 := Fr.app N9 N18q
      obtain ⟨cq21, kq21, q21a, q21b, q21c⟩ := isOf hZ rfl G19
      obtain ⟨_, _, ⟨T21, L21, k21, n21⟩, -, X21, ⟨Lc21, hQ21, l21, y21, z21⟩, st21⟩ := X18.virtualBack hx (y := (⟨"com/example/aveiro/aveiro/lock/LamportClock", "time", "()J"⟩ : MethodName)) (z := (⟨"com/example/aveiro/aveiro/lock/LamportClock", "time", "()J"⟩ : MethodName)) hown (mvT hZ (hw _ (List.mem_of_getElem? (i := 9) rfl))) (mvT hZ (hw _ (List.mem_of_getElem? (i := 10) rfl))) (notFace_of_selects (args := #[]) (mvT hZ (hw _ (List.mem_of_getElem? (i := 12) rfl)))) (mvT hZ (hw _ (List.mem_of_getElem? (i := 12) rfl))) (mvT hZ (hw _ (List.mem_of_getElem? (i := 11) rfl))) (by decide) (backOf (W := 0) (rm3 l Z a0 hw [] b1 (((F5 (0 : Int64) q0) + (1 : Int64)) + (1 : Int64)) T18.heap n0 Z18 G20) hZ (hw _ (List.mem_of_getElem? (i := 13) rfl)) (hw _ (List.mem_of_getElem? (i := 2) rfl)) (by decide) (by decide)) q21a q21c (g := (mkF m 89 #[.val (.long q0), .second, .val (.long q1), .second, .val (.int p2), .val (.ref b1), .val (.long (0 : Int64)), .second, .val (.long ((F5 (0 : Int64) q0) + (1 : Int64))), .second, .val (.long (F6 (0 : Int64) q0)), .second, .val (.long (((F5 (0 : Int64) q0) + (1 : Int64)) + (1 : Int64))), .second, .unset, .unset, .unset, .unset, .unset, .unset] [(.ref b1)])) rfl (by rw [hml]; rfl) (Steps.refl _) (argsL := []) (rest := []) (lenOf pd_1 rfl) rfl (by show 2 * 0 + _ ≤ _; exact Nat.le_of_eq rfl) (hb hby at_89) (fun _ _ => ⟨rfl, rfl, (by decide : 1 + 0 ≤ _), (by decide : 1 + 0 ≤ _)⟩)
      dsimp only [Pt.U, Pt.locs, Pt.cells, Pt.slots] at X21 l21 y21 z21 st21 hQ21
      subst l21 y21 z21
      obtain ⟨rfl, N21q, e21⟩ := hQ21
      have N21 := Fr.app N18 N21q
      obtain ⟨cq22, kq22, q22a, q22b, q22c⟩ := isOf hZ e21 G19
      obtain ⟨_, _, ⟨T22, L22, k22, n22⟩, -, X22, ⟨Lc22, hQ22, l22, y22, z22⟩, st22⟩ := X21.virtualBack hx (y := (⟨"com/example/aveiro/aveiro/lock/LamportClock", "receive", "(J)V"⟩ : MethodName)) (z := (⟨"com/example/aveiro/aveiro/lock/LamportClock", "receive", "(J)V"⟩ : MethodName)) hown (mvT hZ (hw _ (List.mem_of_getElem? (i := 16) rfl))) (mvT hZ (hw _ (List.mem_of_getElem? (i := 17) rfl))) (notFace_of_selects (args := #[]) (mvT hZ (hw _ (List.mem_of_getElem? (i := 19) rfl)))) (mvT hZ (hw _ (List.mem_of_getElem? (i := 19) rfl))) (mvT hZ (hw _ (List.mem_of_getElem? (i := 18) rfl))) (by decide) (backOf (W := 0) (rm4 l Z a0 hw [] b1 q1 (((F5 (0 : Int64) q0) + (1 : Int64)) + (1 : Int64)) T18.heap n0 Z18 G20 G19 g_b1) hZ (hw _ (List.mem_of_getElem? (i := 20) rfl)) (hw _ (List.mem_of_getElem? (i := 2) rfl)) (by decide) (by decide)) q22a q22c (g := (mkF m 97 #[.val (.long q0), .second, .val (.long q1), .second, .val (.int p2), .val (.ref b1), .val (.long (0 : Int64)), .second, .val (.long ((F5 (0 : Int64) q0) + (1 : Int64))), .second, .val (.long (F6 (0 : Int64) q0)), .second, .val (.long (((F5 (0 : Int64) q0) + (1 : Int64)) + (1 : Int64))), .second, .val (.long (((F5 (0 : Int64) q0) + (1 : Int64)) + (1 : Int64))), .second, .unset, .unset, .unset, .unset] [(.long q1), (.ref b1)])) rfl (by rw [hml]; rfl) (Steps.refl _) (argsL := [(.long q1)]) (rest := []) (lenOf pd_3 rfl) rfl (by show 2 * 0 + _ ≤ _; exact Nat.le_of_eq rfl) (hb hby at_97) (fun _ _ => ⟨rfl, e21, (by decide : 1 + 0 ≤ _), (by decide : 1 + 0 ≤ _)⟩)
      dsimp only [Pt.U, Pt.locs, Pt.cells, Pt.slots] at X22 l22 y22 z22 st22 hQ22
      subst l22 y22 z22
      obtain ⟨rfl, N22q, K22, G23, G24⟩ := hQ22
      have Z22 := Nat.le_trans Z18 K22.1
      have N22 := Fr.app N21 N22q
      obtain ⟨cq25, kq25, q25a, q25b, q25c⟩ := isOf hZ rfl G23
      obtain ⟨_, _, ⟨T25, L25, k25, n25⟩, -, X25, ⟨Lc25, hQ25, l25, y25, z25⟩, st25⟩ := X22.virtualBack hx (y := (⟨"com/example/aveiro/aveiro/lock/LamportClock", "time", "()J"⟩ : MethodName)) (z := (⟨"com/example/aveiro/aveiro/lock/LamportClock", "time", "()J"⟩ : MethodName)) hown (mvT hZ (hw _ (List.mem_of_getElem? (i := 9) rfl))) (mvT hZ (hw _ (List.mem_of_getElem? (i := 10) rfl))) (notFace_of_selects (args := #[]) (mvT hZ (hw _ (List.mem_of_getElem? (i := 12) rfl)))) (mvT hZ (hw _ (List.mem_of_getElem? (i := 12) rfl))) (mvT hZ (hw _ (List.mem_of_getElem? (i := 11) rfl))) (by decide) (backOf (W := 0) (rm3 l Z a0 hw [] b1 ((F5 (((F5 (0 : Int64) q0) + (1 : Int64)) + (1 : Int64)) q1) + (1 : Int64)) T22.heap n0 Z22 G24) hZ (hw _ (List.mem_of_getElem? (i := 13) rfl)) (hw _ (List.mem_of_getElem? (i := 2) rfl)) (by decide) (by decide)) q25a q25c (g := (mkF m 102 #[.val (.long q0), .second, .val (.long q1), .second, .val (.int p2), .val (.ref b1), .val (.long (0 : Int64)), .second, .val (.long ((F5 (0 : Int64) q0) + (1 : Int64))), .second, .val (.long (F6 (0 : Int64) q0)), .second, .val (.long (((F5 (0 : Int64) q0) + (1 : Int64)) + (1 : Int64))), .second, .val (.long (((F5 (0 : Int64) q0) + (1 : Int64)) + (1 : Int64))), .second, .unset, .unset, .unset, .unset] [(.ref b1)])) rfl (by rw [hml]; rfl) (Steps.refl _) (argsL := []) (rest := []) (lenOf pd_1 rfl) rfl (by show 2 * 0 + _ ≤ _; exact Nat.le_of_eq rfl) (hb hby at_102) (fun _ _ => ⟨rfl, rfl, (by decide : 1 + 0 ≤ _), (by decide : 1 + 0 ≤ _)⟩)
      dsimp only [Pt.U, Pt.locs, Pt.cells, Pt.slots] at X25 l25 y25 z25 st25 hQ25
      subst l25 y25 z25
      obtain ⟨rfl, N25q, e25⟩ := hQ25
      have N25 := Fr.app N22 N25q
      obtain ⟨_, _, ⟨T26, L26, k26, n26⟩, -, X26, ⟨Lc26, hQ26, l26, y26, z26⟩, st26⟩ := Jvm.LawKit.callS X25 hx (y := (⟨"com/example/aveiro/aveiro/lock/LamportClockReceivePinLaw", "expectedAfterReceive", "(JJ)J"⟩ : MethodName)) hown (mvT hZ (hw _ (List.mem_of_getElem? (i := 25) rfl))) (mvT hZ (hw _ (List.mem_of_getElem? (i := 26) rfl))) (mvT hZ (hw _ (List.mem_of_getElem? (i := 27) rfl))) (mvT hZ (hw _ (List.mem_of_getElem? (i := 28) rfl))) (by decide) (backOf (W := 0) (rm6 l Z a0 hw [] (((F5 (0 : Int64) q0) + (1 : Int64)) + (1 : Int64)) q1 T22.heap n0 Z22) hZ (hw _ (List.mem_of_getElem? (i := 28) rfl)) (hw _ (List.mem_of_getElem? (i := 27) rfl)) (by decide) (by decide)) (g := (mkF m 110 #[.val (.long q0), .second, .val (.long q1), .second, .val (.int p2), .val (.ref b1), .val (.long (0 : Int64)), .second, .val (.long ((F5 (0 : Int64) q0) + (1 : Int64))), .second, .val (.long (F6 (0 : Int64) q0)), .second, .val (.long (((F5 (0 : Int64) q0) + (1 : Int64)) + (1 : Int64))), .second, .val (.long (((F5 (0 : Int64) q0) + (1 : Int64)) + (1 : Int64))), .second, .val (.long ((F5 (((F5 (0 : Int64) q0) + (1 : Int64)) + (1 : Int64)) q1) + (1 : Int64))), .second, .unset, .unset] [(.long q1), (.long (((F5 (0 : Int64) q0) + (1 : Int64)) + (1 : Int64)))])) rfl (by rw [hml]; rfl) (argsL := [(.long (((F5 (0 : Int64) q0) + (1 : Int64)) + (1 : Int64))), (.long q1)]) (rest := []) (lenOf pd_2 rfl) rfl (by show 2 * 0 + _ ≤ _; exact Nat.le_of_eq rfl) (hb hby at_110) (fun _ _ => ⟨rfl, e25, (by decide : 1 + 0 ≤ _), (by decide : 1 + 0 ≤ _)⟩)
      dsimp only [Pt.U, Pt.locs, Pt.cells, Pt.slots] at X26 l26 y26 z26 st26 hQ26
      subst l26 y26 z26
      obtain ⟨rfl, N26q, e26⟩ := hQ26
      have N26 := Fr.app N25 N26q
      have hc120 : ((F5 (0 : Int64) q0) + (1 : Int64)) = (F6 (0 : Int64) q0) := own_eq _ _
      have hc136 : ((F5 (((F5 (0 : Int64) q0) + (1 : Int64)) + (1 : Int64)) q1) + (1 : Int64)) = (F6 (((F5 (0 : Int64) q0) + (1 : Int64)) + (1 : Int64)) q1) := own_eq _ _
      obtain ⟨fs, hr, hrun, hended, hW, hsame⟩ := X26.leave (v := some (.int (1 : Int32))) (fun h => by rw [Bd.returns] at h; cases h)
      refine ⟨_, _, pre11 _ ?_, hrun, hended, _, _, rfl, ?_, ⟨_, rfl⟩, hW, hsame.mono (by decide) (by decide)⟩
      · show Steps p.tables e below (T9.setTop (mkF m 72 #[.val (.long q0), .second, .val (.long q1), .second, .val (.int p2), .val (.ref b1), .val (.long (0 : Int64)), .second, .val (.long ((F5 (0 : Int64) q0) + (1 : Int64))), .second, .val (.long (F6 (0 : Int64) q0)), .second, .val (.long ((F5 (0 : Int64) q0) + (1 : Int64))), .second, .unset, .unset, .unset, .unset, .unset, .unset] [(.int (p2 &&& (2 : Int32)))])) _
        refine XS.ifNo X9.here hx rfl (hb hby at_72) rfl ((if0 _ _).trans (feq hc72).1) ?_
        show Steps p.tables e below (T9.setTop (mkF m 75 #[.val (.long q0), .second, .val (.long q1), .second, .val (.int p2), .val (.ref b1), .val (.long (0 : Int64)), .second, .val (.long ((F5 (0 : Int64) q0) + (1 : Int64))), .second, .val (.long (F6 (0 : Int64) q0)), .second, .val (.long ((F5 (0 : Int64) q0) + (1 : Int64))), .second, .unset, .unset, .unset, .unset, .unset, .unset] [])) _
        refine XS.aload X9.here hx rfl (hb hby at_75) rfl rfl ?_
        show Steps p.tables e below (T9.setTop (mkF m 77 #[.val (.long q0), .second, .val (.long q1), .second, .val (.int p2), .val (.ref b1), .val (.long (0 : Int64)), .second, .val (.long ((F5 (0 : Int64) q0) + (1 : Int64))), .second, .val (.long (F6 (0 : Int64) q0)), .second, .val (.long ((F5 (0 : Int64) q0) + (1 : Int64))), .second, .unset, .unset, .unset, .unset, .unset, .unset] [(.ref b1)])) _
        refine st18.trans ?_
        show Steps p.tables e below (T18.setTop (mkF m 80 #[.val (.long q0), .second, .val (.long q1), .second, .val (.int p2), .val (.ref b1), .val (.long (0 : Int64)), .second, .val (.long ((F5 (0 : Int64) q0) + (1 : Int64))), .second, .val (.long (F6 (0 : Int64) q0)), .second, .val (.long ((F5 (0 : Int64) q0) + (1 : Int64))), .second, .unset, .unset, .unset, .unset, .unset, .unset] [(.long (((F5 (0 : Int64) q0) + (1 : Int64)) + (1 : Int64)))])) _
        jvm_step X18.here [X18.here.top, hx, (hb hby at_80), Value.category]
        show Steps p.tables e below (T18.setTop (mkF m 81 #[.val (.long q0), .second, .val (.long q1), .second, .val (.int p2), .val (.ref b1), .val (.long (0 : Int64)), .second, .val (.long ((F5 (0 : Int64) q0) + (1 : Int64))), .second, .val (.long (F6 (0 : Int64) q0)), .second, .val (.long ((F5 (0 : Int64) q0) + (1 : Int64))), .second, .unset, .unset, .unset, .unset, .unset, .unset] [])) _
        refine XS.lload X18.here hx rfl (hb hby at_81) rfl ?_
        show Steps p.tables e below (T18.setTop (mkF m 83 #[.val (.long q0), .second, .val (.long q1), .second, .val (.int p2), .val (.ref b1), .val (.long (0 : Int64)), .second, .val (.long ((F5 (0 : Int64) q0) + (1 : Int64))), .second, .val (.long (F6 (0 : Int64) q0)), .second, .val (.long ((F5 (0 : Int64) q0) + (1 : Int64))), .second, .unset, .unset, .unset, .unset, .unset, .unset] [(.long ((F5 (0 : Int64) q0) + (1 : Int64)))])) _
        refine XS.lconst X18.here hx rfl (hb hby at_83) ?_
        show Steps p.tables e below (T18.setTop (mkF m 84 #[.val (.long q0), .second, .val (.long q1), .second, .val (.int p2), .val (.ref b1), .val (.long (0 : Int64)), .second, .val (.long ((F5 (0 : Int64) q0) + (1 : Int64))), .second, .val (.long (F6 (0 : Int64) q0)), .second, .val (.long ((F5 (0 : Int64) q0) + (1 : Int64))), .second, .unset, .unset, .unset, .unset, .unset, .unset] [(.long (1 : Int64)), (.long ((F5 (0 : Int64) q0) + (1 : Int64)))])) _
        refine XS.ladd X18.here hx rfl (hb hby at_84) rfl ?_
        show Steps p.tables e below (T18.setTop (mkF m 85 #[.val (.long q0), .second, .val (.long q1), .second, .val (.int p2), .val (.ref b1), .val (.long (0 : Int64)), .second, .val (.long ((F5 (0 : Int64) q0) + (1 : Int64))), .second, .val (.long (F6 (0 : Int64) q0)), .second, .val (.long ((F5 (0 : Int64) q0) + (1 : Int64))), .second, .unset, .unset, .unset, .unset, .unset, .unset] [(.long (((F5 (0 : Int64) q0) + (1 : Int64)) + (1 : Int64)))])) _
        refine XS.lstore X18.here hx rfl (hb hby at_85) rfl (l' := #[.val (.long q0), .second, .val (.long q1), .second, .val (.int p2), .val (.ref b1), .val (.long (0 : Int64)), .second, .val (.long ((F5 (0 : Int64) q0) + (1 : Int64))), .second, .val (.long (F6 (0 : Int64) q0)), .second, .val (.long (((F5 (0 : Int64) q0) + (1 : Int64)) + (1 : Int64))), .second, .unset, .unset, .unset, .unset, .unset, .unset]) rfl ?_
        show Steps p.tables e below (T18.setTop (mkF m 87 #[.val (.long q0), .second, .val (.long q1), .second, .val (.int p2), .val (.ref b1), .val (.long (0 : Int64)), .second, .val (.long ((F5 (0 : Int64) q0) + (1 : Int64))), .second, .val (.long (F6 (0 : Int64) q0)), .second, .val (.long (((F5 (0 : Int64) q0) + (1 : Int64)) + (1 : Int64))), .second, .unset, .unset, .unset, .unset, .unset, .unset] [])) _
        refine XS.aload X18.here hx rfl (hb hby at_87) rfl rfl ?_
        show Steps p.tables e below (T18.setTop (mkF m 89 #[.val (.long q0), .second, .val (.long q1), .second, .val (.int p2), .val (.ref b1), .val (.long (0 : Int64)), .second, .val (.long ((F5 (0 : Int64) q0) + (1 : Int64))), .second, .val (.long (F6 (0 : Int64) q0)), .second, .val (.long (((F5 (0 : Int64) q0) + (1 : Int64)) + (1 : Int64))), .second, .unset, .unset, .unset, .unset, .unset, .unset] [(.ref b1)])) _
        refine st21.trans ?_
        show Steps p.tables e below (T21.setTop (mkF m 92 #[.val (.long q0), .second, .val (.long q1), .second, .val (.int p2), .val (.ref b1), .val (.long (0 : Int64)), .second, .val (.long ((F5 (0 : Int64) q0) + (1 : Int64))), .second, .val (.long (F6 (0 : Int64) q0)), .second, .val (.long (((F5 (0 : Int64) q0) + (1 : Int64)) + (1 : Int64))), .second, .unset, .unset, .unset, .unset, .unset, .unset] [(.long (((F5 (0 : Int64) q0) + (1 : Int64)) + (1 : Int64)))])) _
        refine XS.lstore X21.here hx rfl (hb hby at_92) rfl (l' := #[.val (.long q0), .second, .val (.long q1), .second, .val (.int p2), .val (.ref b1), .val (.long (0 : Int64)), .second, .val (.long ((F5 (0 : Int64) q0) + (1 : Int64))), .second, .val (.long (F6 (0 : Int64) q0)), .second, .val (.long (((F5 (0 : Int64) q0) + (1 : Int64)) + (1 : Int64))), .second, .val (.long (((F5 (0 : Int64) q0) + (1 : Int64)) + (1 : Int64))), .second, .unset, .unset, .unset, .unset]) rfl ?_
        show Steps p.tables e below (T21.setTop (mkF m 94 #[.val (.long q0), .second, .val (.long q1), .second, .val (.int p2), .val (.ref b1), .val (.long (0 : Int64)), .second, .val (.long ((F5 (0 : Int64) q0) + (1 : Int64))), .second, .val (.long (F6 (0 : Int64) q0)), .second, .val (.long (((F5 (0 : Int64) q0) + (1 : Int64)) + (1 : Int64))), .second, .val (.long (((F5 (0 : Int64) q0) + (1 : Int64)) + (1 : Int64))), .second, .unset, .unset, .unset, .unset] [])) _
        refine XS.aload X21.here hx rfl (hb hby at_94) rfl rfl ?_
        show Steps p.tables e below (T21.setTop (mkF m 96 #[.val (.long q0), .second, .val (.long q1), .second, .val (.int p2), .val (.ref b1), .val (.long (0 : Int64)), .second, .val (.long ((F5 (0 : Int64) q0) + (1 : Int64))), .second, .val (.long (F6 (0 : Int64) q0)), .second, .val (.long (((F5 (0 : Int64) q0) + (1 : Int64)) + (1 : Int64))), .second, .val (.long (((F5 (0 : Int64) q0) + (1 : Int64)) + (1 : Int64))), .second, .unset, .unset, .unset, .unset] [(.ref b1)])) _
        refine XS.lloadN X21.here hx rfl (hb hby at_96) rfl ?_
        show Steps p.tables e below (T21.setTop (mkF m 97 #[.val (.long q0), .second, .val (.long q1), .second, .val (.int p2), .val (.ref b1), .val (.long (0 : Int64)), .second, .val (.long ((F5 (0 : Int64) q0) + (1 : Int64))), .second, .val (.long (F6 (0 : Int64) q0)), .second, .val (.long (((F5 (0 : Int64) q0) + (1 : Int64)) + (1 : Int64))), .second, .val (.long (((F5 (0 : Int64) q0) + (1 : Int64)) + (1 : Int64))), .second, .unset, .unset, .unset, .unset] [(.long q1), (.ref b1)])) _
        refine st22.trans ?_
        show Steps p.tables e below (T22.setTop (mkF m 100 #[.val (.long q0), .second, .val (.long q1), .second, .val (.int p2), .val (.ref b1), .val (.long (0 : Int64)), .second, .val (.long ((F5 (0 : Int64) q0) + (1 : Int64))), .second, .val (.long (F6 (0 : Int64) q0)), .second, .val (.long (((F5 (0 : Int64) q0) + (1 : Int64)) + (1 : Int64))), .second, .val (.long (((F5 (0 : Int64) q0) + (1 : Int64)) + (1 : Int64))), .second, .unset, .unset, .unset, .unset] [])) _
        refine XS.aload X22.here hx rfl (hb hby at_100) rfl rfl ?_
        show Steps p.tables e below (T22.setTop (mkF m 102 #[.val (.long q0), .second, .val (.long q1), .second, .val (.int p2), .val (.ref b1), .val (.long (0 : Int64)), .second, .val (.long ((F5 (0 : Int64) q0) + (1 : Int64))), .second, .val (.long (F6 (0 : Int64) q0)), .second, .val (.long (((F5 (0 : Int64) q0) + (1 : Int64)) + (1 : Int64))), .second, .val (.long (((F5 (0 : Int64) q0) + (1 : Int64)) + (1 : Int64))), .second, .unset, .unset, .unset, .unset] [(.ref b1)])) _
        refine st25.trans ?_
        show Steps p.tables e below (T25.setTop (mkF m 105 #[.val (.long q0), .second, .val (.long q1), .second, .val (.int p2), .val (.ref b1), .val (.long (0 : Int64)), .second, .val (.long ((F5 (0 : Int64) q0) + (1 : Int64))), .second, .val (.long (F6 (0 : Int64) q0)), .second, .val (.long (((F5 (0 : Int64) q0) + (1 : Int64)) + (1 : Int64))), .second, .val (.long (((F5 (0 : Int64) q0) + (1 : Int64)) + (1 : Int64))), .second, .unset, .unset, .unset, .unset] [(.long ((F5 (((F5 (0 : Int64) q0) + (1 : Int64)) + (1 : Int64)) q1) + (1 : Int64)))])) _
        refine XS.lstore X25.here hx rfl (hb hby at_105) rfl (l' := #[.val (.long q0), .second, .val (.long q1), .second, .val (.int p2), .val (.ref b1), .val (.long (0 : Int64)), .second, .val (.long ((F5 (0 : Int64) q0) + (1 : Int64))), .second, .val (.long (F6 (0 : Int64) q0)), .second, .val (.long (((F5 (0 : Int64) q0) + (1 : Int64)) + (1 : Int64))), .second, .val (.long (((F5 (0 : Int64) q0) + (1 : Int64)) + (1 : Int64))), .second, .val (.long ((F5 (((F5 (0 : Int64) q0) + (1 : Int64)) + (1 : Int64)) q1) + (1 : Int64))), .second, .unset, .unset]) rfl ?_
        show Steps p.tables e below (T25.setTop (mkF m 107 #[.val (.long q0), .second, .val (.long q1), .second, .val (.int p2), .val (.ref b1), .val (.long (0 : Int64)), .second, .val (.long ((F5 (0 : Int64) q0) + (1 : Int64))), .second, .val (.long (F6 (0 : Int64) q0)), .second, .val (.long (((F5 (0 : Int64) q0) + (1 : Int64)) + (1 : Int64))), .second, .val (.long (((F5 (0 : Int64) q0) + (1 : Int64)) + (1 : Int64))), .second, .val (.long ((F5 (((F5 (0 : Int64) q0) + (1 : Int64)) + (1 : Int64)) q1) + (1 : Int64))), .second, .unset, .unset] [])) _
        refine XS.lload X25.here hx rfl (hb hby at_107) rfl ?_
        show Steps p.tables e below (T25.setTop (mkF m 109 #[.val (.long q0), .second, .val (.long q1), .second, .val (.int p2), .val (.ref b1), .val (.long (0 : Int64)), .second, .val (.long ((F5 (0 : Int64) q0) + (1 : Int64))), .second, .val (.long (F6 (0 : Int64) q0)), .second, .val (.long (((F5 (0 : Int64) q0) + (1 : Int64)) + (1 : Int64))), .second, .val (.long (((F5 (0 : Int64) q0) + (1 : Int64)) + (1 : Int64))), .second, .val (.long ((F5 (((F5 (0 : Int64) q0) + (1 : Int64)) + (1 : Int64)) q1) + (1 : Int64))), .second, .unset, .unset] [(.long (((F5 (0 : Int64) q0) + (1 : Int64)) + (1 : Int64)))])) _
        refine XS.lloadN X25.here hx rfl (hb hby at_109) rfl ?_
        show Steps p.tables e below (T25.setTop (mkF m 110 #[.val (.long q0), .second, .val (.long q1), .second, .val (.int p2), .val (.ref b1), .val (.long (0 : Int64)), .second, .val (.long ((F5 (0 : Int64) q0) + (1 : Int64))), .second, .val (.long (F6 (0 : Int64) q0)), .second, .val (.long (((F5 (0 : Int64) q0) + (1 : Int64)) + (1 : Int64))), .second, .val (.long (((F5 (0 : Int64) q0) + (1 : Int64)) + (1 : Int64))), .second, .val (.long ((F5 (((F5 (0 : Int64) q0) + (1 : Int64)) + (1 : Int64)) q1) + (1 : Int64))), .second, .unset, .unset] [(.long q1), (.long (((F5 (0 : Int64) q0) + (1 : Int64)) + (1 : Int64)))])) _
        refine st26 _ ?_
        show Steps p.tables e below (T26.setTop (mkF m 113 #[.val (.long q0), .second, .val (.long q1), .second, .val (.int p2), .val (.ref b1), .val (.long (0 : Int64)), .second, .val (.long ((F5 (0 : Int64) q0) + (1 : Int64))), .second, .val (.long (F6 (0 : Int64) q0)), .second, .val (.long (((F5 (0 : Int64) q0) + (1 : Int64)) + (1 : Int64))), .second, .val (.long (((F5 (0 : Int64) q0) + (1 : Int64)) + (1 : Int64))), .second, .val (.long ((F5 (((F5 (0 : Int64) q0) + (1 : Int64)) + (1 : Int64)) q1) + (1 : Int64))), .second, .unset, .unset] [(.long (F6 (((F5 (0 : Int64) q0) + (1 : Int64)) + (1 : Int64)) q1))])) _
        refine XS.lstore X26.here hx rfl (hb hby at_113) rfl (l' := #[.val (.long q0), .second, .val (.long q1), .second, .val (.int p2), .val (.ref b1), .val (.long (0 : Int64)), .second, .val (.long ((F5 (0 : Int64) q0) + (1 : Int64))), .second, .val (.long (F6 (0 : Int64) q0)), .second, .val (.long (((F5 (0 : Int64) q0) + (1 : Int64)) + (1 : Int64))), .second, .val (.long (((F5 (0 : Int64) q0) + (1 : Int64)) + (1 : Int64))), .second, .val (.long ((F5 (((F5 (0 : Int64) q0) + (1 : Int64)) + (1 : Int64)) q1) + (1 : Int64))), .second, .val (.long (F6 (((F5 (0 : Int64) q0) + (1 : Int64)) + (1 : Int64)) q1)), .second]) rfl ?_
        show Steps p.tables e below (T26.setTop (mkF m 115 #[.val (.long q0), .second, .val (.long q1), .second, .val (.int p2), .val (.ref b1), .val (.long (0 : Int64)), .second, .val (.long ((F5 (0 : Int64) q0) + (1 : Int64))), .second, .val (.long (F6 (0 : Int64) q0)), .second, .val (.long (((F5 (0 : Int64) q0) + (1 : Int64)) + (1 : Int64))), .second, .val (.long (((F5 (0 : Int64) q0) + (1 : Int64)) + (1 : Int64))), .second, .val (.long ((F5 (((F5 (0 : Int64) q0) + (1 : Int64)) + (1 : Int64)) q1) + (1 : Int64))), .second, .val (.long (F6 (((F5 (0 : Int64) q0) + (1 : Int64)) + (1 : Int64)) q1)), .second] [])) _
        refine XS.lload X26.here hx rfl (hb hby at_115) rfl ?_
        show Steps p.tables e below (T26.setTop (mkF m 117 #[.val (.long q0), .second, .val (.long q1), .second, .val (.int p2), .val (.ref b1), .val (.long (0 : Int64)), .second, .val (.long ((F5 (0 : Int64) q0) + (1 : Int64))), .second, .val (.long (F6 (0 : Int64) q0)), .second, .val (.long (((F5 (0 : Int64) q0) + (1 : Int64)) + (1 : Int64))), .second, .val (.long (((F5 (0 : Int64) q0) + (1 : Int64)) + (1 : Int64))), .second, .val (.long ((F5 (((F5 (0 : Int64) q0) + (1 : Int64)) + (1 : Int64)) q1) + (1 : Int64))), .second, .val (.long (F6 (((F5 (0 : Int64) q0) + (1 : Int64)) + (1 : Int64)) q1)), .second] [(.long ((F5 (0 : Int64) q0) + (1 : Int64)))])) _
        refine XS.lload X26.here hx rfl (hb hby at_117) rfl ?_
        show Steps p.tables e below (T26.setTop (mkF m 119 #[.val (.long q0), .second, .val (.long q1), .second, .val (.int p2), .val (.ref b1), .val (.long (0 : Int64)), .second, .val (.long ((F5 (0 : Int64) q0) + (1 : Int64))), .second, .val (.long (F6 (0 : Int64) q0)), .second, .val (.long (((F5 (0 : Int64) q0) + (1 : Int64)) + (1 : Int64))), .second, .val (.long (((F5 (0 : Int64) q0) + (1 : Int64)) + (1 : Int64))), .second, .val (.long ((F5 (((F5 (0 : Int64) q0) + (1 : Int64)) + (1 : Int64)) q1) + (1 : Int64))), .second, .val (.long (F6 (((F5 (0 : Int64) q0) + (1 : Int64)) + (1 : Int64)) q1)), .second] [(.long (F6 (0 : Int64) q0)), (.long ((F5 (0 : Int64) q0) + (1 : Int64)))])) _
        refine XS.lcmp X26.here hx rfl (hb hby at_119) rfl ?_
        show Steps p.tables e below (T26.setTop (mkF m 120 #[.val (.long q0), .second, .val (.long q1), .second, .val (.int p2), .val (.ref b1), .val (.long (0 : Int64)), .second, .val (.long ((F5 (0 : Int64) q0) + (1 : Int64))), .second, .val (.long (F6 (0 : Int64) q0)), .second, .val (.long (((F5 (0 : Int64) q0) + (1 : Int64)) + (1 : Int64))), .second, .val (.long (((F5 (0 : Int64) q0) + (1 : Int64)) + (1 : Int64))), .second, .val (.long ((F5 (((F5 (0 : Int64) q0) + (1 : Int64)) + (1 : Int64)) q1) + (1 : Int64))), .second, .val (.long (F6 (((F5 (0 : Int64) q0) + (1 : Int64)) + (1 : Int64)) q1)), .second] [(.int (lcmpW ((F5 (0 : Int64) q0) + (1 : Int64)) (F6 (0 : Int64) q0)))])) _
        refine XS.ifNo X26.here hx rfl (hb hby at_120) rfl (lcN_ne hc120) ?_
        show Steps p.tables e below (T26.setTop (mkF m 123 #[.val (.long q0), .second, .val (.long q1), .second, .val (.int p2), .val (.ref b1), .val (.long (0 : Int64)), .second, .val (.long ((F5 (0 : Int64) q0) + (1 : Int64))), .second, .val (.long (F6 (0 : Int64) q0)), .second, .val (.long (((F5 (0 : Int64) q0) + (1 : Int64)) + (1 : Int64))), .second, .val (.long (((F5 (0 : Int64) q0) + (1 : Int64)) + (1 : Int64))), .second, .val (.long ((F5 (((F5 (0 : Int64) q0) + (1 : Int64)) + (1 : Int64)) q1) + (1 : Int64))), .second, .val (.long (F6 (((F5 (0 : Int64) q0) + (1 : Int64)) + (1 : Int64)) q1)), .second] [])) _
        refine XS.lload X26.here hx rfl (hb hby at_123) rfl ?_
        show Steps p.tables e below (T26.setTop (mkF m 125 #[.val (.long q0), .second, .val (.long q1), .second, .val (.int p2), .val (.ref b1), .val (.long (0 : Int64)), .second, .val (.long ((F5 (0 : Int64) q0) + (1 : Int64))), .second, .val (.long (F6 (0 : Int64) q0)), .second, .val (.long (((F5 (0 : Int64) q0) + (1 : Int64)) + (1 : Int64))), .second, .val (.long (((F5 (0 : Int64) q0) + (1 : Int64)) + (1 : Int64))), .second, .val (.long ((F5 (((F5 (0 : Int64) q0) + (1 : Int64)) + (1 : Int64)) q1) + (1 : Int64))), .second, .val (.long (F6 (((F5 (0 : Int64) q0) + (1 : Int64)) + (1 : Int64)) q1)), .second] [(.long (((F5 (0 : Int64) q0) + (1 : Int64)) + (1 : Int64)))])) _
        refine XS.lload X26.here hx rfl (hb hby at_125) rfl ?_
        show Steps p.tables e below (T26.setTop (mkF m 127 #[.val (.long q0), .second, .val (.long q1), .second, .val (.int p2), .val (.ref b1), .val (.long (0 : Int64)), .second, .val (.long ((F5 (0 : Int64) q0) + (1 : Int64))), .second, .val (.long (F6 (0 : Int64) q0)), .second, .val (.long (((F5 (0 : Int64) q0) + (1 : Int64)) + (1 : Int64))), .second, .val (.long (((F5 (0 : Int64) q0) + (1 : Int64)) + (1 : Int64))), .second, .val (.long ((F5 (((F5 (0 : Int64) q0) + (1 : Int64)) + (1 : Int64)) q1) + (1 : Int64))), .second, .val (.long (F6 (((F5 (0 : Int64) q0) + (1 : Int64)) + (1 : Int64)) q1)), .second] [(.long (((F5 (0 : Int64) q0) + (1 : Int64)) + (1 : Int64))), (.long (((F5 (0 : Int64) q0) + (1 : Int64)) + (1 : Int64)))])) _
        refine XS.lcmp X26.here hx rfl (hb hby at_127) rfl ?_
        show Steps p.tables e below (T26.setTop (mkF m 128 #[.val (.long q0), .second, .val (.long q1), .second, .val (.int p2), .val (.ref b1), .val (.long (0 : Int64)), .second, .val (.long ((F5 (0 : Int64) q0) + (1 : Int64))), .second, .val (.long (F6 (0 : Int64) q0)), .second, .val (.long (((F5 (0 : Int64) q0) + (1 : Int64)) + (1 : Int64))), .second, .val (.long (((F5 (0 : Int64) q0) + (1 : Int64)) + (1 : Int64))), .second, .val (.long ((F5 (((F5 (0 : Int64) q0) + (1 : Int64)) + (1 : Int64)) q1) + (1 : Int64))), .second, .val (.long (F6 (((F5 (0 : Int64) q0) + (1 : Int64)) + (1 : Int64)) q1)), .second] [(.int (lcmpW (((F5 (0 : Int64) q0) + (1 : Int64)) + (1 : Int64)) (((F5 (0 : Int64) q0) + (1 : Int64)) + (1 : Int64))))])) _
        refine XS.ifNo X26.here hx rfl (hb hby at_128) rfl (lcN_ne (rfl : (((F5 (0 : Int64) q0) + (1 : Int64)) + (1 : Int64)) = (((F5 (0 : Int64) q0) + (1 : Int64)) + (1 : Int64)))) ?_
        show Steps p.tables e below (T26.setTop (mkF m 131 #[.val (.long q0), .second, .val (.long q1), .second, .val (.int p2), .val (.ref b1), .val (.long (0 : Int64)), .second, .val (.long ((F5 (0 : Int64) q0) + (1 : Int64))), .second, .val (.long (F6 (0 : Int64) q0)), .second, .val (.long (((F5 (0 : Int64) q0) + (1 : Int64)) + (1 : Int64))), .second, .val (.long (((F5 (0 : Int64) q0) + (1 : Int64)) + (1 : Int64))), .second, .val (.long ((F5 (((F5 (0 : Int64) q0) + (1 : Int64)) + (1 : Int64)) q1) + (1 : Int64))), .second, .val (.long (F6 (((F5 (0 : Int64) q0) + (1 : Int64)) + (1 : Int64)) q1)), .second] [])) _
        refine XS.lload X26.here hx rfl (hb hby at_131) rfl ?_
        show Steps p.tables e below (T26.setTop (mkF m 133 #[.val (.long q0), .second, .val (.long q1), .second, .val (.int p2), .val (.ref b1), .val (.long (0 : Int64)), .second, .val (.long ((F5 (0 : Int64) q0) + (1 : Int64))), .second, .val (.long (F6 (0 : Int64) q0)), .second, .val (.long (((F5 (0 : Int64) q0) + (1 : Int64)) + (1 : Int64))), .second, .val (.long (((F5 (0 : Int64) q0) + (1 : Int64)) + (1 : Int64))), .second, .val (.long ((F5 (((F5 (0 : Int64) q0) + (1 : Int64)) + (1 : Int64)) q1) + (1 : Int64))), .second, .val (.long (F6 (((F5 (0 : Int64) q0) + (1 : Int64)) + (1 : Int64)) q1)), .second] [(.long ((F5 (((F5 (0 : Int64) q0) + (1 : Int64)) + (1 : Int64)) q1) + (1 : Int64)))])) _
        refine XS.lload X26.here hx rfl (hb hby at_133) rfl ?_
        show Steps p.tables e below (T26.setTop (mkF m 135 #[.val (.long q0), .second, .val (.long q1), .second, .val (.int p2), .val (.ref b1), .val (.long (0 : Int64)), .second, .val (.long ((F5 (0 : Int64) q0) + (1 : Int64))), .second, .val (.long (F6 (0 : Int64) q0)), .second, .val (.long (((F5 (0 : Int64) q0) + (1 : Int64)) + (1 : Int64))), .second, .val (.long (((F5 (0 : Int64) q0) + (1 : Int64)) + (1 : Int64))), .second, .val (.long ((F5 (((F5 (0 : Int64) q0) + (1 : Int64)) + (1 : Int64)) q1) + (1 : Int64))), .second, .val (.long (F6 (((F5 (0 : Int64) q0) + (1 : Int64)) + (1 : Int64)) q1)), .second] [(.long (F6 (((F5 (0 : Int64) q0) + (1 : Int64)) + (1 : Int64)) q1)), (.long ((F5 (((F5 (0 : Int64) q0) + (1 : Int64)) + (1 : Int64)) q1) + (1 : Int64)))])) _
        refine XS.lcmp X26.here hx rfl (hb hby at_135) rfl ?_
        show Steps p.tables e below (T26.setTop (mkF m 136 #[.val (.long q0), .second, .val (.long q1), .second, .val (.int p2), .val (.ref b1), .val (.long (0 : Int64)), .second, .val (.long ((F5 (0 : Int64) q0) + (1 : Int64))), .second, .val (.long (F6 (0 : Int64) q0)), .second, .val (.long (((F5 (0 : Int64) q0) + (1 : Int64)) + (1 : Int64))), .second, .val (.long (((F5 (0 : Int64) q0) + (1 : Int64)) + (1 : Int64))), .second, .val (.long ((F5 (((F5 (0 : Int64) q0) + (1 : Int64)) + (1 : Int64)) q1) + (1 : Int64))), .second, .val (.long (F6 (((F5 (0 : Int64) q0) + (1 : Int64)) + (1 : Int64)) q1)), .second] [(.int (lcmpW ((F5 (((F5 (0 : Int64) q0) + (1 : Int64)) + (1 : Int64)) q1) + (1 : Int64)) (F6 (((F5 (0 : Int64) q0) + (1 : Int64)) + (1 : Int64)) q1)))])) _
        refine XS.ifNo X26.here hx rfl (hb hby at_136) rfl (lcN_ne hc136) ?_
        show Steps p.tables e below (T26.setTop (mkF m 139 #[.val (.long q0), .second, .val (.long q1), .second, .val (.int p2), .val (.ref b1), .val (.long (0 : Int64)), .second, .val (.long ((F5 (0 : Int64) q0) + (1 : Int64))), .second, .val (.long (F6 (0 : Int64) q0)), .second, .val (.long (((F5 (0 : Int64) q0) + (1 : Int64)) + (1 : Int64))), .second, .val (.long (((F5 (0 : Int64) q0) + (1 : Int64)) + (1 : Int64))), .second, .val (.long ((F5 (((F5 (0 : Int64) q0) + (1 : Int64)) + (1 : Int64)) q1) + (1 : Int64))), .second, .val (.long (F6 (((F5 (0 : Int64) q0) + (1 : Int64)) + (1 : Int64)) q1)), .second] [])) _
        refine XS.iconst X26.here hx rfl (hb hby at_139) ?_
        show Steps p.tables e below (T26.setTop (mkF m 140 #[.val (.long q0), .second, .val (.long q1), .second, .val (.int p2), .val (.ref b1), .val (.long (0 : Int64)), .second, .val (.long ((F5 (0 : Int64) q0) + (1 : Int64))), .second, .val (.long (F6 (0 : Int64) q0)), .second, .val (.long (((F5 (0 : Int64) q0) + (1 : Int64)) + (1 : Int64))), .second, .val (.long (((F5 (0 : Int64) q0) + (1 : Int64)) + (1 : Int64))), .second, .val (.long ((F5 (((F5 (0 : Int64) q0) + (1 : Int64)) + (1 : Int64)) q1) + (1 : Int64))), .second, .val (.long (F6 (((F5 (0 : Int64) q0) + (1 : Int64)) + (1 : Int64)) q1)), .second] [(.int (1 : Int32))])) _
        refine XS.goto X26.here hx rfl (pc0 := 140) (pc' := 144) rfl (hb hby at_140) (by decide) (by decide) ?_
        show Steps p.tables e below (T26.setTop (mkF m 144 #[.val (.long q0), .second, .val (.long q1), .second, .val (.int p2), .val (.ref b1), .val (.long (0 : Int64)), .second, .val (.long ((F5 (0 : Int64) q0) + (1 : Int64))), .second, .val (.long (F6 (0 : Int64) q0)), .second, .val (.long (((F5 (0 : Int64) q0) + (1 : Int64)) + (1 : Int64))), .second, .val (.long (((F5 (0 : Int64) q0) + (1 : Int64)) + (1 : Int64))), .second, .val (.long ((F5 (((F5 (0 : Int64) q0) + (1 : Int64)) + (1 : Int64)) q1) + (1 : Int64))), .second, .val (.long (F6 (((F5 (0 : Int64) q0) + (1 : Int64)) + (1 : Int64)) q1)), .second] [(.int (1 : Int32))])) _
        exact retN X26 hx (t := .boolean) Bd.returns (by simp) (hb hby at_144) hr
      · show Q0 Z q0 q1 p2 h0 n0 _ T26.heap _
        rw [e26]
        exact ⟨rfl, N26⟩
  · obtain ⟨cq27, kq27, q27a, q27b, q27c⟩ := isOf hZ e9 G6
    obtain ⟨_, _, ⟨T27, L27, k27, n27⟩, -, X27, ⟨Lc27, hQ27, l27, y27, z27⟩, st27⟩ := X9.virtualBack hx (y := (⟨"com/example/aveiro/aveiro/lock/LamportClock", "advance", "()J"⟩ : MethodName)) (z := (⟨"com/example/aveiro/aveiro/lock/LamportClock", "advance", "()J"⟩ : MethodName)) hown (mvT hZ (hw _ (List.mem_of_getElem? (i := 29) rfl))) (mvT hZ (hw _ (List.mem_of_getElem? (i := 30) rfl))) (notFace_of_selects (args := #[]) (mvT hZ (hw _ (List.mem_of_getElem? (i := 32) rfl)))) (mvT hZ (hw _ (List.mem_of_getElem? (i := 32) rfl))) (mvT hZ (hw _ (List.mem_of_getElem? (i := 31) rfl))) (by decide) (backOf (W := 0) (rm7 l Z a0 hw [] b1 ((F5 (0 : Int64) q0) + (1 : Int64)) T5.heap n0 Z5 G7 G6 g_b1) hZ (hw _ (List.mem_of_getElem? (i := 33) rfl)) (hw _ (List.mem_of_getElem? (i := 2) rfl)) (by decide) (by decide)) q27a q27c (g := (mkF m 58 #[.val (.long q0), .second, .val (.long q1), .second, .val (.int p2), .val (.ref b1), .val (.long (0 : Int64)), .second, .val (.long ((F5 (0 : Int64) q0) + (1 : Int64))), .second, .val (.long (F6 (0 : Int64) q0)), .second, .val (.long ((F5 (0 : Int64) q0) + (1 : Int64))), .second, .unset, .unset, .unset, .unset, .unset, .unset] [(.ref b1)])) rfl (by rw [hml]; rfl) (Steps.refl _) (argsL := []) (rest := []) (lenOf pd_1 rfl) rfl (by show 2 * 0 + _ ≤ _; exact Nat.le_of_eq rfl) (hb hby at_58) (fun _ _ => ⟨rfl, e9, (by decide : 1 + 0 ≤ _), (by decide : 1 + 0 ≤ _)⟩)
    dsimp only [Pt.U, Pt.locs, Pt.cells, Pt.slots] at X27 l27 y27 z27 st27 hQ27
    subst l27 y27 z27
    obtain ⟨rfl, N27q, K27, G28, G29⟩ := hQ27
    have Z27 := Nat.le_trans Z5 K27.1
    have N27 := Fr.app N9 N27q
    have pre30 : ∀ t, Steps p.tables e below (T27.setTop (mkF m 72 #[.val (.long q0), .second, .val (.long q1), .second, .val (.int p2), .val (.ref b1), .val (.long (0 : Int64)), .second, .val (.long ((F5 (0 : Int64) q0) + (1 : Int64))), .second, .val (.long (F6 (0 : Int64) q0)), .second, .val (.long (((F5 (0 : Int64) q0) + (1 : Int64)) + (1 : Int64))), .second, .unset, .unset, .unset, .unset, .unset, .unset] [(.int (p2 &&& (2 : Int32)))])) t → Steps p.tables e below (s₁.setTop (entryFrame m #[(.long q0), (.long q1), (.int p2)] maxLocals)) t := fun t k => by
      refine pre10 t ?_
      show Steps p.tables e below (T9.setTop (mkF m 53 #[.val (.long q0), .second, .val (.long q1), .second, .val (.int p2), .val (.ref b1), .val (.long (0 : Int64)), .second, .val (.long ((F5 (0 : Int64) q0) + (1 : Int64))), .second, .val (.long (F6 (0 : Int64) q0)), .second, .val (.long ((F5 (0 : Int64) q0) + (1 : Int64))), .second, .unset, .unset, .unset, .unset, .unset, .unset] [(.int (p2 &&& (1 : Int32)))])) _
      refine XS.ifNo X9.here hx rfl (hb hby at_53) rfl ((if0 _ _).trans (feq hc53).1) ?_
      show Steps p.tables e below (T9.setTop (mkF m 56 #[.val (.long q0), .second, .val (.long q1), .second, .val (.int p2), .val (.ref b1), .val (.long (0 : Int64)), .second, .val (.long ((F5 (0 : Int64) q0) + (1 : Int64))), .second, .val (.long (F6 (0 : Int64) q0)), .second, .val (.long ((F5 (0 : Int64) q0) + (1 : Int64))), .second, .unset, .unset, .unset, .unset, .unset, .unset] [])) _
      refine XS.aload X9.here hx rfl (hb hby at_56) rfl rfl ?_
      show Steps p.tables e below (T9.setTop (mkF m 58 #[.val (.long q0), .second, .val (.long q1), .second, .val (.int p2), .val (.ref b1), .val (.long (0 : Int64)), .second, .val (.long ((F5 (0 : Int64) q0) + (1 : Int64))), .second, .val (.long (F6 (0 : Int64) q0)), .second, .val (.long ((F5 (0 : Int64) q0) + (1 : Int64))), .second, .unset, .unset, .unset, .unset, .unset, .unset] [(.ref b1)])) _
      refine st27.trans ?_
      show Steps p.tables e below (T27.setTop (mkF m 61 #[.val (.long q0), .second, .val (.long q1), .second, .val (.int p2), .val (.ref b1), .val (.long (0 : Int64)), .second, .val (.long ((F5 (0 : Int64) q0) + (1 : Int64))), .second, .val (.long (F6 (0 : Int64) q0)), .second, .val (.long ((F5 (0 : Int64) q0) + (1 : Int64))), .second, .unset, .unset, .unset, .unset, .unset, .unset] [(.long (((F5 (0 : Int64) q0) + (1 : Int64)) + (1 : Int64)))])) _
      jvm_step X27.here [X27.here.top, hx, (hb hby at_61), Value.category]
      show Steps p.tables e below (T27.setTop (mkF m 62 #[.val (.long q0), .second, .val (.long q1), .second, .val (.int p2), .val (.ref b1), .val (.long (0 : Int64)), .second, .val (.long ((F5 (0 : Int64) q0) + (1 : Int64))), .second, .val (.long (F6 (0 : Int64) q0)), .second, .val (.long ((F5 (0 : Int64) q0) + (1 : Int64))), .second, .unset, .unset, .unset, .unset, .unset, .unset] [])) _
      refine XS.lload X27.here hx rfl (hb hby at_62) rfl ?_
      show Steps p.tables e below (T27.setTop (mkF m 64 #[.val (.long q0), .second, .val (.long q1), .second, .val (.int p2), .val (.ref b1), .val (.long (0 : Int64)), .second, .val (.long ((F5 (0 : Int64) q0) + (1 : Int64))), .second, .val (.long (F6 (0 : Int64) q0)), .second, .val (.long ((F5 (0 : Int64) q0) + (1 : Int64))), .second, .unset, .unset, .unset, .unset, .unset, .unset] [(.long ((F5 (0 : Int64) q0) + (1 : Int64)))])) _
      refine XS.lconst X27.here hx rfl (hb hby at_64) ?_
      show Steps p.tables e below (T27.setTop (mkF m 65 #[.val (.long q0), .second, .val (.long q1), .second, .val (.int p2), .val (.ref b1), .val (.long (0 : Int64)), .second, .val (.long ((F5 (0 : Int64) q0) + (1 : Int64))), .second, .val (.long (F6 (0 : Int64) q0)), .second, .val (.long ((F5 (0 : Int64) q0) + (1 : Int64))), .second, .unset, .unset, .unset, .unset, .unset, .unset] [(.long (1 : Int64)), (.long ((F5 (0 : Int64) q0) + (1 : Int64)))])) _
      refine XS.ladd X27.here hx rfl (hb hby at_65) rfl ?_
      show Steps p.tables e below (T27.setTop (mkF m 66 #[.val (.long q0), .second, .val (.long q1), .second, .val (.int p2), .val (.ref b1), .val (.long (0 : Int64)), .second, .val (.long ((F5 (0 : Int64) q0) + (1 : Int64))), .second, .val (.long (F6 (0 : Int64) q0)), .second, .val (.long ((F5 (0 : Int64) q0) + (1 : Int64))), .second, .unset, .unset, .unset, .unset, .unset, .unset] [(.long (((F5 (0 : Int64) q0) + (1 : Int64)) + (1 : Int64)))])) _
      refine XS.lstore X27.here hx rfl (hb hby at_66) rfl (l' := #[.val (.long q0), .second, .val (.long q1), .second, .val (.int p2), .val (.ref b1), .val (.long (0 : Int64)), .second, .val (.long ((F5 (0 : Int64) q0) + (1 : Int64))), .second, .val (.long (F6 (0 : Int64) q0)), .second, .val (.long (((F5 (0 : Int64) q0) + (1 : Int64)) + (1 : Int64))), .second, .unset, .unset, .unset, .unset, .unset, .unset]) rfl ?_
      show Steps p.tables e below (T27.setTop (mkF m 68 #[.val (.long q0), .second, .val (.long q1), .second, .val (.int p2), .val (.ref b1), .val (.long (0 : Int64)), .second, .val (.long ((F5 (0 : Int64) q0) + (1 : Int64))), .second, .val (.long (F6 (0 : Int64) q0)), .second, .val (.long (((F5 (0 : Int64) q0) + (1 : Int64)) + (1 : Int64))), .second, .unset, .unset, .unset, .unset, .unset, .unset] [])) _
      refine XS.iload X27.here hx rfl (hb hby at_68) rfl ?_
      show Steps p.tables e below (T27.setTop (mkF m 70 #[.val (.long q0), .second, .val (.long q1), .second, .val (.int p2), .val (.ref b1), .val (.long (0 : Int64)), .second, .val (.long ((F5 (0 : Int64) q0) + (1 : Int64))), .second, .val (.long (F6 (0 : Int64) q0)), .second, .val (.long (((F5 (0 : Int64) q0) + (1 : Int64)) + (1 : Int64))), .second, .unset, .unset, .unset, .unset, .unset, .unset] [(.int p2)])) _
      refine XS.iconst X27.here hx rfl (hb hby at_70) ?_
      show Steps p.tables e below (T27.setTop (mkF m 71 #[.val (.long q0), .second, .val (.long q1), .second, .val (.int p2), .val (.ref b1), .val (.long (0 : Int64)), .second, .val (.long ((F5 (0 : Int64) q0) + (1 : Int64))), .second, .val (.long (F6 (0 : Int64) q0)), .second, .val (.long (((F5 (0 : Int64) q0) + (1 : Int64)) + (1 : Int64))), .second, .unset, .unset, .unset, .unset, .unset, .unset] [(.int (2 : Int32)), (.int p2)])) _
      refine XS.iand X27.here hx rfl (hb hby at_71) rfl ?_
      exact k
    by_cases hc72 : (p2 &&& (2 : Int32)) = (0 : Int32)
    · obtain ⟨cq31, kq31, q31a, q31b, q31c⟩ := isOf hZ rfl G28
      obtain ⟨_, _, ⟨T31, L31, k31, n31⟩, -, X31, ⟨Lc31, hQ31, l31, y31, z31⟩, st31⟩ := X27.virtualBack hx (y := (⟨"com/example/aveiro/aveiro/lock/LamportClock", "time", "()J"⟩ : MethodName)) (z := (⟨"com/example/aveiro/aveiro/lock/LamportClock", "time", "()J"⟩ : MethodName)) hown (mvT hZ (hw _ (List.mem_of_getElem? (i := 9) rfl))) (mvT hZ (hw _ (List.mem_of_getElem? (i := 10) rfl))) (notFace_of_selects (args := #[]) (mvT hZ (hw _ (List.mem_of_getElem? (i := 12) rfl)))) (mvT hZ (hw _ (List.mem_of_getElem? (i := 12) rfl))) (mvT hZ (hw _ (List.mem_of_getElem? (i := 11) rfl))) (by decide) (backOf (W := 0) (rm3 l Z a0 hw [] b1 (((F5 (0 : Int64) q0) + (1 : Int64)) + (1 : Int64)) T27.heap n0 Z27 G29) hZ (hw _ (List.mem_of_getElem? (i := 13) rfl)) (hw _ (List.mem_of_getElem? (i := 2) rfl)) (by decide) (by decide)) q31a q31c (g := (mkF m 89 #[.val (.long q0), .second, .val (.long q1), .second, .val (.int p2), .val (.ref b1), .val (.long (0 : Int64)), .second, .val (.long ((F5 (0 : Int64) q0) + (1 : Int64))), .second, .val (.long (F6 (0 : Int64) q0)), .second, .val (.long (((F5 (0 : Int64) q0) + (1 : Int64)) + (1 : Int64))), .second, .unset, .unset, .unset, .unset, .unset, .unset] [(.ref b1)])) rfl (by rw [hml]; rfl) (Steps.refl _) (argsL := []) (rest := []) (lenOf pd_1 rfl) rfl (by show 2 * 0 + _ ≤ _; exact Nat.le_of_eq rfl) (hb hby at_89) (fun _ _ => ⟨rfl, rfl, (by decide : 1 + 0 ≤ _), (by decide : 1 + 0 ≤ _)⟩)
      dsimp only [Pt.U, Pt.locs, Pt.cells, Pt.slots] at X31 l31 y31 z31 st31 hQ31
      subst l31 y31 z31
      obtain ⟨rfl, N31q, e31⟩ := hQ31
      have N31 := Fr.app N27 N31q
      obtain ⟨cq32, kq32, q32a, q32b, q32c⟩ := isOf hZ e31 G28
      obtain ⟨_, _, ⟨T32, L32, k32, n32⟩, -, X32, ⟨Lc32, hQ32, l32, y32, z32⟩, st32⟩ := X31.virtualBack hx (y := (⟨"com/example/aveiro/aveiro/lock/LamportClock", "receive", "(J)V"⟩ : MethodName)) (z := (⟨"com/example/aveiro/aveiro/lock/LamportClock", "receive", "(J)V"⟩ : MethodName)) hown (mvT hZ (hw _ (List.mem_of_getElem? (i := 16) rfl))) (mvT hZ (hw _ (List.mem_of_getElem? (i := 17) rfl))) (notFace_of_selects (args := #[]) (mvT hZ (hw _ (List.mem_of_getElem? (i := 19) rfl)))) (mvT hZ (hw _ (List.mem_of_getElem? (i := 19) rfl))) (mvT hZ (hw _ (List.mem_of_getElem? (i := 18) rfl))) (by decide) (backOf (W := 0) (rm4 l Z a0 hw [] b1 q1 (((F5 (0 : Int64) q0) + (1 : Int64)) + (1 : Int64)) T27.heap n0 Z27 G29 G28 g_b1) hZ (hw _ (List.mem_of_getElem? (i := 20) rfl)) (hw _ (List.mem_of_getElem? (i := 2) rfl)) (by decide) (by decide)) q32a q32c (g := (mkF m 97 #[.val (.long q0), .second, .val (.long q1), .second, .val (.int p2), .val (.ref b1), .val (.long (0 : Int64)), .second, .val (.long ((F5 (0 : Int64) q0) + (1 : Int64))), .second, .val (.long (F6 (0 : Int64) q0)), .second, .val (.long (((F5 (0 : Int64) q0) + (1 : Int64)) + (1 : Int64))), .second, .val (.long (((F5 (0 : Int64) q0) + (1 : Int64)) + (1 : Int64))), .second, .unset, .unset, .unset, .unset] [(.long q1), (.ref b1)])) rfl (by rw [hml]; rfl) (Steps.refl _) (argsL := [(.long q1)]) (rest := []) (lenOf pd_3 rfl) rfl (by show 2 * 0 + _ ≤ _; exact Nat.le_of_eq rfl) (hb hby at_97) (fun _ _ => ⟨rfl, e31, (by decide : 1 + 0 ≤ _), (by decide : 1 + 0 ≤ _)⟩)
      dsimp only [Pt.U, Pt.locs, Pt.cells, Pt.slots] at X32 l32 y32 z32 st32 hQ32
      subst l32 y32 z32
      obtain ⟨rfl, N32q, K32, G33, G34⟩ := hQ32
      have Z32 := Nat.le_trans Z27 K32.1
      have N32 := Fr.app N31 N32q
      obtain ⟨cq35, kq35, q35a, q35b, q35c⟩ := isOf hZ rfl G33
      obtain ⟨_, _, ⟨T35, L35, k35, n35⟩, -, X35, ⟨Lc35, hQ35, l35, y35, z35⟩, st35⟩ := X32.virtualBack hx (y := (⟨"com/example/aveiro/aveiro/lock/LamportClock", "time", "()J"⟩ : MethodName)) (z := (⟨"com/example/aveiro/aveiro/lock/LamportClock", "time", "()J"⟩ : MethodName)) hown (mvT hZ (hw _ (List.mem_of_getElem? (i := 9) rfl))) (mvT hZ (hw _ (List.mem_of_getElem? (i := 10) rfl))) (notFace_of_selects (args := #[]) (mvT hZ (hw _ (List.mem_of_getElem? (i := 12) rfl)))) (mvT hZ (hw _ (List.mem_of_getElem? (i := 12) rfl))) (mvT hZ (hw _ (List.mem_of_getElem? (i := 11) rfl))) (by decide) (backOf (W := 0) (rm3 l Z a0 hw [] b1 ((F5 (((F5 (0 : Int64) q0) + (1 : Int64)) + (1 : Int64)) q1) + (1 : Int64)) T32.heap n0 Z32 G34) hZ (hw _ (List.mem_of_getElem? (i := 13) rfl)) (hw _ (List.mem_of_getElem? (i := 2) rfl)) (by decide) (by decide)) q35a q35c (g := (mkF m 102 #[.val (.long q0), .second, .val (.long q1), .second, .val (.int p2), .val (.ref b1), .val (.long (0 : Int64)), .second, .val (.long ((F5 (0 : Int64) q0) + (1 : Int64))), .second, .val (.long (F6 (0 : Int64) q0)), .second, .val (.long (((F5 (0 : Int64) q0) + (1 : Int64)) + (1 : Int64))), .second, .val (.long (((F5 (0 : Int64) q0) + (1 : Int64)) + (1 : Int64))), .second, .unset, .unset, .unset, .unset] [(.ref b1)])) rfl (by rw [hml]; rfl) (Steps.refl _) (argsL := []) (rest := []) (lenOf pd_1 rfl) rfl (by show 2 * 0 + _ ≤ _; exact Nat.le_of_eq rfl) (hb hby at_102) (fun _ _ => ⟨rfl, rfl, (by decide : 1 + 0 ≤ _), (by decide : 1 + 0 ≤ _)⟩)
      dsimp only [Pt.U, Pt.locs, Pt.cells, Pt.slots] at X35 l35 y35 z35 st35 hQ35
      subst l35 y35 z35
      obtain ⟨rfl, N35q, e35⟩ := hQ35
      have N35 := Fr.app N32 N35q
      obtain ⟨_, _, ⟨T36, L36, k36, n36⟩, -, X36, ⟨Lc36, hQ36, l36, y36, z36⟩, st36⟩ := Jvm.LawKit.callS X35 hx (y := (⟨"com/example/aveiro/aveiro/lock/LamportClockReceivePinLaw", "expectedAfterReceive", "(JJ)J"⟩ : MethodName)) hown (mvT hZ (hw _ (List.mem_of_getElem? (i := 25) rfl))) (mvT hZ (hw _ (List.mem_of_getElem? (i := 26) rfl))) (mvT hZ (hw _ (List.mem_of_getElem? (i := 27) rfl))) (mvT hZ (hw _ (List.mem_of_getElem? (i := 28) rfl))) (by decide) (backOf (W := 0) (rm6 l Z a0 hw [] (((F5 (0 : Int64) q0) + (1 : Int64)) + (1 : Int64)) q1 T32.heap n0 Z32) hZ (hw _ (List.mem_of_getElem? (i := 28) rfl)) (hw _ (List.mem_of_getElem? (i := 27) rfl)) (by decide) (by decide)) (g := (mkF m 110 #[.val (.long q0), .second, .val (.long q1), .second, .val (.int p2), .val (.ref b1), .val (.long (0 : Int64)), .second, .val (.long ((F5 (0 : Int64) q0) + (1 : Int64))), .second, .val (.long (F6 (0 : Int64) q0)), .second, .val (.long (((F5 (0 : Int64) q0) + (1 : Int64)) + (1 : Int64))), .second, .val (.long (((F5 (0 : Int64) q0) + (1 : Int64)) + (1 : Int64))), .second, .val (.long ((F5 (((F5 (0 : Int64) q0) + (1 : Int64)) + (1 : Int64)) q1) + (1 : Int64))), .second, .unset, .unset] [(.long q1), (.long (((F5 (0 : Int64) q0) + (1 : Int64)) + (1 : Int64)))])) rfl (by rw [hml]; rfl) (argsL := [(.long (((F5 (0 : Int64) q0) + (1 : Int64)) + (1 : Int64))), (.long q1)]) (rest := []) (lenOf pd_2 rfl) rfl (by show 2 * 0 + _ ≤ _; exact Nat.le_of_eq rfl) (hb hby at_110) (fun _ _ => ⟨rfl, e35, (by decide : 1 + 0 ≤ _), (by decide : 1 + 0 ≤ _)⟩)
      dsimp only [Pt.U, Pt.locs, Pt.cells, Pt.slots] at X36 l36 y36 z36 st36 hQ36
      subst l36 y36 z36
      obtain ⟨rfl, N36q, e36⟩ := hQ36
      have N36 := Fr.app N35 N36q
      have hc120 : ((F5 (0 : Int64) q0) + (1 : Int64)) = (F6 (0 : Int64) q0) := own_eq _ _
      have hc136 : ((F5 (((F5 (0 : Int64) q0) + (1 : Int64)) + (1 : Int64)) q1) + (1 : Int64)) = (F6 (((F5 (0 : Int64) q0) + (1 : Int64)) + (1 : Int64)) q1) := own_eq _ _
      obtain ⟨fs, hr, hrun, hended, hW, hsame⟩ := X36.leave (v := some (.int (1 : Int32))) (fun h => by rw [Bd.returns] at h; cases h)
      refine ⟨_, _, pre30 _ ?_, hrun, hended, _, _, rfl, ?_, ⟨_, rfl⟩, hW, hsame.mono (by decide) (by decide)⟩
      · show Steps p.tables e below (T27.setTop (mkF m 72 #[.val (.long q0), .second, .val (.long q1), .second, .val (.int p2), .val (.ref b1), .val (.long (0 : Int64)), .second, .val (.long ((F5 (0 : Int64) q0) + (1 : Int64))), .second, .val (.long (F6 (0 : Int64) q0)), .second, .val (.long (((F5 (0 : Int64) q0) + (1 : Int64)) + (1 : Int64))), .second, .unset, .unset, .unset, .unset, .unset, .unset] [(.int (p2 &&& (2 : Int32)))])) _
        refine XS.ifYes X27.here hx rfl (pc0 := 72) (pc' := 87) rfl (hb hby at_72) rfl ((if0 _ _).trans (teq hc72).1) (by decide) (by decide) ?_
        show Steps p.tables e below (T27.setTop (mkF m 87 #[.val (.long q0), .second, .val (.long q1), .second, .val (.int p2), .val (.ref b1), .val (.long (0 : Int64)), .second, .val (.long ((F5 (0 : Int64) q0) + (1 : Int64))), .second, .val (.long (F6 (0 : Int64) q0)), .second, .val (.long (((F5 (0 : Int64) q0) + (1 : Int64)) + (1 : Int64))), .second, .unset, .unset, .unset, .unset, .unset, .unset] [])) _
        refine XS.aload X27.here hx rfl (hb hby at_87) rfl rfl ?_
        show Steps p.tables e below (T27.setTop (mkF m 89 #[.val (.long q0), .second, .val (.long q1), .second, .val (.int p2), .val (.ref b1), .val (.long (0 : Int64)), .second, .val (.long ((F5 (0 : Int64) q0) + (1 : Int64))), .second, .val (.long (F6 (0 : Int64) q0)), .second, .val (.long (((F5 (0 : Int64) q0) + (1 : Int64)) + (1 : Int64))), .second, .unset, .unset, .unset, .unset, .unset, .unset] [(.ref b1)])) _
        refine st31.trans ?_
        show Steps p.tables e below (T31.setTop (mkF m 92 #[.val (.long q0), .second, .val (.long q1), .second, .val (.int p2), .val (.ref b1), .val (.long (0 : Int64)), .second, .val (.long ((F5 (0 : Int64) q0) + (1 : Int64))), .second, .val (.long (F6 (0 : Int64) q0)), .second, .val (.long (((F5 (0 : Int64) q0) + (1 : Int64)) + (1 : Int64))), .second, .unset, .unset, .unset, .unset, .unset, .unset] [(.long (((F5 (0 : Int64) q0) + (1 : Int64)) + (1 : Int64)))])) _
        refine XS.lstore X31.here hx rfl (hb hby at_92) rfl (l' := #[.val (.long q0), .second, .val (.long q1), .second, .val (.int p2), .val (.ref b1), .val (.long (0 : Int64)), .second, .val (.long ((F5 (0 : Int64) q0) + (1 : Int64))), .second, .val (.long (F6 (0 : Int64) q0)), .second, .val (.long (((F5 (0 : Int64) q0) + (1 : Int64)) + (1 : Int64))), .second, .val (.long (((F5 (0 : Int64) q0) + (1 : Int64)) + (1 : Int64))), .second, .unset, .unset, .unset, .unset]) rfl ?_
        show Steps p.tables e below (T31.setTop (mkF m 94 #[.val (.long q0), .second, .val (.long q1), .second, .val (.int p2), .val (.ref b1), .val (.long (0 : Int64)), .second, .val (.long ((F5 (0 : Int64) q0) + (1 : Int64))), .second, .val (.long (F6 (0 : Int64) q0)), .second, .val (.long (((F5 (0 : Int64) q0) + (1 : Int64)) + (1 : Int64))), .second, .val (.long (((F5 (0 : Int64) q0) + (1 : Int64)) + (1 : Int64))), .second, .unset, .unset, .unset, .unset] [])) _
        refine XS.aload X31.here hx rfl (hb hby at_94) rfl rfl ?_
        show Steps p.tables e below (T31.setTop (mkF m 96 #[.val (.long q0), .second, .val (.long q1), .second, .val (.int p2), .val (.ref b1), .val (.long (0 : Int64)), .second, .val (.long ((F5 (0 : Int64) q0) + (1 : Int64))), .second, .val (.long (F6 (0 : Int64) q0)), .second, .val (.long (((F5 (0 : Int64) q0) + (1 : Int64)) + (1 : Int64))), .second, .val (.long (((F5 (0 : Int64) q0) + (1 : Int64)) + (1 : Int64))), .second, .unset, .unset, .unset, .unset] [(.ref b1)])) _
        refine XS.lloadN X31.here hx rfl (hb hby at_96) rfl ?_
        show Steps p.tables e below (T31.setTop (mkF m 97 #[.val (.long q0), .second, .val (.long q1), .second, .val (.int p2), .val (.ref b1), .val (.long (0 : Int64)), .second, .val (.long ((F5 (0 : Int64) q0) + (1 : Int64))), .second, .val (.long (F6 (0 : Int64) q0)), .second, .val (.long (((F5 (0 : Int64) q0) + (1 : Int64)) + (1 : Int64))), .second, .val (.long (((F5 (0 : Int64) q0) + (1 : Int64)) + (1 : Int64))), .second, .unset, .unset, .unset, .unset] [(.long q1), (.ref b1)])) _
        refine st32.trans ?_
        show Steps p.tables e below (T32.setTop (mkF m 100 #[.val (.long q0), .second, .val (.long q1), .second, .val (.int p2), .val (.ref b1), .val (.long (0 : Int64)), .second, .val (.long ((F5 (0 : Int64) q0) + (1 : Int64))), .second, .val (.long (F6 (0 : Int64) q0)), .second, .val (.long (((F5 (0 : Int64) q0) + (1 : Int64)) + (1 : Int64))), .second, .val (.long (((F5 (0 : Int64) q0) + (1 : Int64)) + (1 : Int64))), .second, .unset, .unset, .unset, .unset] [])) _
        refine XS.aload X32.here hx rfl (hb hby at_100) rfl rfl ?_
        show Steps p.tables e below (T32.setTop (mkF m 102 #[.val (.long q0), .second, .val (.long q1), .second, .val (.int p2), .val (.ref b1), .val (.long (0 : Int64)), .second, .val (.long ((F5 (0 : Int64) q0) + (1 : Int64))), .second, .val (.long (F6 (0 : Int64) q0)), .second, .val (.long (((F5 (0 : Int64) q0) + (1 : Int64)) + (1 : Int64))), .second, .val (.long (((F5 (0 : Int64) q0) + (1 : Int64)) + (1 : Int64))), .second, .unset, .unset, .unset, .unset] [(.ref b1)])) _
        refine st35.trans ?_
        show Steps p.tables e below (T35.setTop (mkF m 105 #[.val (.long q0), .second, .val (.long q1), .second, .val (.int p2), .val (.ref b1), .val (.long (0 : Int64)), .second, .val (.long ((F5 (0 : Int64) q0) + (1 : Int64))), .second, .val (.long (F6 (0 : Int64) q0)), .second, .val (.long (((F5 (0 : Int64) q0) + (1 : Int64)) + (1 : Int64))), .second, .val (.long (((F5 (0 : Int64) q0) + (1 : Int64)) + (1 : Int64))), .second, .unset, .unset, .unset, .unset] [(.long ((F5 (((F5 (0 : Int64) q0) + (1 : Int64)) + (1 : Int64)) q1) + (1 : Int64)))])) _
        refine XS.lstore X35.here hx rfl (hb hby at_105) rfl (l' := #[.val (.long q0), .second, .val (.long q1), .second, .val (.int p2), .val (.ref b1), .val (.long (0 : Int64)), .second, .val (.long ((F5 (0 : Int64) q0) + (1 : Int64))), .second, .val (.long (F6 (0 : Int64) q0)), .second, .val (.long (((F5 (0 : Int64) q0) + (1 : Int64)) + (1 : Int64))), .second, .val (.long (((F5 (0 : Int64) q0) + (1 : Int64)) + (1 : Int64))), .second, .val (.long ((F5 (((F5 (0 : Int64) q0) + (1 : Int64)) + (1 : Int64)) q1) + (1 : Int64))), .second, .unset, .unset]) rfl ?_
        show Steps p.tables e below (T35.setTop (mkF m 107 #[.val (.long q0), .second, .val (.long q1), .second, .val (.int p2), .val (.ref b1), .val (.long (0 : Int64)), .second, .val (.long ((F5 (0 : Int64) q0) + (1 : Int64))), .second, .val (.long (F6 (0 : Int64) q0)), .second, .val (.long (((F5 (0 : Int64) q0) + (1 : Int64)) + (1 : Int64))), .second, .val (.long (((F5 (0 : Int64) q0) + (1 : Int64)) + (1 : Int64))), .second, .val (.long ((F5 (((F5 (0 : Int64) q0) + (1 : Int64)) + (1 : Int64)) q1) + (1 : Int64))), .second, .unset, .unset] [])) _
        refine XS.lload X35.here hx rfl (hb hby at_107) rfl ?_
        show Steps p.tables e below (T35.setTop (mkF m 109 #[.val (.long q0), .second, .val (.long q1), .second, .val (.int p2), .val (.ref b1), .val (.long (0 : Int64)), .second, .val (.long ((F5 (0 : Int64) q0) + (1 : Int64))), .second, .val (.long (F6 (0 : Int64) q0)), .second, .val (.long (((F5 (0 : Int64) q0) + (1 : Int64)) + (1 : Int64))), .second, .val (.long (((F5 (0 : Int64) q0) + (1 : Int64)) + (1 : Int64))), .second, .val (.long ((F5 (((F5 (0 : Int64) q0) + (1 : Int64)) + (1 : Int64)) q1) + (1 : Int64))), .second, .unset, .unset] [(.long (((F5 (0 : Int64) q0) + (1 : Int64)) + (1 : Int64)))])) _
        refine XS.lloadN X35.here hx rfl (hb hby at_109) rfl ?_
        show Steps p.tables e below (T35.setTop (mkF m 110 #[.val (.long q0), .second, .val (.long q1), .second, .val (.int p2), .val (.ref b1), .val (.long (0 : Int64)), .second, .val (.long ((F5 (0 : Int64) q0) + (1 : Int64))), .second, .val (.long (F6 (0 : Int64) q0)), .second, .val (.long (((F5 (0 : Int64) q0) + (1 : Int64)) + (1 : Int64))), .second, .val (.long (((F5 (0 : Int64) q0) + (1 : Int64)) + (1 : Int64))), .second, .val (.long ((F5 (((F5 (0 : Int64) q0) + (1 : Int64)) + (1 : Int64)) q1) + (1 : Int64))), .second, .unset, .unset] [(.long q1), (.long (((F5 (0 : Int64) q0) + (1 : Int64)) + (1 : Int64)))])) _
        refine st36 _ ?_
        show Steps p.tables e below (T36.setTop (mkF m 113 #[.val (.long q0), .second, .val (.long q1), .second, .val (.int p2), .val (.ref b1), .val (.long (0 : Int64)), .second, .val (.long ((F5 (0 : Int64) q0) + (1 : Int64))), .second, .val (.long (F6 (0 : Int64) q0)), .second, .val (.long (((F5 (0 : Int64) q0) + (1 : Int64)) + (1 : Int64))), .second, .val (.long (((F5 (0 : Int64) q0) + (1 : Int64)) + (1 : Int64))), .second, .val (.long ((F5 (((F5 (0 : Int64) q0) + (1 : Int64)) + (1 : Int64)) q1) + (1 : Int64))), .second, .unset, .unset] [(.long (F6 (((F5 (0 : Int64) q0) + (1 : Int64)) + (1 : Int64)) q1))])) _
        refine XS.lstore X36.here hx rfl (hb hby at_113) rfl (l' := #[.val (.long q0), .second, .val (.long q1), .second, .val (.int p2), .val (.ref b1), .val (.long (0 : Int64)), .second, .val (.long ((F5 (0 : Int64) q0) + (1 : Int64))), .second, .val (.long (F6 (0 : Int64) q0)), .second, .val (.long (((F5 (0 : Int64) q0) + (1 : Int64)) + (1 : Int64))), .second, .val (.long (((F5 (0 : Int64) q0) + (1 : Int64)) + (1 : Int64))), .second, .val (.long ((F5 (((F5 (0 : Int64) q0) + (1 : Int64)) + (1 : Int64)) q1) + (1 : Int64))), .second, .val (.long (F6 (((F5 (0 : Int64) q0) + (1 : Int64)) + (1 : Int64)) q1)), .second]) rfl ?_
        show Steps p.tables e below (T36.setTop (mkF m 115 #[.val (.long q0), .second, .val (.long q1), .second, .val (.int p2), .val (.ref b1), .val (.long (0 : Int64)), .second, .val (.long ((F5 (0 : Int64) q0) + (1 : Int64))), .second, .val (.long (F6 (0 : Int64) q0)), .second, .val (.long (((F5 (0 : Int64) q0) + (1 : Int64)) + (1 : Int64))), .second, .val (.long (((F5 (0 : Int64) q0) + (1 : Int64)) + (1 : Int64))), .second, .val (.long ((F5 (((F5 (0 : Int64) q0) + (1 : Int64)) + (1 : Int64)) q1) + (1 : Int64))), .second, .val (.long (F6 (((F5 (0 : Int64) q0) + (1 : Int64)) + (1 : Int64)) q1)), .second] [])) _
        refine XS.lload X36.here hx rfl (hb hby at_115) rfl ?_
        show Steps p.tables e below (T36.setTop (mkF m 117 #[.val (.long q0), .second, .val (.long q1), .second, .val (.int p2), .val (.ref b1), .val (.long (0 : Int64)), .second, .val (.long ((F5 (0 : Int64) q0) + (1 : Int64))), .second, .val (.long (F6 (0 : Int64) q0)), .second, .val (.long (((F5 (0 : Int64) q0) + (1 : Int64)) + (1 : Int64))), .second, .val (.long (((F5 (0 : Int64) q0) + (1 : Int64)) + (1 : Int64))), .second, .val (.long ((F5 (((F5 (0 : Int64) q0) + (1 : Int64)) + (1 : Int64)) q1) + (1 : Int64))), .second, .val (.long (F6 (((F5 (0 : Int64) q0) + (1 : Int64)) + (1 : Int64)) q1)), .second] [(.long ((F5 (0 : Int64) q0) + (1 : Int64)))])) _
        refine XS.lload X36.here hx rfl (hb hby at_117) rfl ?_
        show Steps p.tables e below (T36.setTop (mkF m 119 #[.val (.long q0), .second, .val (.long q1), .second, .val (.int p2), .val (.ref b1), .val (.long (0 : Int64)), .second, .val (.long ((F5 (0 : Int64) q0) + (1 : Int64))), .second, .val (.long (F6 (0 : Int64) q0)), .second, .val (.long (((F5 (0 : Int64) q0) + (1 : Int64)) + (1 : Int64))), .second, .val (.long (((F5 (0 : Int64) q0) + (1 : Int64)) + (1 : Int64))), .second, .val (.long ((F5 (((F5 (0 : Int64) q0) + (1 : Int64)) + (1 : Int64)) q1) + (1 : Int64))), .second, .val (.long (F6 (((F5 (0 : Int64) q0) + (1 : Int64)) + (1 : Int64)) q1)), .second] [(.long (F6 (0 : Int64) q0)), (.long ((F5 (0 : Int64) q0) + (1 : Int64)))])) _
        refine XS.lcmp X36.here hx rfl (hb hby at_119) rfl ?_
        show Steps p.tables e below (T36.setTop (mkF m 120 #[.val (.long q0), .second, .val (.long q1), .second, .val (.int p2), .val (.ref b1), .val (.long (0 : Int64)), .second, .val (.long ((F5 (0 : Int64) q0) + (1 : Int64))), .second, .val (.long (F6 (0 : Int64) q0)), .second, .val (.long (((F5 (0 : Int64) q0) + (1 : Int64)) + (1 : Int64))), .second, .val (.long (((F5 (0 : Int64) q0) + (1 : Int64)) + (1 : Int64))), .second, .val (.long ((F5 (((F5 (0 : Int64) q0) + (1 : Int64)) + (1 : Int64)) q1) + (1 : Int64))), .second, .val (.long (F6 (((F5 (0 : Int64) q0) + (1 : Int64)) + (1 : Int64)) q1)), .second] [(.int (lcmpW ((F5 (0 : Int64) q0) + (1 : Int64)) (F6 (0 : Int64) q0)))])) _
        refine XS.ifNo X36.here hx rfl (hb hby at_120) rfl (lcN_ne hc120) ?_
        show Steps p.tables e below (T36.setTop (mkF m 123 #[.val (.long q0), .second, .val (.long q1), .second, .val (.int p2), .val (.ref b1), .val (.long (0 : Int64)), .second, .val (.long ((F5 (0 : Int64) q0) + (1 : Int64))), .second, .val (.long (F6 (0 : Int64) q0)), .second, .val (.long (((F5 (0 : Int64) q0) + (1 : Int64)) + (1 : Int64))), .second, .val (.long (((F5 (0 : Int64) q0) + (1 : Int64)) + (1 : Int64))), .second, .val (.long ((F5 (((F5 (0 : Int64) q0) + (1 : Int64)) + (1 : Int64)) q1) + (1 : Int64))), .second, .val (.long (F6 (((F5 (0 : Int64) q0) + (1 : Int64)) + (1 : Int64)) q1)), .second] [])) _
        refine XS.lload X36.here hx rfl (hb hby at_123) rfl ?_
        show Steps p.tables e below (T36.setTop (mkF m 125 #[.val (.long q0), .second, .val (.long q1), .second, .val (.int p2), .val (.ref b1), .val (.long (0 : Int64)), .second, .val (.long ((F5 (0 : Int64) q0) + (1 : Int64))), .second, .val (.long (F6 (0 : Int64) q0)), .second, .val (.long (((F5 (0 : Int64) q0) + (1 : Int64)) + (1 : Int64))), .second, .val (.long (((F5 (0 : Int64) q0) + (1 : Int64)) + (1 : Int64))), .second, .val (.long ((F5 (((F5 (0 : Int64) q0) + (1 : Int64)) + (1 : Int64)) q1) + (1 : Int64))), .second, .val (.long (F6 (((F5 (0 : Int64) q0) + (1 : Int64)) + (1 : Int64)) q1)), .second] [(.long (((F5 (0 : Int64) q0) + (1 : Int64)) + (1 : Int64)))])) _
        refine XS.lload X36.here hx rfl (hb hby at_125) rfl ?_
        show Steps p.tables e below (T36.setTop (mkF m 127 #[.val (.long q0), .second, .val (.long q1), .second, .val (.int p2), .val (.ref b1), .val (.long (0 : Int64)), .second, .val (.long ((F5 (0 : Int64) q0) + (1 : Int64))), .second, .val (.long (F6 (0 : Int64) q0)), .second, .val (.long (((F5 (0 : Int64) q0) + (1 : Int64)) + (1 : Int64))), .second, .val (.long (((F5 (0 : Int64) q0) + (1 : Int64)) + (1 : Int64))), .second, .val (.long ((F5 (((F5 (0 : Int64) q0) + (1 : Int64)) + (1 : Int64)) q1) + (1 : Int64))), .second, .val (.long (F6 (((F5 (0 : Int64) q0) + (1 : Int64)) + (1 : Int64)) q1)), .second] [(.long (((F5 (0 : Int64) q0) + (1 : Int64)) + (1 : Int64))), (.long (((F5 (0 : Int64) q0) + (1 : Int64)) + (1 : Int64)))])) _
        refine XS.lcmp X36.here hx rfl (hb hby at_127) rfl ?_
        show Steps p.tables e below (T36.setTop (mkF m 128 #[.val (.long q0), .second, .val (.long q1), .second, .val (.int p2), .val (.ref b1), .val (.long (0 : Int64)), .second, .val (.long ((F5 (0 : Int64) q0) + (1 : Int64))), .second, .val (.long (F6 (0 : Int64) q0)), .second, .val (.long (((F5 (0 : Int64) q0) + (1 : Int64)) + (1 : Int64))), .second, .val (.long (((F5 (0 : Int64) q0) + (1 : Int64)) + (1 : Int64))), .second, .val (.long ((F5 (((F5 (0 : Int64) q0) + (1 : Int64)) + (1 : Int64)) q1) + (1 : Int64))), .second, .val (.long (F6 (((F5 (0 : Int64) q0) + (1 : Int64)) + (1 : Int64)) q1)), .second] [(.int (lcmpW (((F5 (0 : Int64) q0) + (1 : Int64)) + (1 : Int64)) (((F5 (0 : Int64) q0) + (1 : Int64)) + (1 : Int64))))])) _
        refine XS.ifNo X36.here hx rfl (hb hby at_128) rfl (lcN_ne (rfl : (((F5 (0 : Int64) q0) + (1 : Int64)) + (1 : Int64)) = (((F5 (0 : Int64) q0) + (1 : Int64)) + (1 : Int64)))) ?_
        show Steps p.tables e below (T36.setTop (mkF m 131 #[.val (.long q0), .second, .val (.long q1), .second, .val (.int p2), .val (.ref b1), .val (.long (0 : Int64)), .second, .val (.long ((F5 (0 : Int64) q0) + (1 : Int64))), .second, .val (.long (F6 (0 : Int64) q0)), .second, .val (.long (((F5 (0 : Int64) q0) + (1 : Int64)) + (1 : Int64))), .second, .val (.long (((F5 (0 : Int64) q0) + (1 : Int64)) + (1 : Int64))), .second, .val (.long ((F5 (((F5 (0 : Int64) q0) + (1 : Int64)) + (1 : Int64)) q1) + (1 : Int64))), .second, .val (.long (F6 (((F5 (0 : Int64) q0) + (1 : Int64)) + (1 : Int64)) q1)), .second] [])) _
        refine XS.lload X36.here hx rfl (hb hby at_131) rfl ?_
        show Steps p.tables e below (T36.setTop (mkF m 133 #[.val (.long q0), .second, .val (.long q1), .second, .val (.int p2), .val (.ref b1), .val (.long (0 : Int64)), .second, .val (.long ((F5 (0 : Int64) q0) + (1 : Int64))), .second, .val (.long (F6 (0 : Int64) q0)), .second, .val (.long (((F5 (0 : Int64) q0) + (1 : Int64)) + (1 : Int64))), .second, .val (.long (((F5 (0 : Int64) q0) + (1 : Int64)) + (1 : Int64))), .second, .val (.long ((F5 (((F5 (0 : Int64) q0) + (1 : Int64)) + (1 : Int64)) q1) + (1 : Int64))), .second, .val (.long (F6 (((F5 (0 : Int64) q0) + (1 : Int64)) + (1 : Int64)) q1)), .second] [(.long ((F5 (((F5 (0 : Int64) q0) + (1 : Int64)) + (1 : Int64)) q1) + (1 : Int64)))])) _
        refine XS.lload X36.here hx rfl (hb hby at_133) rfl ?_
        show Steps p.tables e below (T36.setTop (mkF m 135 #[.val (.long q0), .second, .val (.long q1), .second, .val (.int p2), .val (.ref b1), .val (.long (0 : Int64)), .second, .val (.long ((F5 (0 : Int64) q0) + (1 : Int64))), .second, .val (.long (F6 (0 : Int64) q0)), .second, .val (.long (((F5 (0 : Int64) q0) + (1 : Int64)) + (1 : Int64))), .second, .val (.long (((F5 (0 : Int64) q0) + (1 : Int64)) + (1 : Int64))), .second, .val (.long ((F5 (((F5 (0 : Int64) q0) + (1 : Int64)) + (1 : Int64)) q1) + (1 : Int64))), .second, .val (.long (F6 (((F5 (0 : Int64) q0) + (1 : Int64)) + (1 : Int64)) q1)), .second] [(.long (F6 (((F5 (0 : Int64) q0) + (1 : Int64)) + (1 : Int64)) q1)), (.long ((F5 (((F5 (0 : Int64) q0) + (1 : Int64)) + (1 : Int64)) q1) + (1 : Int64)))])) _
        refine XS.lcmp X36.here hx rfl (hb hby at_135) rfl ?_
        show Steps p.tables e below (T36.setTop (mkF m 136 #[.val (.long q0), .second, .val (.long q1), .second, .val (.int p2), .val (.ref b1), .val (.long (0 : Int64)), .second, .val (.long ((F5 (0 : Int64) q0) + (1 : Int64))), .second, .val (.long (F6 (0 : Int64) q0)), .second, .val (.long (((F5 (0 : Int64) q0) + (1 : Int64)) + (1 : Int64))), .second, .val (.long (((F5 (0 : Int64) q0) + (1 : Int64)) + (1 : Int64))), .second, .val (.long ((F5 (((F5 (0 : Int64) q0) + (1 : Int64)) + (1 : Int64)) q1) + (1 : Int64))), .second, .val (.long (F6 (((F5 (0 : Int64) q0) + (1 : Int64)) + (1 : Int64)) q1)), .second] [(.int (lcmpW ((F5 (((F5 (0 : Int64) q0) + (1 : Int64)) + (1 : Int64)) q1) + (1 : Int64)) (F6 (((F5 (0 : Int64) q0) + (1 : Int64)) + (1 : Int64)) q1)))])) _
        refine XS.ifNo X36.here hx rfl (hb hby at_136) rfl (lcN_ne hc136) ?_
        show Steps p.tables e below (T36.setTop (mkF m 139 #[.val (.long q0), .second, .val (.long q1), .second, .val (.int p2), .val (.ref b1), .val (.long (0 : Int64)), .second, .val (.long ((F5 (0 : Int64) q0) + (1 : Int64))), .second, .val (.long (F6 (0 : Int64) q0)), .second, .val (.long (((F5 (0 : Int64) q0) + (1 : Int64)) + (1 : Int64))), .second, .val (.long (((F5 (0 : Int64) q0) + (1 : Int64)) + (1 : Int64))), .second, .val (.long ((F5 (((F5 (0 : Int64) q0) + (1 : Int64)) + (1 : Int64)) q1) + (1 : Int64))), .second, .val (.long (F6 (((F5 (0 : Int64) q0) + (1 : Int64)) + (1 : Int64)) q1)), .second] [])) _
        refine XS.iconst X36.here hx rfl (hb hby at_139) ?_
        show Steps p.tables e below (T36.setTop (mkF m 140 #[.val (.long q0), .second, .val (.long q1), .second, .val (.int p2), .val (.ref b1), .val (.long (0 : Int64)), .second, .val (.long ((F5 (0 : Int64) q0) + (1 : Int64))), .second, .val (.long (F6 (0 : Int64) q0)), .second, .val (.long (((F5 (0 : Int64) q0) + (1 : Int64)) + (1 : Int64))), .second, .val (.long (((F5 (0 : Int64) q0) + (1 : Int64)) + (1 : Int64))), .second, .val (.long ((F5 (((F5 (0 : Int64) q0) + (1 : Int64)) + (1 : Int64)) q1) + (1 : Int64))), .second, .val (.long (F6 (((F5 (0 : Int64) q0) + (1 : Int64)) + (1 : Int64)) q1)), .second] [(.int (1 : Int32))])) _
        refine XS.goto X36.here hx rfl (pc0 := 140) (pc' := 144) rfl (hb hby at_140) (by decide) (by decide) ?_
        show Steps p.tables e below (T36.setTop (mkF m 144 #[.val (.long q0), .second, .val (.long q1), .second, .val (.int p2), .val (.ref b1), .val (.long (0 : Int64)), .second, .val (.long ((F5 (0 : Int64) q0) + (1 : Int64))), .second, .val (.long (F6 (0 : Int64) q0)), .second, .val (.long (((F5 (0 : Int64) q0) + (1 : Int64)) + (1 : Int64))), .second, .val (.long (((F5 (0 : Int64) q0) + (1 : Int64)) + (1 : Int64))), .second, .val (.long ((F5 (((F5 (0 : Int64) q0) + (1 : Int64)) + (1 : Int64)) q1) + (1 : Int64))), .second, .val (.long (F6 (((F5 (0 : Int64) q0) + (1 : Int64)) + (1 : Int64)) q1)), .second] [(.int (1 : Int32))])) _
        exact retN X36 hx (t := .boolean) Bd.returns (by simp) (hb hby at_144) hr
      · show Q0 Z q0 q1 p2 h0 n0 _ T36.heap _
        rw [e36]
        exact ⟨rfl, N36⟩
    · obtain ⟨cq37, kq37, q37a, q37b, q37c⟩ := isOf hZ rfl G28
      obtain ⟨_, _, ⟨T37, L37, k37, n37⟩, -, X37, ⟨Lc37, hQ37, l37, y37, z37⟩, st37⟩ := X27.virtualBack hx (y := (⟨"com/example/aveiro/aveiro/lock/LamportClock", "advance", "()J"⟩ : MethodName)) (z := (⟨"com/example/aveiro/aveiro/lock/LamportClock", "advance", "()J"⟩ : MethodName)) hown (mvT hZ (hw _ (List.mem_of_getElem? (i := 29) rfl))) (mvT hZ (hw _ (List.mem_of_getElem? (i := 30) rfl))) (notFace_of_selects (args := #[]) (mvT hZ (hw _ (List.mem_of_getElem? (i := 32) rfl)))) (mvT hZ (hw _ (List.mem_of_getElem? (i := 32) rfl))) (mvT hZ (hw _ (List.mem_of_getElem? (i := 31) rfl))) (by decide) (backOf (W := 0) (rm7 l Z a0 hw [] b1 (((F5 (0 : Int64) q0) + (1 : Int64)) + (1 : Int64)) T27.heap n0 Z27 G29 G28 g_b1) hZ (hw _ (List.mem_of_getElem? (i := 33) rfl)) (hw _ (List.mem_of_getElem? (i := 2) rfl)) (by decide) (by decide)) q37a q37c (g := (mkF m 77 #[.val (.long q0), .second, .val (.long q1), .second, .val (.int p2), .val (.ref b1), .val (.long (0 : Int64)), .second, .val (.long ((F5 (0 : Int64) q0) + (1 : Int64))), .second, .val (.long (F6 (0 : Int64) q0)), .second, .val (.long (((F5 (0 : Int64) q0) + (1 : Int64)) + (1 : Int64))), .second, .unset, .unset, .unset, .unset, .unset, .unset] [(.ref b1)])) rfl (by rw [hml]; rfl) (Steps.refl _) (argsL := []) (rest := []) (lenOf pd_1 rfl) rfl (by show 2 * 0 + _ ≤ _; exact Nat.le_of_eq rfl) (hb hby at_77) (fun _ _ => ⟨rfl, rfl, (by decide : 1 + 0 ≤ _), (by decide : 1 + 0 ≤ _)⟩)
      dsimp only [Pt.U, Pt.locs, Pt.cells, Pt.slots] at X37 l37 y37 z37 st37 hQ37
      subst l37 y37 z37
      obtain ⟨rfl, N37q, K37, G38, G39⟩ := hQ37
      have Z37 := Nat.le_trans Z27 K37.1
      have N37 := Fr.app N27 N37q
      obtain ⟨cq40, kq40, q40a, q40b, q40c⟩ := isOf hZ rfl G38
      obtain ⟨_, _, ⟨T40, L40, k40, n40⟩, -, X40, ⟨Lc40, hQ40, l40, y40, z40⟩, st40⟩ := X37.virtualBack hx (y := (⟨"com/example/aveiro/aveiro/lock/LamportClock", "time", "()J"⟩ : MethodName)) (z := (⟨"com/example/aveiro/aveiro/lock/LamportClock", "time", "()J"⟩ : MethodName)) hown (mvT hZ (hw _ (List.mem_of_getElem? (i := 9) rfl))) (mvT hZ (hw _ (List.mem_of_getElem? (i := 10) rfl))) (notFace_of_selects (args := #[]) (mvT hZ (hw _ (List.mem_of_getElem? (i := 12) rfl)))) (mvT hZ (hw _ (List.mem_of_getElem? (i := 12) rfl))) (mvT hZ (hw _ (List.mem_of_getElem? (i := 11) rfl))) (by decide) (backOf (W := 0) (rm3 l Z a0 hw [] b1 ((((F5 (0 : Int64) q0) + (1 : Int64)) + (1 : Int64)) + (1 : Int64)) T37.heap n0 Z37 G39) hZ (hw _ (List.mem_of_getElem? (i := 13) rfl)) (hw _ (List.mem_of_getElem? (i := 2) rfl)) (by decide) (by decide)) q40a q40c (g := (mkF m 89 #[.val (.long q0), .second, .val (.long q1), .second, .val (.int p2), .val (.ref b1), .val (.long (0 : Int64)), .second, .val (.long ((F5 (0 : Int64) q0) + (1 : Int64))), .second, .val (.long (F6 (0 : Int64) q0)), .second, .val (.long ((((F5 (0 : Int64) q0) + (1 : Int64)) + (1 : Int64)) + (1 : Int64))), .second, .unset, .unset, .unset, .unset, .unset, .unset] [(.ref b1)])) rfl (by rw [hml]; rfl) (Steps.refl _) (argsL := []) (rest := []) (lenOf pd_1 rfl) rfl (by show 2 * 0 + _ ≤ _; exact Nat.le_of_eq rfl) (hb hby at_89) (fun _ _ => ⟨rfl, rfl, (by decide : 1 + 0 ≤ _), (by decide : 1 + 0 ≤ _)⟩)
      dsimp only [Pt.U, Pt.locs, Pt.cells, Pt.slots] at X40 l40 y40 z40 st40 hQ40
      subst l40 y40 z40
      obtain ⟨rfl, N40q, e40⟩ := hQ40
      have N40 := Fr.app N37 N40q
      obtain ⟨cq41, kq41, q41a, q41b, q41c⟩ := isOf hZ e40 G38
      obtain ⟨_, _, ⟨T41, L41, k41, n41⟩, -, X41, ⟨Lc41, hQ41, l41, y41, z41⟩, st41⟩ := X40.virtualBack hx (y := (⟨"com/example/aveiro/aveiro/lock/LamportClock", "receive", "(J)V"⟩ : MethodName)) (z := (⟨"com/example/aveiro/aveiro/lock/LamportClock", "receive", "(J)V"⟩ : MethodName)) hown (mvT hZ (hw _ (List.mem_of_getElem? (i := 16) rfl))) (mvT hZ (hw _ (List.mem_of_getElem? (i := 17) rfl))) (notFace_of_selects (args := #[]) (mvT hZ (hw _ (List.mem_of_getElem? (i := 19) rfl)))) (mvT hZ (hw _ (List.mem_of_getElem? (i := 19) rfl))) (mvT hZ (hw _ (List.mem_of_getElem? (i := 18) rfl))) (by decide) (backOf (W := 0) (rm4 l Z a0 hw [] b1 q1 ((((F5 (0 : Int64) q0) + (1 : Int64)) + (1 : Int64)) + (1 : Int64)) T37.heap n0 Z37 G39 G38 g_b1) hZ (hw _ (List.mem_of_getElem? (i := 20) rfl)) (hw _ (List.mem_of_getElem? (i := 2) rfl)) (by decide) (by decide)) q41a q41c (g := (mkF m 97 #[.val (.long q0), .second, .val (.long q1), .second, .val (.int p2), .val (.ref b1), .val (.long (0 : Int64)), .second, .val (.long ((F5 (0 : Int64) q0) + (1 : Int64))), .second, .val (.long (F6 (0 : Int64) q0)), .second, .val (.long ((((F5 (0 : Int64) q0) + (1 : Int64)) + (1 : Int64)) + (1 : Int64))), .second, .val (.long ((((F5 (0 : Int64) q0) + (1 : Int64)) + (1 : Int64)) + (1 : Int64))), .second, .unset, .unset, .unset, .unset] [(.long q1), (.ref b1)])) rfl (by rw [hml]; rfl) (Steps.refl _) (argsL := [(.long q1)]) (rest := []) (lenOf pd_3 rfl) rfl (by show 2 * 0 + _ ≤ _; exact Nat.le_of_eq rfl) (hb hby at_97) (fun _ _ => ⟨rfl, e40, (by decide : 1 + 0 ≤ _), (by decide : 1 + 0 ≤ _)⟩)
      dsimp only [Pt.U, Pt.locs, Pt.cells, Pt.slots] at X41 l41 y41 z41 st41 hQ41
      subst l41 y41 z41
      obtain ⟨rfl, N41q, K41, G42, G43⟩ := hQ41
      have Z41 := Nat.le_trans Z37 K41.1
      have N41 := Fr.app N40 N41q
      obtain ⟨cq44, kq44, q44a, q44b, q44c⟩ := isOf hZ rfl G42
      obtain ⟨_, _, ⟨T44, L44, k44, n44⟩, -, X44, ⟨Lc44, hQ44, l44, y44, z44⟩, st44⟩ := X41.virtualBack hx (y := (⟨"com/example/aveiro/aveiro/lock/LamportClock", "time", "()J"⟩ : MethodName)) (z := (⟨"com/example/aveiro/aveiro/lock/LamportClock", "time", "()J"⟩ : MethodName)) hown (mvT hZ (hw _ (List.mem_of_getElem? (i := 9) rfl))) (mvT hZ (hw _ (List.mem_of_getElem? (i := 10) rfl))) (notFace_of_selects (args := #[]) (mvT hZ (hw _ (List.mem_of_getElem? (i := 12) rfl)))) (mvT hZ (hw _ (List.mem_of_getElem? (i := 12) rfl))) (mvT hZ (hw _ (List.mem_of_getElem? (i := 11) rfl))) (by decide) (backOf (W := 0) (rm3 l Z a0 hw [] b1 ((F5 ((((F5 (0 : Int64) q0) + (1 : Int64)) + (1 : Int64)) + (1 : Int64)) q1) + (1 : Int64)) T41.heap n0 Z41 G43) hZ (hw _ (List.mem_of_getElem? (i := 13) rfl)) (hw _ (List.mem_of_getElem? (i := 2) rfl)) (by decide) (by decide)) q44a q44c (g := (mkF m 102 #[.val (.long q0), .second, .val (.long q1), .second, .val (.int p2), .val (.ref b1), .val (.long (0 : Int64)), .second, .val (.long ((F5 (0 : Int64) q0) + (1 : Int64))), .second, .val (.long (F6 (0 : Int64) q0)), .second, .val (.long ((((F5 (0 : Int64) q0) + (1 : Int64)) + (1 : Int64)) + (1 : Int64))), .second, .val (.long ((((F5 (0 : Int64) q0) + (1 : Int64)) + (1 : Int64)) + (1 : Int64))), .second, .unset, .unset, .unset, .unset] [(.ref b1)])) rfl (by rw [hml]; rfl) (Steps.refl _) (argsL := []) (rest := []) (lenOf pd_1 rfl) rfl (by show 2 * 0 + _ ≤ _; exact Nat.le_of_eq rfl) (hb hby at_102) (fun _ _ => ⟨rfl, rfl, (by decide : 1 + 0 ≤ _), (by decide : 1 + 0 ≤ _)⟩)
      dsimp only [Pt.U, Pt.locs, Pt.cells, Pt.slots] at X44 l44 y44 z44 st44 hQ44
      subst l44 y44 z44
      obtain ⟨rfl, N44q, e44⟩ := hQ44
      have N44 := Fr.app N41 N44q
      obtain ⟨_, _, ⟨T45, L45, k45, n45⟩, -, X45, ⟨Lc45, hQ45, l45, y45, z45⟩, st45⟩ := Jvm.LawKit.callS X44 hx (y := (⟨"com/example/aveiro/aveiro/lock/LamportClockReceivePinLaw", "expectedAfterReceive", "(JJ)J"⟩ : MethodName)) hown (mvT hZ (hw _ (List.mem_of_getElem? (i := 25) rfl))) (mvT hZ (hw _ (List.mem_of_getElem? (i := 26) rfl))) (mvT hZ (hw _ (List.mem_of_getElem? (i := 27) rfl))) (mvT hZ (hw _ (List.mem_of_getElem? (i := 28) rfl))) (by decide) (backOf (W := 0) (rm6 l Z a0 hw [] ((((F5 (0 : Int64) q0) + (1 : Int64)) + (1 : Int64)) + (1 : Int64)) q1 T41.heap n0 Z41) hZ (hw _ (List.mem_of_getElem? (i := 28) rfl)) (hw _ (List.mem_of_getElem? (i := 27) rfl)) (by decide) (by decide)) (g := (mkF m 110 #[.val (.long q0), .second, .val (.long q1), .second, .val (.int p2), .val (.ref b1), .val (.long (0 : Int64)), .second, .val (.long ((F5 (0 : Int64) q0) + (1 : Int64))), .second, .val (.long (F6 (0 : Int64) q0)), .second, .val (.long ((((F5 (0 : Int64) q0) + (1 : Int64)) + (1 : Int64)) + (1 : Int64))), .second, .val (.long ((((F5 (0 : Int64) q0) + (1 : Int64)) + (1 : Int64)) + (1 : Int64))), .second, .val (.long ((F5 ((((F5 (0 : Int64) q0) + (1 : Int64)) + (1 : Int64)) + (1 : Int64)) q1) + (1 : Int64))), .second, .unset, .unset] [(.long q1), (.long ((((F5 (0 : Int64) q0) + (1 : Int64)) + (1 : Int64)) + (1 : Int64)))])) rfl (by rw [hml]; rfl) (argsL := [(.long ((((F5 (0 : Int64) q0) + (1 : Int64)) + (1 : Int64)) + (1 : Int64))), (.long q1)]) (rest := []) (lenOf pd_2 rfl) rfl (by show 2 * 0 + _ ≤ _; exact Nat.le_of_eq rfl) (hb hby at_110) (fun _ _ => ⟨rfl, e44, (by decide : 1 + 0 ≤ _), (by decide : 1 + 0 ≤ _)⟩)
      dsimp only [Pt.U, Pt.locs, Pt.cells, Pt.slots] at X45 l45 y45 z45 st45 hQ45
      subst l45 y45 z45
      obtain ⟨rfl, N45q, e45⟩ := hQ45
      have N45 := Fr.app N44 N45q
      have hc120 : ((F5 (0 : Int64) q0) + (1 : Int64)) = (F6 (0 : Int64) q0) := own_eq _ _
      have hc136 : ((F5 ((((F5 (0 : Int64) q0) + (1 : Int64)) + (1 : Int64)) + (1 : Int64)) q1) + (1 : Int64)) = (F6 ((((F5 (0 : Int64) q0) + (1 : Int64)) + (1 : Int64)) + (1 : Int64)) q1) := own_eq _ _
      obtain ⟨fs, hr, hrun, hended, hW, hsame⟩ := X45.leave (v := some (.int (1 : Int32))) (fun h => by rw [Bd.returns] at h; cases h)
      refine ⟨_, _, pre30 _ ?_, hrun, hended, _, _, rfl, ?_, ⟨_, rfl⟩, hW, hsame.mono (by decide) (by decide)⟩
      · show Steps p.tables e below (T27.setTop (mkF m 72 #[.val (.long q0), .second, .val (.long q1), .second, .val (.int p2), .val (.ref b1), .val (.long (0 : Int64)), .second, .val (.long ((F5 (0 : Int64) q0) + (1 : Int64))), .second, .val (.long (F6 (0 : Int64) q0)), .second, .val (.long (((F5 (0 : Int64) q0) + (1 : Int64)) + (1 : Int64))), .second, .unset, .unset, .unset, .unset, .unset, .unset] [(.int (p2 &&& (2 : Int32)))])) _
        refine XS.ifNo X27.here hx rfl (hb hby at_72) rfl ((if0 _ _).trans (feq hc72).1) ?_
        show Steps p.tables e below (T27.setTop (mkF m 75 #[.val (.long q0), .second, .val (.long q1), .second, .val (.int p2), .val (.ref b1), .val (.long (0 : Int64)), .second, .val (.long ((F5 (0 : Int64) q0) + (1 : Int64))), .second, .val (.long (F6 (0 : Int64) q0)), .second, .val (.long (((F5 (0 : Int64) q0) + (1 : Int64)) + (1 : Int64))), .second, .unset, .unset, .unset, .unset, .unset, .unset] [])) _
        refine XS.aload X27.here hx rfl (hb hby at_75) rfl rfl ?_
        show Steps p.tables e below (T27.setTop (mkF m 77 #[.val (.long q0), .second, .val (.long q1), .second, .val (.int p2), .val (.ref b1), .val (.long (0 : Int64)), .second, .val (.long ((F5 (0 : Int64) q0) + (1 : Int64))), .second, .val (.long (F6 (0 : Int64) q0)), .second, .val (.long (((F5 (0 : Int64) q0) + (1 : Int64)) + (1 : Int64))), .second, .unset, .unset, .unset, .unset, .unset, .unset] [(.ref b1)])) _
        refine st37.trans ?_
        show Steps p.tables e below (T37.setTop (mkF m 80 #[.val (.long q0), .second, .val (.long q1), .second, .val (.int p2), .val (.ref b1), .val (.long (0 : Int64)), .second, .val (.long ((F5 (0 : Int64) q0) + (1 : Int64))), .second, .val (.long (F6 (0 : Int64) q0)), .second, .val (.long (((F5 (0 : Int64) q0) + (1 : Int64)) + (1 : Int64))), .second, .unset, .unset, .unset, .unset, .unset, .unset] [(.long ((((F5 (0 : Int64) q0) + (1 : Int64)) + (1 : Int64)) + (1 : Int64)))])) _
        jvm_step X37.here [X37.here.top, hx, (hb hby at_80), Value.category]
        show Steps p.tables e below (T37.setTop (mkF m 81 #[.val (.long q0), .second, .val (.long q1), .second, .val (.int p2), .val (.ref b1), .val (.long (0 : Int64)), .second, .val (.long ((F5 (0 : Int64) q0) + (1 : Int64))), .second, .val (.long (F6 (0 : Int64) q0)), .second, .val (.long (((F5 (0 : Int64) q0) + (1 : Int64)) + (1 : Int64))), .second, .unset, .unset, .unset, .unset, .unset, .unset] [])) _
        refine XS.lload X37.here hx rfl (hb hby at_81) rfl ?_
        show Steps p.tables e below (T37.setTop (mkF m 83 #[.val (.long q0), .second, .val (.long q1), .second, .val (.int p2), .val (.ref b1), .val (.long (0 : Int64)), .second, .val (.long ((F5 (0 : Int64) q0) + (1 : Int64))), .second, .val (.long (F6 (0 : Int64) q0)), .second, .val (.long (((F5 (0 : Int64) q0) + (1 : Int64)) + (1 : Int64))), .second, .unset, .unset, .unset, .unset, .unset, .unset] [(.long (((F5 (0 : Int64) q0) + (1 : Int64)) + (1 : Int64)))])) _
        refine XS.lconst X37.here hx rfl (hb hby at_83) ?_
        show Steps p.tables e below (T37.setTop (mkF m 84 #[.val (.long q0), .second, .val (.long q1), .second, .val (.int p2), .val (.ref b1), .val (.long (0 : Int64)), .second, .val (.long ((F5 (0 : Int64) q0) + (1 : Int64))), .second, .val (.long (F6 (0 : Int64) q0)), .second, .val (.long (((F5 (0 : Int64) q0) + (1 : Int64)) + (1 : Int64))), .second, .unset, .unset, .unset, .unset, .unset, .unset] [(.long (1 : Int64)), (.long (((F5 (0 : Int64) q0) + (1 : Int64)) + (1 : Int64)))])) _
        refine XS.ladd X37.here hx rfl (hb hby at_84) rfl ?_
        show Steps p.tables e below (T37.setTop (mkF m 85 #[.val (.long q0), .second, .val (.long q1), .second, .val (.int p2), .val (.ref b1), .val (.long (0 : Int64)), .second, .val (.long ((F5 (0 : Int64) q0) + (1 : Int64))), .second, .val (.long (F6 (0 : Int64) q0)), .second, .val (.long (((F5 (0 : Int64) q0) + (1 : Int64)) + (1 : Int64))), .second, .unset, .unset, .unset, .unset, .unset, .unset] [(.long ((((F5 (0 : Int64) q0) + (1 : Int64)) + (1 : Int64)) + (1 : Int64)))])) _
        refine XS.lstore X37.here hx rfl (hb hby at_85) rfl (l' := #[.val (.long q0), .second, .val (.long q1), .second, .val (.int p2), .val (.ref b1), .val (.long (0 : Int64)), .second, .val (.long ((F5 (0 : Int64) q0) + (1 : Int64))), .second, .val (.long (F6 (0 : Int64) q0)), .second, .val (.long ((((F5 (0 : Int64) q0) + (1 : Int64)) + (1 : Int64)) + (1 : Int64))), .second, .unset, .unset, .unset, .unset, .unset, .unset]) rfl ?_
        show Steps p.tables e below (T37.setTop (mkF m 87 #[.val (.long q0), .second, .val (.long q1), .second, .val (.int p2), .val (.ref b1), .val (.long (0 : Int64)), .second, .val (.long ((F5 (0 : Int64) q0) + (1 : Int64))), .second, .val (.long (F6 (0 : Int64) q0)), .second, .val (.long ((((F5 (0 : Int64) q0) + (1 : Int64)) + (1 : Int64)) + (1 : Int64))), .second, .unset, .unset, .unset, .unset, .unset, .unset] [])) _
        refine XS.aload X37.here hx rfl (hb hby at_87) rfl rfl ?_
        show Steps p.tables e below (T37.setTop (mkF m 89 #[.val (.long q0), .second, .val (.long q1), .second, .val (.int p2), .val (.ref b1), .val (.long (0 : Int64)), .second, .val (.long ((F5 (0 : Int64) q0) + (1 : Int64))), .second, .val (.long (F6 (0 : Int64) q0)), .second, .val (.long ((((F5 (0 : Int64) q0) + (1 : Int64)) + (1 : Int64)) + (1 : Int64))), .second, .unset, .unset, .unset, .unset, .unset, .unset] [(.ref b1)])) _
        refine st40.trans ?_
        show Steps p.tables e below (T40.setTop (mkF m 92 #[.val (.long q0), .second, .val (.long q1), .second, .val (.int p2), .val (.ref b1), .val (.long (0 : Int64)), .second, .val (.long ((F5 (0 : Int64) q0) + (1 : Int64))), .second, .val (.long (F6 (0 : Int64) q0)), .second, .val (.long ((((F5 (0 : Int64) q0) + (1 : Int64)) + (1 : Int64)) + (1 : Int64))), .second, .unset, .unset, .unset, .unset, .unset, .unset] [(.long ((((F5 (0 : Int64) q0) + (1 : Int64)) + (1 : Int64)) + (1 : Int64)))])) _
        refine XS.lstore X40.here hx rfl (hb hby at_92) rfl (l' := #[.val (.long q0), .second, .val (.long q1), .second, .val (.int p2), .val (.ref b1), .val (.long (0 : Int64)), .second, .val (.long ((F5 (0 : Int64) q0) + (1 : Int64))), .second, .val (.long (F6 (0 : Int64) q0)), .second, .val (.long ((((F5 (0 : Int64) q0) + (1 : Int64)) + (1 : Int64)) + (1 : Int64))), .second, .val (.long ((((F5 (0 : Int64) q0) + (1 : Int64)) + (1 : Int64)) + (1 : Int64))), .second, .unset, .unset, .unset, .unset]) rfl ?_
        show Steps p.tables e below (T40.setTop (mkF m 94 #[.val (.long q0), .second, .val (.long q1), .second, .val (.int p2), .val (.ref b1), .val (.long (0 : Int64)), .second, .val (.long ((F5 (0 : Int64) q0) + (1 : Int64))), .second, .val (.long (F6 (0 : Int64) q0)), .second, .val (.long ((((F5 (0 : Int64) q0) + (1 : Int64)) + (1 : Int64)) + (1 : Int64))), .second, .val (.long ((((F5 (0 : Int64) q0) + (1 : Int64)) + (1 : Int64)) + (1 : Int64))), .second, .unset, .unset, .unset, .unset] [])) _
        refine XS.aload X40.here hx rfl (hb hby at_94) rfl rfl ?_
        show Steps p.tables e below (T40.setTop (mkF m 96 #[.val (.long q0), .second, .val (.long q1), .second, .val (.int p2), .val (.ref b1), .val (.long (0 : Int64)), .second, .val (.long ((F5 (0 : Int64) q0) + (1 : Int64))), .second, .val (.long (F6 (0 : Int64) q0)), .second, .val (.long ((((F5 (0 : Int64) q0) + (1 : Int64)) + (1 : Int64)) + (1 : Int64))), .second, .val (.long ((((F5 (0 : Int64) q0) + (1 : Int64)) + (1 : Int64)) + (1 : Int64))), .second, .unset, .unset, .unset, .unset] [(.ref b1)])) _
        refine XS.lloadN X40.here hx rfl (hb hby at_96) rfl ?_
        show Steps p.tables e below (T40.setTop (mkF m 97 #[.val (.long q0), .second, .val (.long q1), .second, .val (.int p2), .val (.ref b1), .val (.long (0 : Int64)), .second, .val (.long ((F5 (0 : Int64) q0) + (1 : Int64))), .second, .val (.long (F6 (0 : Int64) q0)), .second, .val (.long ((((F5 (0 : Int64) q0) + (1 : Int64)) + (1 : Int64)) + (1 : Int64))), .second, .val (.long ((((F5 (0 : Int64) q0) + (1 : Int64)) + (1 : Int64)) + (1 : Int64))), .second, .unset, .unset, .unset, .unset] [(.long q1), (.ref b1)])) _
        refine st41.trans ?_
        show Steps p.tables e below (T41.setTop (mkF m 100 #[.val (.long q0), .second, .val (.long q1), .second, .val (.int p2), .val (.ref b1), .val (.long (0 : Int64)), .second, .val (.long ((F5 (0 : Int64) q0) + (1 : Int64))), .second, .val (.long (F6 (0 : Int64) q0)), .second, .val (.long ((((F5 (0 : Int64) q0) + (1 : Int64)) + (1 : Int64)) + (1 : Int64))), .second, .val (.long ((((F5 (0 : Int64) q0) + (1 : Int64)) + (1 : Int64)) + (1 : Int64))), .second, .unset, .unset, .unset, .unset] [])) _
        refine XS.aload X41.here hx rfl (hb hby at_100) rfl rfl ?_
        show Steps p.tables e below (T41.setTop (mkF m 102 #[.val (.long q0), .second, .val (.long q1), .second, .val (.int p2), .val (.ref b1), .val (.long (0 : Int64)), .second, .val (.long ((F5 (0 : Int64) q0) + (1 : Int64))), .second, .val (.long (F6 (0 : Int64) q0)), .second, .val (.long ((((F5 (0 : Int64) q0) + (1 : Int64)) + (1 : Int64)) + (1 : Int64))), .second, .val (.long ((((F5 (0 : Int64) q0) + (1 : Int64)) + (1 : Int64)) + (1 : Int64))), .second, .unset, .unset, .unset, .unset] [(.ref b1)])) _
        refine st44.trans ?_
        show Steps p.tables e below (T44.setTop (mkF m 105 #[.val (.long q0), .second, .val (.long q1), .second, .val (.int p2), .val (.ref b1), .val (.long (0 : Int64)), .second, .val (.long ((F5 (0 : Int64) q0) + (1 : Int64))), .second, .val (.long (F6 (0 : Int64) q0)), .second, .val (.long ((((F5 (0 : Int64) q0) + (1 : Int64)) + (1 : Int64)) + (1 : Int64))), .second, .val (.long ((((F5 (0 : Int64) q0) + (1 : Int64)) + (1 : Int64)) + (1 : Int64))), .second, .unset, .unset, .unset, .unset] [(.long ((F5 ((((F5 (0 : Int64) q0) + (1 : Int64)) + (1 : Int64)) + (1 : Int64)) q1) + (1 : Int64)))])) _
        refine XS.lstore X44.here hx rfl (hb hby at_105) rfl (l' := #[.val (.long q0), .second, .val (.long q1), .second, .val (.int p2), .val (.ref b1), .val (.long (0 : Int64)), .second, .val (.long ((F5 (0 : Int64) q0) + (1 : Int64))), .second, .val (.long (F6 (0 : Int64) q0)), .second, .val (.long ((((F5 (0 : Int64) q0) + (1 : Int64)) + (1 : Int64)) + (1 : Int64))), .second, .val (.long ((((F5 (0 : Int64) q0) + (1 : Int64)) + (1 : Int64)) + (1 : Int64))), .second, .val (.long ((F5 ((((F5 (0 : Int64) q0) + (1 : Int64)) + (1 : Int64)) + (1 : Int64)) q1) + (1 : Int64))), .second, .unset, .unset]) rfl ?_
        show Steps p.tables e below (T44.setTop (mkF m 107 #[.val (.long q0), .second, .val (.long q1), .second, .val (.int p2), .val (.ref b1), .val (.long (0 : Int64)), .second, .val (.long ((F5 (0 : Int64) q0) + (1 : Int64))), .second, .val (.long (F6 (0 : Int64) q0)), .second, .val (.long ((((F5 (0 : Int64) q0) + (1 : Int64)) + (1 : Int64)) + (1 : Int64))), .second, .val (.long ((((F5 (0 : Int64) q0) + (1 : Int64)) + (1 : Int64)) + (1 : Int64))), .second, .val (.long ((F5 ((((F5 (0 : Int64) q0) + (1 : Int64)) + (1 : Int64)) + (1 : Int64)) q1) + (1 : Int64))), .second, .unset, .unset] [])) _
        refine XS.lload X44.here hx rfl (hb hby at_107) rfl ?_
        show Steps p.tables e below (T44.setTop (mkF m 109 #[.val (.long q0), .second, .val (.long q1), .second, .val (.int p2), .val (.ref b1), .val (.long (0 : Int64)), .second, .val (.long ((F5 (0 : Int64) q0) + (1 : Int64))), .second, .val (.long (F6 (0 : Int64) q0)), .second, .val (.long ((((F5 (0 : Int64) q0) + (1 : Int64)) + (1 : Int64)) + (1 : Int64))), .second, .val (.long ((((F5 (0 : Int64) q0) + (1 : Int64)) + (1 : Int64)) + (1 : Int64))), .second, .val (.long ((F5 ((((F5 (0 : Int64) q0) + (1 : Int64)) + (1 : Int64)) + (1 : Int64)) q1) + (1 : Int64))), .second, .unset, .unset] [(.long ((((F5 (0 : Int64) q0) + (1 : Int64)) + (1 : Int64)) + (1 : Int64)))])) _
        refine XS.lloadN X44.here hx rfl (hb hby at_109) rfl ?_
        show Steps p.tables e below (T44.setTop (mkF m 110 #[.val (.long q0), .second, .val (.long q1), .second, .val (.int p2), .val (.ref b1), .val (.long (0 : Int64)), .second, .val (.long ((F5 (0 : Int64) q0) + (1 : Int64))), .second, .val (.long (F6 (0 : Int64) q0)), .second, .val (.long ((((F5 (0 : Int64) q0) + (1 : Int64)) + (1 : Int64)) + (1 : Int64))), .second, .val (.long ((((F5 (0 : Int64) q0) + (1 : Int64)) + (1 : Int64)) + (1 : Int64))), .second, .val (.long ((F5 ((((F5 (0 : Int64) q0) + (1 : Int64)) + (1 : Int64)) + (1 : Int64)) q1) + (1 : Int64))), .second, .unset, .unset] [(.long q1), (.long ((((F5 (0 : Int64) q0) + (1 : Int64)) + (1 : Int64)) + (1 : Int64)))])) _
        refine st45 _ ?_
        show Steps p.tables e below (T45.setTop (mkF m 113 #[.val (.long q0), .second, .val (.long q1), .second, .val (.int p2), .val (.ref b1), .val (.long (0 : Int64)), .second, .val (.long ((F5 (0 : Int64) q0) + (1 : Int64))), .second, .val (.long (F6 (0 : Int64) q0)), .second, .val (.long ((((F5 (0 : Int64) q0) + (1 : Int64)) + (1 : Int64)) + (1 : Int64))), .second, .val (.long ((((F5 (0 : Int64) q0) + (1 : Int64)) + (1 : Int64)) + (1 : Int64))), .second, .val (.long ((F5 ((((F5 (0 : Int64) q0) + (1 : Int64)) + (1 : Int64)) + (1 : Int64)) q1) + (1 : Int64))), .second, .unset, .unset] [(.long (F6 ((((F5 (0 : Int64) q0) + (1 : Int64)) + (1 : Int64)) + (1 : Int64)) q1))])) _
        refine XS.lstore X45.here hx rfl (hb hby at_113) rfl (l' := #[.val (.long q0), .second, .val (.long q1), .second, .val (.int p2), .val (.ref b1), .val (.long (0 : Int64)), .second, .val (.long ((F5 (0 : Int64) q0) + (1 : Int64))), .second, .val (.long (F6 (0 : Int64) q0)), .second, .val (.long ((((F5 (0 : Int64) q0) + (1 : Int64)) + (1 : Int64)) + (1 : Int64))), .second, .val (.long ((((F5 (0 : Int64) q0) + (1 : Int64)) + (1 : Int64)) + (1 : Int64))), .second, .val (.long ((F5 ((((F5 (0 : Int64) q0) + (1 : Int64)) + (1 : Int64)) + (1 : Int64)) q1) + (1 : Int64))), .second, .val (.long (F6 ((((F5 (0 : Int64) q0) + (1 : Int64)) + (1 : Int64)) + (1 : Int64)) q1)), .second]) rfl ?_
        show Steps p.tables e below (T45.setTop (mkF m 115 #[.val (.long q0), .second, .val (.long q1), .second, .val (.int p2), .val (.ref b1), .val (.long (0 : Int64)), .second, .val (.long ((F5 (0 : Int64) q0) + (1 : Int64))), .second, .val (.long (F6 (0 : Int64) q0)), .second, .val (.long ((((F5 (0 : Int64) q0) + (1 : Int64)) + (1 : Int64)) + (1 : Int64))), .second, .val (.long ((((F5 (0 : Int64) q0) + (1 : Int64)) + (1 : Int64)) + (1 : Int64))), .second, .val (.long ((F5 ((((F5 (0 : Int64) q0) + (1 : Int64)) + (1 : Int64)) + (1 : Int64)) q1) + (1 : Int64))), .second, .val (.long (F6 ((((F5 (0 : Int64) q0) + (1 : Int64)) + (1 : Int64)) + (1 : Int64)) q1)), .second] [])) _
        refine XS.lload X45.here hx rfl (hb hby at_115) rfl ?_
        show Steps p.tables e below (T45.setTop (mkF m 117 #[.val (.long q0), .second, .val (.long q1), .second, .val (.int p2), .val (.ref b1), .val (.long (0 : Int64)), .second, .val (.long ((F5 (0 : Int64) q0) + (1 : Int64))), .second, .val (.long (F6 (0 : Int64) q0)), .second, .val (.long ((((F5 (0 : Int64) q0) + (1 : Int64)) + (1 : Int64)) + (1 : Int64))), .second, .val (.long ((((F5 (0 : Int64) q0) + (1 : Int64)) + (1 : Int64)) + (1 : Int64))), .second, .val (.long ((F5 ((((F5 (0 : Int64) q0) + (1 : Int64)) + (1 : Int64)) + (1 : Int64)) q1) + (1 : Int64))), .second, .val (.long (F6 ((((F5 (0 : Int64) q0) + (1 : Int64)) + (1 : Int64)) + (1 : Int64)) q1)), .second] [(.long ((F5 (0 : Int64) q0) + (1 : Int64)))])) _
        refine XS.lload X45.here hx rfl (hb hby at_117) rfl ?_
        show Steps p.tables e below (T45.setTop (mkF m 119 #[.val (.long q0), .second, .val (.long q1), .second, .val (.int p2), .val (.ref b1), .val (.long (0 : Int64)), .second, .val (.long ((F5 (0 : Int64) q0) + (1 : Int64))), .second, .val (.long (F6 (0 : Int64) q0)), .second, .val (.long ((((F5 (0 : Int64) q0) + (1 : Int64)) + (1 : Int64)) + (1 : Int64))), .second, .val (.long ((((F5 (0 : Int64) q0) + (1 : Int64)) + (1 : Int64)) + (1 : Int64))), .second, .val (.long ((F5 ((((F5 (0 : Int64) q0) + (1 : Int64)) + (1 : Int64)) + (1 : Int64)) q1) + (1 : Int64))), .second, .val (.long (F6 ((((F5 (0 : Int64) q0) + (1 : Int64)) + (1 : Int64)) + (1 : Int64)) q1)), .second] [(.long (F6 (0 : Int64) q0)), (.long ((F5 (0 : Int64) q0) + (1 : Int64)))])) _
        refine XS.lcmp X45.here hx rfl (hb hby at_119) rfl ?_
        show Steps p.tables e below (T45.setTop (mkF m 120 #[.val (.long q0), .second, .val (.long q1), .second, .val (.int p2), .val (.ref b1), .val (.long (0 : Int64)), .second, .val (.long ((F5 (0 : Int64) q0) + (1 : Int64))), .second, .val (.long (F6 (0 : Int64) q0)), .second, .val (.long ((((F5 (0 : Int64) q0) + (1 : Int64)) + (1 : Int64)) + (1 : Int64))), .second, .val (.long ((((F5 (0 : Int64) q0) + (1 : Int64)) + (1 : Int64)) + (1 : Int64))), .second, .val (.long ((F5 ((((F5 (0 : Int64) q0) + (1 : Int64)) + (1 : Int64)) + (1 : Int64)) q1) + (1 : Int64))), .second, .val (.long (F6 ((((F5 (0 : Int64) q0) + (1 : Int64)) + (1 : Int64)) + (1 : Int64)) q1)), .second] [(.int (lcmpW ((F5 (0 : Int64) q0) + (1 : Int64)) (F6 (0 : Int64) q0)))])) _
        refine XS.ifNo X45.here hx rfl (hb hby at_120) rfl (lcN_ne hc120) ?_
        show Steps p.tables e below (T45.setTop (mkF m 123 #[.val (.long q0), .second, .val (.long q1), .second, .val (.int p2), .val (.ref b1), .val (.long (0 : Int64)), .second, .val (.long ((F5 (0 : Int64) q0) + (1 : Int64))), .second, .val (.long (F6 (0 : Int64) q0)), .second, .val (.long ((((F5 (0 : Int64) q0) + (1 : Int64)) + (1 : Int64)) + (1 : Int64))), .second, .val (.long ((((F5 (0 : Int64) q0) + (1 : Int64)) + (1 : Int64)) + (1 : Int64))), .second, .val (.long ((F5 ((((F5 (0 : Int64) q0) + (1 : Int64)) + (1 : Int64)) + (1 : Int64)) q1) + (1 : Int64))), .second, .val (.long (F6 ((((F5 (0 : Int64) q0) + (1 : Int64)) + (1 : Int64)) + (1 : Int64)) q1)), .second] [])) _
        refine XS.lload X45.here hx rfl (hb hby at_123) rfl ?_
        show Steps p.tables e below (T45.setTop (mkF m 125 #[.val (.long q0), .second, .val (.long q1), .second, .val (.int p2), .val (.ref b1), .val (.long (0 : Int64)), .second, .val (.long ((F5 (0 : Int64) q0) + (1 : Int64))), .second, .val (.long (F6 (0 : Int64) q0)), .second, .val (.long ((((F5 (0 : Int64) q0) + (1 : Int64)) + (1 : Int64)) + (1 : Int64))), .second, .val (.long ((((F5 (0 : Int64) q0) + (1 : Int64)) + (1 : Int64)) + (1 : Int64))), .second, .val (.long ((F5 ((((F5 (0 : Int64) q0) + (1 : Int64)) + (1 : Int64)) + (1 : Int64)) q1) + (1 : Int64))), .second, .val (.long (F6 ((((F5 (0 : Int64) q0) + (1 : Int64)) + (1 : Int64)) + (1 : Int64)) q1)), .second] [(.long ((((F5 (0 : Int64) q0) + (1 : Int64)) + (1 : Int64)) + (1 : Int64)))])) _
        refine XS.lload X45.here hx rfl (hb hby at_125) rfl ?_
        show Steps p.tables e below (T45.setTop (mkF m 127 #[.val (.long q0), .second, .val (.long q1), .second, .val (.int p2), .val (.ref b1), .val (.long (0 : Int64)), .second, .val (.long ((F5 (0 : Int64) q0) + (1 : Int64))), .second, .val (.long (F6 (0 : Int64) q0)), .second, .val (.long ((((F5 (0 : Int64) q0) + (1 : Int64)) + (1 : Int64)) + (1 : Int64))), .second, .val (.long ((((F5 (0 : Int64) q0) + (1 : Int64)) + (1 : Int64)) + (1 : Int64))), .second, .val (.long ((F5 ((((F5 (0 : Int64) q0) + (1 : Int64)) + (1 : Int64)) + (1 : Int64)) q1) + (1 : Int64))), .second, .val (.long (F6 ((((F5 (0 : Int64) q0) + (1 : Int64)) + (1 : Int64)) + (1 : Int64)) q1)), .second] [(.long ((((F5 (0 : Int64) q0) + (1 : Int64)) + (1 : Int64)) + (1 : Int64))), (.long ((((F5 (0 : Int64) q0) + (1 : Int64)) + (1 : Int64)) + (1 : Int64)))])) _
        refine XS.lcmp X45.here hx rfl (hb hby at_127) rfl ?_
        show Steps p.tables e below (T45.setTop (mkF m 128 #[.val (.long q0), .second, .val (.long q1), .second, .val (.int p2), .val (.ref b1), .val (.long (0 : Int64)), .second, .val (.long ((F5 (0 : Int64) q0) + (1 : Int64))), .second, .val (.long (F6 (0 : Int64) q0)), .second, .val (.long ((((F5 (0 : Int64) q0) + (1 : Int64)) + (1 : Int64)) + (1 : Int64))), .second, .val (.long ((((F5 (0 : Int64) q0) + (1 : Int64)) + (1 : Int64)) + (1 : Int64))), .second, .val (.long ((F5 ((((F5 (0 : Int64) q0) + (1 : Int64)) + (1 : Int64)) + (1 : Int64)) q1) + (1 : Int64))), .second, .val (.long (F6 ((((F5 (0 : Int64) q0) + (1 : Int64)) + (1 : Int64)) + (1 : Int64)) q1)), .second] [(.int (lcmpW ((((F5 (0 : Int64) q0) + (1 : Int64)) + (1 : Int64)) + (1 : Int64)) ((((F5 (0 : Int64) q0) + (1 : Int64)) + (1 : Int64)) + (1 : Int64))))])) _
        refine XS.ifNo X45.here hx rfl (hb hby at_128) rfl (lcN_ne (rfl : ((((F5 (0 : Int64) q0) + (1 : Int64)) + (1 : Int64)) + (1 : Int64)) = ((((F5 (0 : Int64) q0) + (1 : Int64)) + (1 : Int64)) + (1 : Int64)))) ?_
        show Steps p.tables e below (T45.setTop (mkF m 131 #[.val (.long q0), .second, .val (.long q1), .second, .val (.int p2), .val (.ref b1), .val (.long (0 : Int64)), .second, .val (.long ((F5 (0 : Int64) q0) + (1 : Int64))), .second, .val (.long (F6 (0 : Int64) q0)), .second, .val (.long ((((F5 (0 : Int64) q0) + (1 : Int64)) + (1 : Int64)) + (1 : Int64))), .second, .val (.long ((((F5 (0 : Int64) q0) + (1 : Int64)) + (1 : Int64)) + (1 : Int64))), .second, .val (.long ((F5 ((((F5 (0 : Int64) q0) + (1 : Int64)) + (1 : Int64)) + (1 : Int64)) q1) + (1 : Int64))), .second, .val (.long (F6 ((((F5 (0 : Int64) q0) + (1 : Int64)) + (1 : Int64)) + (1 : Int64)) q1)), .second] [])) _
        refine XS.lload X45.here hx rfl (hb hby at_131) rfl ?_
        show Steps p.tables e below (T45.setTop (mkF m 133 #[.val (.long q0), .second, .val (.long q1), .second, .val (.int p2), .val (.ref b1), .val (.long (0 : Int64)), .second, .val (.long ((F5 (0 : Int64) q0) + (1 : Int64))), .second, .val (.long (F6 (0 : Int64) q0)), .second, .val (.long ((((F5 (0 : Int64) q0) + (1 : Int64)) + (1 : Int64)) + (1 : Int64))), .second, .val (.long ((((F5 (0 : Int64) q0) + (1 : Int64)) + (1 : Int64)) + (1 : Int64))), .second, .val (.long ((F5 ((((F5 (0 : Int64) q0) + (1 : Int64)) + (1 : Int64)) + (1 : Int64)) q1) + (1 : Int64))), .second, .val (.long (F6 ((((F5 (0 : Int64) q0) + (1 : Int64)) + (1 : Int64)) + (1 : Int64)) q1)), .second] [(.long ((F5 ((((F5 (0 : Int64) q0) + (1 : Int64)) + (1 : Int64)) + (1 : Int64)) q1) + (1 : Int64)))])) _
        refine XS.lload X45.here hx rfl (hb hby at_133) rfl ?_
        show Steps p.tables e below (T45.setTop (mkF m 135 #[.val (.long q0), .second, .val (.long q1), .second, .val (.int p2), .val (.ref b1), .val (.long (0 : Int64)), .second, .val (.long ((F5 (0 : Int64) q0) + (1 : Int64))), .second, .val (.long (F6 (0 : Int64) q0)), .second, .val (.long ((((F5 (0 : Int64) q0) + (1 : Int64)) + (1 : Int64)) + (1 : Int64))), .second, .val (.long ((((F5 (0 : Int64) q0) + (1 : Int64)) + (1 : Int64)) + (1 : Int64))), .second, .val (.long ((F5 ((((F5 (0 : Int64) q0) + (1 : Int64)) + (1 : Int64)) + (1 : Int64)) q1) + (1 : Int64))), .second, .val (.long (F6 ((((F5 (0 : Int64) q0) + (1 : Int64)) + (1 : Int64)) + (1 : Int64)) q1)), .second] [(.long (F6 ((((F5 (0 : Int64) q0) + (1 : Int64)) + (1 : Int64)) + (1 : Int64)) q1)), (.long ((F5 ((((F5 (0 : Int64) q0) + (1 : Int64)) + (1 : Int64)) + (1 : Int64)) q1) + (1 : Int64)))])) _
        refine XS.lcmp X45.here hx rfl (hb hby at_135) rfl ?_
        show Steps p.tables e below (T45.setTop (mkF m 136 #[.val (.long q0), .second, .val (.long q1), .second, .val (.int p2), .val (.ref b1), .val (.long (0 : Int64)), .second, .val (.long ((F5 (0 : Int64) q0) + (1 : Int64))), .second, .val (.long (F6 (0 : Int64) q0)), .second, .val (.long ((((F5 (0 : Int64) q0) + (1 : Int64)) + (1 : Int64)) + (1 : Int64))), .second, .val (.long ((((F5 (0 : Int64) q0) + (1 : Int64)) + (1 : Int64)) + (1 : Int64))), .second, .val (.long ((F5 ((((F5 (0 : Int64) q0) + (1 : Int64)) + (1 : Int64)) + (1 : Int64)) q1) + (1 : Int64))), .second, .val (.long (F6 ((((F5 (0 : Int64) q0) + (1 : Int64)) + (1 : Int64)) + (1 : Int64)) q1)), .second] [(.int (lcmpW ((F5 ((((F5 (0 : Int64) q0) + (1 : Int64)) + (1 : Int64)) + (1 : Int64)) q1) + (1 : Int64)) (F6 ((((F5 (0 : Int64) q0) + (1 : Int64)) + (1 : Int64)) + (1 : Int64)) q1)))])) _
        refine XS.ifNo X45.here hx rfl (hb hby at_136) rfl (lcN_ne hc136) ?_
        show Steps p.tables e below (T45.setTop (mkF m 139 #[.val (.long q0), .second, .val (.long q1), .second, .val (.int p2), .val (.ref b1), .val (.long (0 : Int64)), .second, .val (.long ((F5 (0 : Int64) q0) + (1 : Int64))), .second, .val (.long (F6 (0 : Int64) q0)), .second, .val (.long ((((F5 (0 : Int64) q0) + (1 : Int64)) + (1 : Int64)) + (1 : Int64))), .second, .val (.long ((((F5 (0 : Int64) q0) + (1 : Int64)) + (1 : Int64)) + (1 : Int64))), .second, .val (.long ((F5 ((((F5 (0 : Int64) q0) + (1 : Int64)) + (1 : Int64)) + (1 : Int64)) q1) + (1 : Int64))), .second, .val (.long (F6 ((((F5 (0 : Int64) q0) + (1 : Int64)) + (1 : Int64)) + (1 : Int64)) q1)), .second] [])) _
        refine XS.iconst X45.here hx rfl (hb hby at_139) ?_
        show Steps p.tables e below (T45.setTop (mkF m 140 #[.val (.long q0), .second, .val (.long q1), .second, .val (.int p2), .val (.ref b1), .val (.long (0 : Int64)), .second, .val (.long ((F5 (0 : Int64) q0) + (1 : Int64))), .second, .val (.long (F6 (0 : Int64) q0)), .second, .val (.long ((((F5 (0 : Int64) q0) + (1 : Int64)) + (1 : Int64)) + (1 : Int64))), .second, .val (.long ((((F5 (0 : Int64) q0) + (1 : Int64)) + (1 : Int64)) + (1 : Int64))), .second, .val (.long ((F5 ((((F5 (0 : Int64) q0) + (1 : Int64)) + (1 : Int64)) + (1 : Int64)) q1) + (1 : Int64))), .second, .val (.long (F6 ((((F5 (0 : Int64) q0) + (1 : Int64)) + (1 : Int64)) + (1 : Int64)) q1)), .second] [(.int (1 : Int32))])) _
        refine XS.goto X45.here hx rfl (pc0 := 140) (pc' := 144) rfl (hb hby at_140) (by decide) (by decide) ?_
        show Steps p.tables e below (T45.setTop (mkF m 144 #[.val (.long q0), .second, .val (.long q1), .second, .val (.int p2), .val (.ref b1), .val (.long (0 : Int64)), .second, .val (.long ((F5 (0 : Int64) q0) + (1 : Int64))), .second, .val (.long (F6 (0 : Int64) q0)), .second, .val (.long ((((F5 (0 : Int64) q0) + (1 : Int64)) + (1 : Int64)) + (1 : Int64))), .second, .val (.long ((((F5 (0 : Int64) q0) + (1 : Int64)) + (1 : Int64)) + (1 : Int64))), .second, .val (.long ((F5 ((((F5 (0 : Int64) q0) + (1 : Int64)) + (1 : Int64)) + (1 : Int64)) q1) + (1 : Int64))), .second, .val (.long (F6 ((((F5 (0 : Int64) q0) + (1 : Int64)) + (1 : Int64)) + (1 : Int64)) q1)), .second] [(.int (1 : Int32))])) _
        exact retN X45 hx (t := .boolean) Bd.returns (by simp) (hb hby at_144) hr
      · show Q0 Z q0 q1 p2 h0 n0 _ T45.heap _
        rw [e45]
        exact ⟨rfl, N45⟩
set_option maxRecDepth 65536 in
set_option maxHeartbeats 40000000 in
theorem comes_1 {Post : Tables → Env → Array Value → State → Outcome → State → Prop} (hpost : ∀ tb e args s v u, (limb_1_1.after args s (.returned v) u = true ∧ limb_1_2.after args s (.returned v) u = true ∧ True) → FrameEnd s (.returned v) u (Jvm.fieldLocs frame_1_writes args s ++ Jvm.arrayLocs frame_1_arrays args s ++ Jvm.staticLocs frame_1_statics s) 16 128 → Post tb e args s (.returned v) u) :
    ArmFor flags0 classFile x code maxLocals ret World_1 tables_1 room_1 Calls_1 rest_1 Pre_1 Post := by
  intro l hfl _ _ p e ha hc hk s m args below hf hA hF happ hP
  obtain ⟨hcalls, hrest, hpre⟩ := hP
  obtain ⟨-, -, -, hnamed, -, -, -, hat⟩ := (Spec.applies_iff hf).mp happ
  obtain ⟨hg, hn⟩ := and_e (Cond.before_iff.mp (show (Jvm.Cond.and given_1 narrow_1).before args s = true from hpre))
  obtain ⟨g1, g2⟩ := and_e hg
  obtain ⟨g3, g4⟩ := and_e g2
  obtain ⟨g5, g6⟩ := and_e g4
  obtain ⟨w0, w1, w2, rfl⟩ : ∃ w0 w1 w2 : Value, args = #[w0, w1, w2] := by
    have hs : args.size = 3 := by simpa [Cond.value, given_1] using g1
    obtain ⟨L⟩ := args
    match L, hs with
    | [w0, w1, w2], _ => exact ⟨w0, w1, w2, rfl⟩
  have hw := fun d (hd : d ∈ tables_1) => atoms_spec (ws := Jvm.Cond.code x code maxLocals ret :: tables_1) hat d (List.mem_cons_of_mem _ hd)
  obtain ⟨i0, ei0⟩ := isL_v g3
  obtain rfl : w0 = (.long i0) := Option.some.inj ei0
  obtain ⟨i1, ei1⟩ := isL_v g5
  obtain rfl : w1 = (.long i1) := Option.some.inj ei1
  obtain ⟨i2, ei2⟩ := is_v g6
  obtain rfl : w2 = (.int i2) := Option.some.inj ei2
  obtain ⟨n, o, h1, h2, h3, _, L, rfl, ⟨rfl, N⟩, hq⟩ := rm0 l s _ hw tables_1 i0 i1 i2  s.heap s.heap.size (Nat.le_refl _)  p e ha hc hk s m _ below hf ((Spec.applies_iff_loose hf).mp happ).1 ⟨rfl, State.Warmed39.refl s, rfl⟩ trivial
  refine ⟨n, _, h1, h2, h3, hpost _ _ _ _ _ _ ⟨Cond.after_iff.mpr rfl, Cond.after_iff.mpr (eq_i res_at (Term.int_eval (1)) rfl), trivial⟩ ⟨hq.1, hq.2.1, (hq.2.2.sift fun y hy => Or.inr (N y hy)).mono (by decide) (by decide)⟩⟩
theorem main_1_1 : Claimed_1_1 := comes_1 fun _ _ _ _ _ _ h hF => ⟨h.1, hF⟩
theorem main_1_2 : Claimed_1_2 := comes_1 fun _ _ _ _ _ _ h hF => ⟨h.2.1, hF⟩
end Jvm.Pilot.@@N@@
namespace Jvm.Pilot.@@N@@
open Jvm Jvm.ClassFile Sem Op Lib Jvm.Free Jvm.Stand Jvm.Pilot.@@N@@.Jvm.D
/-! MADE BY PROGRAM (witnessworld.py) out of the Statement's table words and the real class files: 10 classes; the members and pool entries that the words name. The judged class is class 1, her method 2. -/
namespace start1
open Jvm.ClassFile
def u (s : String) : CpInfo := .utf8 (stringToUtf16 s)
/-- a pool by its gaps: so many unusable entries, then the entry; so many at the end -/
def gap : Nat → List CpInfo → List CpInfo
  | 0, r => r
  | n + 1, r => .unusable :: gap n r
def poolList (es : List (Nat × CpInfo)) (last : Nat) : List CpInfo := es.foldr (fun e r => gap e.1 (e.2 :: r)) (gap last [])
def pool (es : List (Nat × CpInfo)) (last : Nat) : Array CpInfo := ⟨poolList es last⟩
def fileOf (pool : Array CpInfo) (this : Nat) (attrs : Array Attribute := #[]) (ms : Array MethodInfo := #[]) (fl : Nat := 33) (sup : Nat := 0) (ifs : Array Nat := #[]) (fds : Array FieldInfo := #[]) : ClassFile where
  minorVersion := 0
  majorVersion := 65
  constantPool := pool
  accessFlags := fl
  thisClass := this
  superClass := sup
  interfaces := ifs
  fields := fds
  methods := ms
  attributes := attrs
def plain (name : String) (sup : Option ClassId) : Class where
  name := name
  kind := .ordinary
  loader := none
  accessFlags := 33
  super := sup
  interfaces := #[]
  cf := none
  fields := #[]
  methods := #[]
  instanceTypes := #[]
  staticTypes := #[]
  resolved := #[]
  callSites := []
  init := .initialized
  statics := none
  mirror := none

def pool0 : Array CpInfo := pool [(5, u "<init>"), (0, u "()V"), (1, .class_ 10), (1, u "java/lang/Object")] 113

def k0c0 : Code := { maxStack := 0, maxLocals := 1, code := object_method_1_code, exceptionTable := #[], attributes := #[] }
def k0m0 : Method := { name := "<init>", desc := "()V", sig := { parameters := [], returnType := none }, accessFlags := 1, code := some k0c0 }
/-- java/lang/Object -/
def k0 : Class := { plain "java/lang/Object" none with
  accessFlags := 33
  interfaces := #[]
  cf := some (fileOf pool0 8 #[] #[{ accessFlags := 1, nameIndex := 5, descriptorIndex := 6, attributes := #[] }] 33 0 #[] #[])
  fields := #[]
  methods := #[k0m0]
  instanceTypes := #[]
  staticTypes := #[]
  resolved := Array.replicate 124 none
  statics := none }

def pool1 : Array CpInfo := pool [(2, .class_ 4), (0, .nameAndType 5 6), (0, u "java/lang/Object"), (0, u "<init>"), (0, u "()V"), (0, .class_ 8), (0, u "com/example/aveiro/aveiro/lock/LamportClock"), (0, .methodref 7 3), (0, .methodref 7 11), (0, .nameAndType 12 13), (0, u "time"), (0, u "()J"), (0, .methodref 7 15), (0, .nameAndType 16 17), (0, u "receive"), (0, u "(J)V"), (0, .methodref 19 20), (0, .class_ 21), (0, .nameAndType 22 23), (0, u "com/example/aveiro/aveiro/lock/LamportClockReceivePinLaw"), (0, u "expectedAfterReceive"), (0, u "(JJ)J"), (0, .methodref 7 25), (0, .nameAndType 26 13), (0, u "advance"), (3, u "law"), (0, u "(JJI)Z")] 2

def k1m0 : Method := { name := "<init>", desc := "()V", sig := { parameters := [], returnType := none }, accessFlags := 1, code := none }
def k1c1 : Code := { maxStack := 4, maxLocals := 4, code := method_2_code, exceptionTable := #[], attributes := #[] }
def k1m1 : Method := { name := "expectedAfterReceive", desc := "(JJ)J", sig := { parameters := [.long, .long], returnType := some .long }, accessFlags := 10, code := some k1c1 }
def k1c2 : Code := { maxStack := 4, maxLocals := 20, code := code, exceptionTable := #[], attributes := #[] }
def k1m2 : Method := { name := "law", desc := "(JJI)Z", sig := { parameters := [.long, .long, .int], returnType := some .boolean }, accessFlags := 9, code := some k1c2 }
/-- com/example/aveiro/aveiro/lock/LamportClockReceivePinLaw -/
def k1 : Class := { plain "com/example/aveiro/aveiro/lock/LamportClockReceivePinLaw" (some 0) with
  accessFlags := 49
  interfaces := #[]
  cf := some (fileOf pool1 19 #[] #[{ accessFlags := 1, nameIndex := 5, descriptorIndex := 6, attributes := #[] }, { accessFlags := 10, nameIndex := 22, descriptorIndex := 23, attributes := #[] }, { accessFlags := 9, nameIndex := 30, descriptorIndex := 31, attributes := #[] }] 49 2 #[] #[])
  fields := #[]
  methods := #[k1m0, k1m1, k1m2]
  instanceTypes := #[]
  staticTypes := #[]
  resolved := Array.replicate 34 none
  statics := none }

def pool2 : Array CpInfo := pool [(1, .methodref 2 3), (0, .class_ 4), (0, .nameAndType 5 6), (0, u "java/lang/Object"), (0, u "<init>"), (0, u "()V"), (0, .fieldref 8 9), (0, .class_ 10), (0, .nameAndType 11 12), (0, u "com/example/aveiro/aveiro/lock/LamportClock"), (0, u "time"), (0, u "J"), (0, .methodref 14 15), (0, .class_ 16), (0, .nameAndType 17 18), (0, u "java/lang/Math"), (0, u "max"), (0, u "(JJ)J"), (2, u "advance"), (0, u "()J"), (0, u "receive"), (0, u "(J)V")] 2

def k2c0 : Code := { maxStack := 1, maxLocals := 1, code := prog_26_method_1_code, exceptionTable := #[], attributes := #[] }
def k2m0 : Method := { name := "<init>", desc := "()V", sig := { parameters := [], returnType := none }, accessFlags := 0, code := some k2c0 }
def k2c1 : Code := { maxStack := 5, maxLocals := 1, code := prog_26_method_2_code, exceptionTable := #[], attributes := #[] }
def k2m1 : Method := { name := "advance", desc := "()J", sig := { parameters := [], returnType := some .long }, accessFlags := 0, code := some k2c1 }
def k2c2 : Code := { maxStack := 5, maxLocals := 3, code := prog_26_method_3_code, exceptionTable := #[], attributes := #[] }
def k2m2 : Method := { name := "receive", desc := "(J)V", sig := { parameters := [.long], returnType := none }, accessFlags := 0, code := some k2c2 }
def k2c3 : Code := { maxStack := 2, maxLocals := 1, code := prog_26_method_4_code, exceptionTable := #[], attributes := #[] }
def k2m3 : Method := { name := "time", desc := "()J", sig := { parameters := [], returnType := some .long }, accessFlags := 0, code := some k2c3 }
/-- com/example/aveiro/aveiro/lock/LamportClock -/
def k2 : Class := { plain "com/example/aveiro/aveiro/lock/LamportClock" (some 0) with
  accessFlags := 48
  interfaces := #[]
  cf := some (fileOf pool2 8 #[] #[{ accessFlags := 0, nameIndex := 5, descriptorIndex := 6, attributes := #[] }, { accessFlags := 0, nameIndex := 21, descriptorIndex := 22, attributes := #[] }, { accessFlags := 0, nameIndex := 23, descriptorIndex := 24, attributes := #[] }, { accessFlags := 0, nameIndex := 11, descriptorIndex := 22, attributes := #[] }] 48 2 #[] #[{ accessFlags := 2, nameIndex := 11, descriptorIndex := 12, attributes := #[] }])
  fields := #[{ name := "time", type := .long, accessFlags := 2, slot := 0, constantValue := 0 }]
  methods := #[k2m0, k2m1, k2m2, k2m3]
  instanceTypes := #[.long]
  staticTypes := #[]
  resolved := Array.replicate 27 none
  statics := none }

def pool3 : Array CpInfo := pool [(1, .class_ 2), (0, u "java/lang/Math"), (1, .class_ 6), (1, u "java/lang/Object"), (0, u "<init>"), (0, u "()V"), (89, .class_ 100), (1, u "java/lang/Math$RandomNumberGeneratorHolder"), (20, u "(JJ)J"), (50, u "negativeZeroFloatBits"), (0, u "J"), (2, u "negativeZeroDoubleBits"), (21, u "max"), (46, u "$assertionsDisabled"), (0, u "Z"), (91, u "twoToTheDoubleScaleDown"), (0, u "D"), (4, u "twoToTheDoubleScaleUp"), (9, u "E"), (3, u "PI"), (2, u "TAU"), (2, u "DEGREES_TO_RADIANS"), (0, u "RADIANS_TO_DEGREES")] 94

def k3m0 : Method := { name := "<init>", desc := "()V", sig := { parameters := [], returnType := none }, accessFlags := 2, code := none }
def k3c1 : Code := { maxStack := 4, maxLocals := 4, code := jdk_29_method_66_code, exceptionTable := #[], attributes := #[] }
def k3m1 : Method := { name := "max", desc := "(JJ)J", sig := { parameters := [.long, .long], returnType := some .long }, accessFlags := 9, code := some k3c1 }
/-- java/lang/Math -/
def k3 : Class := { plain "java/lang/Math" (some 0) with
  accessFlags := 49
  interfaces := #[]
  cf := some (fileOf pool3 1 #[.nestMembers #[98]] #[{ accessFlags := 2, nameIndex := 7, descriptorIndex := 8, attributes := #[] }, { accessFlags := 9, nameIndex := 198, descriptorIndex := 121, attributes := #[] }] 49 4 #[] #[{ accessFlags := 25, nameIndex := 354, descriptorIndex := 339, attributes := #[] }, { accessFlags := 25, nameIndex := 358, descriptorIndex := 339, attributes := #[] }, { accessFlags := 25, nameIndex := 361, descriptorIndex := 339, attributes := #[] }, { accessFlags := 26, nameIndex := 364, descriptorIndex := 339, attributes := #[] }, { accessFlags := 26, nameIndex := 365, descriptorIndex := 339, attributes := #[] }, { accessFlags := 26, nameIndex := 172, descriptorIndex := 173, attributes := #[] }, { accessFlags := 26, nameIndex := 176, descriptorIndex := 173, attributes := #[] }, { accessFlags := 8, nameIndex := 344, descriptorIndex := 339, attributes := #[] }, { accessFlags := 8, nameIndex := 338, descriptorIndex := 339, attributes := #[] }, { accessFlags := 4120, nameIndex := 245, descriptorIndex := 246, attributes := #[] }])
  fields := #[{ name := "E", type := .double, accessFlags := 25, slot := 0, constantValue := 0 }, { name := "PI", type := .double, accessFlags := 25, slot := 1, constantValue := 0 }, { name := "TAU", type := .double, accessFlags := 25, slot := 2, constantValue := 0 }, { name := "DEGREES_TO_RADIANS", type := .double, accessFlags := 26, slot := 3, constantValue := 0 }, { name := "RADIANS_TO_DEGREES", type := .double, accessFlags := 26, slot := 4, constantValue := 0 }, { name := "negativeZeroFloatBits", type := .long, accessFlags := 26, slot := 5, constantValue := 0 }, { name := "negativeZeroDoubleBits", type := .long, accessFlags := 26, slot := 6, constantValue := 0 }, { name := "twoToTheDoubleScaleUp", type := .double, accessFlags := 8, slot := 7, constantValue := 0 }, { name := "twoToTheDoubleScaleDown", type := .double, accessFlags := 8, slot := 8, constantValue := 0 }, { name := "$assertionsDisabled", type := .boolean, accessFlags := 4120, slot := 9, constantValue := 0 }]
  methods := #[k3m0, k3m1]
  instanceTypes := #[]
  staticTypes := #[.double, .double, .double, .double, .double, .long, .long, .double, .double, .boolean]
  resolved := Array.replicate 460 none
  statics := none }

def pool4 : Array CpInfo := pool [(1, u "java/lang/Cloneable"), (0, .class_ 1), (0, u "java/lang/Object"), (0, .class_ 3)] 3

/-- java/lang/Cloneable -/
def k4 : Class := { plain "java/lang/Cloneable" (some 0) with
  accessFlags := 1537
  interfaces := #[]
  cf := some (fileOf pool4 2 #[] #[] 1537 4 #[] #[])
  fields := #[]
  methods := #[]
  instanceTypes := #[]
  staticTypes := #[]
  resolved := Array.replicate 8 none
  statics := none }

def pool5 : Array CpInfo := pool [(1, u "java/io/Serializable"), (0, .class_ 1), (0, u "java/lang/Object"), (0, .class_ 3)] 3

/-- java/io/Serializable -/
def k5 : Class := { plain "java/io/Serializable" (some 0) with
  accessFlags := 1537
  interfaces := #[]
  cf := some (fileOf pool5 2 #[] #[] 1537 4 #[] #[])
  fields := #[]
  methods := #[]
  instanceTypes := #[]
  staticTypes := #[]
  resolved := Array.replicate 8 none
  statics := none }

/-- the primitive byte -/
def k6 : Class := { plain "byte" none with kind := .primitive 'B', accessFlags := 0x411 }
/-- [B -/
def k7 : Class := { plain "[B" (some 0) with kind := .array 6 .byte, interfaces := #[4, 5], accessFlags := 1041 }

/-- the primitive int -/
def k8 : Class := { plain "int" none with kind := .primitive 'I', accessFlags := 0x411 }
/-- [I -/
def k9 : Class := { plain "[I" (some 0) with kind := .array 8 .int, interfaces := #[4, 5], accessFlags := 1041 }

def heap : Heap := #[]
def classes : Array Class := #[k0, k1, k2, k3, k4, k5, k6, k7, k8, k9]
def interned : List (Array UInt16 × Addr) := []
def slotsUsed : Nat := 0
def theMethod : MethodId := ⟨1, 2⟩
def args0 : Array Value := #[.long 1, .long 2, .int 1]
def aboutOver (below : List Frame) : State where
  vm := { classes := classes, interned := interned.toArray }
  heap := heap
  slotsUsed := slotsUsed
  threads := #[{ frames := .invoking theMethod args0 :: below }]
def below0 : List Frame := [.native { method := ⟨0, 0⟩, args := #[] }]
def about1 : State := aboutOver below0
def p0 : Program := .bare "" "" ""
def e0 : Env := launch0.env 0 0 0
theorem w_frames : about1.frames = Frame.invoking theMethod args0 :: below0 := rfl
set_option maxRecDepth 65536 in
theorem w_args : argsFit about1.vm theMethod args0 = true := by decide +kernel
set_option maxRecDepth 65536 in
theorem w_heap : heapFits about1 = true := by decide +kernel
set_option maxRecDepth 65536 in
theorem w_runnable : about1.curStatus? = some .runnable := by decide +kernel
set_option maxRecDepth 65536 in
theorem w_alone : about1.alone = true := by decide +kernel
set_option maxRecDepth 65536 in
theorem w_named : about1.methodNamed? x = some theMethod := by decide +kernel
set_option maxRecDepth 65536 in
theorem w_hears : about1.hears theMethod below0 = true := by decide +kernel
set_option maxRecDepth 65536 in
theorem w_ripe : about1.ripe theMethod args0 below0 = true := by decide +kernel
theorem w_running : about1.status = .running := rfl
set_option maxRecDepth 65536 in
theorem w_room : about1.hasRoom e0.platform room_1 = true :=
  launch0.hasRoom_least _ room_1 (by decide +kernel) (by decide +kernel) (by decide +kernel) (by decide +kernel) (by decide +kernel) (by decide +kernel)
theorem allAtoms_all (ts : List Jvm.Cond) (a : Array Jvm.Value) (st : Jvm.State) : (allAtoms ts).before a st = ts.all (fun c => c.before a st) := by
  induction ts with
  | nil => rfl
  | cons c t ih =>
    show (Jvm.Cond.and c (allAtoms t)).before a st = _
    rw [Jvm.Cond.before_and, ih, List.all_cons]
def words1 : List Jvm.Cond := Jvm.Cond.code x code maxLocals ret :: tables_1
/-- a 'code' word, met by the world's own term for the bytes: nothing is compared byte by byte -/
theorem code_word {y : MethodName} {bytes : ByteArray} {mx : Nat} {rt : Option FieldType} {a : Array Value} {s : State} {m : MethodId} {meth : Method} {c : Code} (h1 : s.methodNamed? y = some m) (h2 : s.vm.method? m = some meth) (h3 : meth.code = some c) (h4 : c.code = bytes)
    (h5 : (c.maxLocals == mx && c.exceptionTable.isEmpty && decide (c.maxStack ≤ mostOperands) && decide (meth.sig.returnType = rt) && !meth.locks && decide (parseMethodDescriptor y.desc = some meth.sig)) = true) : (Jvm.Cond.code y bytes mx rt).before a s = true := by
  simp only [Bool.and_eq_true, beq_iff_eq, Bool.not_eq_true', decide_eq_true_eq] at h5
  obtain ⟨⟨⟨⟨⟨g1, g2⟩, g3⟩, g4⟩, g5⟩, g6⟩ := h5
  simp [Cond.before, Cond.holds, Cond.value, h1, h2, h3, h4, g1, g2, g3, g4, g5, g6]
def isCode : Jvm.Cond → Bool
  | .code _ _ _ _ => true
  | _ => false
theorem all_split {L : List Jvm.Cond} {P : Jvm.Cond → Bool} (h1 : L.all (fun c => isCode c || P c) = true) (h2 : ∀ c ∈ L.filter isCode, P c = true) : L.all P = true := by
  refine List.all_eq_true.mpr fun c hc => ?_
  have h := List.all_eq_true.mp h1 c hc
  rcases Bool.eq_false_or_eq_true (isCode c) with hi | hi
  · exact h2 c (List.mem_filter.mpr ⟨hc, hi⟩)
  · simpa [hi] using h
set_option maxRecDepth 65536 in
theorem w_c0 : (Jvm.Cond.code x code maxLocals ret).before args0 about1 = true := code_word (m := ⟨1, 2⟩) (meth := k1m2) (c := k1c2) (by decide +kernel) rfl rfl rfl (by decide +kernel)
set_option maxRecDepth 65536 in
theorem w_c1 : (Jvm.Cond.code ({ cls := "com/example/aveiro/aveiro/lock/LamportClock", name := "<init>", desc := "()V" } : Jvm.MethodName) prog_26_method_1_code (1 : Nat) (Option.none : Option Jvm.ClassFile.FieldType)).before args0 about1 = true := code_word (m := ⟨2, 0⟩) (meth := k2m0) (c := k2c0) (by decide +kernel) rfl rfl rfl (by decide +kernel)
set_option maxRecDepth 65536 in
theorem w_c2 : (Jvm.Cond.code ({ cls := "java/lang/Object", name := "<init>", desc := "()V" } : Jvm.MethodName) object_method_1_code (1 : Nat) (Option.none : Option Jvm.ClassFile.FieldType)).before args0 about1 = true := code_word (m := ⟨0, 0⟩) (meth := k0m0) (c := k0c0) (by decide +kernel) rfl rfl rfl (by decide +kernel)
set_option maxRecDepth 65536 in
theorem w_c3 : (Jvm.Cond.code ({ cls := "com/example/aveiro/aveiro/lock/LamportClock", name := "time", desc := "()J" } : Jvm.MethodName) prog_26_method_4_code (1 : Nat) (Option.some Jvm.ClassFile.FieldType.long)).before args0 about1 = true := code_word (m := ⟨2, 3⟩) (meth := k2m3) (c := k2c3) (by decide +kernel) rfl rfl rfl (by decide +kernel)
set_option maxRecDepth 65536 in
theorem w_c4 : (Jvm.Cond.code ({ cls := "com/example/aveiro/aveiro/lock/LamportClock", name := "receive", desc := "(J)V" } : Jvm.MethodName) prog_26_method_3_code (3 : Nat) (Option.none : Option Jvm.ClassFile.FieldType)).before args0 about1 = true := code_word (m := ⟨2, 2⟩) (meth := k2m2) (c := k2c2) (by decide +kernel) rfl rfl rfl (by decide +kernel)
set_option maxRecDepth 65536 in
theorem w_c5 : (Jvm.Cond.code ({ cls := "java/lang/Math", name := "max", desc := "(JJ)J" } : Jvm.MethodName) jdk_29_method_66_code (4 : Nat) (Option.some Jvm.ClassFile.FieldType.long)).before args0 about1 = true := code_word (m := ⟨3, 1⟩) (meth := k3m1) (c := k3c1) (by decide +kernel) rfl rfl rfl (by decide +kernel)
set_option maxRecDepth 65536 in
theorem w_c6 : (Jvm.Cond.code ({ cls := "com/example/aveiro/aveiro/lock/LamportClockReceivePinLaw", name := "expectedAfterReceive", desc := "(JJ)J" } : Jvm.MethodName) method_2_code (4 : Nat) (Option.some Jvm.ClassFile.FieldType.long)).before args0 about1 = true := code_word (m := ⟨1, 1⟩) (meth := k1m1) (c := k1c1) (by decide +kernel) rfl rfl rfl (by decide +kernel)
set_option maxRecDepth 65536 in
theorem w_c7 : (Jvm.Cond.code ({ cls := "com/example/aveiro/aveiro/lock/LamportClock", name := "advance", desc := "()J" } : Jvm.MethodName) prog_26_method_2_code (1 : Nat) (Option.some Jvm.ClassFile.FieldType.long)).before args0 about1 = true := code_word (m := ⟨2, 1⟩) (meth := k2m1) (c := k2c1) (by decide +kernel) rfl rfl rfl (by decide +kernel)
def codes1 : List Jvm.Cond := [Jvm.Cond.code x code maxLocals ret, Jvm.Cond.code ({ cls := "com/example/aveiro/aveiro/lock/LamportClock", name := "<init>", desc := "()V" } : Jvm.MethodName) prog_26_method_1_code (1 : Nat) (Option.none : Option Jvm.ClassFile.FieldType), Jvm.Cond.code ({ cls := "java/lang/Object", name := "<init>", desc := "()V" } : Jvm.MethodName) object_method_1_code (1 : Nat) (Option.none : Option Jvm.ClassFile.FieldType), Jvm.Cond.code ({ cls := "com/example/aveiro/aveiro/lock/LamportClock", name := "time", desc := "()J" } : Jvm.MethodName) prog_26_method_4_code (1 : Nat) (Option.some Jvm.ClassFile.FieldType.long), Jvm.Cond.code ({ cls := "com/example/aveiro/aveiro/lock/LamportClock", name := "receive", desc := "(J)V" } : Jvm.MethodName) prog_26_method_3_code (3 : Nat) (Option.none : Option Jvm.ClassFile.FieldType), Jvm.Cond.code ({ cls := "java/lang/Math", name := "max", desc := "(JJ)J" } : Jvm.MethodName) jdk_29_method_66_code (4 : Nat) (Option.some Jvm.ClassFile.FieldType.long), Jvm.Cond.code ({ cls := "com/example/aveiro/aveiro/lock/LamportClockReceivePinLaw", name := "expectedAfterReceive", desc := "(JJ)J" } : Jvm.MethodName) method_2_code (4 : Nat) (Option.some Jvm.ClassFile.FieldType.long), Jvm.Cond.code ({ cls := "com/example/aveiro/aveiro/lock/LamportClock", name := "advance", desc := "()J" } : Jvm.MethodName) prog_26_method_2_code (1 : Nat) (Option.some Jvm.ClassFile.FieldType.long)]
set_option maxRecDepth 65536 in
theorem codes_eq : words1.filter isCode = codes1 := rfl
theorem w_codes : ∀ c ∈ words1.filter isCode, c.before args0 about1 = true := by
  rw [codes_eq]
  intro c hc
  simp only [codes1, List.mem_cons, List.not_mem_nil, or_false] at hc
  rcases hc with rfl | rfl | rfl | rfl | rfl | rfl | rfl | rfl
  · exact w_c0
  · exact w_c1
  · exact w_c2
  · exact w_c3
  · exact w_c4
  · exact w_c5
  · exact w_c6
  · exact w_c7
set_option maxRecDepth 65536 in
theorem w_t1 : (words1.take 24).all (fun c => isCode c || c.before args0 about1) = true := by decide +kernel
set_option maxRecDepth 65536 in
theorem w_t2 : (words1.drop 24).all (fun c => isCode c || c.before args0 about1) = true := by decide +kernel
theorem w_tables : (allAtoms (Jvm.Cond.code x code maxLocals ret :: tables_1)).before args0 about1 = true := by
  rw [allAtoms_all]
  show words1.all (fun c => c.before args0 about1) = true
  refine all_split ?_ w_codes
  rw [← List.take_append_drop 24 words1, List.all_append, w_t1, w_t2]
  rfl
set_option maxRecDepth 65536 in
theorem w_case : (Jvm.Cond.and given_1 narrow_1).before args0 about1 = true := by decide +kernel
theorem w_applies : (headSpec (Jvm.Cond.code x code maxLocals ret :: tables_1) room_1).applies x e0.platform about1 = true :=
  (Spec.applies_iff w_frames).mpr ⟨w_running, w_runnable, w_alone, w_named, w_hears, w_ripe, w_room, w_tables⟩
theorem atStart : AtStart classFile x code maxLocals ret World_1 tables_1 room_1 Calls_1 rest_1 Pre_1 launch0 p0 e0 about1 theMethod args0 below0 :=
  ⟨lists_1, trivial, launch0.admits_env _ _ _, launch0.least_env, fairChoices_fair.cas, fairChoices_fair.clock, w_frames, w_args, w_heap, w_applies, trivial, trivial, w_case⟩
end start1
theorem witness_1 : WitnessClaimed_1 := ⟨start1.p0, start1.e0, start1.about1, start1.theMethod, start1.args0, start1.below0, start1.atStart⟩
end Jvm.Pilot.@@N@@
