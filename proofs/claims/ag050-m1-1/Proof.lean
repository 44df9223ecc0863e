import JvmDerived
import JvmDerived.Pilot.@@N@@Statement
import JvmDerived.Pilot.@@N@@Code
set_option linter.unusedVariables false
set_option linter.unusedSimpArgs false
namespace Jvm.Pilot.@@N@@
open Jvm Jvm.ClassFile Sem Op Lib Jvm.Free Jvm.Stand Jvm.LawKit Jvm.RoadKit Bundle Jvm.Pilot.@@N@@.Jvm.D
theorem own_sta {Z : State} {h h' : Heap} {C n d C' : String} {w : Value} {o : Addr} (F : Sta Z h C n d w) (K : Keep h h' [o]) (E : Exa Z h o C') : Sta Z h' C n d w := by
  obtain ⟨cf, i, k, f, st, cell, h1, h2, h3, h4, h5, h6, h7⟩ := F
  obtain ⟨ce, ke, e1, e2, e3, e4, e5⟩ := E
  refine ⟨cf, i, k, f, st, cell, h1, h2, h3, h4, K.2.1 st cell h5 (fun hm => ?_), h6, h7⟩
  cases List.mem_singleton.mp hm
  rw [e1] at h5; cases h5; rw [h6] at e4; cases e4
theorem own_fint {s : State} {args : Array Value} {t : Term} {C n d : String} {k : Int32} {w : Addr} (ht : t.eval args s none [] s = some (.ref w)) (h : (Jvm.Cond.eq (.field t C n d) (.int k)).value args s none s [] = some true) : Fld s s.heap w C n d (.int k) := by
  refine Fld.start ?_
  have e := fld_at (args := args) (first := s) (o := none) (idx := []) (s := s) (C := C) (n := n) (dd := d) ht
  obtain ⟨x, y, hx, hy, -, -⟩ := cmp_v (Or.inl h)
  rw [← e, hx]
  cases (Term.int_eval k).symm.trans hy
  cases x <;> simp [Jvm.Cond.value, hx, hy] at h
  rw [h]
theorem own_rem32 (x m : Int32) (hx : 0 ≤ x.toInt) : (x % m).toInt = x.toInt % m.toInt := by rw [Int32.toInt_mod, Int.tmod_eq_emod_of_nonneg hx]
theorem own_lc0 (x y : Int64) : (lcmpW x y < 0 ↔ x < y) ∧ (0 < lcmpW x y ↔ y < x) ∧ (lcmpW x y = 0 ↔ x = y) := by rw [lcW]; exact ⟨lc_lt x y, lc_gt x y, lc_eq x y⟩
theorem lcY_lt {x y : Int64} (h : x < y) : ifCond.holds .lt (lcmpW x y) = true := (if0 _ _).trans (tlt ((own_lc0 x y).1.mpr h)).1
theorem lcN_lt {x y : Int64} (h : ¬ x < y) : ifCond.holds .lt (lcmpW x y) = false := (if0 _ _).trans (flt fun q => h ((own_lc0 x y).1.mp q)).1
theorem lcN_ge {x y : Int64} (h : x < y) : ifCond.holds .ge (lcmpW x y) = false := (if0 _ _).trans (tlt ((own_lc0 x y).1.mpr h)).2.1
theorem lcY_ge {x y : Int64} (h : ¬ x < y) : ifCond.holds .ge (lcmpW x y) = true := (if0 _ _).trans (flt fun q => h ((own_lc0 x y).1.mp q)).2.1
theorem lcY_gt {x y : Int64} (h : y < x) : ifCond.holds .gt (lcmpW x y) = true := (if0 _ _).trans (tlt ((own_lc0 x y).2.1.mpr h)).2.2.1
theorem lcN_gt {x y : Int64} (h : ¬ y < x) : ifCond.holds .gt (lcmpW x y) = false := (if0 _ _).trans (flt fun q => h ((own_lc0 x y).2.1.mp q)).2.2.1
theorem lcN_le {x y : Int64} (h : y < x) : ifCond.holds .le (lcmpW x y) = false := (if0 _ _).trans (tlt ((own_lc0 x y).2.1.mpr h)).2.2.2
theorem lcY_le {x y : Int64} (h : ¬ y < x) : ifCond.holds .le (lcmpW x y) = true := (if0 _ _).trans (flt fun q => h ((own_lc0 x y).2.1.mp q)).2.2.2
theorem lcY_eq {x y : Int64} (h : x = y) : ifCond.holds .eq (lcmpW x y) = true := (if0 _ _).trans (teq ((own_lc0 x y).2.2.mpr h)).1
theorem lcN_eq {x y : Int64} (h : ¬ x = y) : ifCond.holds .eq (lcmpW x y) = false := (if0 _ _).trans (feq fun q => h ((own_lc0 x y).2.2.mp q)).1
theorem lcN_ne {x y : Int64} (h : x = y) : ifCond.holds .ne (lcmpW x y) = false := (if0 _ _).trans (teq ((own_lc0 x y).2.2.mpr h)).2
theorem lcY_ne {x y : Int64} (h : ¬ x = y) : ifCond.holds .ne (lcmpW x y) = true := (if0 _ _).trans (feq fun q => h ((own_lc0 x y).2.2.mp q)).2
theorem d1_0 : decode prog_26_method_1_code 0 = .ok (.aload_n 0, 1) := by decide +kernel
theorem d1_1 : decode prog_26_method_1_code 1 = .ok (.invokespecial 1, 3) := by decide +kernel
theorem d1_4 : decode prog_26_method_1_code 4 = .ok (.return_, 1) := by decide +kernel
theorem pn_1 : plainName "com/example/aveiro/aveiro/lock/LamportClock" = true := by first | (simp [plainName, overriddenIn]; done) | decide +kernel
theorem ef_1 (m : MethodId) (ob0 : Addr) : entryFrame m #[(.ref ob0)] 1 = mkF m 0 #[.val (.ref ob0)] [] := by first | (simp [entryFrame, mkF, argsToLocals, Value.category]; done) | rfl
def Q1 (Z : State) (ob0 : Addr) (h0 : Heap) (n0 : Nat) (v : Option Value) (h : Heap) (L : List Loc) : Prop := v = none ∧ Fr n0 L ∧ h = h0
set_option maxRecDepth 65536 in
set_option maxHeartbeats 40000000 in
theorem rm1 (l : Launch) (Z : State) (a0 : Array Value) (hw : ∀ d ∈ tables_1, d.before a0 Z = true) (ws : List Jvm.Cond) (ob0 : Addr) (h0 : Heap) (n0 : Nat) (Z0 : n0 ≤ h0.size) :
    MetFree l (⟨"com/example/aveiro/aveiro/lock/LamportClock", "<init>", "()V"⟩ : MethodName) (head1 (Jvm.Cond.code (⟨"com/example/aveiro/aveiro/lock/LamportClock", "<init>", "()V"⟩ : MethodName) prog_26_method_1_code 1 none :: ws) ({ frames := 1, cells := 0, slots := 0, locals := 12 } : Room)) (fun a U => a = #[(.ref ob0)] ∧ Z.Warmed39 U.vm ∧ U.heap = h0) (fun _ _ _ _ _ => True) (fun _ U o U' => ∃ v L, o = .returned v ∧ Q1 Z ob0 h0 n0 v U'.heap L ∧ FrameEnd U o U' L ({ frames := 1, cells := 0, slots := 0, locals := 12 } : Room).cells ({ frames := 1, cells := 0, slots := 0, locals := 12 } : Room).slots) := by
  refine MetFree.of_bodySF (plainFor_of_name pn_1) hisR ?_
  intro p e s m args below meth c s₁ Bd hml0 hP hK
  obtain ⟨rfl, hZ, hh⟩ := hP
  have hx := Bd.exec
  have hby := Bd.bytes
  have hml : c.maxLocals = 1 := hml0
  have hown : s.vm.findClass "com/example/aveiro/aveiro/lock/LamportClock" = some m.cls := findClass_of_methodNamed Bd.named
  have hnm := (name_of_methodNamed Bd.named Bd.method).1
  have X0 : Stand p l e ({ frames := 1, cells := 0, slots := 0, locals := 12 } : Room) s m #[(.ref ob0)] below meth c s₁ [] 0 0 := Stand.of_body Bd
  have e0 : s₁.heap = h0 := by rw [← hh, Bd.state]; rfl
  have N0 := Fr.nil n0
  have pre0 : ∀ t, Steps p.tables e below (s₁.setTop (mkF m 0 #[.val (.ref ob0)] [])) t → Steps p.tables e below (s₁.setTop (entryFrame m #[(.ref ob0)] 1)) t := fun t k => castTop (ef_1 m ob0) k
  obtain ⟨T1, X1, e1, st1⟩ := initO X0 hx hZ hown (hw _ (List.mem_of_getElem? (i := 6) rfl)) (hw _ (List.mem_of_getElem? (i := 7) rfl)) (hw _ (List.mem_of_getElem? (i := 8) rfl)) e0 (g := (mkF m 1 #[.val (.ref ob0)] [(.ref ob0)])) rfl (by rw [hml]; rfl) rfl (hb hby d1_1) (by decide) (W := 0) (by show 2 * 0 + _ ≤ _; exact Nat.le_of_eq rfl) (by decide)
  obtain ⟨fs, hr, hrun, hended, hW, hsame⟩ := X1.leave (v := none) (fun _ => rfl)
  refine ⟨_, _, pre0 _ ?_, hrun, hended, _, _, rfl, ?_, ⟨_, rfl⟩, hW, hsame.mono (by decide) (by decide)⟩
  · show Steps p.tables e below (s₁.setTop (mkF m 0 #[.val (.ref ob0)] [])) _
    refine XS.aloadN X0.here hx rfl (hb hby d1_0) rfl rfl ?_
    show Steps p.tables e below (s₁.setTop (mkF m 1 #[.val (.ref ob0)] [(.ref ob0)])) _
    refine st1 _ ?_
    show Steps p.tables e below (T1.setTop (mkF m 4 #[.val (.ref ob0)] [])) _
    exact X1.returnOut hx Bd.returns (hb hby d1_4) hr
  · show Q1 Z ob0 h0 n0 _ T1.heap _
    rw [e1]
    exact ⟨rfl, N0, rfl⟩
theorem pd_0 : parseMethodDescriptor "()V" = some ⟨[], none⟩ := by decide +kernel
theorem d3_0 : decode prog_26_method_4_code 0 = .ok (.aload_n 0, 1) := by decide +kernel
theorem d3_1 : decode prog_26_method_4_code 1 = .ok (.getfield 7, 3) := by decide +kernel
theorem d3_4 : decode prog_26_method_4_code 4 = .ok (.lreturn, 1) := by decide +kernel
theorem pn_3 : plainName "com/example/aveiro/aveiro/lock/LamportClock" = true := by first | (simp [plainName, overriddenIn]; done) | decide +kernel
theorem ef_3 (m : MethodId) (ob0 : Addr) : entryFrame m #[(.ref ob0)] 1 = mkF m 0 #[.val (.ref ob0)] [] := by first | (simp [entryFrame, mkF, argsToLocals, Value.category]; done) | rfl
def Q3 (Z : State) (ob0 : Addr) (w_ob0_time : Int64) (h0 : Heap) (n0 : Nat) (v : Option Value) (h : Heap) (L : List Loc) : Prop := v = some (.long w_ob0_time) ∧ Fr n0 L ∧ h = h0
set_option maxRecDepth 65536 in
set_option maxHeartbeats 40000000 in
theorem rm3 (l : Launch) (Z : State) (a0 : Array Value) (hw : ∀ d ∈ tables_1, d.before a0 Z = true) (ws : List Jvm.Cond) (ob0 : Addr) (w_ob0_time : Int64) (h0 : Heap) (n0 : Nat) (Z0 : n0 ≤ h0.size) (F_time_ob0 : Fld Z h0 ob0 "com/example/aveiro/aveiro/lock/LamportClock" "time" "J" (.long w_ob0_time)) :
    MetFree l (⟨"com/example/aveiro/aveiro/lock/LamportClock", "time", "()J"⟩ : MethodName) (head1 (Jvm.Cond.code (⟨"com/example/aveiro/aveiro/lock/LamportClock", "time", "()J"⟩ : MethodName) prog_26_method_4_code 1 (some .long) :: ws) ({ frames := 0, cells := 0, slots := 0, locals := 0 } : Room)) (fun a U => a = #[(.ref ob0)] ∧ Z.Warmed39 U.vm ∧ U.heap = h0) (fun _ _ _ _ _ => True) (fun _ U o U' => ∃ v L, o = .returned v ∧ Q3 Z ob0 w_ob0_time h0 n0 v U'.heap L ∧ FrameEnd U o U' L ({ frames := 0, cells := 0, slots := 0, locals := 0 } : Room).cells ({ frames := 0, cells := 0, slots := 0, locals := 0 } : Room).slots) := by
  refine MetFree.of_bodySF (plainFor_of_name pn_3) hisR ?_
  intro p e s m args below meth c s₁ Bd hml0 hP hK
  obtain ⟨rfl, hZ, hh⟩ := hP
  have hx := Bd.exec
  have hby := Bd.bytes
  have hml : c.maxLocals = 1 := hml0
  have hown : s.vm.findClass "com/example/aveiro/aveiro/lock/LamportClock" = some m.cls := findClass_of_methodNamed Bd.named
  have hnm := (name_of_methodNamed Bd.named Bd.method).1
  have X0 : Stand p l e ({ frames := 0, cells := 0, slots := 0, locals := 0 } : Room) s m #[(.ref ob0)] below meth c s₁ [] 0 0 := Stand.of_body Bd
  have e0 : s₁.heap = h0 := by rw [← hh, Bd.state]; rfl
  have N0 := Fr.nil n0
  have pre0 : ∀ t, Steps p.tables e below (s₁.setTop (mkF m 0 #[.val (.ref ob0)] [])) t → Steps p.tables e below (s₁.setTop (entryFrame m #[(.ref ob0)] 1)) t := fun t k => castTop (ef_3 m ob0) k
  obtain ⟨T1, X1, e1, st1⟩ := getF X0 hx hZ hown (host := "") (Or.inl (hw _ (List.mem_of_getElem? (i := 14) rfl))) Via.refl e0 F_time_ob0 (g := (mkF m 1 #[.val (.ref ob0)] [(.ref ob0)])) rfl rfl (hb hby d3_1)
  obtain ⟨fs, hr, hrun, hended, hW, hsame⟩ := X1.leave (v := some (.long w_ob0_time)) (fun h => by rw [Bd.returns] at h; cases h)
  refine ⟨_, _, pre0 _ ?_, hrun, hended, _, _, rfl, ?_, ⟨_, rfl⟩, hW, hsame.mono (by decide) (by decide)⟩
  · show Steps p.tables e below (s₁.setTop (mkF m 0 #[.val (.ref ob0)] [])) _
    refine XS.aloadN X0.here hx rfl (hb hby d3_0) rfl rfl ?_
    show Steps p.tables e below (s₁.setTop (mkF m 1 #[.val (.ref ob0)] [(.ref ob0)])) _
    refine st1 _ ?_
    show Steps p.tables e below (T1.setTop (mkF m 4 #[.val (.ref ob0)] [(.long w_ob0_time)])) _
    exact retOut X1 hx Bd.returns rfl (Or.inr (Or.inl ⟨rfl, rfl, _, rfl⟩)) (hb hby d3_4) hr
  · show Q3 Z ob0 w_ob0_time h0 n0 _ T1.heap _
    rw [e1]
    exact ⟨rfl, N0, rfl⟩
theorem pd_1 : parseMethodDescriptor "()J" = some ⟨[], some .long⟩ := by decide +kernel
theorem d4_0 : decode prog_26_method_2_code 0 = .ok (.aload_n 0, 1) := by decide +kernel
theorem d4_1 : decode prog_26_method_2_code 1 = .ok (.dup, 1) := by decide +kernel
theorem d4_2 : decode prog_26_method_2_code 2 = .ok (.getfield 7, 3) := by decide +kernel
theorem d4_5 : decode prog_26_method_2_code 5 = .ok (.lconst 1, 1) := by decide +kernel
theorem d4_6 : decode prog_26_method_2_code 6 = .ok (.ladd, 1) := by decide +kernel
theorem d4_7 : decode prog_26_method_2_code 7 = .ok (.putfield 7, 3) := by decide +kernel
theorem d4_10 : decode prog_26_method_2_code 10 = .ok (.aload_n 0, 1) := by decide +kernel
theorem d4_11 : decode prog_26_method_2_code 11 = .ok (.getfield 7, 3) := by decide +kernel
theorem d4_14 : decode prog_26_method_2_code 14 = .ok (.lreturn, 1) := by decide +kernel
theorem pn_4 : plainName "com/example/aveiro/aveiro/lock/LamportClock" = true := by first | (simp [plainName, overriddenIn]; done) | decide +kernel
theorem ef_4 (m : MethodId) (ob0 : Addr) : entryFrame m #[(.ref ob0)] 1 = mkF m 0 #[.val (.ref ob0)] [] := by first | (simp [entryFrame, mkF, argsToLocals, Value.category]; done) | rfl
def Q4 (Z : State) (ob0 : Addr) (u_time : Int64) (h0 : Heap) (n0 : Nat) (v : Option Value) (h : Heap) (L : List Loc) : Prop := v = some (.long (u_time + (1 : Int64))) ∧ Fr n0 L ∧ Keep h0 h [ob0] ∧ Exa Z h ob0 "com/example/aveiro/aveiro/lock/LamportClock" ∧ Fld Z h ob0 "com/example/aveiro/aveiro/lock/LamportClock" "time" "J" (.long (u_time + (1 : Int64)))
set_option maxRecDepth 65536 in
set_option maxHeartbeats 40000000 in
theorem rm4 (l : Launch) (Z : State) (a0 : Array Value) (hw : ∀ d ∈ tables_1, d.before a0 Z = true) (ws : List Jvm.Cond) (ob0 : Addr) (u_time : Int64) (h0 : Heap) (n0 : Nat) (Z0 : n0 ≤ h0.size) (F_time_ob0 : Fld Z h0 ob0 "com/example/aveiro/aveiro/lock/LamportClock" "time" "J" (.long u_time)) (E_ob0 : Exa Z h0 ob0 "com/example/aveiro/aveiro/lock/LamportClock") (g_ob0 : n0 ≤ ob0) :
    MetFree l (⟨"com/example/aveiro/aveiro/lock/LamportClock", "advance", "()J"⟩ : MethodName) (head1 (Jvm.Cond.code (⟨"com/example/aveiro/aveiro/lock/LamportClock", "advance", "()J"⟩ : MethodName) prog_26_method_2_code 1 (some .long) :: ws) ({ frames := 0, cells := 0, slots := 0, locals := 0 } : Room)) (fun a U => a = #[(.ref ob0)] ∧ Z.Warmed39 U.vm ∧ U.heap = h0) (fun _ _ _ _ _ => True) (fun _ U o U' => ∃ v L, o = .returned v ∧ Q4 Z ob0 u_time h0 n0 v U'.heap L ∧ FrameEnd U o U' L ({ frames := 0, cells := 0, slots := 0, locals := 0 } : Room).cells ({ frames := 0, cells := 0, slots := 0, locals := 0 } : Room).slots) := by
  refine MetFree.of_bodySF (plainFor_of_name pn_4) hisR ?_
  intro p e s m args below meth c s₁ Bd hml0 hP hK
  obtain ⟨rfl, hZ, hh⟩ := hP
  have hx := Bd.exec
  have hby := Bd.bytes
  have hml : c.maxLocals = 1 := hml0
  have hown : s.vm.findClass "com/example/aveiro/aveiro/lock/LamportClock" = some m.cls := findClass_of_methodNamed Bd.named
  have hnm := (name_of_methodNamed Bd.named Bd.method).1
  have X0 : Stand p l e ({ frames := 0, cells := 0, slots := 0, locals := 0 } : Room) s m #[(.ref ob0)] below meth c s₁ [] 0 0 := Stand.of_body Bd
  have e0 : s₁.heap = h0 := by rw [← hh, Bd.state]; rfl
  have N0 := Fr.nil n0
  have pre0 : ∀ t, Steps p.tables e below (s₁.setTop (mkF m 0 #[.val (.ref ob0)] [])) t → Steps p.tables e below (s₁.setTop (entryFrame m #[(.ref ob0)] 1)) t := fun t k => castTop (ef_4 m ob0) k
  obtain ⟨T1, X1, e1, st1⟩ := getF X0 hx hZ hown (host := "") (Or.inl (hw _ (List.mem_of_getElem? (i := 14) rfl))) Via.refl e0 F_time_ob0 (g := (mkF m 2 #[.val (.ref ob0)] [(.ref ob0), (.ref ob0)])) rfl rfl (hb hby d4_2)
  obtain ⟨T2, h2, X2, e2, W2, st2⟩ := putF X1 hx hZ hown (host := "") (Or.inl (hw _ (List.mem_of_getElem? (i := 14) rfl))) Via.refl e1 F_time_ob0 E_ob0 (Or.inl (hw _ (List.mem_of_getElem? (i := 15) rfl))) (hw _ (List.mem_of_getElem? (i := 1) rfl)) (ty := .long) (by decide) rfl rfl (g := (mkF m 7 #[.val (.ref ob0)] [(.long (u_time + (1 : Int64))), (.ref ob0)])) rfl rfl (hb hby d4_7)
  have fF3 := F_time_ob0.same W2
  have eE4 := E_ob0.wr W2
  have N2 := Fr.snoc X2 N0 g_ob0
  have Z2 := Nat.le_trans Z0 (Keep.of_wr W2).1
  have K2 := (Keep.refl h0 [ob0]).wr W2 (Or.inl (List.mem_of_getElem? (i := 0) rfl))
  obtain ⟨T5, X5, e5, st5⟩ := getF X2 hx hZ hown (host := "") (Or.inl (hw _ (List.mem_of_getElem? (i := 14) rfl))) Via.refl e2 fF3 (g := (mkF m 11 #[.val (.ref ob0)] [(.ref ob0)])) rfl rfl (hb hby d4_11)
  obtain ⟨fs, hr, hrun, hended, hW, hsame⟩ := X5.leave (v := some (.long (u_time + (1 : Int64)))) (fun h => by rw [Bd.returns] at h; cases h)
  refine ⟨_, _, pre0 _ ?_, hrun, hended, _, _, rfl, ?_, ⟨_, rfl⟩, hW, hsame.mono (by decide) (by decide)⟩
  · show Steps p.tables e below (s₁.setTop (mkF m 0 #[.val (.ref ob0)] [])) _
    refine XS.aloadN X0.here hx rfl (hb hby d4_0) rfl rfl ?_
    show Steps p.tables e below (s₁.setTop (mkF m 1 #[.val (.ref ob0)] [(.ref ob0)])) _
    refine XS.dup X0.here hx rfl (hb hby d4_1) rfl rfl ?_
    show Steps p.tables e below (s₁.setTop (mkF m 2 #[.val (.ref ob0)] [(.ref ob0), (.ref ob0)])) _
    refine st1 _ ?_
    show Steps p.tables e below (T1.setTop (mkF m 5 #[.val (.ref ob0)] [(.long u_time), (.ref ob0)])) _
    refine XS.lconst X1.here hx rfl (hb hby d4_5) ?_
    show Steps p.tables e below (T1.setTop (mkF m 6 #[.val (.ref ob0)] [(.long (1 : Int64)), (.long u_time), (.ref ob0)])) _
    refine XS.ladd X1.here hx rfl (hb hby d4_6) rfl ?_
    show Steps p.tables e below (T1.setTop (mkF m 7 #[.val (.ref ob0)] [(.long (u_time + (1 : Int64))), (.ref ob0)])) _
    refine st2 _ ?_
    show Steps p.tables e below (T2.setTop (mkF m 10 #[.val (.ref ob0)] [])) _
    refine XS.aloadN X2.here hx rfl (hb hby d4_10) rfl rfl ?_
    show Steps p.tables e below (T2.setTop (mkF m 11 #[.val (.ref ob0)] [(.ref ob0)])) _
    refine st5 _ ?_
    show Steps p.tables e below (T5.setTop (mkF m 14 #[.val (.ref ob0)] [(.long (u_time + (1 : Int64)))])) _
    exact retOut X5 hx Bd.returns rfl (Or.inr (Or.inl ⟨rfl, rfl, _, rfl⟩)) (hb hby d4_14) hr
  · show Q4 Z ob0 u_time h0 n0 _ T5.heap _
    rw [e5]
    exact ⟨rfl, N2, K2, eE4, fF3⟩
def F6 (q0 : Int64) (q1 : Int64) : Int64 :=
  if q0 < q1 then q1 else q0
theorem d6_0 : decode jdk_29_method_66_code 0 = .ok (.lload_n 0, 1) := by decide +kernel
theorem d6_1 : decode jdk_29_method_66_code 1 = .ok (.lload_n 2, 1) := by decide +kernel
theorem d6_2 : decode jdk_29_method_66_code 2 = .ok (.lcmp, 1) := by decide +kernel
theorem d6_3 : decode jdk_29_method_66_code 3 = .ok (.ifCond .lt 7, 3) := by decide +kernel
theorem d6_6 : decode jdk_29_method_66_code 6 = .ok (.lload_n 0, 1) := by decide +kernel
theorem d6_7 : decode jdk_29_method_66_code 7 = .ok (.goto 4, 3) := by decide +kernel
theorem d6_10 : decode jdk_29_method_66_code 10 = .ok (.lload_n 2, 1) := by decide +kernel
theorem d6_11 : decode jdk_29_method_66_code 11 = .ok (.lreturn, 1) := by decide +kernel
theorem ef_6 (m : MethodId) (q0 : Int64) (q1 : Int64) : entryFrame m #[(.long q0), (.long q1)] 4 = mkF m 0 #[.val (.long q0), .second, .val (.long q1), .second] [] := by first | (simp [entryFrame, mkF, argsToLocals, Value.category]; done) | rfl
def Q6 (Z : State) (q0 : Int64) (q1 : Int64) (h0 : Heap) (n0 : Nat) (v : Option Value) (h : Heap) (L : List Loc) : Prop := v = some (.long (F6 q0 q1)) ∧ Fr n0 L ∧ h = h0
set_option maxRecDepth 65536 in
set_option maxHeartbeats 40000000 in
theorem rm6 (l : Launch) (Z : State) (a0 : Array Value) (hw : ∀ d ∈ tables_1, d.before a0 Z = true) (ws : List Jvm.Cond) (q0 : Int64) (q1 : Int64) (h0 : Heap) (n0 : Nat) (Z0 : n0 ≤ h0.size) :
    MetFree l (⟨"java/lang/Math", "max", "(JJ)J"⟩ : MethodName) (head1 (Jvm.Cond.code (⟨"java/lang/Math", "max", "(JJ)J"⟩ : MethodName) jdk_29_method_66_code 4 (some .long) :: ws) ({ frames := 0, cells := 0, slots := 0, locals := 0 } : Room)) (fun a U => a = #[(.long q0), (.long q1)] ∧ Z.Warmed39 U.vm ∧ U.heap = h0) (fun _ _ _ _ _ => True) (fun _ U o U' => ∃ v L, o = .returned v ∧ Q6 Z q0 q1 h0 n0 v U'.heap L ∧ FrameEnd U o U' L ({ frames := 0, cells := 0, slots := 0, locals := 0 } : Room).cells ({ frames := 0, cells := 0, slots := 0, locals := 0 } : Room).slots) := by
  refine MetFree.of_bodySF (Jvm.Free.JP.mathPlain rfl (by decide +kernel)) hisR ?_
  intro p e s m args below meth c s₁ Bd hml0 hP hK
  obtain ⟨rfl, hZ, hh⟩ := hP
  have hx := Bd.exec
  have hby := Bd.bytes
  have hml : c.maxLocals = 4 := hml0
  have hown : s.vm.findClass "java/lang/Math" = some m.cls := findClass_of_methodNamed Bd.named
  have hnm := (name_of_methodNamed Bd.named Bd.method).1
  have X0 : Stand p l e ({ frames := 0, cells := 0, slots := 0, locals := 0 } : Room) s m #[(.long q0), (.long q1)] below meth c s₁ [] 0 0 := Stand.of_body Bd
  have e0 : s₁.heap = h0 := by rw [← hh, Bd.state]; rfl
  have N0 := Fr.nil n0
  have pre0 : ∀ t, Steps p.tables e below (s₁.setTop (mkF m 0 #[.val (.long q0), .second, .val (.long q1), .second] [])) t → Steps p.tables e below (s₁.setTop (entryFrame m #[(.long q0), (.long q1)] 4)) t := fun t k => castTop (ef_6 m q0 q1) k
  have pre1 : ∀ t, Steps p.tables e below (s₁.setTop (mkF m 3 #[.val (.long q0), .second, .val (.long q1), .second] [(.int (lcmpW q0 q1))])) t → Steps p.tables e below (s₁.setTop (entryFrame m #[(.long q0), (.long q1)] 4)) t := fun t k => by
    refine pre0 t ?_
    show Steps p.tables e below (s₁.setTop (mkF m 0 #[.val (.long q0), .second, .val (.long q1), .second] [])) _
    refine XS.lloadN X0.here hx rfl (hb hby d6_0) rfl ?_
    show Steps p.tables e below (s₁.setTop (mkF m 1 #[.val (.long q0), .second, .val (.long q1), .second] [(.long q0)])) _
    refine XS.lloadN X0.here hx rfl (hb hby d6_1) rfl ?_
    show Steps p.tables e below (s₁.setTop (mkF m 2 #[.val (.long q0), .second, .val (.long q1), .second] [(.long q1), (.long q0)])) _
    refine XS.lcmp X0.here hx rfl (hb hby d6_2) rfl ?_
    exact k
  by_cases hc3 : q0 < q1
  · obtain ⟨fs, hr, hrun, hended, hW, hsame⟩ := X0.leave (v := some (.long q1)) (fun h => by rw [Bd.returns] at h; cases h)
    refine ⟨_, _, pre1 _ ?_, hrun, hended, _, _, rfl, ?_, ⟨_, rfl⟩, hW, hsame.mono (by decide) (by decide)⟩
    · show Steps p.tables e below (s₁.setTop (mkF m 3 #[.val (.long q0), .second, .val (.long q1), .second] [(.int (lcmpW q0 q1))])) _
      refine XS.ifYes X0.here hx rfl (pc0 := 3) (pc' := 10) rfl (hb hby d6_3) rfl (lcY_lt hc3) (by decide) (by decide) ?_
      show Steps p.tables e below (s₁.setTop (mkF m 10 #[.val (.long q0), .second, .val (.long q1), .second] [])) _
      refine XS.lloadN X0.here hx rfl (hb hby d6_10) rfl ?_
      show Steps p.tables e below (s₁.setTop (mkF m 11 #[.val (.long q0), .second, .val (.long q1), .second] [(.long q1)])) _
      exact retOut X0 hx Bd.returns rfl (Or.inr (Or.inl ⟨rfl, rfl, _, rfl⟩)) (hb hby d6_11) hr
    · show Q6 Z q0 q1 h0 n0 _ s₁.heap _
      rw [e0]
      exact ⟨(by rw [F6, if_pos hc3]), N0, rfl⟩
  · obtain ⟨fs, hr, hrun, hended, hW, hsame⟩ := X0.leave (v := some (.long q0)) (fun h => by rw [Bd.returns] at h; cases h)
    refine ⟨_, _, pre1 _ ?_, hrun, hended, _, _, rfl, ?_, ⟨_, rfl⟩, hW, hsame.mono (by decide) (by decide)⟩
    · show Steps p.tables e below (s₁.setTop (mkF m 3 #[.val (.long q0), .second, .val (.long q1), .second] [(.int (lcmpW q0 q1))])) _
      refine XS.ifNo X0.here hx rfl (hb hby d6_3) rfl (lcN_lt hc3) ?_
      show Steps p.tables e below (s₁.setTop (mkF m 6 #[.val (.long q0), .second, .val (.long q1), .second] [])) _
      refine XS.lloadN X0.here hx rfl (hb hby d6_6) rfl ?_
      show Steps p.tables e below (s₁.setTop (mkF m 7 #[.val (.long q0), .second, .val (.long q1), .second] [(.long q0)])) _
      refine XS.goto X0.here hx rfl (pc0 := 7) (pc' := 11) rfl (hb hby d6_7) (by decide) (by decide) ?_
      show Steps p.tables e below (s₁.setTop (mkF m 11 #[.val (.long q0), .second, .val (.long q1), .second] [(.long q0)])) _
      exact retOut X0 hx Bd.returns rfl (Or.inr (Or.inl ⟨rfl, rfl, _, rfl⟩)) (hb hby d6_11) hr
    · show Q6 Z q0 q1 h0 n0 _ s₁.heap _
      rw [e0]
      exact ⟨(by rw [F6, if_neg hc3]), N0, rfl⟩
theorem pd_2 : parseMethodDescriptor "(JJ)J" = some ⟨[.long, .long], some .long⟩ := by decide +kernel
theorem d5_0 : decode prog_26_method_3_code 0 = .ok (.aload_n 0, 1) := by decide +kernel
theorem d5_1 : decode prog_26_method_3_code 1 = .ok (.aload_n 0, 1) := by decide +kernel
theorem d5_2 : decode prog_26_method_3_code 2 = .ok (.getfield 7, 3) := by decide +kernel
theorem d5_5 : decode prog_26_method_3_code 5 = .ok (.lload_n 1, 1) := by decide +kernel
theorem d5_6 : decode prog_26_method_3_code 6 = .ok (.invokestatic 13, 3) := by decide +kernel
theorem d5_9 : decode prog_26_method_3_code 9 = .ok (.lconst 1, 1) := by decide +kernel
theorem d5_10 : decode prog_26_method_3_code 10 = .ok (.ladd, 1) := by decide +kernel
theorem d5_11 : decode prog_26_method_3_code 11 = .ok (.putfield 7, 3) := by decide +kernel
theorem d5_14 : decode prog_26_method_3_code 14 = .ok (.return_, 1) := by decide +kernel
theorem pn_5 : plainName "com/example/aveiro/aveiro/lock/LamportClock" = true := by first | (simp [plainName, overriddenIn]; done) | decide +kernel
theorem ef_5 (m : MethodId) (ob0 : Addr) (q1 : Int64) : entryFrame m #[(.ref ob0), (.long q1)] 3 = mkF m 0 #[.val (.ref ob0), .val (.long q1), .second] [] := by first | (simp [entryFrame, mkF, argsToLocals, Value.category]; done) | rfl
def Q5 (Z : State) (ob0 : Addr) (q1 : Int64) (u_time : Int64) (h0 : Heap) (n0 : Nat) (v : Option Value) (h : Heap) (L : List Loc) : Prop := v = none ∧ Fr n0 L ∧ Keep h0 h [ob0] ∧ Exa Z h ob0 "com/example/aveiro/aveiro/lock/LamportClock" ∧ Fld Z h ob0 "com/example/aveiro/aveiro/lock/LamportClock" "time" "J" (.long ((F6 u_time q1) + (1 : Int64)))
set_option maxRecDepth 65536 in
set_option maxHeartbeats 40000000 in
theorem rm5 (l : Launch) (Z : State) (a0 : Array Value) (hw : ∀ d ∈ tables_1, d.before a0 Z = true) (ws : List Jvm.Cond) (ob0 : Addr) (q1 : Int64) (u_time : Int64) (h0 : Heap) (n0 : Nat) (Z0 : n0 ≤ h0.size) (F_time_ob0 : Fld Z h0 ob0 "com/example/aveiro/aveiro/lock/LamportClock" "time" "J" (.long u_time)) (E_ob0 : Exa Z h0 ob0 "com/example/aveiro/aveiro/lock/LamportClock") (g_ob0 : n0 ≤ ob0) :
    MetFree l (⟨"com/example/aveiro/aveiro/lock/LamportClock", "receive", "(J)V"⟩ : MethodName) (head1 (Jvm.Cond.code (⟨"com/example/aveiro/aveiro/lock/LamportClock", "receive", "(J)V"⟩ : MethodName) prog_26_method_3_code 3 none :: ws) ({ frames := 1, cells := 0, slots := 0, locals := 16 } : Room)) (fun a U => a = #[(.ref ob0), (.long q1)] ∧ Z.Warmed39 U.vm ∧ U.heap = h0) (fun _ _ _ _ _ => True) (fun _ U o U' => ∃ v L, o = .returned v ∧ Q5 Z ob0 q1 u_time h0 n0 v U'.heap L ∧ FrameEnd U o U' L ({ frames := 1, cells := 0, slots := 0, locals := 16 } : Room).cells ({ frames := 1, cells := 0, slots := 0, locals := 16 } : Room).slots) := by
  refine MetFree.of_bodySF (plainFor_of_name pn_5) hisR ?_
  intro p e s m args below meth c s₁ Bd hml0 hP hK
  obtain ⟨rfl, hZ, hh⟩ := hP
  have hx := Bd.exec
  have hby := Bd.bytes
  have hml : c.maxLocals = 3 := hml0
  have hown : s.vm.findClass "com/example/aveiro/aveiro/lock/LamportClock" = some m.cls := findClass_of_methodNamed Bd.named
  have hnm := (name_of_methodNamed Bd.named Bd.method).1
  have X0 : Stand p l e ({ frames := 1, cells := 0, slots := 0, locals := 16 } : Room) s m #[(.ref ob0), (.long q1)] below meth c s₁ [] 0 0 := Stand.of_body Bd
  have e0 : s₁.heap = h0 := by rw [← hh, Bd.state]; rfl
  have N0 := Fr.nil n0
  have pre0 : ∀ t, Steps p.tables e below (s₁.setTop (mkF m 0 #[.val (.ref ob0), .val (.long q1), .second] [])) t → Steps p.tables e below (s₁.setTop (entryFrame m #[(.ref ob0), (.long q1)] 3)) t := fun t k => castTop (ef_5 m ob0 q1) k
  obtain ⟨T1, X1, e1, st1⟩ := getF X0 hx hZ hown (host := "") (Or.inl (hw _ (List.mem_of_getElem? (i := 14) rfl))) Via.refl e0 F_time_ob0 (g := (mkF m 2 #[.val (.ref ob0), .val (.long q1), .second] [(.ref ob0), (.ref ob0)])) rfl rfl (hb hby d5_2)
  obtain ⟨_, _, ⟨T2, L2, k2, n2⟩, -, X2, ⟨Lc2, hQ2, l2, y2, z2⟩, st2⟩ := Jvm.LawKit.callS X1 hx (y := (⟨"java/lang/Math", "max", "(JJ)J"⟩ : MethodName)) hown (mvT hZ (hw _ (List.mem_of_getElem? (i := 26) rfl))) (mvT hZ (hw _ (List.mem_of_getElem? (i := 27) rfl))) (mvT hZ (hw _ (List.mem_of_getElem? (i := 28) rfl))) (mvT hZ (hw _ (List.mem_of_getElem? (i := 29) rfl))) (by decide) (backOf (W := 1) (rm6 l Z a0 hw [] u_time q1 h0 n0 Z0) hZ (hw _ (List.mem_of_getElem? (i := 29) rfl)) (hw _ (List.mem_of_getElem? (i := 28) rfl)) (by decide) (by decide)) (g := (mkF m 6 #[.val (.ref ob0), .val (.long q1), .second] [(.long q1), (.long u_time), (.ref ob0)])) rfl (by rw [hml]; rfl) (argsL := [(.long u_time), (.long q1)]) (rest := [(.ref ob0)]) (lenOf pd_2 rfl) rfl (by show 2 * 0 + _ ≤ _; exact Nat.le_of_eq rfl) (hb hby d5_6) (fun _ _ => ⟨rfl, e1, (by decide : 0 + 0 ≤ _), (by decide : 0 + 0 ≤ _)⟩)
  dsimp only [Pt.U, Pt.locs, Pt.cells, Pt.slots] at X2 l2 y2 z2 st2 hQ2
  subst l2 y2 z2
  obtain ⟨rfl, N2q, e2⟩ := hQ2
  have N2 := Fr.app N0 N2q
  obtain ⟨T3, h3, X3, e3, W3, st3⟩ := putF X2 hx hZ hown (host := "") (Or.inl (hw _ (List.mem_of_getElem? (i := 14) rfl))) Via.refl e2 F_time_ob0 E_ob0 (Or.inl (hw _ (List.mem_of_getElem? (i := 15) rfl))) (hw _ (List.mem_of_getElem? (i := 1) rfl)) (ty := .long) (by decide) rfl rfl (g := (mkF m 11 #[.val (.ref ob0), .val (.long q1), .second] [(.long ((F6 u_time q1) + (1 : Int64))), (.ref ob0)])) rfl rfl (hb hby d5_11)
  have fF4 := F_time_ob0.same W3
  have eE5 := E_ob0.wr W3
  have N3 := Fr.snoc X3 N2 g_ob0
  have Z3 := Nat.le_trans Z0 (Keep.of_wr W3).1
  have K3 := (Keep.refl h0 [ob0]).wr W3 (Or.inl (List.mem_of_getElem? (i := 0) rfl))
  obtain ⟨fs, hr, hrun, hended, hW, hsame⟩ := X3.leave (v := none) (fun _ => rfl)
  refine ⟨_, _, pre0 _ ?_, hrun, hended, _, _, rfl, ?_, ⟨_, rfl⟩, hW, hsame.mono (by decide) (by decide)⟩
  · show Steps p.tables e below (s₁.setTop (mkF m 0 #[.val (.ref ob0), .val (.long q1), .second] [])) _
    refine XS.aloadN X0.here hx rfl (hb hby d5_0) rfl rfl ?_
    show Steps p.tables e below (s₁.setTop (mkF m 1 #[.val (.ref ob0), .val (.long q1), .second] [(.ref ob0)])) _
    refine XS.aloadN X0.here hx rfl (hb hby d5_1) rfl rfl ?_
    show Steps p.tables e below (s₁.setTop (mkF m 2 #[.val (.ref ob0), .val (.long q1), .second] [(.ref ob0), (.ref ob0)])) _
    refine st1 _ ?_
    show Steps p.tables e below (T1.setTop (mkF m 5 #[.val (.ref ob0), .val (.long q1), .second] [(.long u_time), (.ref ob0)])) _
    refine XS.lloadN X1.here hx rfl (hb hby d5_5) rfl ?_
    show Steps p.tables e below (T1.setTop (mkF m 6 #[.val (.ref ob0), .val (.long q1), .second] [(.long q1), (.long u_time), (.ref ob0)])) _
    refine st2 _ ?_
    show Steps p.tables e below (T2.setTop (mkF m 9 #[.val (.ref ob0), .val (.long q1), .second] [(.long (F6 u_time q1)), (.ref ob0)])) _
    refine XS.lconst X2.here hx rfl (hb hby d5_9) ?_
    show Steps p.tables e below (T2.setTop (mkF m 10 #[.val (.ref ob0), .val (.long q1), .second] [(.long (1 : Int64)), (.long (F6 u_time q1)), (.ref ob0)])) _
    refine XS.ladd X2.here hx rfl (hb hby d5_10) rfl ?_
    show Steps p.tables e below (T2.setTop (mkF m 11 #[.val (.ref ob0), .val (.long q1), .second] [(.long ((F6 u_time q1) + (1 : Int64))), (.ref ob0)])) _
    refine st3 _ ?_
    show Steps p.tables e below (T3.setTop (mkF m 14 #[.val (.ref ob0), .val (.long q1), .second] [])) _
    exact X3.returnOut hx Bd.returns (hb hby d5_14) hr
  · show Q5 Z ob0 q1 u_time h0 n0 _ T3.heap _
    rw [e3]
    exact ⟨rfl, N3, K3, eE5, fF4⟩
theorem pd_3 : parseMethodDescriptor "(J)V" = some ⟨[.long], none⟩ := by decide +kernel
theorem pn_0 : plainName "com/example/aveiro/aveiro/lock/LamportClockAdvancePinLaw" = true := by first | (simp [plainName, overriddenIn]; done) | decide +kernel
theorem ef_0 (m : MethodId) (q0 : Int64) (p1 : Int32) : entryFrame m #[(.long q0), (.int p1)] maxLocals = mkF m 0 #[.val (.long q0), .second, .val (.int p1), .unset, .unset, .unset, .unset, .unset, .unset, .unset, .unset, .unset, .unset, .unset, .unset, .unset] [] := by first | (simp [entryFrame, mkF, argsToLocals, Value.category, maxLocals]; done) | rfl
def Q0 (Z : State) (q0 : Int64) (p1 : Int32) (h0 : Heap) (n0 : Nat) (v : Option Value) (h : Heap) (L : List Loc) : Prop := v = some (.int 1) ∧ Fr n0 L
set_option maxRecDepth 65536 in
set_option maxHeartbeats 40000000 in
theorem rm0 (l : Launch) (Z : State) (a0 : Array Value) (hw : ∀ d ∈ tables_1, d.before a0 Z = true) (ws : List Jvm.Cond) (q0 : Int64) (p1 : Int32) (h0 : Heap) (n0 : Nat) (Z0 : n0 ≤ h0.size) :
    MetFree l x (head1 (Jvm.Cond.code x code maxLocals ret :: ws) room_1) (fun a U => a = #[(.long q0), (.int p1)] ∧ Z.Warmed39 U.vm ∧ U.heap = h0) (fun _ _ _ _ _ => True) (fun _ U o U' => ∃ v L, o = .returned v ∧ Q0 Z q0 p1 h0 n0 v U'.heap L ∧ FrameEnd U o U' L room_1.cells room_1.slots) := by
  refine MetFree.of_bodySF (plainFor_of_name pn_0) hisR ?_
  intro p e s m args below meth c s₁ Bd hml0 hP hK
  obtain ⟨rfl, hZ, hh⟩ := hP
  have hx := Bd.exec
  have hby := Bd.bytes
  have hml : c.maxLocals = 16 := hml0
  have hown : s.vm.findClass "com/example/aveiro/aveiro/lock/LamportClockAdvancePinLaw" = some m.cls := findClass_of_methodNamed Bd.named
  have hnm := (name_of_methodNamed Bd.named Bd.method).1
  have X0 : Stand p l e room_1 s m #[(.long q0), (.int p1)] below meth c s₁ [] 0 0 := Stand.of_body Bd
  have e0 : s₁.heap = h0 := by rw [← hh, Bd.state]; rfl
  have N0 := Fr.nil n0
  have pre0 : ∀ t, Steps p.tables e below (s₁.setTop (mkF m 0 #[.val (.long q0), .second, .val (.int p1), .unset, .unset, .unset, .unset, .unset, .unset, .unset, .unset, .unset, .unset, .unset, .unset, .unset] [])) t → Steps p.tables e below (s₁.setTop (entryFrame m #[(.long q0), (.int p1)] maxLocals)) t := fun t k => castTop (ef_0 m q0 p1) k
  have pre1 : ∀ t, Steps p.tables e below (s₁.setTop (mkF m 3 #[.val (.long q0), .second, .val (.int p1), .unset, .unset, .unset, .unset, .unset, .unset, .unset, .unset, .unset, .unset, .unset, .unset, .unset] [(.int (p1 &&& (1 : Int32)))])) t → Steps p.tables e below (s₁.setTop (entryFrame m #[(.long q0), (.int p1)] maxLocals)) t := fun t k => by
    refine pre0 t ?_
    show Steps p.tables e below (s₁.setTop (mkF m 0 #[.val (.long q0), .second, .val (.int p1), .unset, .unset, .unset, .unset, .unset, .unset, .unset, .unset, .unset, .unset, .unset, .unset, .unset] [])) _
    refine XS.iloadN X0.here hx rfl (hb hby at_0) rfl ?_
    show Steps p.tables e below (s₁.setTop (mkF m 1 #[.val (.long q0), .second, .val (.int p1), .unset, .unset, .unset, .unset, .unset, .unset, .unset, .unset, .unset, .unset, .unset, .unset, .unset] [(.int p1)])) _
    refine XS.iconst X0.here hx rfl (hb hby at_1) ?_
    show Steps p.tables e below (s₁.setTop (mkF m 2 #[.val (.long q0), .second, .val (.int p1), .unset, .unset, .unset, .unset, .unset, .unset, .unset, .unset, .unset, .unset, .unset, .unset, .unset] [(.int (1 : Int32)), (.int p1)])) _
    refine XS.iand X0.here hx rfl (hb hby at_2) rfl ?_
    exact k
  by_cases hc3 : (p1 &&& (1 : Int32)) = (0 : Int32)
  · obtain ⟨T2, h2, X2, e2, E2, A2, D2, -, st2⟩ := newO X0 hx hZ hown (hw _ (List.mem_of_getElem? (i := 0) rfl)) (hw _ (List.mem_of_getElem? (i := 1) rfl)) (hw _ (List.mem_of_getElem? (i := 2) rfl)) e0 (g := (mkF m 12 #[.val (.long q0), .second, .val (.int p1), .val (.int (0 : Int32)), .unset, .unset, .unset, .unset, .unset, .unset, .unset, .unset, .unset, .unset, .unset, .unset] [])) rfl (hb hby at_12) (by decide) (by decide)
    obtain ⟨b2, g2⟩ : ∃ z, z = h0.size := ⟨_, rfl⟩
    rw [← g2] at A2 D2 st2
    have g_b2 : n0 ≤ b2 := Nat.le_trans Z0 (Nat.le_of_eq g2.symm)
    have Z2 := Nat.le_trans Z0 E2.1
    have fF3 : Fld Z h2 b2 "com/example/aveiro/aveiro/lock/LamportClock" "time" "J" (.long (0 : Int64)) := D2 (Or.inl (hw _ (List.mem_of_getElem? (i := 15) rfl))) (ty := .long) (by decide)
    obtain ⟨_, _, ⟨T4, L4, k4, n4⟩, -, X4, ⟨Lc4, hQ4, l4, y4, z4⟩, st4⟩ := X2.specialBack hx (y := (⟨"com/example/aveiro/aveiro/lock/LamportClock", "<init>", "()V"⟩ : MethodName)) rfl hown (mvT hZ (hw _ (List.mem_of_getElem? (i := 3) rfl))) (mvT hZ (hw _ (List.mem_of_getElem? (i := 4) rfl))) (mvT hZ (hw _ (List.mem_of_getElem? (i := 5) rfl))) (by decide) (backOf (W := 1) (rm1 l Z a0 hw [] b2 h2 n0 Z2) hZ (hw _ (List.mem_of_getElem? (i := 5) rfl)) (hw _ (List.mem_of_getElem? (i := 2) rfl)) (by decide) (by decide)) (g := (mkF m 16 #[.val (.long q0), .second, .val (.int p1), .val (.int (0 : Int32)), .unset, .unset, .unset, .unset, .unset, .unset, .unset, .unset, .unset, .unset, .unset, .unset] [(.ref b2), (.ref b2)])) rfl (by rw [hml]; rfl) (Steps.refl _) (a := b2) (argsL := []) (rest := [(.ref b2)]) (lenOf pd_0 rfl) rfl (by show 2 * 0 + _ ≤ _; exact Nat.le_of_eq rfl) (hb hby at_16) (fun _ _ => ⟨rfl, e2, (by decide : 1 + 0 ≤ _), (by decide : 1 + 0 ≤ _)⟩)
    dsimp only [Pt.U, Pt.locs, Pt.cells, Pt.slots] at X4 l4 y4 z4 st4 hQ4
    subst l4 y4 z4
    obtain ⟨rfl, N4q, e4⟩ := hQ4
    have N4 := Fr.app N0 N4q
    obtain ⟨cq5, kq5, q5a, q5b, q5c⟩ := isOf hZ e4 A2
    obtain ⟨_, _, ⟨T5, L5, k5, n5⟩, -, X5, ⟨Lc5, hQ5, l5, y5, z5⟩, st5⟩ := X4.virtualBack hx (y := (⟨"com/example/aveiro/aveiro/lock/LamportClock", "time", "()J"⟩ : MethodName)) (z := (⟨"com/example/aveiro/aveiro/lock/LamportClock", "time", "()J"⟩ : MethodName)) hown (mvT hZ (hw _ (List.mem_of_getElem? (i := 9) rfl))) (mvT hZ (hw _ (List.mem_of_getElem? (i := 10) rfl))) (notFace_of_selects (args := #[]) (mvT hZ (hw _ (List.mem_of_getElem? (i := 12) rfl)))) (mvT hZ (hw _ (List.mem_of_getElem? (i := 12) rfl))) (mvT hZ (hw _ (List.mem_of_getElem? (i := 11) rfl))) (by decide) (backOf (W := 0) (rm3 l Z a0 hw [] b2 (0 : Int64) h2 n0 Z2 fF3) hZ (hw _ (List.mem_of_getElem? (i := 13) rfl)) (hw _ (List.mem_of_getElem? (i := 2) rfl)) (by decide) (by decide)) q5a q5c (g := (mkF m 33 #[.val (.long q0), .second, .val (.int p1), .val (.int (0 : Int32)), .val (.ref b2), .unset, .unset, .unset, .unset, .unset, .unset, .unset, .unset, .unset, .unset, .unset] [(.ref b2)])) rfl (by rw [hml]; rfl) (Steps.refl _) (argsL := []) (rest := []) (lenOf pd_1 rfl) rfl (by show 2 * 0 + _ ≤ _; exact Nat.le_of_eq rfl) (hb hby at_33) (fun _ _ => ⟨rfl, e4, (by decide : 1 + 0 ≤ _), (by decide : 1 + 0 ≤ _)⟩)
    dsimp only [Pt.U, Pt.locs, Pt.cells, Pt.slots] at X5 l5 y5 z5 st5 hQ5
    subst l5 y5 z5
    obtain ⟨rfl, N5q, e5⟩ := hQ5
    have N5 := Fr.app N4 N5q
    obtain ⟨cq6, kq6, q6a, q6b, q6c⟩ := isOf hZ e5 A2
    obtain ⟨_, _, ⟨T6, L6, k6, n6⟩, -, X6, ⟨Lc6, hQ6, l6, y6, z6⟩, st6⟩ := X5.virtualBack hx (y := (⟨"com/example/aveiro/aveiro/lock/LamportClock", "advance", "()J"⟩ : MethodName)) (z := (⟨"com/example/aveiro/aveiro/lock/LamportClock", "advance", "()J"⟩ : MethodName)) hown (mvT hZ (hw _ (List.mem_of_getElem? (i := 16) rfl))) (mvT hZ (hw _ (List.mem_of_getElem? (i := 17) rfl))) (notFace_of_selects (args := #[]) (mvT hZ (hw _ (List.mem_of_getElem? (i := 19) rfl)))) (mvT hZ (hw _ (List.mem_of_getElem? (i := 19) rfl))) (mvT hZ (hw _ (List.mem_of_getElem? (i := 18) rfl))) (by decide) (backOf (W := 0) (rm4 l Z a0 hw [] b2 (0 : Int64) h2 n0 Z2 fF3 A2 g_b2) hZ (hw _ (List.mem_of_getElem? (i := 20) rfl)) (hw _ (List.mem_of_getElem? (i := 2) rfl)) (by decide) (by decide)) q6a q6c (g := (mkF m 40 #[.val (.long q0), .second, .val (.int p1), .val (.int (0 : Int32)), .val (.ref b2), .val (.long (0 : Int64)), .second, .unset, .unset, .unset, .unset, .unset, .unset, .unset, .unset, .unset] [(.ref b2)])) rfl (by rw [hml]; rfl) (Steps.refl _) (argsL := []) (rest := []) (lenOf pd_1 rfl) rfl (by show 2 * 0 + _ ≤ _; exact Nat.le_of_eq rfl) (hb hby at_40) (fun _ _ => ⟨rfl, e5, (by decide : 1 + 0 ≤ _), (by decide : 1 + 0 ≤ _)⟩)
    dsimp only [Pt.U, Pt.locs, Pt.cells, Pt.slots] at X6 l6 y6 z6 st6 hQ6
    subst l6 y6 z6
    obtain ⟨rfl, N6q, K6, G7, G8⟩ := hQ6
    have Z6 := Nat.le_trans Z2 K6.1
    have N6 := Fr.app N5 N6q
    obtain ⟨cq9, kq9, q9a, q9b, q9c⟩ := isOf hZ rfl G7
    obtain ⟨_, _, ⟨T9, L9, k9, n9⟩, -, X9, ⟨Lc9, hQ9, l9, y9, z9⟩, st9⟩ := X6.virtualBack hx (y := (⟨"com/example/aveiro/aveiro/lock/LamportClock", "time", "()J"⟩ : MethodName)) (z := (⟨"com/example/aveiro/aveiro/lock/LamportClock", "time", "()J"⟩ : MethodName)) hown (mvT hZ (hw _ (List.mem_of_getElem? (i := 9) rfl))) (mvT hZ (hw _ (List.mem_of_getElem? (i := 10) rfl))) (notFace_of_selects (args := #[]) (mvT hZ (hw _ (List.mem_of_getElem? (i := 12) rfl)))) (mvT hZ (hw _ (List.mem_of_getElem? (i := 12) rfl))) (mvT hZ (hw _ (List.mem_of_getElem? (i := 11) rfl))) (by decide) (backOf (W := 0) (rm3 l Z a0 hw [] b2 ((0 : Int64) + (1 : Int64)) T6.heap n0 Z6 G8) hZ (hw _ (List.mem_of_getElem? (i := 13) rfl)) (hw _ (List.mem_of_getElem? (i := 2) rfl)) (by decide) (by decide)) q9a q9c (g := (mkF m 47 #[.val (.long q0), .second, .val (.int p1), .val (.int (0 : Int32)), .val (.ref b2), .val (.long (0 : Int64)), .second, .val (.long ((0 : Int64) + (1 : Int64))), .second, .unset, .unset, .unset, .unset, .unset, .unset, .unset] [(.ref b2)])) rfl (by rw [hml]; rfl) (Steps.refl _) (argsL := []) (rest := []) (lenOf pd_1 rfl) rfl (by show 2 * 0 + _ ≤ _; exact Nat.le_of_eq rfl) (hb hby at_47) (fun _ _ => ⟨rfl, rfl, (by decide : 1 + 0 ≤ _), (by decide : 1 + 0 ≤ _)⟩)
    dsimp only [Pt.U, Pt.locs, Pt.cells, Pt.slots] at X9 l9 y9 z9 st9 hQ9
    subst l9 y9 z9
    obtain ⟨rfl, N9q, e9⟩ := hQ9
    have N9 := Fr.app N6 N9q
    obtain ⟨cq10, kq10, q10a, q10b, q10c⟩ := isOf hZ e9 G7
    obtain ⟨_, _, ⟨T10, L10, k10, n10⟩, -, X10, ⟨Lc10, hQ10, l10, y10, z10⟩, st10⟩ := X9.virtualBack hx (y := (⟨"com/example/aveiro/aveiro/lock/LamportClock", "advance", "()J"⟩ : MethodName)) (z := (⟨"com/example/aveiro/aveiro/lock/LamportClock", "advance", "()J"⟩ : MethodName)) hown (mvT hZ (hw _ (List.mem_of_getElem? (i := 16) rfl))) (mvT hZ (hw _ (List.mem_of_getElem? (i := 17) rfl))) (notFace_of_selects (args := #[]) (mvT hZ (hw _ (List.mem_of_getElem? (i := 19) rfl)))) (mvT hZ (hw _ (List.mem_of_getElem? (i := 19) rfl))) (mvT hZ (hw _ (List.mem_of_getElem? (i := 18) rfl))) (by decide) (backOf (W := 0) (rm4 l Z a0 hw [] b2 ((0 : Int64) + (1 : Int64)) T6.heap n0 Z6 G8 G7 g_b2) hZ (hw _ (List.mem_of_getElem? (i := 20) rfl)) (hw _ (List.mem_of_getElem? (i := 2) rfl)) (by decide) (by decide)) q10a q10c (g := (mkF m 54 #[.val (.long q0), .second, .val (.int p1), .val (.int (0 : Int32)), .val (.ref b2), .val (.long (0 : Int64)), .second, .val (.long ((0 : Int64) + (1 : Int64))), .second, .val (.long ((0 : Int64) + (1 : Int64))), .second, .unset, .unset, .unset, .unset, .unset] [(.ref b2)])) rfl (by rw [hml]; rfl) (Steps.refl _) (argsL := []) (rest := []) (lenOf pd_1 rfl) rfl (by show 2 * 0 + _ ≤ _; exact Nat.le_of_eq rfl) (hb hby at_54) (fun _ _ => ⟨rfl, e9, (by decide : 1 + 0 ≤ _), (by decide : 1 + 0 ≤ _)⟩)
    dsimp only [Pt.U, Pt.locs, Pt.cells, Pt.slots] at X10 l10 y10 z10 st10 hQ10
    subst l10 y10 z10
    obtain ⟨rfl, N10q, K10, G11, G12⟩ := hQ10
    have Z10 := Nat.le_trans Z6 K10.1
    have N10 := Fr.app N9 N10q
    obtain ⟨cq13, kq13, q13a, q13b, q13c⟩ := isOf hZ rfl G11
    obtain ⟨_, _, ⟨T13, L13, k13, n13⟩, -, X13, ⟨Lc13, hQ13, l13, y13, z13⟩, st13⟩ := X10.virtualBack hx (y := (⟨"com/example/aveiro/aveiro/lock/LamportClock", "time", "()J"⟩ : MethodName)) (z := (⟨"com/example/aveiro/aveiro/lock/LamportClock", "time", "()J"⟩ : MethodName)) hown (mvT hZ (hw _ (List.mem_of_getElem? (i := 9) rfl))) (mvT hZ (hw _ (List.mem_of_getElem? (i := 10) rfl))) (notFace_of_selects (args := #[]) (mvT hZ (hw _ (List.mem_of_getElem? (i := 12) rfl)))) (mvT hZ (hw _ (List.mem_of_getElem? (i := 12) rfl))) (mvT hZ (hw _ (List.mem_of_getElem? (i := 11) rfl))) (by decide) (backOf (W := 0) (rm3 l Z a0 hw [] b2 (((0 : Int64) + (1 : Int64)) + (1 : Int64)) T10.heap n0 Z10 G12) hZ (hw _ (List.mem_of_getElem? (i := 13) rfl)) (hw _ (List.mem_of_getElem? (i := 2) rfl)) (by decide) (by decide)) q13a q13c (g := (mkF m 61 #[.val (.long q0), .second, .val (.int p1), .val (.int (0 : Int32)), .val (.ref b2), .val (.long (0 : Int64)), .second, .val (.long ((0 : Int64) + (1 : Int64))), .second, .val (.long ((0 : Int64) + (1 : Int64))), .second, .val (.long (((0 : Int64) + (1 : Int64)) + (1 : Int64))), .second, .unset, .unset, .unset] [(.ref b2)])) rfl (by rw [hml]; rfl) (Steps.refl _) (argsL := []) (rest := []) (lenOf pd_1 rfl) rfl (by show 2 * 0 + _ ≤ _; exact Nat.le_of_eq rfl) (hb hby at_61) (fun _ _ => ⟨rfl, rfl, (by decide : 1 + 0 ≤ _), (by decide : 1 + 0 ≤ _)⟩)
    dsimp only [Pt.U, Pt.locs, Pt.cells, Pt.slots] at X13 l13 y13 z13 st13 hQ13
    subst l13 y13 z13
    obtain ⟨rfl, N13q, e13⟩ := hQ13
    have N13 := Fr.app N10 N13q
    have hc81 : ((0 : Int64) + (1 : Int64)) = (1 : Int64) := by decide
    obtain ⟨fs, hr, hrun, hended, hW, hsame⟩ := X13.leave (v := some (.int (1 : Int32))) (fun h => by rw [Bd.returns] at h; cases h)
    refine ⟨_, _, pre1 _ ?_, hrun, hended, _, _, rfl, ?_, ⟨_, rfl⟩, hW, hsame.mono (by decide) (by decide)⟩
    · show Steps p.tables e below (s₁.setTop (mkF m 3 #[.val (.long q0), .second, .val (.int p1), .unset, .unset, .unset, .unset, .unset, .unset, .unset, .unset, .unset, .unset, .unset, .unset, .unset] [(.int (p1 &&& (1 : Int32)))])) _
      refine XS.ifYes X0.here hx rfl (pc0 := 3) (pc' := 10) rfl (hb hby at_3) rfl ((if0 _ _).trans (teq hc3).1) (by decide) (by decide) ?_
      show Steps p.tables e below (s₁.setTop (mkF m 10 #[.val (.long q0), .second, .val (.int p1), .unset, .unset, .unset, .unset, .unset, .unset, .unset, .unset, .unset, .unset, .unset, .unset, .unset] [])) _
      refine XS.iconst X0.here hx rfl (hb hby at_10) ?_
      show Steps p.tables e below (s₁.setTop (mkF m 11 #[.val (.long q0), .second, .val (.int p1), .unset, .unset, .unset, .unset, .unset, .unset, .unset, .unset, .unset, .unset, .unset, .unset, .unset] [(.int (0 : Int32))])) _
      refine XS.istoreN X0.here hx rfl (hb hby at_11) rfl (l' := #[.val (.long q0), .second, .val (.int p1), .val (.int (0 : Int32)), .unset, .unset, .unset, .unset, .unset, .unset, .unset, .unset, .unset, .unset, .unset, .unset]) rfl ?_
      show Steps p.tables e below (s₁.setTop (mkF m 12 #[.val (.long q0), .second, .val (.int p1), .val (.int (0 : Int32)), .unset, .unset, .unset, .unset, .unset, .unset, .unset, .unset, .unset, .unset, .unset, .unset] [])) _
      refine st2 _ ?_
      show Steps p.tables e below (T2.setTop (mkF m 15 #[.val (.long q0), .second, .val (.int p1), .val (.int (0 : Int32)), .unset, .unset, .unset, .unset, .unset, .unset, .unset, .unset, .unset, .unset, .unset, .unset] [(.ref b2)])) _
      refine XS.dup X2.here hx rfl (hb hby at_15) rfl rfl ?_
      show Steps p.tables e below (T2.setTop (mkF m 16 #[.val (.long q0), .second, .val (.int p1), .val (.int (0 : Int32)), .unset, .unset, .unset, .unset, .unset, .unset, .unset, .unset, .unset, .unset, .unset, .unset] [(.ref b2), (.ref b2)])) _
      refine st4.trans ?_
      show Steps p.tables e below (T4.setTop (mkF m 19 #[.val (.long q0), .second, .val (.int p1), .val (.int (0 : Int32)), .unset, .unset, .unset, .unset, .unset, .unset, .unset, .unset, .unset, .unset, .unset, .unset] [(.ref b2)])) _
      refine XS.astore X4.here hx rfl (hb hby at_19) rfl rfl (l' := #[.val (.long q0), .second, .val (.int p1), .val (.int (0 : Int32)), .val (.ref b2), .unset, .unset, .unset, .unset, .unset, .unset, .unset, .unset, .unset, .unset, .unset]) rfl ?_
      show Steps p.tables e below (T4.setTop (mkF m 21 #[.val (.long q0), .second, .val (.int p1), .val (.int (0 : Int32)), .val (.ref b2), .unset, .unset, .unset, .unset, .unset, .unset, .unset, .unset, .unset, .unset, .unset] [])) _
      refine XS.iloadN X4.here hx rfl (hb hby at_21) rfl ?_
      show Steps p.tables e below (T4.setTop (mkF m 22 #[.val (.long q0), .second, .val (.int p1), .val (.int (0 : Int32)), .val (.ref b2), .unset, .unset, .unset, .unset, .unset, .unset, .unset, .unset, .unset, .unset, .unset] [(.int (0 : Int32))])) _
      refine XS.ifYes X4.here hx rfl (pc0 := 22) (pc' := 31) rfl (hb hby at_22) rfl ((if0 _ _).trans (teq (by decide : (0 : Int32) = (0 : Int32))).1) (by decide) (by decide) ?_
      show Steps p.tables e below (T4.setTop (mkF m 31 #[.val (.long q0), .second, .val (.int p1), .val (.int (0 : Int32)), .val (.ref b2), .unset, .unset, .unset, .unset, .unset, .unset, .unset, .unset, .unset, .unset, .unset] [])) _
      refine XS.aload X4.here hx rfl (hb hby at_31) rfl rfl ?_
      show Steps p.tables e below (T4.setTop (mkF m 33 #[.val (.long q0), .second, .val (.int p1), .val (.int (0 : Int32)), .val (.ref b2), .unset, .unset, .unset, .unset, .unset, .unset, .unset, .unset, .unset, .unset, .unset] [(.ref b2)])) _
      refine st5.trans ?_
      show Steps p.tables e below (T5.setTop (mkF m 36 #[.val (.long q0), .second, .val (.int p1), .val (.int (0 : Int32)), .val (.ref b2), .unset, .unset, .unset, .unset, .unset, .unset, .unset, .unset, .unset, .unset, .unset] [(.long (0 : Int64))])) _
      refine XS.lstore X5.here hx rfl (hb hby at_36) rfl (l' := #[.val (.long q0), .second, .val (.int p1), .val (.int (0 : Int32)), .val (.ref b2), .val (.long (0 : Int64)), .second, .unset, .unset, .unset, .unset, .unset, .unset, .unset, .unset, .unset]) rfl ?_
      show Steps p.tables e below (T5.setTop (mkF m 38 #[.val (.long q0), .second, .val (.int p1), .val (.int (0 : Int32)), .val (.ref b2), .val (.long (0 : Int64)), .second, .unset, .unset, .unset, .unset, .unset, .unset, .unset, .unset, .unset] [])) _
      refine XS.aload X5.here hx rfl (hb hby at_38) rfl rfl ?_
      show Steps p.tables e below (T5.setTop (mkF m 40 #[.val (.long q0), .second, .val (.int p1), .val (.int (0 : Int32)), .val (.ref b2), .val (.long (0 : Int64)), .second, .unset, .unset, .unset, .unset, .unset, .unset, .unset, .unset, .unset] [(.ref b2)])) _
      refine st6.trans ?_
      show Steps p.tables e below (T6.setTop (mkF m 43 #[.val (.long q0), .second, .val (.int p1), .val (.int (0 : Int32)), .val (.ref b2), .val (.long (0 : Int64)), .second, .unset, .unset, .unset, .unset, .unset, .unset, .unset, .unset, .unset] [(.long ((0 : Int64) + (1 : Int64)))])) _
      refine XS.lstore X6.here hx rfl (hb hby at_43) rfl (l' := #[.val (.long q0), .second, .val (.int p1), .val (.int (0 : Int32)), .val (.ref b2), .val (.long (0 : Int64)), .second, .val (.long ((0 : Int64) + (1 : Int64))), .second, .unset, .unset, .unset, .unset, .unset, .unset, .unset]) rfl ?_
      show Steps p.tables e below (T6.setTop (mkF m 45 #[.val (.long q0), .second, .val (.int p1), .val (.int (0 : Int32)), .val (.ref b2), .val (.long (0 : Int64)), .second, .val (.long ((0 : Int64) + (1 : Int64))), .second, .unset, .unset, .unset, .unset, .unset, .unset, .unset] [])) _
      refine XS.aload X6.here hx rfl (hb hby at_45) rfl rfl ?_
      show Steps p.tables e below (T6.setTop (mkF m 47 #[.val (.long q0), .second, .val (.int p1), .val (.int (0 : Int32)), .val (.ref b2), .val (.long (0 : Int64)), .second, .val (.long ((0 : Int64) + (1 : Int64))), .second, .unset, .unset, .unset, .unset, .unset, .unset, .unset] [(.ref b2)])) _
      refine st9.trans ?_
      show Steps p.tables e below (T9.setTop (mkF m 50 #[.val (.long q0), .second, .val (.int p1), .val (.int (0 : Int32)), .val (.ref b2), .val (.long (0 : Int64)), .second, .val (.long ((0 : Int64) + (1 : Int64))), .second, .unset, .unset, .unset, .unset, .unset, .unset, .unset] [(.long ((0 : Int64) + (1 : Int64)))])) _
      refine XS.lstore X9.here hx rfl (hb hby at_50) rfl (l' := #[.val (.long q0), .second, .val (.int p1), .val (.int (0 : Int32)), .val (.ref b2), .val (.long (0 : Int64)), .second, .val (.long ((0 : Int64) + (1 : Int64))), .second, .val (.long ((0 : Int64) + (1 : Int64))), .second, .unset, .unset, .unset, .unset, .unset]) rfl ?_
      show Steps p.tables e below (T9.setTop (mkF m 52 #[.val (.long q0), .second, .val (.int p1), .val (.int (0 : Int32)), .val (.ref b2), .val (.long (0 : Int64)), .second, .val (.long ((0 : Int64) + (1 : Int64))), .second, .val (.long ((0 : Int64) + (1 : Int64))), .second, .unset, .unset, .unset, .unset, .unset] [])) _
      refine XS.aload X9.here hx rfl (hb hby at_52) rfl rfl ?_
      show Steps p.tables e below (T9.setTop (mkF m 54 #[.val (.long q0), .second, .val (.int p1), .val (.int (0 : Int32)), .val (.ref b2), .val (.long (0 : Int64)), .second, .val (.long ((0 : Int64) + (1 : Int64))), .second, .val (.long ((0 : Int64) + (1 : Int64))), .second, .unset, .unset, .unset, .unset, .unset] [(.ref b2)])) _
      refine st10.trans ?_
      show Steps p.tables e below (T10.setTop (mkF m 57 #[.val (.long q0), .second, .val (.int p1), .val (.int (0 : Int32)), .val (.ref b2), .val (.long (0 : Int64)), .second, .val (.long ((0 : Int64) + (1 : Int64))), .second, .val (.long ((0 : Int64) + (1 : Int64))), .second, .unset, .unset, .unset, .unset, .unset] [(.long (((0 : Int64) + (1 : Int64)) + (1 : Int64)))])) _
      refine XS.lstore X10.here hx rfl (hb hby at_57) rfl (l' := #[.val (.long q0), .second, .val (.int p1), .val (.int (0 : Int32)), .val (.ref b2), .val (.long (0 : Int64)), .second, .val (.long ((0 : Int64) + (1 : Int64))), .second, .val (.long ((0 : Int64) + (1 : Int64))), .second, .val (.long (((0 : Int64) + (1 : Int64)) + (1 : Int64))), .second, .unset, .unset, .unset]) rfl ?_
      show Steps p.tables e below (T10.setTop (mkF m 59 #[.val (.long q0), .second, .val (.int p1), .val (.int (0 : Int32)), .val (.ref b2), .val (.long (0 : Int64)), .second, .val (.long ((0 : Int64) + (1 : Int64))), .second, .val (.long ((0 : Int64) + (1 : Int64))), .second, .val (.long (((0 : Int64) + (1 : Int64)) + (1 : Int64))), .second, .unset, .unset, .unset] [])) _
      refine XS.aload X10.here hx rfl (hb hby at_59) rfl rfl ?_
      show Steps p.tables e below (T10.setTop (mkF m 61 #[.val (.long q0), .second, .val (.int p1), .val (.int (0 : Int32)), .val (.ref b2), .val (.long (0 : Int64)), .second, .val (.long ((0 : Int64) + (1 : Int64))), .second, .val (.long ((0 : Int64) + (1 : Int64))), .second, .val (.long (((0 : Int64) + (1 : Int64)) + (1 : Int64))), .second, .unset, .unset, .unset] [(.ref b2)])) _
      refine st13.trans ?_
      show Steps p.tables e below (T13.setTop (mkF m 64 #[.val (.long q0), .second, .val (.int p1), .val (.int (0 : Int32)), .val (.ref b2), .val (.long (0 : Int64)), .second, .val (.long ((0 : Int64) + (1 : Int64))), .second, .val (.long ((0 : Int64) + (1 : Int64))), .second, .val (.long (((0 : Int64) + (1 : Int64)) + (1 : Int64))), .second, .unset, .unset, .unset] [(.long (((0 : Int64) + (1 : Int64)) + (1 : Int64)))])) _
      refine XS.lstore X13.here hx rfl (hb hby at_64) rfl (l' := #[.val (.long q0), .second, .val (.int p1), .val (.int (0 : Int32)), .val (.ref b2), .val (.long (0 : Int64)), .second, .val (.long ((0 : Int64) + (1 : Int64))), .second, .val (.long ((0 : Int64) + (1 : Int64))), .second, .val (.long (((0 : Int64) + (1 : Int64)) + (1 : Int64))), .second, .val (.long (((0 : Int64) + (1 : Int64)) + (1 : Int64))), .second, .unset]) rfl ?_
      show Steps p.tables e below (T13.setTop (mkF m 66 #[.val (.long q0), .second, .val (.int p1), .val (.int (0 : Int32)), .val (.ref b2), .val (.long (0 : Int64)), .second, .val (.long ((0 : Int64) + (1 : Int64))), .second, .val (.long ((0 : Int64) + (1 : Int64))), .second, .val (.long (((0 : Int64) + (1 : Int64)) + (1 : Int64))), .second, .val (.long (((0 : Int64) + (1 : Int64)) + (1 : Int64))), .second, .unset] [])) _
      refine XS.iloadN X13.here hx rfl (hb hby at_66) rfl ?_
      show Steps p.tables e below (T13.setTop (mkF m 67 #[.val (.long q0), .second, .val (.int p1), .val (.int (0 : Int32)), .val (.ref b2), .val (.long (0 : Int64)), .second, .val (.long ((0 : Int64) + (1 : Int64))), .second, .val (.long ((0 : Int64) + (1 : Int64))), .second, .val (.long (((0 : Int64) + (1 : Int64)) + (1 : Int64))), .second, .val (.long (((0 : Int64) + (1 : Int64)) + (1 : Int64))), .second, .unset] [(.int (0 : Int32))])) _
      refine XS.ifNo X13.here hx rfl (hb hby at_67) rfl ((if0 _ _).trans (teq (by decide : (0 : Int32) = (0 : Int32))).2) ?_
      show Steps p.tables e below (T13.setTop (mkF m 70 #[.val (.long q0), .second, .val (.int p1), .val (.int (0 : Int32)), .val (.ref b2), .val (.long (0 : Int64)), .second, .val (.long ((0 : Int64) + (1 : Int64))), .second, .val (.long ((0 : Int64) + (1 : Int64))), .second, .val (.long (((0 : Int64) + (1 : Int64)) + (1 : Int64))), .second, .val (.long (((0 : Int64) + (1 : Int64)) + (1 : Int64))), .second, .unset] [])) _
      refine XS.lload X13.here hx rfl (hb hby at_70) rfl ?_
      show Steps p.tables e below (T13.setTop (mkF m 72 #[.val (.long q0), .second, .val (.int p1), .val (.int (0 : Int32)), .val (.ref b2), .val (.long (0 : Int64)), .second, .val (.long ((0 : Int64) + (1 : Int64))), .second, .val (.long ((0 : Int64) + (1 : Int64))), .second, .val (.long (((0 : Int64) + (1 : Int64)) + (1 : Int64))), .second, .val (.long (((0 : Int64) + (1 : Int64)) + (1 : Int64))), .second, .unset] [(.long (0 : Int64))])) _
      refine XS.lconst X13.here hx rfl (hb hby at_72) ?_
      show Steps p.tables e below (T13.setTop (mkF m 73 #[.val (.long q0), .second, .val (.int p1), .val (.int (0 : Int32)), .val (.ref b2), .val (.long (0 : Int64)), .second, .val (.long ((0 : Int64) + (1 : Int64))), .second, .val (.long ((0 : Int64) + (1 : Int64))), .second, .val (.long (((0 : Int64) + (1 : Int64)) + (1 : Int64))), .second, .val (.long (((0 : Int64) + (1 : Int64)) + (1 : Int64))), .second, .unset] [(.long (0 : Int64)), (.long (0 : Int64))])) _
      refine XS.lcmp X13.here hx rfl (hb hby at_73) rfl ?_
      show Steps p.tables e below (T13.setTop (mkF m 74 #[.val (.long q0), .second, .val (.int p1), .val (.int (0 : Int32)), .val (.ref b2), .val (.long (0 : Int64)), .second, .val (.long ((0 : Int64) + (1 : Int64))), .second, .val (.long ((0 : Int64) + (1 : Int64))), .second, .val (.long (((0 : Int64) + (1 : Int64)) + (1 : Int64))), .second, .val (.long (((0 : Int64) + (1 : Int64)) + (1 : Int64))), .second, .unset] [(.int (lcmpW (0 : Int64) (0 : Int64)))])) _
      refine XS.ifNo X13.here hx rfl (hb hby at_74) rfl (lcN_ne (by decide : (0 : Int64) = (0 : Int64))) ?_
      show Steps p.tables e below (T13.setTop (mkF m 77 #[.val (.long q0), .second, .val (.int p1), .val (.int (0 : Int32)), .val (.ref b2), .val (.long (0 : Int64)), .second, .val (.long ((0 : Int64) + (1 : Int64))), .second, .val (.long ((0 : Int64) + (1 : Int64))), .second, .val (.long (((0 : Int64) + (1 : Int64)) + (1 : Int64))), .second, .val (.long (((0 : Int64) + (1 : Int64)) + (1 : Int64))), .second, .unset] [])) _
      refine XS.lload X13.here hx rfl (hb hby at_77) rfl ?_
      show Steps p.tables e below (T13.setTop (mkF m 79 #[.val (.long q0), .second, .val (.int p1), .val (.int (0 : Int32)), .val (.ref b2), .val (.long (0 : Int64)), .second, .val (.long ((0 : Int64) + (1 : Int64))), .second, .val (.long ((0 : Int64) + (1 : Int64))), .second, .val (.long (((0 : Int64) + (1 : Int64)) + (1 : Int64))), .second, .val (.long (((0 : Int64) + (1 : Int64)) + (1 : Int64))), .second, .unset] [(.long ((0 : Int64) + (1 : Int64)))])) _
      refine XS.lconst X13.here hx rfl (hb hby at_79) ?_
      show Steps p.tables e below (T13.setTop (mkF m 80 #[.val (.long q0), .second, .val (.int p1), .val (.int (0 : Int32)), .val (.ref b2), .val (.long (0 : Int64)), .second, .val (.long ((0 : Int64) + (1 : Int64))), .second, .val (.long ((0 : Int64) + (1 : Int64))), .second, .val (.long (((0 : Int64) + (1 : Int64)) + (1 : Int64))), .second, .val (.long (((0 : Int64) + (1 : Int64)) + (1 : Int64))), .second, .unset] [(.long (1 : Int64)), (.long ((0 : Int64) + (1 : Int64)))])) _
      refine XS.lcmp X13.here hx rfl (hb hby at_80) rfl ?_
      show Steps p.tables e below (T13.setTop (mkF m 81 #[.val (.long q0), .second, .val (.int p1), .val (.int (0 : Int32)), .val (.ref b2), .val (.long (0 : Int64)), .second, .val (.long ((0 : Int64) + (1 : Int64))), .second, .val (.long ((0 : Int64) + (1 : Int64))), .second, .val (.long (((0 : Int64) + (1 : Int64)) + (1 : Int64))), .second, .val (.long (((0 : Int64) + (1 : Int64)) + (1 : Int64))), .second, .unset] [(.int (lcmpW ((0 : Int64) + (1 : Int64)) (1 : Int64)))])) _
      refine XS.ifNo X13.here hx rfl (hb hby at_81) rfl (lcN_ne hc81) ?_
      show Steps p.tables e below (T13.setTop (mkF m 84 #[.val (.long q0), .second, .val (.int p1), .val (.int (0 : Int32)), .val (.ref b2), .val (.long (0 : Int64)), .second, .val (.long ((0 : Int64) + (1 : Int64))), .second, .val (.long ((0 : Int64) + (1 : Int64))), .second, .val (.long (((0 : Int64) + (1 : Int64)) + (1 : Int64))), .second, .val (.long (((0 : Int64) + (1 : Int64)) + (1 : Int64))), .second, .unset] [])) _
      refine XS.iconst X13.here hx rfl (hb hby at_84) ?_
      show Steps p.tables e below (T13.setTop (mkF m 85 #[.val (.long q0), .second, .val (.int p1), .val (.int (0 : Int32)), .val (.ref b2), .val (.long (0 : Int64)), .second, .val (.long ((0 : Int64) + (1 : Int64))), .second, .val (.long ((0 : Int64) + (1 : Int64))), .second, .val (.long (((0 : Int64) + (1 : Int64)) + (1 : Int64))), .second, .val (.long (((0 : Int64) + (1 : Int64)) + (1 : Int64))), .second, .unset] [(.int (1 : Int32))])) _
      refine XS.goto X13.here hx rfl (pc0 := 85) (pc' := 89) rfl (hb hby at_85) (by decide) (by decide) ?_
      show Steps p.tables e below (T13.setTop (mkF m 89 #[.val (.long q0), .second, .val (.int p1), .val (.int (0 : Int32)), .val (.ref b2), .val (.long (0 : Int64)), .second, .val (.long ((0 : Int64) + (1 : Int64))), .second, .val (.long ((0 : Int64) + (1 : Int64))), .second, .val (.long (((0 : Int64) + (1 : Int64)) + (1 : Int64))), .second, .val (.long (((0 : Int64) + (1 : Int64)) + (1 : Int64))), .second, .unset] [(.int (1 : Int32))])) _
      refine XS.istore X13.here hx rfl (hb hby at_89) rfl (l' := #[.val (.long q0), .second, .val (.int p1), .val (.int (0 : Int32)), .val (.ref b2), .val (.long (0 : Int64)), .second, .val (.long ((0 : Int64) + (1 : Int64))), .second, .val (.long ((0 : Int64) + (1 : Int64))), .second, .val (.long (((0 : Int64) + (1 : Int64)) + (1 : Int64))), .second, .val (.long (((0 : Int64) + (1 : Int64)) + (1 : Int64))), .second, .val (.int (1 : Int32))]) rfl ?_
      show Steps p.tables e below (T13.setTop (mkF m 91 #[.val (.long q0), .second, .val (.int p1), .val (.int (0 : Int32)), .val (.ref b2), .val (.long (0 : Int64)), .second, .val (.long ((0 : Int64) + (1 : Int64))), .second, .val (.long ((0 : Int64) + (1 : Int64))), .second, .val (.long (((0 : Int64) + (1 : Int64)) + (1 : Int64))), .second, .val (.long (((0 : Int64) + (1 : Int64)) + (1 : Int64))), .second, .val (.int (1 : Int32))] [])) _
      refine XS.lload X13.here hx rfl (hb hby at_91) rfl ?_
      show Steps p.tables e below (T13.setTop (mkF m 93 #[.val (.long q0), .second, .val (.int p1), .val (.int (0 : Int32)), .val (.ref b2), .val (.long (0 : Int64)), .second, .val (.long ((0 : Int64) + (1 : Int64))), .second, .val (.long ((0 : Int64) + (1 : Int64))), .second, .val (.long (((0 : Int64) + (1 : Int64)) + (1 : Int64))), .second, .val (.long (((0 : Int64) + (1 : Int64)) + (1 : Int64))), .second, .val (.int (1 : Int32))] [(.long ((0 : Int64) + (1 : Int64)))])) _
      refine XS.lload X13.here hx rfl (hb hby at_93) rfl ?_
      show Steps p.tables e below (T13.setTop (mkF m 95 #[.val (.long q0), .second, .val (.int p1), .val (.int (0 : Int32)), .val (.ref b2), .val (.long (0 : Int64)), .second, .val (.long ((0 : Int64) + (1 : Int64))), .second, .val (.long ((0 : Int64) + (1 : Int64))), .second, .val (.long (((0 : Int64) + (1 : Int64)) + (1 : Int64))), .second, .val (.long (((0 : Int64) + (1 : Int64)) + (1 : Int64))), .second, .val (.int (1 : Int32))] [(.long (0 : Int64)), (.long ((0 : Int64) + (1 : Int64)))])) _
      refine XS.lconst X13.here hx rfl (hb hby at_95) ?_
      show Steps p.tables e below (T13.setTop (mkF m 96 #[.val (.long q0), .second, .val (.int p1), .val (.int (0 : Int32)), .val (.ref b2), .val (.long (0 : Int64)), .second, .val (.long ((0 : Int64) + (1 : Int64))), .second, .val (.long ((0 : Int64) + (1 : Int64))), .second, .val (.long (((0 : Int64) + (1 : Int64)) + (1 : Int64))), .second, .val (.long (((0 : Int64) + (1 : Int64)) + (1 : Int64))), .second, .val (.int (1 : Int32))] [(.long (1 : Int64)), (.long (0 : Int64)), (.long ((0 : Int64) + (1 : Int64)))])) _
      refine XS.ladd X13.here hx rfl (hb hby at_96) rfl ?_
      show Steps p.tables e below (T13.setTop (mkF m 97 #[.val (.long q0), .second, .val (.int p1), .val (.int (0 : Int32)), .val (.ref b2), .val (.long (0 : Int64)), .second, .val (.long ((0 : Int64) + (1 : Int64))), .second, .val (.long ((0 : Int64) + (1 : Int64))), .second, .val (.long (((0 : Int64) + (1 : Int64)) + (1 : Int64))), .second, .val (.long (((0 : Int64) + (1 : Int64)) + (1 : Int64))), .second, .val (.int (1 : Int32))] [(.long ((0 : Int64) + (1 : Int64))), (.long ((0 : Int64) + (1 : Int64)))])) _
      refine XS.lcmp X13.here hx rfl (hb hby at_97) rfl ?_
      show Steps p.tables e below (T13.setTop (mkF m 98 #[.val (.long q0), .second, .val (.int p1), .val (.int (0 : Int32)), .val (.ref b2), .val (.long (0 : Int64)), .second, .val (.long ((0 : Int64) + (1 : Int64))), .second, .val (.long ((0 : Int64) + (1 : Int64))), .second, .val (.long (((0 : Int64) + (1 : Int64)) + (1 : Int64))), .second, .val (.long (((0 : Int64) + (1 : Int64)) + (1 : Int64))), .second, .val (.int (1 : Int32))] [(.int (lcmpW ((0 : Int64) + (1 : Int64)) ((0 : Int64) + (1 : Int64))))])) _
      refine XS.ifNo X13.here hx rfl (hb hby at_98) rfl (lcN_ne (rfl : ((0 : Int64) + (1 : Int64)) = ((0 : Int64) + (1 : Int64)))) ?_
      show Steps p.tables e below (T13.setTop (mkF m 101 #[.val (.long q0), .second, .val (.int p1), .val (.int (0 : Int32)), .val (.ref b2), .val (.long (0 : Int64)), .second, .val (.long ((0 : Int64) + (1 : Int64))), .second, .val (.long ((0 : Int64) + (1 : Int64))), .second, .val (.long (((0 : Int64) + (1 : Int64)) + (1 : Int64))), .second, .val (.long (((0 : Int64) + (1 : Int64)) + (1 : Int64))), .second, .val (.int (1 : Int32))] [])) _
      refine XS.lload X13.here hx rfl (hb hby at_101) rfl ?_
      show Steps p.tables e below (T13.setTop (mkF m 103 #[.val (.long q0), .second, .val (.int p1), .val (.int (0 : Int32)), .val (.ref b2), .val (.long (0 : Int64)), .second, .val (.long ((0 : Int64) + (1 : Int64))), .second, .val (.long ((0 : Int64) + (1 : Int64))), .second, .val (.long (((0 : Int64) + (1 : Int64)) + (1 : Int64))), .second, .val (.long (((0 : Int64) + (1 : Int64)) + (1 : Int64))), .second, .val (.int (1 : Int32))] [(.long ((0 : Int64) + (1 : Int64)))])) _
      refine XS.lload X13.here hx rfl (hb hby at_103) rfl ?_
      show Steps p.tables e below (T13.setTop (mkF m 105 #[.val (.long q0), .second, .val (.int p1), .val (.int (0 : Int32)), .val (.ref b2), .val (.long (0 : Int64)), .second, .val (.long ((0 : Int64) + (1 : Int64))), .second, .val (.long ((0 : Int64) + (1 : Int64))), .second, .val (.long (((0 : Int64) + (1 : Int64)) + (1 : Int64))), .second, .val (.long (((0 : Int64) + (1 : Int64)) + (1 : Int64))), .second, .val (.int (1 : Int32))] [(.long ((0 : Int64) + (1 : Int64))), (.long ((0 : Int64) + (1 : Int64)))])) _
      refine XS.lcmp X13.here hx rfl (hb hby at_105) rfl ?_
      show Steps p.tables e below (T13.setTop (mkF m 106 #[.val (.long q0), .second, .val (.int p1), .val (.int (0 : Int32)), .val (.ref b2), .val (.long (0 : Int64)), .second, .val (.long ((0 : Int64) + (1 : Int64))), .second, .val (.long ((0 : Int64) + (1 : Int64))), .second, .val (.long (((0 : Int64) + (1 : Int64)) + (1 : Int64))), .second, .val (.long (((0 : Int64) + (1 : Int64)) + (1 : Int64))), .second, .val (.int (1 : Int32))] [(.int (lcmpW ((0 : Int64) + (1 : Int64)) ((0 : Int64) + (1 : Int64))))])) _
      refine XS.ifNo X13.here hx rfl (hb hby at_106) rfl (lcN_ne (rfl : ((0 : Int64) + (1 : Int64)) = ((0 : Int64) + (1 : Int64)))) ?_
      show Steps p.tables e below (T13.setTop (mkF m 109 #[.val (.long q0), .second, .val (.int p1), .val (.int (0 : Int32)), .val (.ref b2), .val (.long (0 : Int64)), .second, .val (.long ((0 : Int64) + (1 : Int64))), .second, .val (.long ((0 : Int64) + (1 : Int64))), .second, .val (.long (((0 : Int64) + (1 : Int64)) + (1 : Int64))), .second, .val (.long (((0 : Int64) + (1 : Int64)) + (1 : Int64))), .second, .val (.int (1 : Int32))] [])) _
      refine XS.lload X13.here hx rfl (hb hby at_109) rfl ?_
      show Steps p.tables e below (T13.setTop (mkF m 111 #[.val (.long q0), .second, .val (.int p1), .val (.int (0 : Int32)), .val (.ref b2), .val (.long (0 : Int64)), .second, .val (.long ((0 : Int64) + (1 : Int64))), .second, .val (.long ((0 : Int64) + (1 : Int64))), .second, .val (.long (((0 : Int64) + (1 : Int64)) + (1 : Int64))), .second, .val (.long (((0 : Int64) + (1 : Int64)) + (1 : Int64))), .second, .val (.int (1 : Int32))] [(.long (((0 : Int64) + (1 : Int64)) + (1 : Int64)))])) _
      refine XS.lload X13.here hx rfl (hb hby at_111) rfl ?_
      show Steps p.tables e below (T13.setTop (mkF m 113 #[.val (.long q0), .second, .val (.int p1), .val (.int (0 : Int32)), .val (.ref b2), .val (.long (0 : Int64)), .second, .val (.long ((0 : Int64) + (1 : Int64))), .second, .val (.long ((0 : Int64) + (1 : Int64))), .second, .val (.long (((0 : Int64) + (1 : Int64)) + (1 : Int64))), .second, .val (.long (((0 : Int64) + (1 : Int64)) + (1 : Int64))), .second, .val (.int (1 : Int32))] [(.long ((0 : Int64) + (1 : Int64))), (.long (((0 : Int64) + (1 : Int64)) + (1 : Int64)))])) _
      refine XS.lconst X13.here hx rfl (hb hby at_113) ?_
      show Steps p.tables e below (T13.setTop (mkF m 114 #[.val (.long q0), .second, .val (.int p1), .val (.int (0 : Int32)), .val (.ref b2), .val (.long (0 : Int64)), .second, .val (.long ((0 : Int64) + (1 : Int64))), .second, .val (.long ((0 : Int64) + (1 : Int64))), .second, .val (.long (((0 : Int64) + (1 : Int64)) + (1 : Int64))), .second, .val (.long (((0 : Int64) + (1 : Int64)) + (1 : Int64))), .second, .val (.int (1 : Int32))] [(.long (1 : Int64)), (.long ((0 : Int64) + (1 : Int64))), (.long (((0 : Int64) + (1 : Int64)) + (1 : Int64)))])) _
      refine XS.ladd X13.here hx rfl (hb hby at_114) rfl ?_
      show Steps p.tables e below (T13.setTop (mkF m 115 #[.val (.long q0), .second, .val (.int p1), .val (.int (0 : Int32)), .val (.ref b2), .val (.long (0 : Int64)), .second, .val (.long ((0 : Int64) + (1 : Int64))), .second, .val (.long ((0 : Int64) + (1 : Int64))), .second, .val (.long (((0 : Int64) + (1 : Int64)) + (1 : Int64))), .second, .val (.long (((0 : Int64) + (1 : Int64)) + (1 : Int64))), .second, .val (.int (1 : Int32))] [(.long (((0 : Int64) + (1 : Int64)) + (1 : Int64))), (.long (((0 : Int64) + (1 : Int64)) + (1 : Int64)))])) _
      refine XS.lcmp X13.here hx rfl (hb hby at_115) rfl ?_
      show Steps p.tables e below (T13.setTop (mkF m 116 #[.val (.long q0), .second, .val (.int p1), .val (.int (0 : Int32)), .val (.ref b2), .val (.long (0 : Int64)), .second, .val (.long ((0 : Int64) + (1 : Int64))), .second, .val (.long ((0 : Int64) + (1 : Int64))), .second, .val (.long (((0 : Int64) + (1 : Int64)) + (1 : Int64))), .second, .val (.long (((0 : Int64) + (1 : Int64)) + (1 : Int64))), .second, .val (.int (1 : Int32))] [(.int (lcmpW (((0 : Int64) + (1 : Int64)) + (1 : Int64)) (((0 : Int64) + (1 : Int64)) + (1 : Int64))))])) _
      refine XS.ifNo X13.here hx rfl (hb hby at_116) rfl (lcN_ne (rfl : (((0 : Int64) + (1 : Int64)) + (1 : Int64)) = (((0 : Int64) + (1 : Int64)) + (1 : Int64)))) ?_
      show Steps p.tables e below (T13.setTop (mkF m 119 #[.val (.long q0), .second, .val (.int p1), .val (.int (0 : Int32)), .val (.ref b2), .val (.long (0 : Int64)), .second, .val (.long ((0 : Int64) + (1 : Int64))), .second, .val (.long ((0 : Int64) + (1 : Int64))), .second, .val (.long (((0 : Int64) + (1 : Int64)) + (1 : Int64))), .second, .val (.long (((0 : Int64) + (1 : Int64)) + (1 : Int64))), .second, .val (.int (1 : Int32))] [])) _
      refine XS.lload X13.here hx rfl (hb hby at_119) rfl ?_
      show Steps p.tables e below (T13.setTop (mkF m 121 #[.val (.long q0), .second, .val (.int p1), .val (.int (0 : Int32)), .val (.ref b2), .val (.long (0 : Int64)), .second, .val (.long ((0 : Int64) + (1 : Int64))), .second, .val (.long ((0 : Int64) + (1 : Int64))), .second, .val (.long (((0 : Int64) + (1 : Int64)) + (1 : Int64))), .second, .val (.long (((0 : Int64) + (1 : Int64)) + (1 : Int64))), .second, .val (.int (1 : Int32))] [(.long (((0 : Int64) + (1 : Int64)) + (1 : Int64)))])) _
      refine XS.lload X13.here hx rfl (hb hby at_121) rfl ?_
      show Steps p.tables e below (T13.setTop (mkF m 123 #[.val (.long q0), .second, .val (.int p1), .val (.int (0 : Int32)), .val (.ref b2), .val (.long (0 : Int64)), .second, .val (.long ((0 : Int64) + (1 : Int64))), .second, .val (.long ((0 : Int64) + (1 : Int64))), .second, .val (.long (((0 : Int64) + (1 : Int64)) + (1 : Int64))), .second, .val (.long (((0 : Int64) + (1 : Int64)) + (1 : Int64))), .second, .val (.int (1 : Int32))] [(.long (((0 : Int64) + (1 : Int64)) + (1 : Int64))), (.long (((0 : Int64) + (1 : Int64)) + (1 : Int64)))])) _
      refine XS.lcmp X13.here hx rfl (hb hby at_123) rfl ?_
      show Steps p.tables e below (T13.setTop (mkF m 124 #[.val (.long q0), .second, .val (.int p1), .val (.int (0 : Int32)), .val (.ref b2), .val (.long (0 : Int64)), .second, .val (.long ((0 : Int64) + (1 : Int64))), .second, .val (.long ((0 : Int64) + (1 : Int64))), .second, .val (.long (((0 : Int64) + (1 : Int64)) + (1 : Int64))), .second, .val (.long (((0 : Int64) + (1 : Int64)) + (1 : Int64))), .second, .val (.int (1 : Int32))] [(.int (lcmpW (((0 : Int64) + (1 : Int64)) + (1 : Int64)) (((0 : Int64) + (1 : Int64)) + (1 : Int64))))])) _
      refine XS.ifNo X13.here hx rfl (hb hby at_124) rfl (lcN_ne (rfl : (((0 : Int64) + (1 : Int64)) + (1 : Int64)) = (((0 : Int64) + (1 : Int64)) + (1 : Int64)))) ?_
      show Steps p.tables e below (T13.setTop (mkF m 127 #[.val (.long q0), .second, .val (.int p1), .val (.int (0 : Int32)), .val (.ref b2), .val (.long (0 : Int64)), .second, .val (.long ((0 : Int64) + (1 : Int64))), .second, .val (.long ((0 : Int64) + (1 : Int64))), .second, .val (.long (((0 : Int64) + (1 : Int64)) + (1 : Int64))), .second, .val (.long (((0 : Int64) + (1 : Int64)) + (1 : Int64))), .second, .val (.int (1 : Int32))] [])) _
      refine XS.iload X13.here hx rfl (hb hby at_127) rfl ?_
      show Steps p.tables e below (T13.setTop (mkF m 129 #[.val (.long q0), .second, .val (.int p1), .val (.int (0 : Int32)), .val (.ref b2), .val (.long (0 : Int64)), .second, .val (.long ((0 : Int64) + (1 : Int64))), .second, .val (.long ((0 : Int64) + (1 : Int64))), .second, .val (.long (((0 : Int64) + (1 : Int64)) + (1 : Int64))), .second, .val (.long (((0 : Int64) + (1 : Int64)) + (1 : Int64))), .second, .val (.int (1 : Int32))] [(.int (1 : Int32))])) _
      refine XS.ifNo X13.here hx rfl (hb hby at_129) rfl ((if0 _ _).trans (feq (by decide : ¬ ((1 : Int32) = (0 : Int32)))).1) ?_
      show Steps p.tables e below (T13.setTop (mkF m 132 #[.val (.long q0), .second, .val (.int p1), .val (.int (0 : Int32)), .val (.ref b2), .val (.long (0 : Int64)), .second, .val (.long ((0 : Int64) + (1 : Int64))), .second, .val (.long ((0 : Int64) + (1 : Int64))), .second, .val (.long (((0 : Int64) + (1 : Int64)) + (1 : Int64))), .second, .val (.long (((0 : Int64) + (1 : Int64)) + (1 : Int64))), .second, .val (.int (1 : Int32))] [])) _
      refine XS.iconst X13.here hx rfl (hb hby at_132) ?_
      show Steps p.tables e below (T13.setTop (mkF m 133 #[.val (.long q0), .second, .val (.int p1), .val (.int (0 : Int32)), .val (.ref b2), .val (.long (0 : Int64)), .second, .val (.long ((0 : Int64) + (1 : Int64))), .second, .val (.long ((0 : Int64) + (1 : Int64))), .second, .val (.long (((0 : Int64) + (1 : Int64)) + (1 : Int64))), .second, .val (.long (((0 : Int64) + (1 : Int64)) + (1 : Int64))), .second, .val (.int (1 : Int32))] [(.int (1 : Int32))])) _
      refine XS.goto X13.here hx rfl (pc0 := 133) (pc' := 137) rfl (hb hby at_133) (by decide) (by decide) ?_
      show Steps p.tables e below (T13.setTop (mkF m 137 #[.val (.long q0), .second, .val (.int p1), .val (.int (0 : Int32)), .val (.ref b2), .val (.long (0 : Int64)), .second, .val (.long ((0 : Int64) + (1 : Int64))), .second, .val (.long ((0 : Int64) + (1 : Int64))), .second, .val (.long (((0 : Int64) + (1 : Int64)) + (1 : Int64))), .second, .val (.long (((0 : Int64) + (1 : Int64)) + (1 : Int64))), .second, .val (.int (1 : Int32))] [(.int (1 : Int32))])) _
      exact retN X13 hx (t := .boolean) Bd.returns (by simp) (hb hby at_137) hr
    · show Q0 Z q0 p1 h0 n0 _ T13.heap _
      rw [e13]
      exact ⟨rfl, N13⟩
  · obtain ⟨T14, h14, X14, e14, E14, A14, D14, -, st14⟩ := newO X0 hx hZ hown (hw _ (List.mem_of_getElem? (i := 0) rfl)) (hw _ (List.mem_of_getElem? (i := 1) rfl)) (hw _ (List.mem_of_getElem? (i := 2) rfl)) e0 (g := (mkF m 12 #[.val (.long q0), .second, .val (.int p1), .val (.int (1 : Int32)), .unset, .unset, .unset, .unset, .unset, .unset, .unset, .unset, .unset, .unset, .unset, .unset] [])) rfl (hb hby at_12) (by decide) (by decide)
    obtain ⟨b14, g14⟩ : ∃ z, z = h0.size := ⟨_, rfl⟩
    rw [← g14] at A14 D14 st14
    have g_b14 : n0 ≤ b14 := Nat.le_trans Z0 (Nat.le_of_eq g14.symm)
    have Z14 := Nat.le_trans Z0 E14.1
    have fF15 : Fld Z h14 b14 "com/example/aveiro/aveiro/lock/LamportClock" "time" "J" (.long (0 : Int64)) := D14 (Or.inl (hw _ (List.mem_of_getElem? (i := 15) rfl))) (ty := .long) (by decide)
    obtain ⟨_, _, ⟨T16, L16, k16, n16⟩, -, X16, ⟨Lc16, hQ16, l16, y16, z16⟩, st16⟩ := X14.specialBack hx (y := (⟨"com/example/aveiro/aveiro/lock/LamportClock", "<init>", "()V"⟩ : MethodName)) rfl hown (mvT hZ (hw _ (List.mem_of_getElem? (i := 3) rfl))) (mvT hZ (hw _ (List.mem_of_getElem? (i := 4) rfl))) (mvT hZ (hw _ (List.mem_of_getElem? (i := 5) rfl))) (by decide) (backOf (W := 1) (rm1 l Z a0 hw [] b14 h14 n0 Z14) hZ (hw _ (List.mem_of_getElem? (i := 5) rfl)) (hw _ (List.mem_of_getElem? (i := 2) rfl)) (by decide) (by decide)) (g := (mkF m 16 #[.val (.long q0), .second, .val (.int p1), .val (.int (1 : Int32)), .unset, .unset, .unset, .unset, .unset, .unset, .unset, .unset, .unset, .unset, .unset, .unset] [(.ref b14), (.ref b14)])) rfl (by rw [hml]; rfl) (Steps.refl _) (a := b14) (argsL := []) (rest := [(.ref b14)]) (lenOf pd_0 rfl) rfl (by show 2 * 0 + _ ≤ _; exact Nat.le_of_eq rfl) (hb hby at_16) (fun _ _ => ⟨rfl, e14, (by decide : 1 + 0 ≤ _), (by decide : 1 + 0 ≤ _)⟩)
    dsimp only [Pt.U, Pt.locs, Pt.cells, Pt.slots] at X16 l16 y16 z16 st16 hQ16
    subst l16 y16 z16
    obtain ⟨rfl, N16q, e16⟩ := hQ16
    have N16 := Fr.app N0 N16q
    obtain ⟨cq17, kq17, q17a, q17b, q17c⟩ := isOf hZ e16 A14
    obtain ⟨_, _, ⟨T17, L17, k17, n17⟩, -, X17, ⟨Lc17, hQ17, l17, y17, z17⟩, st17⟩ := X16.virtualBack hx (y := (⟨"com/example/aveiro/aveiro/lock/LamportClock", "receive", "(J)V"⟩ : MethodName)) (z := (⟨"com/example/aveiro/aveiro/lock/LamportClock", "receive", "(J)V"⟩ : MethodName)) hown (mvT hZ (hw _ (List.mem_of_getElem? (i := 21) rfl))) (mvT hZ (hw _ (List.mem_of_getElem? (i := 22) rfl))) (notFace_of_selects (args := #[]) (mvT hZ (hw _ (List.mem_of_getElem? (i := 24) rfl)))) (mvT hZ (hw _ (List.mem_of_getElem? (i := 24) rfl))) (mvT hZ (hw _ (List.mem_of_getElem? (i := 23) rfl))) (by decide) (backOf (W := 0) (rm5 l Z a0 hw [] b14 q0 (0 : Int64) h14 n0 Z14 fF15 A14 g_b14) hZ (hw _ (List.mem_of_getElem? (i := 25) rfl)) (hw _ (List.mem_of_getElem? (i := 2) rfl)) (by decide) (by decide)) q17a q17c (g := (mkF m 28 #[.val (.long q0), .second, .val (.int p1), .val (.int (1 : Int32)), .val (.ref b14), .unset, .unset, .unset, .unset, .unset, .unset, .unset, .unset, .unset, .unset, .unset] [(.long q0), (.ref b14)])) rfl (by rw [hml]; rfl) (Steps.refl _) (argsL := [(.long q0)]) (rest := []) (lenOf pd_3 rfl) rfl (by show 2 * 0 + _ ≤ _; exact Nat.le_of_eq rfl) (hb hby at_28) (fun _ _ => ⟨rfl, e16, (by decide : 1 + 0 ≤ _), (by decide : 1 + 0 ≤ _)⟩)
    dsimp only [Pt.U, Pt.locs, Pt.cells, Pt.slots] at X17 l17 y17 z17 st17 hQ17
    subst l17 y17 z17
    obtain ⟨rfl, N17q, K17, G18, G19⟩ := hQ17
    have Z17 := Nat.le_trans Z14 K17.1
    have N17 := Fr.app N16 N17q
    obtain ⟨cq20, kq20, q20a, q20b, q20c⟩ := isOf hZ rfl G18
    obtain ⟨_, _, ⟨T20, L20, k20, n20⟩, -, X20, ⟨Lc20, hQ20, l20, y20, z20⟩, st20⟩ := X17.virtualBack hx (y := (⟨"com/example/aveiro/aveiro/lock/LamportClock", "time", "()J"⟩ : MethodName)) (z := (⟨"com/example/aveiro/aveiro/lock/LamportClock", "time", "()J"⟩ : MethodName)) hown (mvT hZ (hw _ (List.mem_of_getElem? (i := 9) rfl))) (mvT hZ (hw _ (List.mem_of_getElem? (i := 10) rfl))) (notFace_of_selects (args := #[]) (mvT hZ (hw _ (List.mem_of_getElem? (i := 12) rfl)))) (mvT hZ (hw _ (List.mem_of_getElem? (i := 12) rfl))) (mvT hZ (hw _ (List.mem_of_getElem? (i := 11) rfl))) (by decide) (backOf (W := 0) (rm3 l Z a0 hw [] b14 ((F6 (0 : Int64) q0) + (1 : Int64)) T17.heap n0 Z17 G19) hZ (hw _ (List.mem_of_getElem? (i := 13) rfl)) (hw _ (List.mem_of_getElem? (i := 2) rfl)) (by decide) (by decide)) q20a q20c (g := (mkF m 33 #[.val (.long q0), .second, .val (.int p1), .val (.int (1 : Int32)), .val (.ref b14), .unset, .unset, .unset, .unset, .unset, .unset, .unset, .unset, .unset, .unset, .unset] [(.ref b14)])) rfl (by rw [hml]; rfl) (Steps.refl _) (argsL := []) (rest := []) (lenOf pd_1 rfl) rfl (by show 2 * 0 + _ ≤ _; exact Nat.le_of_eq rfl) (hb hby at_33) (fun _ _ => ⟨rfl, rfl, (by decide : 1 + 0 ≤ _), (by decide : 1 + 0 ≤ _)⟩)
    dsimp only [Pt.U, Pt.locs, Pt.cells, Pt.slots] at X20 l20 y20 z20 st20 hQ20
    subst l20 y20 z20
    obtain ⟨rfl, N20q, e20⟩ := hQ20
    have N20 := Fr.app N17 N20q
    obtain ⟨cq21, kq21, q21a, q21b, q21c⟩ := isOf hZ e20 G18
    obtain ⟨_, _, ⟨T21, L21, k21, n21⟩, -, X21, ⟨Lc21, hQ21, l21, y21, z21⟩, st21⟩ := X20.virtualBack hx (y := (⟨"com/example/aveiro/aveiro/lock/LamportClock", "advance", "()J"⟩ : MethodName)) (z := (⟨"com/example/aveiro/aveiro/lock/LamportClock", "advance", "()J"⟩ : MethodName)) hown (mvT hZ (hw _ (List.mem_of_getElem? (i := 16) rfl))) (mvT hZ (hw _ (List.mem_of_getElem? (i := 17) rfl))) (notFace_of_selects (args := #[]) (mvT hZ (hw _ (List.mem_of_getElem? (i := 19) rfl)))) (mvT hZ (hw _ (List.mem_of_getElem? (i := 19) rfl))) (mvT hZ (hw _ (List.mem_of_getElem? (i := 18) rfl))) (by decide) (backOf (W := 0) (rm4 l Z a0 hw [] b14 ((F6 (0 : Int64) q0) + (1 : Int64)) T17.heap n0 Z17 G19 G18 g_b14) hZ (hw _ (List.mem_of_getElem? (i := 20) rfl)) (hw _ (List.mem_of_getElem? (i := 2) rfl)) (by decide) (by decide)) q21a q21c (g := (mkF m 40 #[.val (.long q0), .second, .val (.int p1), .val (.int (1 : Int32)), .val (.ref b14), .val (.long ((F6 (0 : Int64) q0) + (1 : Int64))), .second, .unset, .unset, .unset, .unset, .unset, .unset, .unset, .unset, .unset] [(.ref b14)])) rfl (by rw [hml]; rfl) (Steps.refl _) (argsL := []) (rest := []) (lenOf pd_1 rfl) rfl (by show 2 * 0 + _ ≤ _; exact Nat.le_of_eq rfl) (hb hby at_40) (fun _ _ => ⟨rfl, e20, (by decide : 1 + 0 ≤ _), (by decide : 1 + 0 ≤ _)⟩)
    dsimp only [Pt.U, Pt.locs, Pt.cells, Pt.slots] at X21 l21 y21 z21 st21 hQ21
    subst l21 y21 z21
    obtain ⟨rfl, N21q, K21, G22, G23⟩ := hQ21
    have Z21 := Nat.le_trans Z17 K21.1
    have N21 := Fr.app N20 N21q
    obtain ⟨cq24, kq24, q24a, q24b, q24c⟩ := isOf hZ rfl G22
    obtain ⟨_, _, ⟨T24, L24, k24, n24⟩, -, X24, ⟨Lc24, hQ24, l24, y24, z24⟩, st24⟩ := X21.virtualBack hx (y := (⟨"com/example/aveiro/aveiro/lock/LamportClock", "time", "()J"⟩ : MethodName)) (z := (⟨"com/example/aveiro/aveiro/lock/LamportClock", "time", "()J"⟩ : MethodName)) hown (mvT hZ (hw _ (List.mem_of_getElem? (i := 9) rfl))) (mvT hZ (hw _ (List.mem_of_getElem? (i := 10) rfl))) (notFace_of_selects (args := #[]) (mvT hZ (hw _ (List.mem_of_getElem? (i := 12) rfl)))) (mvT hZ (hw _ (List.mem_of_getElem? (i := 12) rfl))) (mvT hZ (hw _ (List.mem_of_getElem? (i := 11) rfl))) (by decide) (backOf (W := 0) (rm3 l Z a0 hw [] b14 (((F6 (0 : Int64) q0) + (1 : Int64)) + (1 : Int64)) T21.heap n0 Z21 G23) hZ (hw _ (List.mem_of_getElem? (i := 13) rfl)) (hw _ (List.mem_of_getElem? (i := 2) rfl)) (by decide) (by decide)) q24a q24c (g := (mkF m 47 #[.val (.long q0), .second, .val (.int p1), .val (.int (1 : Int32)), .val (.ref b14), .val (.long ((F6 (0 : Int64) q0) + (1 : Int64))), .second, .val (.long (((F6 (0 : Int64) q0) + (1 : Int64)) + (1 : Int64))), .second, .unset, .unset, .unset, .unset, .unset, .unset, .unset] [(.ref b14)])) rfl (by rw [hml]; rfl) (Steps.refl _) (argsL := []) (rest := []) (lenOf pd_1 rfl) rfl (by show 2 * 0 + _ ≤ _; exact Nat.le_of_eq rfl) (hb hby at_47) (fun _ _ => ⟨rfl, rfl, (by decide : 1 + 0 ≤ _), (by decide : 1 + 0 ≤ _)⟩)
    dsimp only [Pt.U, Pt.locs, Pt.cells, Pt.slots] at X24 l24 y24 z24 st24 hQ24
    subst l24 y24 z24
    obtain ⟨rfl, N24q, e24⟩ := hQ24
    have N24 := Fr.app N21 N24q
    obtain ⟨cq25, kq25, q25a, q25b, q25c⟩ := isOf hZ e24 G22
    obtain ⟨_, _, ⟨T25, L25, k25, n25⟩, -, X25, ⟨Lc25, hQ25, l25, y25, z25⟩, st25⟩ := X24.virtualBack hx (y := (⟨"com/example/aveiro/aveiro/lock/LamportClock", "advance", "()J"⟩ : MethodName)) (z := (⟨"com/example/aveiro/aveiro/lock/LamportClock", "advance", "()J"⟩ : MethodName)) hown (mvT hZ (hw _ (List.mem_of_getElem? (i := 16) rfl))) (mvT hZ (hw _ (List.mem_of_getElem? (i := 17) rfl))) (notFace_of_selects (args := #[]) (mvT hZ (hw _ (List.mem_of_getElem? (i := 19) rfl)))) (mvT hZ (hw _ (List.mem_of_getElem? (i := 19) rfl))) (mvT hZ (hw _ (List.mem_of_getElem? (i := 18) rfl))) (by decide) (backOf (W := 0) (rm4 l Z a0 hw [] b14 (((F6 (0 : Int64) q0) + (1 : Int64)) + (1 : Int64)) T21.heap n0 Z21 G23 G22 g_b14) hZ (hw _ (List.mem_of_getElem? (i := 20) rfl)) (hw _ (List.mem_of_getElem? (i := 2) rfl)) (by decide) (by decide)) q25a q25c (g := (mkF m 54 #[.val (.long q0), .second, .val (.int p1), .val (.int (1 : Int32)), .val (.ref b14), .val (.long ((F6 (0 : Int64) q0) + (1 : Int64))), .second, .val (.long (((F6 (0 : Int64) q0) + (1 : Int64)) + (1 : Int64))), .second, .val (.long (((F6 (0 : Int64) q0) + (1 : Int64)) + (1 : Int64))), .second, .unset, .unset, .unset, .unset, .unset] [(.ref b14)])) rfl (by rw [hml]; rfl) (Steps.refl _) (argsL := []) (rest := []) (lenOf pd_1 rfl) rfl (by show 2 * 0 + _ ≤ _; exact Nat.le_of_eq rfl) (hb hby at_54) (fun _ _ => ⟨rfl, e24, (by decide : 1 + 0 ≤ _), (by decide : 1 + 0 ≤ _)⟩)
    dsimp only [Pt.U, Pt.locs, Pt.cells, Pt.slots] at X25 l25 y25 z25 st25 hQ25
    subst l25 y25 z25
    obtain ⟨rfl, N25q, K25, G26, G27⟩ := hQ25
    have Z25 := Nat.le_trans Z21 K25.1
    have N25 := Fr.app N24 N25q
    obtain ⟨cq28, kq28, q28a, q28b, q28c⟩ := isOf hZ rfl G26
    obtain ⟨_, _, ⟨T28, L28, k28, n28⟩, -, X28, ⟨Lc28, hQ28, l28, y28, z28⟩, st28⟩ := X25.virtualBack hx (y := (⟨"com/example/aveiro/aveiro/lock/LamportClock", "time", "()J"⟩ : MethodName)) (z := (⟨"com/example/aveiro/aveiro/lock/LamportClock", "time", "()J"⟩ : MethodName)) hown (mvT hZ (hw _ (List.mem_of_getElem? (i := 9) rfl))) (mvT hZ (hw _ (List.mem_of_getElem? (i := 10) rfl))) (notFace_of_selects (args := #[]) (mvT hZ (hw _ (List.mem_of_getElem? (i := 12) rfl)))) (mvT hZ (hw _ (List.mem_of_getElem? (i := 12) rfl))) (mvT hZ (hw _ (List.mem_of_getElem? (i := 11) rfl))) (by decide) (backOf (W := 0) (rm3 l Z a0 hw [] b14 ((((F6 (0 : Int64) q0) + (1 : Int64)) + (1 : Int64)) + (1 : Int64)) T25.heap n0 Z25 G27) hZ (hw _ (List.mem_of_getElem? (i := 13) rfl)) (hw _ (List.mem_of_getElem? (i := 2) rfl)) (by decide) (by decide)) q28a q28c (g := (mkF m 61 #[.val (.long q0), .second, .val (.int p1), .val (.int (1 : Int32)), .val (.ref b14), .val (.long ((F6 (0 : Int64) q0) + (1 : Int64))), .second, .val (.long (((F6 (0 : Int64) q0) + (1 : Int64)) + (1 : Int64))), .second, .val (.long (((F6 (0 : Int64) q0) + (1 : Int64)) + (1 : Int64))), .second, .val (.long ((((F6 (0 : Int64) q0) + (1 : Int64)) + (1 : Int64)) + (1 : Int64))), .second, .unset, .unset, .unset] [(.ref b14)])) rfl (by rw [hml]; rfl) (Steps.refl _) (argsL := []) (rest := []) (lenOf pd_1 rfl) rfl (by show 2 * 0 + _ ≤ _; exact Nat.le_of_eq rfl) (hb hby at_61) (fun _ _ => ⟨rfl, rfl, (by decide : 1 + 0 ≤ _), (by decide : 1 + 0 ≤ _)⟩)
    dsimp only [Pt.U, Pt.locs, Pt.cells, Pt.slots] at X28 l28 y28 z28 st28 hQ28
    subst l28 y28 z28
    obtain ⟨rfl, N28q, e28⟩ := hQ28
    have N28 := Fr.app N25 N28q
    obtain ⟨fs, hr, hrun, hended, hW, hsame⟩ := X28.leave (v := some (.int (1 : Int32))) (fun h => by rw [Bd.returns] at h; cases h)
    refine ⟨_, _, pre1 _ ?_, hrun, hended, _, _, rfl, ?_, ⟨_, rfl⟩, hW, hsame.mono (by decide) (by decide)⟩
    · show Steps p.tables e below (s₁.setTop (mkF m 3 #[.val (.long q0), .second, .val (.int p1), .unset, .unset, .unset, .unset, .unset, .unset, .unset, .unset, .unset, .unset, .unset, .unset, .unset] [(.int (p1 &&& (1 : Int32)))])) _
      refine XS.ifNo X0.here hx rfl (hb hby at_3) rfl ((if0 _ _).trans (feq hc3).1) ?_
      show Steps p.tables e below (s₁.setTop (mkF m 6 #[.val (.long q0), .second, .val (.int p1), .unset, .unset, .unset, .unset, .unset, .unset, .unset, .unset, .unset, .unset, .unset, .unset, .unset] [])) _
      refine XS.iconst X0.here hx rfl (hb hby at_6) ?_
      show Steps p.tables e below (s₁.setTop (mkF m 7 #[.val (.long q0), .second, .val (.int p1), .unset, .unset, .unset, .unset, .unset, .unset, .unset, .unset, .unset, .unset, .unset, .unset, .unset] [(.int (1 : Int32))])) _
      refine XS.goto X0.here hx rfl (pc0 := 7) (pc' := 11) rfl (hb hby at_7) (by decide) (by decide) ?_
      show Steps p.tables e below (s₁.setTop (mkF m 11 #[.val (.long q0), .second, .val (.int p1), .unset, .unset, .unset, .unset, .unset, .unset, .unset, .unset, .unset, .unset, .unset, .unset, .unset] [(.int (1 : Int32))])) _
      refine XS.istoreN X0.here hx rfl (hb hby at_11) rfl (l' := #[.val (.long q0), .second, .val (.int p1), .val (.int (1 : Int32)), .unset, .unset, .unset, .unset, .unset, .unset, .unset, .unset, .unset, .unset, .unset, .unset]) rfl ?_
      show Steps p.tables e below (s₁.setTop (mkF m 12 #[.val (.long q0), .second, .val (.int p1), .val (.int (1 : Int32)), .unset, .unset, .unset, .unset, .unset, .unset, .unset, .unset, .unset, .unset, .unset, .unset] [])) _
      refine st14 _ ?_
      show Steps p.tables e below (T14.setTop (mkF m 15 #[.val (.long q0), .second, .val (.int p1), .val (.int (1 : Int32)), .unset, .unset, .unset, .unset, .unset, .unset, .unset, .unset, .unset, .unset, .unset, .unset] [(.ref b14)])) _
      refine XS.dup X14.here hx rfl (hb hby at_15) rfl rfl ?_
      show Steps p.tables e below (T14.setTop (mkF m 16 #[.val (.long q0), .second, .val (.int p1), .val (.int (1 : Int32)), .unset, .unset, .unset, .unset, .unset, .unset, .unset, .unset, .unset, .unset, .unset, .unset] [(.ref b14), (.ref b14)])) _
      refine st16.trans ?_
      show Steps p.tables e below (T16.setTop (mkF m 19 #[.val (.long q0), .second, .val (.int p1), .val (.int (1 : Int32)), .unset, .unset, .unset, .unset, .unset, .unset, .unset, .unset, .unset, .unset, .unset, .unset] [(.ref b14)])) _
      refine XS.astore X16.here hx rfl (hb hby at_19) rfl rfl (l' := #[.val (.long q0), .second, .val (.int p1), .val (.int (1 : Int32)), .val (.ref b14), .unset, .unset, .unset, .unset, .unset, .unset, .unset, .unset, .unset, .unset, .unset]) rfl ?_
      show Steps p.tables e below (T16.setTop (mkF m 21 #[.val (.long q0), .second, .val (.int p1), .val (.int (1 : Int32)), .val (.ref b14), .unset, .unset, .unset, .unset, .unset, .unset, .unset, .unset, .unset, .unset, .unset] [])) _
      refine XS.iloadN X16.here hx rfl (hb hby at_21) rfl ?_
      show Steps p.tables e below (T16.setTop (mkF m 22 #[.val (.long q0), .second, .val (.int p1), .val (.int (1 : Int32)), .val (.ref b14), .unset, .unset, .unset, .unset, .unset, .unset, .unset, .unset, .unset, .unset, .unset] [(.int (1 : Int32))])) _
      refine XS.ifNo X16.here hx rfl (hb hby at_22) rfl ((if0 _ _).trans (feq (by decide : ¬ ((1 : Int32) = (0 : Int32)))).1) ?_
      show Steps p.tables e below (T16.setTop (mkF m 25 #[.val (.long q0), .second, .val (.int p1), .val (.int (1 : Int32)), .val (.ref b14), .unset, .unset, .unset, .unset, .unset, .unset, .unset, .unset, .unset, .unset, .unset] [])) _
      refine XS.aload X16.here hx rfl (hb hby at_25) rfl rfl ?_
      show Steps p.tables e below (T16.setTop (mkF m 27 #[.val (.long q0), .second, .val (.int p1), .val (.int (1 : Int32)), .val (.ref b14), .unset, .unset, .unset, .unset, .unset, .unset, .unset, .unset, .unset, .unset, .unset] [(.ref b14)])) _
      refine XS.lloadN X16.here hx rfl (hb hby at_27) rfl ?_
      show Steps p.tables e below (T16.setTop (mkF m 28 #[.val (.long q0), .second, .val (.int p1), .val (.int (1 : Int32)), .val (.ref b14), .unset, .unset, .unset, .unset, .unset, .unset, .unset, .unset, .unset, .unset, .unset] [(.long q0), (.ref b14)])) _
      refine st17.trans ?_
      show Steps p.tables e below (T17.setTop (mkF m 31 #[.val (.long q0), .second, .val (.int p1), .val (.int (1 : Int32)), .val (.ref b14), .unset, .unset, .unset, .unset, .unset, .unset, .unset, .unset, .unset, .unset, .unset] [])) _
      refine XS.aload X17.here hx rfl (hb hby at_31) rfl rfl ?_
      show Steps p.tables e below (T17.setTop (mkF m 33 #[.val (.long q0), .second, .val (.int p1), .val (.int (1 : Int32)), .val (.ref b14), .unset, .unset, .unset, .unset, .unset, .unset, .unset, .unset, .unset, .unset, .unset] [(.ref b14)])) _
      refine st20.trans ?_
      show Steps p.tables e below (T20.setTop (mkF m 36 #[.val (.long q0), .second, .val (.int p1), .val (.int (1 : Int32)), .val (.ref b14), .unset, .unset, .unset, .unset, .unset, .unset, .unset, .unset, .unset, .unset, .unset] [(.long ((F6 (0 : Int64) q0) + (1 : Int64)))])) _
      refine XS.lstore X20.here hx rfl (hb hby at_36) rfl (l' := #[.val (.long q0), .second, .val (.int p1), .val (.int (1 : Int32)), .val (.ref b14), .val (.long ((F6 (0 : Int64) q0) + (1 : Int64))), .second, .unset, .unset, .unset, .unset, .unset, .unset, .unset, .unset, .unset]) rfl ?_
      show Steps p.tables e below (T20.setTop (mkF m 38 #[.val (.long q0), .second, .val (.int p1), .val (.int (1 : Int32)), .val (.ref b14), .val (.long ((F6 (0 : Int64) q0) + (1 : Int64))), .second, .unset, .unset, .unset, .unset, .unset, .unset, .unset, .unset, .unset] [])) _
      refine XS.aload X20.here hx rfl (hb hby at_38) rfl rfl ?_
      show Steps p.tables e below (T20.setTop (mkF m 40 #[.val (.long q0), .second, .val (.int p1), .val (.int (1 : Int32)), .val (.ref b14), .val (.long ((F6 (0 : Int64) q0) + (1 : Int64))), .second, .unset, .unset, .unset, .unset, .unset, .unset, .unset, .unset, .unset] [(.ref b14)])) _
      refine st21.trans ?_
      show Steps p.tables e below (T21.setTop (mkF m 43 #[.val (.long q0), .second, .val (.int p1), .val (.int (1 : Int32)), .val (.ref b14), .val (.long ((F6 (0 : Int64) q0) + (1 : Int64))), .second, .unset, .unset, .unset, .unset, .unset, .unset, .unset, .unset, .unset] [(.long (((F6 (0 : Int64) q0) + (1 : Int64)) + (1 : Int64)))])) _
      refine XS.lstore X21.here hx rfl (hb hby at_43) rfl (l' := #[.val (.long q0), .second, .val (.int p1), .val (.int (1 : Int32)), .val (.ref b14), .val (.long ((F6 (0 : Int64) q0) + (1 : Int64))), .second, .val (.long (((F6 (0 : Int64) q0) + (1 : Int64)) + (1 : Int64))), .second, .unset, .unset, .unset, .unset, .unset, .unset, .unset]) rfl ?_
      show Steps p.tables e below (T21.setTop (mkF m 45 #[.val (.long q0), .second, .val (.int p1), .val (.int (1 : Int32)), .val (.ref b14), .val (.long ((F6 (0 : Int64) q0) + (1 : Int64))), .second, .val (.long (((F6 (0 : Int64) q0) + (1 : Int64)) + (1 : Int64))), .second, .unset, .unset, .unset, .unset, .unset, .unset, .unset] [])) _
      refine XS.aload X21.here hx rfl (hb hby at_45) rfl rfl ?_
      show Steps p.tables e below (T21.setTop (mkF m 47 #[.val (.long q0), .second, .val (.int p1), .val (.int (1 : Int32)), .val (.ref b14), .val (.long ((F6 (0 : Int64) q0) + (1 : Int64))), .second, .val (.long (((F6 (0 : Int64) q0) + (1 : Int64)) + (1 : Int64))), .second, .unset, .unset, .unset, .unset, .unset, .unset, .unset] [(.ref b14)])) _
      refine st24.trans ?_
      show Steps p.tables e below (T24.setTop (mkF m 50 #[.val (.long q0), .second, .val (.int p1), .val (.int (1 : Int32)), .val (.ref b14), .val (.long ((F6 (0 : Int64) q0) + (1 : Int64))), .second, .val (.long (((F6 (0 : Int64) q0) + (1 : Int64)) + (1 : Int64))), .second, .unset, .unset, .unset, .unset, .unset, .unset, .unset] [(.long (((F6 (0 : Int64) q0) + (1 : Int64)) + (1 : Int64)))])) _
      refine XS.lstore X24.here hx rfl (hb hby at_50) rfl (l' := #[.val (.long q0), .second, .val (.int p1), .val (.int (1 : Int32)), .val (.ref b14), .val (.long ((F6 (0 : Int64) q0) + (1 : Int64))), .second, .val (.long (((F6 (0 : Int64) q0) + (1 : Int64)) + (1 : Int64))), .second, .val (.long (((F6 (0 : Int64) q0) + (1 : Int64)) + (1 : Int64))), .second, .unset, .unset, .unset, .unset, .unset]) rfl ?_
      show Steps p.tables e below (T24.setTop (mkF m 52 #[.val (.long q0), .second, .val (.int p1), .val (.int (1 : Int32)), .val (.ref b14), .val (.long ((F6 (0 : Int64) q0) + (1 : Int64))), .second, .val (.long (((F6 (0 : Int64) q0) + (1 : Int64)) + (1 : Int64))), .second, .val (.long (((F6 (0 : Int64) q0) + (1 : Int64)) + (1 : Int64))), .second, .unset, .unset, .unset, .unset, .unset] [])) _
      refine XS.aload X24.here hx rfl (hb hby at_52) rfl rfl ?_
      show Steps p.tables e below (T24.setTop (mkF m 54 #[.val (.long q0), .second, .val (.int p1), .val (.int (1 : Int32)), .val (.ref b14), .val (.long ((F6 (0 : Int64) q0) + (1 : Int64))), .second, .val (.long (((F6 (0 : Int64) q0) + (1 : Int64)) + (1 : Int64))), .second, .val (.long (((F6 (0 : Int64) q0) + (1 : Int64)) + (1 : Int64))), .second, .unset, .unset, .unset, .unset, .unset] [(.ref b14)])) _
      refine st25.trans ?_
      show Steps p.tables e below (T25.setTop (mkF m 57 #[.val (.long q0), .second, .val (.int p1), .val (.int (1 : Int32)), .val (.ref b14), .val (.long ((F6 (0 : Int64) q0) + (1 : Int64))), .second, .val (.long (((F6 (0 : Int64) q0) + (1 : Int64)) + (1 : Int64))), .second, .val (.long (((F6 (0 : Int64) q0) + (1 : Int64)) + (1 : Int64))), .second, .unset, .unset, .unset, .unset, .unset] [(.long ((((F6 (0 : Int64) q0) + (1 : Int64)) + (1 : Int64)) + (1 : Int64)))])) _
      refine XS.lstore X25.here hx rfl (hb hby at_57) rfl (l' := #[.val (.long q0), .second, .val (.int p1), .val (.int (1 : Int32)), .val (.ref b14), .val (.long ((F6 (0 : Int64) q0) + (1 : Int64))), .second, .val (.long (((F6 (0 : Int64) q0) + (1 : Int64)) + (1 : Int64))), .second, .val (.long (((F6 (0 : Int64) q0) + (1 : Int64)) + (1 : Int64))), .second, .val (.long ((((F6 (0 : Int64) q0) + (1 : Int64)) + (1 : Int64)) + (1 : Int64))), .second, .unset, .unset, .unset]) rfl ?_
      show Steps p.tables e below (T25.setTop (mkF m 59 #[.val (.long q0), .second, .val (.int p1), .val (.int (1 : Int32)), .val (.ref b14), .val (.long ((F6 (0 : Int64) q0) + (1 : Int64))), .second, .val (.long (((F6 (0 : Int64) q0) + (1 : Int64)) + (1 : Int64))), .second, .val (.long (((F6 (0 : Int64) q0) + (1 : Int64)) + (1 : Int64))), .second, .val (.long ((((F6 (0 : Int64) q0) + (1 : Int64)) + (1 : Int64)) + (1 : Int64))), .second, .unset, .unset, .unset] [])) _
      refine XS.aload X25.here hx rfl (hb hby at_59) rfl rfl ?_
      show Steps p.tables e below (T25.setTop (mkF m 61 #[.val (.long q0), .second, .val (.int p1), .val (.int (1 : Int32)), .val (.ref b14), .val (.long ((F6 (0 : Int64) q0) + (1 : Int64))), .second, .val (.long (((F6 (0 : Int64) q0) + (1 : Int64)) + (1 : Int64))), .second, .val (.long (((F6 (0 : Int64) q0) + (1 : Int64)) + (1 : Int64))), .second, .val (.long ((((F6 (0 : Int64) q0) + (1 : Int64)) + (1 : Int64)) + (1 : Int64))), .second, .unset, .unset, .unset] [(.ref b14)])) _
      refine st28.trans ?_
      show Steps p.tables e below (T28.setTop (mkF m 64 #[.val (.long q0), .second, .val (.int p1), .val (.int (1 : Int32)), .val (.ref b14), .val (.long ((F6 (0 : Int64) q0) + (1 : Int64))), .second, .val (.long (((F6 (0 : Int64) q0) + (1 : Int64)) + (1 : Int64))), .second, .val (.long (((F6 (0 : Int64) q0) + (1 : Int64)) + (1 : Int64))), .second, .val (.long ((((F6 (0 : Int64) q0) + (1 : Int64)) + (1 : Int64)) + (1 : Int64))), .second, .unset, .unset, .unset] [(.long ((((F6 (0 : Int64) q0) + (1 : Int64)) + (1 : Int64)) + (1 : Int64)))])) _
      refine XS.lstore X28.here hx rfl (hb hby at_64) rfl (l' := #[.val (.long q0), .second, .val (.int p1), .val (.int (1 : Int32)), .val (.ref b14), .val (.long ((F6 (0 : Int64) q0) + (1 : Int64))), .second, .val (.long (((F6 (0 : Int64) q0) + (1 : Int64)) + (1 : Int64))), .second, .val (.long (((F6 (0 : Int64) q0) + (1 : Int64)) + (1 : Int64))), .second, .val (.long ((((F6 (0 : Int64) q0) + (1 : Int64)) + (1 : Int64)) + (1 : Int64))), .second, .val (.long ((((F6 (0 : Int64) q0) + (1 : Int64)) + (1 : Int64)) + (1 : Int64))), .second, .unset]) rfl ?_
      show Steps p.tables e below (T28.setTop (mkF m 66 #[.val (.long q0), .second, .val (.int p1), .val (.int (1 : Int32)), .val (.ref b14), .val (.long ((F6 (0 : Int64) q0) + (1 : Int64))), .second, .val (.long (((F6 (0 : Int64) q0) + (1 : Int64)) + (1 : Int64))), .second, .val (.long (((F6 (0 : Int64) q0) + (1 : Int64)) + (1 : Int64))), .second, .val (.long ((((F6 (0 : Int64) q0) + (1 : Int64)) + (1 : Int64)) + (1 : Int64))), .second, .val (.long ((((F6 (0 : Int64) q0) + (1 : Int64)) + (1 : Int64)) + (1 : Int64))), .second, .unset] [])) _
      refine XS.iloadN X28.here hx rfl (hb hby at_66) rfl ?_
      show Steps p.tables e below (T28.setTop (mkF m 67 #[.val (.long q0), .second, .val (.int p1), .val (.int (1 : Int32)), .val (.ref b14), .val (.long ((F6 (0 : Int64) q0) + (1 : Int64))), .second, .val (.long (((F6 (0 : Int64) q0) + (1 : Int64)) + (1 : Int64))), .second, .val (.long (((F6 (0 : Int64) q0) + (1 : Int64)) + (1 : Int64))), .second, .val (.long ((((F6 (0 : Int64) q0) + (1 : Int64)) + (1 : Int64)) + (1 : Int64))), .second, .val (.long ((((F6 (0 : Int64) q0) + (1 : Int64)) + (1 : Int64)) + (1 : Int64))), .second, .unset] [(.int (1 : Int32))])) _
      refine XS.ifYes X28.here hx rfl (pc0 := 67) (pc' := 84) rfl (hb hby at_67) rfl ((if0 _ _).trans (feq (by decide : ¬ ((1 : Int32) = (0 : Int32)))).2) (by decide) (by decide) ?_
      show Steps p.tables e below (T28.setTop (mkF m 84 #[.val (.long q0), .second, .val (.int p1), .val (.int (1 : Int32)), .val (.ref b14), .val (.long ((F6 (0 : Int64) q0) + (1 : Int64))), .second, .val (.long (((F6 (0 : Int64) q0) + (1 : Int64)) + (1 : Int64))), .second, .val (.long (((F6 (0 : Int64) q0) + (1 : Int64)) + (1 : Int64))), .second, .val (.long ((((F6 (0 : Int64) q0) + (1 : Int64)) + (1 : Int64)) + (1 : Int64))), .second, .val (.long ((((F6 (0 : Int64) q0) + (1 : Int64)) + (1 : Int64)) + (1 : Int64))), .second, .unset] [])) _
      refine XS.iconst X28.here hx rfl (hb hby at_84) ?_
      show Steps p.tables e below (T28.setTop (mkF m 85 #[.val (.long q0), .second, .val (.int p1), .val (.int (1 : Int32)), .val (.ref b14), .val (.long ((F6 (0 : Int64) q0) + (1 : Int64))), .second, .val (.long (((F6 (0 : Int64) q0) + (1 : Int64)) + (1 : Int64))), .second, .val (.long (((F6 (0 : Int64) q0) + (1 : Int64)) + (1 : Int64))), .second, .val (.long ((((F6 (0 : Int64) q0) + (1 : Int64)) + (1 : Int64)) + (1 : Int64))), .second, .val (.long ((((F6 (0 : Int64) q0) + (1 : Int64)) + (1 : Int64)) + (1 : Int64))), .second, .unset] [(.int (1 : Int32))])) _
      refine XS.goto X28.here hx rfl (pc0 := 85) (pc' := 89) rfl (hb hby at_85) (by decide) (by decide) ?_
      show Steps p.tables e below (T28.setTop (mkF m 89 #[.val (.long q0), .second, .val (.int p1), .val (.int (1 : Int32)), .val (.ref b14), .val (.long ((F6 (0 : Int64) q0) + (1 : Int64))), .second, .val (.long (((F6 (0 : Int64) q0) + (1 : Int64)) + (1 : Int64))), .second, .val (.long (((F6 (0 : Int64) q0) + (1 : Int64)) + (1 : Int64))), .second, .val (.long ((((F6 (0 : Int64) q0) + (1 : Int64)) + (1 : Int64)) + (1 : Int64))), .second, .val (.long ((((F6 (0 : Int64) q0) + (1 : Int64)) + (1 : Int64)) + (1 : Int64))), .second, .unset] [(.int (1 : Int32))])) _
      refine XS.istore X28.here hx rfl (hb hby at_89) rfl (l' := #[.val (.long q0), .second, .val (.int p1), .val (.int (1 : Int32)), .val (.ref b14), .val (.long ((F6 (0 : Int64) q0) + (1 : Int64))), .second, .val (.long (((F6 (0 : Int64) q0) + (1 : Int64)) + (1 : Int64))), .second, .val (.long (((F6 (0 : Int64) q0) + (1 : Int64)) + (1 : Int64))), .second, .val (.long ((((F6 (0 : Int64) q0) + (1 : Int64)) + (1 : Int64)) + (1 : Int64))), .second, .val (.long ((((F6 (0 : Int64) q0) + (1 : Int64)) + (1 : Int64)) + (1 : Int64))), .second, .val (.int (1 : Int32))]) rfl ?_
      show Steps p.tables e below (T28.setTop (mkF m 91 #[.val (.long q0), .second, .val (.int p1), .val (.int (1 : Int32)), .val (.ref b14), .val (.long ((F6 (0 : Int64) q0) + (1 : Int64))), .second, .val (.long (((F6 (0 : Int64) q0) + (1 : Int64)) + (1 : Int64))), .second, .val (.long (((F6 (0 : Int64) q0) + (1 : Int64)) + (1 : Int64))), .second, .val (.long ((((F6 (0 : Int64) q0) + (1 : Int64)) + (1 : Int64)) + (1 : Int64))), .second, .val (.long ((((F6 (0 : Int64) q0) + (1 : Int64)) + (1 : Int64)) + (1 : Int64))), .second, .val (.int (1 : Int32))] [])) _
      refine XS.lload X28.here hx rfl (hb hby at_91) rfl ?_
      show Steps p.tables e below (T28.setTop (mkF m 93 #[.val (.long q0), .second, .val (.int p1), .val (.int (1 : Int32)), .val (.ref b14), .val (.long ((F6 (0 : Int64) q0) + (1 : Int64))), .second, .val (.long (((F6 (0 : Int64) q0) + (1 : Int64)) + (1 : Int64))), .second, .val (.long (((F6 (0 : Int64) q0) + (1 : Int64)) + (1 : Int64))), .second, .val (.long ((((F6 (0 : Int64) q0) + (1 : Int64)) + (1 : Int64)) + (1 : Int64))), .second, .val (.long ((((F6 (0 : Int64) q0) + (1 : Int64)) + (1 : Int64)) + (1 : Int64))), .second, .val (.int (1 : Int32))] [(.long (((F6 (0 : Int64) q0) + (1 : Int64)) + (1 : Int64)))])) _
      refine XS.lload X28.here hx rfl (hb hby at_93) rfl ?_
      show Steps p.tables e below (T28.setTop (mkF m 95 #[.val (.long q0), .second, .val (.int p1), .val (.int (1 : Int32)), .val (.ref b14), .val (.long ((F6 (0 : Int64) q0) + (1 : Int64))), .second, .val (.long (((F6 (0 : Int64) q0) + (1 : Int64)) + (1 : Int64))), .second, .val (.long (((F6 (0 : Int64) q0) + (1 : Int64)) + (1 : Int64))), .second, .val (.long ((((F6 (0 : Int64) q0) + (1 : Int64)) + (1 : Int64)) + (1 : Int64))), .second, .val (.long ((((F6 (0 : Int64) q0) + (1 : Int64)) + (1 : Int64)) + (1 : Int64))), .second, .val (.int (1 : Int32))] [(.long ((F6 (0 : Int64) q0) + (1 : Int64))), (.long (((F6 (0 : Int64) q0) + (1 : Int64)) + (1 : Int64)))])) _
      refine XS.lconst X28.here hx rfl (hb hby at_95) ?_
      show Steps p.tables e below (T28.setTop (mkF m 96 #[.val (.long q0), .second, .val (.int p1), .val (.int (1 : Int32)), .val (.ref b14), .val (.long ((F6 (0 : Int64) q0) + (1 : Int64))), .second, .val (.long (((F6 (0 : Int64) q0) + (1 : Int64)) + (1 : Int64))), .second, .val (.long (((F6 (0 : Int64) q0) + (1 : Int64)) + (1 : Int64))), .second, .val (.long ((((F6 (0 : Int64) q0) + (1 : Int64)) + (1 : Int64)) + (1 : Int64))), .second, .val (.long ((((F6 (0 : Int64) q0) + (1 : Int64)) + (1 : Int64)) + (1 : Int64))), .second, .val (.int (1 : Int32))] [(.long (1 : Int64)), (.long ((F6 (0 : Int64) q0) + (1 : Int64))), (.long (((F6 (0 : Int64) q0) + (1 : Int64)) + (1 : Int64)))])) _
      refine XS.ladd X28.here hx rfl (hb hby at_96) rfl ?_
      show Steps p.tables e below (T28.setTop (mkF m 97 #[.val (.long q0), .second, .val (.int p1), .val (.int (1 : Int32)), .val (.ref b14), .val (.long ((F6 (0 : Int64) q0) + (1 : Int64))), .second, .val (.long (((F6 (0 : Int64) q0) + (1 : Int64)) + (1 : Int64))), .second, .val (.long (((F6 (0 : Int64) q0) + (1 : Int64)) + (1 : Int64))), .second, .val (.long ((((F6 (0 : Int64) q0) + (1 : Int64)) + (1 : Int64)) + (1 : Int64))), .second, .val (.long ((((F6 (0 : Int64) q0) + (1 : Int64)) + (1 : Int64)) + (1 : Int64))), .second, .val (.int (1 : Int32))] [(.long (((F6 (0 : Int64) q0) + (1 : Int64)) + (1 : Int64))), (.long (((F6 (0 : Int64) q0) + (1 : Int64)) + (1 : Int64)))])) _
      refine XS.lcmp X28.here hx rfl (hb hby at_97) rfl ?_
      show Steps p.tables e below (T28.setTop (mkF m 98 #[.val (.long q0), .second, .val (.int p1), .val (.int (1 : Int32)), .val (.ref b14), .val (.long ((F6 (0 : Int64) q0) + (1 : Int64))), .second, .val (.long (((F6 (0 : Int64) q0) + (1 : Int64)) + (1 : Int64))), .second, .val (.long (((F6 (0 : Int64) q0) + (1 : Int64)) + (1 : Int64))), .second, .val (.long ((((F6 (0 : Int64) q0) + (1 : Int64)) + (1 : Int64)) + (1 : Int64))), .second, .val (.long ((((F6 (0 : Int64) q0) + (1 : Int64)) + (1 : Int64)) + (1 : Int64))), .second, .val (.int (1 : Int32))] [(.int (lcmpW (((F6 (0 : Int64) q0) + (1 : Int64)) + (1 : Int64)) (((F6 (0 : Int64) q0) + (1 : Int64)) + (1 : Int64))))])) _
      refine XS.ifNo X28.here hx rfl (hb hby at_98) rfl (lcN_ne (rfl : (((F6 (0 : Int64) q0) + (1 : Int64)) + (1 : Int64)) = (((F6 (0 : Int64) q0) + (1 : Int64)) + (1 : Int64)))) ?_
      show Steps p.tables e below (T28.setTop (mkF m 101 #[.val (.long q0), .second, .val (.int p1), .val (.int (1 : Int32)), .val (.ref b14), .val (.long ((F6 (0 : Int64) q0) + (1 : Int64))), .second, .val (.long (((F6 (0 : Int64) q0) + (1 : Int64)) + (1 : Int64))), .second, .val (.long (((F6 (0 : Int64) q0) + (1 : Int64)) + (1 : Int64))), .second, .val (.long ((((F6 (0 : Int64) q0) + (1 : Int64)) + (1 : Int64)) + (1 : Int64))), .second, .val (.long ((((F6 (0 : Int64) q0) + (1 : Int64)) + (1 : Int64)) + (1 : Int64))), .second, .val (.int (1 : Int32))] [])) _
      refine XS.lload X28.here hx rfl (hb hby at_101) rfl ?_
      show Steps p.tables e below (T28.setTop (mkF m 103 #[.val (.long q0), .second, .val (.int p1), .val (.int (1 : Int32)), .val (.ref b14), .val (.long ((F6 (0 : Int64) q0) + (1 : Int64))), .second, .val (.long (((F6 (0 : Int64) q0) + (1 : Int64)) + (1 : Int64))), .second, .val (.long (((F6 (0 : Int64) q0) + (1 : Int64)) + (1 : Int64))), .second, .val (.long ((((F6 (0 : Int64) q0) + (1 : Int64)) + (1 : Int64)) + (1 : Int64))), .second, .val (.long ((((F6 (0 : Int64) q0) + (1 : Int64)) + (1 : Int64)) + (1 : Int64))), .second, .val (.int (1 : Int32))] [(.long (((F6 (0 : Int64) q0) + (1 : Int64)) + (1 : Int64)))])) _
      refine XS.lload X28.here hx rfl (hb hby at_103) rfl ?_
      show Steps p.tables e below (T28.setTop (mkF m 105 #[.val (.long q0), .second, .val (.int p1), .val (.int (1 : Int32)), .val (.ref b14), .val (.long ((F6 (0 : Int64) q0) + (1 : Int64))), .second, .val (.long (((F6 (0 : Int64) q0) + (1 : Int64)) + (1 : Int64))), .second, .val (.long (((F6 (0 : Int64) q0) + (1 : Int64)) + (1 : Int64))), .second, .val (.long ((((F6 (0 : Int64) q0) + (1 : Int64)) + (1 : Int64)) + (1 : Int64))), .second, .val (.long ((((F6 (0 : Int64) q0) + (1 : Int64)) + (1 : Int64)) + (1 : Int64))), .second, .val (.int (1 : Int32))] [(.long (((F6 (0 : Int64) q0) + (1 : Int64)) + (1 : Int64))), (.long (((F6 (0 : Int64) q0) + (1 : Int64)) + (1 : Int64)))])) _
      refine XS.lcmp X28.here hx rfl (hb hby at_105) rfl ?_
      show Steps p.tables e below (T28.setTop (mkF m 106 #[.val (.long q0), .second, .val (.int p1), .val (.int (1 : Int32)), .val (.ref b14), .val (.long ((F6 (0 : Int64) q0) + (1 : Int64))), .second, .val (.long (((F6 (0 : Int64) q0) + (1 : Int64)) + (1 : Int64))), .second, .val (.long (((F6 (0 : Int64) q0) + (1 : Int64)) + (1 : Int64))), .second, .val (.long ((((F6 (0 : Int64) q0) + (1 : Int64)) + (1 : Int64)) + (1 : Int64))), .second, .val (.long ((((F6 (0 : Int64) q0) + (1 : Int64)) + (1 : Int64)) + (1 : Int64))), .second, .val (.int (1 : Int32))] [(.int (lcmpW (((F6 (0 : Int64) q0) + (1 : Int64)) + (1 : Int64)) (((F6 (0 : Int64) q0) + (1 : Int64)) + (1 : Int64))))])) _
      refine XS.ifNo X28.here hx rfl (hb hby at_106) rfl (lcN_ne (rfl : (((F6 (0 : Int64) q0) + (1 : Int64)) + (1 : Int64)) = (((F6 (0 : Int64) q0) + (1 : Int64)) + (1 : Int64)))) ?_
      show Steps p.tables e below (T28.setTop (mkF m 109 #[.val (.long q0), .second, .val (.int p1), .val (.int (1 : Int32)), .val (.ref b14), .val (.long ((F6 (0 : Int64) q0) + (1 : Int64))), .second, .val (.long (((F6 (0 : Int64) q0) + (1 : Int64)) + (1 : Int64))), .second, .val (.long (((F6 (0 : Int64) q0) + (1 : Int64)) + (1 : Int64))), .second, .val (.long ((((F6 (0 : Int64) q0) + (1 : Int64)) + (1 : Int64)) + (1 : Int64))), .second, .val (.long ((((F6 (0 : Int64) q0) + (1 : Int64)) + (1 : Int64)) + (1 : Int64))), .second, .val (.int (1 : Int32))] [])) _
      refine XS.lload X28.here hx rfl (hb hby at_109) rfl ?_
      show Steps p.tables e below (T28.setTop (mkF m 111 #[.val (.long q0), .second, .val (.int p1), .val (.int (1 : Int32)), .val (.ref b14), .val (.long ((F6 (0 : Int64) q0) + (1 : Int64))), .second, .val (.long (((F6 (0 : Int64) q0) + (1 : Int64)) + (1 : Int64))), .second, .val (.long (((F6 (0 : Int64) q0) + (1 : Int64)) + (1 : Int64))), .second, .val (.long ((((F6 (0 : Int64) q0) + (1 : Int64)) + (1 : Int64)) + (1 : Int64))), .second, .val (.long ((((F6 (0 : Int64) q0) + (1 : Int64)) + (1 : Int64)) + (1 : Int64))), .second, .val (.int (1 : Int32))] [(.long ((((F6 (0 : Int64) q0) + (1 : Int64)) + (1 : Int64)) + (1 : Int64)))])) _
      refine XS.lload X28.here hx rfl (hb hby at_111) rfl ?_
      show Steps p.tables e below (T28.setTop (mkF m 113 #[.val (.long q0), .second, .val (.int p1), .val (.int (1 : Int32)), .val (.ref b14), .val (.long ((F6 (0 : Int64) q0) + (1 : Int64))), .second, .val (.long (((F6 (0 : Int64) q0) + (1 : Int64)) + (1 : Int64))), .second, .val (.long (((F6 (0 : Int64) q0) + (1 : Int64)) + (1 : Int64))), .second, .val (.long ((((F6 (0 : Int64) q0) + (1 : Int64)) + (1 : Int64)) + (1 : Int64))), .second, .val (.long ((((F6 (0 : Int64) q0) + (1 : Int64)) + (1 : Int64)) + (1 : Int64))), .second, .val (.int (1 : Int32))] [(.long (((F6 (0 : Int64) q0) + (1 : Int64)) + (1 : Int64))), (.long ((((F6 (0 : Int64) q0) + (1 : Int64)) + (1 : Int64)) + (1 : Int64)))])) _
      refine XS.lconst X28.here hx rfl (hb hby at_113) ?_
      show Steps p.tables e below (T28.setTop (mkF m 114 #[.val (.long q0), .second, .val (.int p1), .val (.int (1 : Int32)), .val (.ref b14), .val (.long ((F6 (0 : Int64) q0) + (1 : Int64))), .second, .val (.long (((F6 (0 : Int64) q0) + (1 : Int64)) + (1 : Int64))), .second, .val (.long (((F6 (0 : Int64) q0) + (1 : Int64)) + (1 : Int64))), .second, .val (.long ((((F6 (0 : Int64) q0) + (1 : Int64)) + (1 : Int64)) + (1 : Int64))), .second, .val (.long ((((F6 (0 : Int64) q0) + (1 : Int64)) + (1 : Int64)) + (1 : Int64))), .second, .val (.int (1 : Int32))] [(.long (1 : Int64)), (.long (((F6 (0 : Int64) q0) + (1 : Int64)) + (1 : Int64))), (.long ((((F6 (0 : Int64) q0) + (1 : Int64)) + (1 : Int64)) + (1 : Int64)))])) _
      refine XS.ladd X28.here hx rfl (hb hby at_114) rfl ?_
      show Steps p.tables e below (T28.setTop (mkF m 115 #[.val (.long q0), .second, .val (.int p1), .val (.int (1 : Int32)), .val (.ref b14), .val (.long ((F6 (0 : Int64) q0) + (1 : Int64))), .second, .val (.long (((F6 (0 : Int64) q0) + (1 : Int64)) + (1 : Int64))), .second, .val (.long (((F6 (0 : Int64) q0) + (1 : Int64)) + (1 : Int64))), .second, .val (.long ((((F6 (0 : Int64) q0) + (1 : Int64)) + (1 : Int64)) + (1 : Int64))), .second, .val (.long ((((F6 (0 : Int64) q0) + (1 : Int64)) + (1 : Int64)) + (1 : Int64))), .second, .val (.int (1 : Int32))] [(.long ((((F6 (0 : Int64) q0) + (1 : Int64)) + (1 : Int64)) + (1 : Int64))), (.long ((((F6 (0 : Int64) q0) + (1 : Int64)) + (1 : Int64)) + (1 : Int64)))])) _
      refine XS.lcmp X28.here hx rfl (hb hby at_115) rfl ?_
      show Steps p.tables e below (T28.setTop (mkF m 116 #[.val (.long q0), .second, .val (.int p1), .val (.int (1 : Int32)), .val (.ref b14), .val (.long ((F6 (0 : Int64) q0) + (1 : Int64))), .second, .val (.long (((F6 (0 : Int64) q0) + (1 : Int64)) + (1 : Int64))), .second, .val (.long (((F6 (0 : Int64) q0) + (1 : Int64)) + (1 : Int64))), .second, .val (.long ((((F6 (0 : Int64) q0) + (1 : Int64)) + (1 : Int64)) + (1 : Int64))), .second, .val (.long ((((F6 (0 : Int64) q0) + (1 : Int64)) + (1 : Int64)) + (1 : Int64))), .second, .val (.int (1 : Int32))] [(.int (lcmpW ((((F6 (0 : Int64) q0) + (1 : Int64)) + (1 : Int64)) + (1 : Int64)) ((((F6 (0 : Int64) q0) + (1 : Int64)) + (1 : Int64)) + (1 : Int64))))])) _
      refine XS.ifNo X28.here hx rfl (hb hby at_116) rfl (lcN_ne (rfl : ((((F6 (0 : Int64) q0) + (1 : Int64)) + (1 : Int64)) + (1 : Int64)) = ((((F6 (0 : Int64) q0) + (1 : Int64)) + (1 : Int64)) + (1 : Int64)))) ?_
      show Steps p.tables e below (T28.setTop (mkF m 119 #[.val (.long q0), .second, .val (.int p1), .val (.int (1 : Int32)), .val (.ref b14), .val (.long ((F6 (0 : Int64) q0) + (1 : Int64))), .second, .val (.long (((F6 (0 : Int64) q0) + (1 : Int64)) + (1 : Int64))), .second, .val (.long (((F6 (0 : Int64) q0) + (1 : Int64)) + (1 : Int64))), .second, .val (.long ((((F6 (0 : Int64) q0) + (1 : Int64)) + (1 : Int64)) + (1 : Int64))), .second, .val (.long ((((F6 (0 : Int64) q0) + (1 : Int64)) + (1 : Int64)) + (1 : Int64))), .second, .val (.int (1 : Int32))] [])) _
      refine XS.lload X28.here hx rfl (hb hby at_119) rfl ?_
      show Steps p.tables e below (T28.setTop (mkF m 121 #[.val (.long q0), .second, .val (.int p1), .val (.int (1 : Int32)), .val (.ref b14), .val (.long ((F6 (0 : Int64) q0) + (1 : Int64))), .second, .val (.long (((F6 (0 : Int64) q0) + (1 : Int64)) + (1 : Int64))), .second, .val (.long (((F6 (0 : Int64) q0) + (1 : Int64)) + (1 : Int64))), .second, .val (.long ((((F6 (0 : Int64) q0) + (1 : Int64)) + (1 : Int64)) + (1 : Int64))), .second, .val (.long ((((F6 (0 : Int64) q0) + (1 : Int64)) + (1 : Int64)) + (1 : Int64))), .second, .val (.int (1 : Int32))] [(.long ((((F6 (0 : Int64) q0) + (1 : Int64)) + (1 : Int64)) + (1 : Int64)))])) _
      refine XS.lload X28.here hx rfl (hb hby at_121) rfl ?_
      show Steps p.tables e below (T28.setTop (mkF m 123 #[.val (.long q0), .second, .val (.int p1), .val (.int (1 : Int32)), .val (.ref b14), .val (.long ((F6 (0 : Int64) q0) + (1 : Int64))), .second, .val (.long (((F6 (0 : Int64) q0) + (1 : Int64)) + (1 : Int64))), .second, .val (.long (((F6 (0 : Int64) q0) + (1 : Int64)) + (1 : Int64))), .second, .val (.long ((((F6 (0 : Int64) q0) + (1 : Int64)) + (1 : Int64)) + (1 : Int64))), .second, .val (.long ((((F6 (0 : Int64) q0) + (1 : Int64)) + (1 : Int64)) + (1 : Int64))), .second, .val (.int (1 : Int32))] [(.long ((((F6 (0 : Int64) q0) + (1 : Int64)) + (1 : Int64)) + (1 : Int64))), (.long ((((F6 (0 : Int64) q0) + (1 : Int64)) + (1 : Int64)) + (1 : Int64)))])) _
      refine XS.lcmp X28.here hx rfl (hb hby at_123) rfl ?_
      show Steps p.tables e below (T28.setTop (mkF m 124 #[.val (.long q0), .second, .val (.int p1), .val (.int (1 : Int32)), .val (.ref b14), .val (.long ((F6 (0 : Int64) q0) + (1 : Int64))), .second, .val (.long (((F6 (0 : Int64) q0) + (1 : Int64)) + (1 : Int64))), .second, .val (.long (((F6 (0 : Int64) q0) + (1 : Int64)) + (1 : Int64))), .second, .val (.long ((((F6 (0 : Int64) q0) + (1 : Int64)) + (1 : Int64)) + (1 : Int64))), .second, .val (.long ((((F6 (0 : Int64) q0) + (1 : Int64)) + (1 : Int64)) + (1 : Int64))), .second, .val (.int (1 : Int32))] [(.int (lcmpW ((((F6 (0 : Int64) q0) + (1 : Int64)) + (1 : Int64)) + (1 : Int64)) ((((F6 (0 : Int64) q0) + (1 : Int64)) + (1 : Int64)) + (1 : Int64))))])) _
      refine XS.ifNo X28.here hx rfl (hb hby at_124) rfl (lcN_ne (rfl : ((((F6 (0 : Int64) q0) + (1 : Int64)) + (1 : Int64)) + (1 : Int64)) = ((((F6 (0 : Int64) q0) + (1 : Int64)) + (1 : Int64)) + (1 : Int64)))) ?_
      show Steps p.tables e below (T28.setTop (mkF m 127 #[.val (.long q0), .second, .val (.int p1), .val (.int (1 : Int32)), .val (.ref b14), .val (.long ((F6 (0 : Int64) q0) + (1 : Int64))), .second, .val (.long (((F6 (0 : Int64) q0) + (1 : Int64)) + (1 : Int64))), .second, .val (.long (((F6 (0 : Int64) q0) + (1 : Int64)) + (1 : Int64))), .second, .val (.long ((((F6 (0 : Int64) q0) + (1 : Int64)) + (1 : Int64)) + (1 : Int64))), .second, .val (.long ((((F6 (0 : Int64) q0) + (1 : Int64)) + (1 : Int64)) + (1 : Int64))), .second, .val (.int (1 : Int32))] [])) _
      refine XS.iload X28.here hx rfl (hb hby at_127) rfl ?_
      show Steps p.tables e below (T28.setTop (mkF m 129 #[.val (.long q0), .second, .val (.int p1), .val (.int (1 : Int32)), .val (.ref b14), .val (.long ((F6 (0 : Int64) q0) + (1 : Int64))), .second, .val (.long (((F6 (0 : Int64) q0) + (1 : Int64)) + (1 : Int64))), .second, .val (.long (((F6 (0 : Int64) q0) + (1 : Int64)) + (1 : Int64))), .second, .val (.long ((((F6 (0 : Int64) q0) + (1 : Int64)) + (1 : Int64)) + (1 : Int64))), .second, .val (.long ((((F6 (0 : Int64) q0) + (1 : Int64)) + (1 : Int64)) + (1 : Int64))), .second, .val (.int (1 : Int32))] [(.int (1 : Int32))])) _
      refine XS.ifNo X28.here hx rfl (hb hby at_129) rfl ((if0 _ _).trans (feq (by decide : ¬ ((1 : Int32) = (0 : Int32)))).1) ?_
      show Steps p.tables e below (T28.setTop (mkF m 132 #[.val (.long q0), .second, .val (.int p1), .val (.int (1 : Int32)), .val (.ref b14), .val (.long ((F6 (0 : Int64) q0) + (1 : Int64))), .second, .val (.long (((F6 (0 : Int64) q0) + (1 : Int64)) + (1 : Int64))), .second, .val (.long (((F6 (0 : Int64) q0) + (1 : Int64)) + (1 : Int64))), .second, .val (.long ((((F6 (0 : Int64) q0) + (1 : Int64)) + (1 : Int64)) + (1 : Int64))), .second, .val (.long ((((F6 (0 : Int64) q0) + (1 : Int64)) + (1 : Int64)) + (1 : Int64))), .second, .val (.int (1 : Int32))] [])) _
      refine XS.iconst X28.here hx rfl (hb hby at_132) ?_
      show Steps p.tables e below (T28.setTop (mkF m 133 #[.val (.long q0), .second, .val (.int p1), .val (.int (1 : Int32)), .val (.ref b14), .val (.long ((F6 (0 : Int64) q0) + (1 : Int64))), .second, .val (.long (((F6 (0 : Int64) q0) + (1 : Int64)) + (1 : Int64))), .second, .val (.long (((F6 (0 : Int64) q0) + (1 : Int64)) + (1 : Int64))), .second, .val (.long ((((F6 (0 : Int64) q0) + (1 : Int64)) + (1 : Int64)) + (1 : Int64))), .second, .val (.long ((((F6 (0 : Int64) q0) + (1 : Int64)) + (1 : Int64)) + (1 : Int64))), .second, .val (.int (1 : Int32))] [(.int (1 : Int32))])) _
      refine XS.goto X28.here hx rfl (pc0 := 133) (pc' := 137) rfl (hb hby at_133) (by decide) (by decide) ?_
      show Steps p.tables e below (T28.setTop (mkF m 137 #[.val (.long q0), .second, .val (.int p1), .val (.int (1 : Int32)), .val (.ref b14), .val (.long ((F6 (0 : Int64) q0) + (1 : Int64))), .second, .val (.long (((F6 (0 : Int64) q0) + (1 : Int64)) + (1 : Int64))), .second, .val (.long (((F6 (0 : Int64) q0) + (1 : Int64)) + (1 : Int64))), .second, .val (.long ((((F6 (0 : Int64) q0) + (1 : Int64)) + (1 : Int64)) + (1 : Int64))), .second, .val (.long ((((F6 (0 : Int64) q0) + (1 : Int64)) + (1 : Int64)) + (1 : Int64))), .second, .val (.int (1 : Int32))] [(.int (1 : Int32))])) _
      exact retN X28 hx (t := .boolean) Bd.returns (by simp) (hb hby at_137) hr
    · show Q0 Z q0 p1 h0 n0 _ T28.heap _
      rw [e28]
      exact ⟨rfl, N28⟩
set_option maxRecDepth 65536 in
set_option maxHeartbeats 40000000 in
theorem comes_1 {Post : Tables → Env → Array Value → State → Outcome → State → Prop} (hpost : ∀ tb e args s v u, (limb_1_1.after args s (.returned v) u = true ∧ limb_1_2.after args s (.returned v) u = true ∧ True) → FrameEnd s (.returned v) u (Jvm.fieldLocs frame_1_writes args s ++ Jvm.arrayLocs frame_1_arrays args s ++ Jvm.staticLocs frame_1_statics s) 16 128 → Post tb e args s (.returned v) u) :
    ArmFor flags0 classFile x code maxLocals ret World_1 tables_1 room_1 Calls_1 rest_1 Pre_1 Post := by
  intro l hfl _ _ p e ha hc hk s m args below hf hA hF happ hP
  obtain ⟨hcalls, hrest, hpre⟩ := hP
  obtain ⟨-, -, -, hnamed, -, -, -, hat⟩ := (Spec.applies_iff hf).mp happ
  obtain ⟨hg, hn⟩ := and_e (Cond.before_iff.mp (show (Jvm.Cond.and given_1 narrow_1).before args s = true from hpre))
  obtain ⟨g1, g2⟩ := and_e hg
  obtain ⟨g3, g4⟩ := and_e g2
  obtain ⟨w0, w1, rfl⟩ : ∃ w0 w1 : Value, args = #[w0, w1] := by
    have hs : args.size = 2 := by simpa [Cond.value, given_1] using g1
    obtain ⟨L⟩ := args
    match L, hs with
    | [w0, w1], _ => exact ⟨w0, w1, rfl⟩
  have hw := fun d (hd : d ∈ tables_1) => atoms_spec (ws := Jvm.Cond.code x code maxLocals ret :: tables_1) hat d (List.mem_cons_of_mem _ hd)
  obtain ⟨i0, ei0⟩ := isL_v g3
  obtain rfl : w0 = (.long i0) := Option.some.inj ei0
  obtain ⟨i1, ei1⟩ := is_v g4
  obtain rfl : w1 = (.int i1) := Option.some.inj ei1
  obtain ⟨n, o, h1, h2, h3, _, L, rfl, ⟨rfl, N⟩, hq⟩ := rm0 l s _ hw tables_1 i0 i1  s.heap s.heap.size (Nat.le_refl _)  p e ha hc hk s m _ below hf ((Spec.applies_iff_loose hf).mp happ).1 ⟨rfl, State.Warmed39.refl s, rfl⟩ trivial
  refine ⟨n, _, h1, h2, h3, hpost _ _ _ _ _ _ ⟨Cond.after_iff.mpr rfl, Cond.after_iff.mpr (eq_i res_at (Term.int_eval (1)) rfl), trivial⟩ ⟨hq.1, hq.2.1, (hq.2.2.sift fun y hy => Or.inr (N y hy)).mono (by decide) (by decide)⟩⟩
theorem main_1_1 : Claimed_1_1 := comes_1 fun _ _ _ _ _ _ h hF => ⟨h.1, hF⟩
theorem main_1_2 : Claimed_1_2 := comes_1 fun _ _ _ _ _ _ h hF => ⟨h.2.1, hF⟩
end Jvm.Pilot.@@N@@
namespace Jvm.Pilot.@@N@@
open Jvm Jvm.ClassFile Sem Op Lib Jvm.Free Jvm.Stand Jvm.Pilot.@@N@@.Jvm.D
/-! MADE BY PROGRAM (witnessworld.py) out of the Statement's table words and the real class files: 10 classes; the members and pool entries that the words name. The judged class is class 1, her method 1. -/
namespace start1
open Jvm.ClassFile
def u (s : String) : CpInfo := .utf8 (stringToUtf16 s)
/-- a pool by its gaps: so many unusable entries, then the entry; so many at the end -/
def gap : Nat → List CpInfo → List CpInfo
  | 0, r => r
  | n + 1, r => .unusable :: gap n r
def poolList (es : List (Nat × CpInfo)) (last : Nat) : List CpInfo := es.foldr (fun e r => gap e.1 (e.2 :: r)) (gap last [])
def pool (es : List (Nat × CpInfo)) (last : Nat) : Array CpInfo := ⟨poolList es last⟩
def fileOf (pool : Array CpInfo) (this : Nat) (attrs : Array Attribute := #[]) (ms : Array MethodInfo := #[]) (fl : Nat := 33) (sup : Nat := 0) (ifs : Array Nat := #[]) (fds : Array FieldInfo := #[]) : ClassFile where
  minorVersion := 0
  majorVersion := 65
  constantPool := pool
  accessFlags := fl
  thisClass := this
  superClass := sup
  interfaces := ifs
  fields := fds
  methods := ms
  attributes := attrs
def plain (name : String) (sup : Option ClassId) : Class where
  name := name
  kind := .ordinary
  loader := none
  accessFlags := 33
  super := sup
  interfaces := #[]
  cf := none
  fields := #[]
  methods := #[]
  instanceTypes := #[]
  staticTypes := #[]
  resolved := #[]
  callSites := []
  init := .initialized
  statics := none
  mirror := none

def pool0 : Array CpInfo := pool [(5, u "<init>"), (0, u "()V"), (1, .class_ 10), (1, u "java/lang/Object")] 113

def k0c0 : Code := { maxStack := 0, maxLocals := 1, code := object_method_1_code, exceptionTable := #[], attributes := #[] }
def k0m0 : Method := { name := "<init>", desc := "()V", sig := { parameters := [], returnType := none }, accessFlags := 1, code := some k0c0 }
/-- java/lang/Object -/
def k0 : Class := { plain "java/lang/Object" none with
  accessFlags := 33
  interfaces := #[]
  cf := some (fileOf pool0 8 #[] #[{ accessFlags := 1, nameIndex := 5, descriptorIndex := 6, attributes := #[] }] 33 0 #[] #[])
  fields := #[]
  methods := #[k0m0]
  instanceTypes := #[]
  staticTypes := #[]
  resolved := Array.replicate 124 none
  statics := none }

def pool1 : Array CpInfo := pool [(2, .class_ 4), (0, .nameAndType 5 6), (0, u "java/lang/Object"), (0, u "<init>"), (0, u "()V"), (0, .class_ 8), (0, u "com/example/aveiro/aveiro/lock/LamportClock"), (0, .methodref 7 3), (0, .methodref 7 11), (0, .nameAndType 12 13), (0, u "receive"), (0, u "(J)V"), (0, .methodref 7 15), (0, .nameAndType 16 17), (0, u "time"), (0, u "()J"), (0, .methodref 7 19), (0, .nameAndType 20 17), (0, u "advance"), (0, .class_ 22), (0, u "com/example/aveiro/aveiro/lock/LamportClockAdvancePinLaw"), (2, u "law"), (0, u "(JI)Z")] 3

def k1m0 : Method := { name := "<init>", desc := "()V", sig := { parameters := [], returnType := none }, accessFlags := 1, code := none }
def k1c1 : Code := { maxStack := 6, maxLocals := 16, code := code, exceptionTable := #[], attributes := #[] }
def k1m1 : Method := { name := "law", desc := "(JI)Z", sig := { parameters := [.long, .int], returnType := some .boolean }, accessFlags := 9, code := some k1c1 }
/-- com/example/aveiro/aveiro/lock/LamportClockAdvancePinLaw -/
def k1 : Class := { plain "com/example/aveiro/aveiro/lock/LamportClockAdvancePinLaw" (some 0) with
  accessFlags := 49
  interfaces := #[]
  cf := some (fileOf pool1 21 #[] #[{ accessFlags := 1, nameIndex := 5, descriptorIndex := 6, attributes := #[] }, { accessFlags := 9, nameIndex := 25, descriptorIndex := 26, attributes := #[] }] 49 2 #[] #[])
  fields := #[]
  methods := #[k1m0, k1m1]
  instanceTypes := #[]
  staticTypes := #[]
  resolved := Array.replicate 30 none
  statics := none }

def pool2 : Array CpInfo := pool [(1, .methodref 2 3), (0, .class_ 4), (0, .nameAndType 5 6), (0, u "java/lang/Object"), (0, u "<init>"), (0, u "()V"), (0, .fieldref 8 9), (0, .class_ 10), (0, .nameAndType 11 12), (0, u "com/example/aveiro/aveiro/lock/LamportClock"), (0, u "time"), (0, u "J"), (0, .methodref 14 15), (0, .class_ 16), (0, .nameAndType 17 18), (0, u "java/lang/Math"), (0, u "max"), (0, u "(JJ)J"), (2, u "advance"), (0, u "()J"), (0, u "receive"), (0, u "(J)V")] 2

def k2c0 : Code := { maxStack := 1, maxLocals := 1, code := prog_26_method_1_code, exceptionTable := #[], attributes := #[] }
def k2m0 : Method := { name := "<init>", desc := "()V", sig := { parameters := [], returnType := none }, accessFlags := 0, code := some k2c0 }
def k2c1 : Code := { maxStack := 5, maxLocals := 1, code := prog_26_method_2_code, exceptionTable := #[], attributes := #[] }
def k2m1 : Method := { name := "advance", desc := "()J", sig := { parameters := [], returnType := some .long }, accessFlags := 0, code := some k2c1 }
def k2c2 : Code := { maxStack := 5, maxLocals := 3, code := prog_26_method_3_code, exceptionTable := #[], attributes := #[] }
def k2m2 : Method := { name := "receive", desc := "(J)V", sig := { parameters := [.long], returnType := none }, accessFlags := 0, code := some k2c2 }
def k2c3 : Code := { maxStack := 2, maxLocals := 1, code := prog_26_method_4_code, exceptionTable := #[], attributes := #[] }
def k2m3 : Method := { name := "time", desc := "()J", sig := { parameters := [], returnType := some .long }, accessFlags := 0, code := some k2c3 }
/-- com/example/aveiro/aveiro/lock/LamportClock -/
def k2 : Class := { plain "com/example/aveiro/aveiro/lock/LamportClock" (some 0) with
  accessFlags := 48
  interfaces := #[]
  cf := some (fileOf pool2 8 #[] #[{ accessFlags := 0, nameIndex := 5, descriptorIndex := 6, attributes := #[] }, { accessFlags := 0, nameIndex := 21, descriptorIndex := 22, attributes := #[] }, { accessFlags := 0, nameIndex := 23, descriptorIndex := 24, attributes := #[] }, { accessFlags := 0, nameIndex := 11, descriptorIndex := 22, attributes := #[] }] 48 2 #[] #[{ accessFlags := 2, nameIndex := 11, descriptorIndex := 12, attributes := #[] }])
  fields := #[{ name := "time", type := .long, accessFlags := 2, slot := 0, constantValue := 0 }]
  methods := #[k2m0, k2m1, k2m2, k2m3]
  instanceTypes := #[.long]
  staticTypes := #[]
  resolved := Array.replicate 27 none
  statics := none }

def pool3 : Array CpInfo := pool [(1, .class_ 2), (0, u "java/lang/Math"), (1, .class_ 6), (1, u "java/lang/Object"), (0, u "<init>"), (0, u "()V"), (89, .class_ 100), (1, u "java/lang/Math$RandomNumberGeneratorHolder"), (20, u "(JJ)J"), (50, u "negativeZeroFloatBits"), (0, u "J"), (2, u "negativeZeroDoubleBits"), (21, u "max"), (46, u "$assertionsDisabled"), (0, u "Z"), (91, u "twoToTheDoubleScaleDown"), (0, u "D"), (4, u "twoToTheDoubleScaleUp"), (9, u "E"), (3, u "PI"), (2, u "TAU"), (2, u "DEGREES_TO_RADIANS"), (0, u "RADIANS_TO_DEGREES")] 94

def k3m0 : Method := { name := "<init>", desc := "()V", sig := { parameters := [], returnType := none }, accessFlags := 2, code := none }
def k3c1 : Code := { maxStack := 4, maxLocals := 4, code := jdk_29_method_66_code, exceptionTable := #[], attributes := #[] }
def k3m1 : Method := { name := "max", desc := "(JJ)J", sig := { parameters := [.long, .long], returnType := some .long }, accessFlags := 9, code := some k3c1 }
/-- java/lang/Math -/
def k3 : Class := { plain "java/lang/Math" (some 0) with
  accessFlags := 49
  interfaces := #[]
  cf := some (fileOf pool3 1 #[.nestMembers #[98]] #[{ accessFlags := 2, nameIndex := 7, descriptorIndex := 8, attributes := #[] }, { accessFlags := 9, nameIndex := 198, descriptorIndex := 121, attributes := #[] }] 49 4 #[] #[{ accessFlags := 25, nameIndex := 354, descriptorIndex := 339, attributes := #[] }, { accessFlags := 25, nameIndex := 358, descriptorIndex := 339, attributes := #[] }, { accessFlags := 25, nameIndex := 361, descriptorIndex := 339, attributes := #[] }, { accessFlags := 26, nameIndex := 364, descriptorIndex := 339, attributes := #[] }, { accessFlags := 26, nameIndex := 365, descriptorIndex := 339, attributes := #[] }, { accessFlags := 26, nameIndex := 172, descriptorIndex := 173, attributes := #[] }, { accessFlags := 26, nameIndex := 176, descriptorIndex := 173, attributes := #[] }, { accessFlags := 8, nameIndex := 344, descriptorIndex := 339, attributes := #[] }, { accessFlags := 8, nameIndex := 338, descriptorIndex := 339, attributes := #[] }, { accessFlags := 4120, nameIndex := 245, descriptorIndex := 246, attributes := #[] }])
  fields := #[{ name := "E", type := .double, accessFlags := 25, slot := 0, constantValue := 0 }, { name := "PI", type := .double, accessFlags := 25, slot := 1, constantValue := 0 }, { name := "TAU", type := .double, accessFlags := 25, slot := 2, constantValue := 0 }, { name := "DEGREES_TO_RADIANS", type := .double, accessFlags := 26, slot := 3, constantValue := 0 }, { name := "RADIANS_TO_DEGREES", type := .double, accessFlags := 26, slot := 4, constantValue := 0 }, { name := "negativeZeroFloatBits", type := .long, accessFlags := 26, slot := 5, constantValue := 0 }, { name := "negativeZeroDoubleBits", type := .long, accessFlags := 26, slot := 6, constantValue := 0 }, { name := "twoToTheDoubleScaleUp", type := .double, accessFlags := 8, slot := 7, constantValue := 0 }, { name := "twoToTheDoubleScaleDown", type := .double, accessFlags := 8, slot := 8, constantValue := 0 }, { name := "$assertionsDisabled", type := .boolean, accessFlags := 4120, slot := 9, constantValue := 0 }]
  methods := #[k3m0, k3m1]
  instanceTypes := #[]
  staticTypes := #[.double, .double, .double, .double, .double, .long, .long, .double, .double, .boolean]
  resolved := Array.replicate 460 none
  statics := none }

def pool4 : Array CpInfo := pool [(1, u "java/lang/Cloneable"), (0, .class_ 1), (0, u "java/lang/Object"), (0, .class_ 3)] 3

/-- java/lang/Cloneable -/
def k4 : Class := { plain "java/lang/Cloneable" (some 0) with
  accessFlags := 1537
  interfaces := #[]
  cf := some (fileOf pool4 2 #[] #[] 1537 4 #[] #[])
  fields := #[]
  methods := #[]
  instanceTypes := #[]
  staticTypes := #[]
  resolved := Array.replicate 8 none
  statics := none }

def pool5 : Array CpInfo := pool [(1, u "java/io/Serializable"), (0, .class_ 1), (0, u "java/lang/Object"), (0, .class_ 3)] 3

/-- java/io/Serializable -/
def k5 : Class := { plain "java/io/Serializable" (some 0) with
  accessFlags := 1537
  interfaces := #[]
  cf := some (fileOf pool5 2 #[] #[] 1537 4 #[] #[])
  fields := #[]
  methods := #[]
  instanceTypes := #[]
  staticTypes := #[]
  resolved := Array.replicate 8 none
  statics := none }

/-- the primitive byte -/
def k6 : Class := { plain "byte" none with kind := .primitive 'B', accessFlags := 0x411 }
/-- [B -/
def k7 : Class := { plain "[B" (some 0) with kind := .array 6 .byte, interfaces := #[4, 5], accessFlags := 1041 }

/-- the primitive int -/
def k8 : Class := { plain "int" none with kind := .primitive 'I', accessFlags := 0x411 }
/-- [I -/
def k9 : Class := { plain "[I" (some 0) with kind := .array 8 .int, interfaces := #[4, 5], accessFlags := 1041 }

def heap : Heap := #[]
def classes : Array Class := #[k0, k1, k2, k3, k4, k5, k6, k7, k8, k9]
def interned : List (Array UInt16 × Addr) := []
def slotsUsed : Nat := 0
def theMethod : MethodId := ⟨1, 1⟩
def args0 : Array Value := #[.long 1, .int 1]
def aboutOver (below : List Frame) : State where
  vm := { classes := classes, interned := interned.toArray }
  heap := heap
  slotsUsed := slotsUsed
  threads := #[{ frames := .invoking theMethod args0 :: below }]
def below0 : List Frame := [.native { method := ⟨0, 0⟩, args := #[] }]
def about1 : State := aboutOver below0
def p0 : Program := .bare "" "" ""
def e0 : Env := launch0.env 0 0 0
theorem w_frames : about1.frames = Frame.invoking theMethod args0 :: below0 := rfl
set_option maxRecDepth 65536 in
theorem w_args : argsFit about1.vm theMethod args0 = true := by decide +kernel
set_option maxRecDepth 65536 in
theorem w_heap : heapFits about1 = true := by decide +kernel
set_option maxRecDepth 65536 in
theorem w_runnable : about1.curStatus? = some .runnable := by decide +kernel
set_option maxRecDepth 65536 in
theorem w_alone : about1.alone = true := by decide +kernel
set_option maxRecDepth 65536 in
theorem w_named : about1.methodNamed? x = some theMethod := by decide +kernel
set_option maxRecDepth 65536 in
theorem w_hears : about1.hears theMethod below0 = true := by decide +kernel
set_option maxRecDepth 65536 in
theorem w_ripe : about1.ripe theMethod args0 below0 = true := by decide +kernel
theorem w_running : about1.status = .running := rfl
set_option maxRecDepth 65536 in
theorem w_room : about1.hasRoom e0.platform room_1 = true :=
  launch0.hasRoom_least _ room_1 (by decide +kernel) (by decide +kernel) (by decide +kernel) (by decide +kernel) (by decide +kernel) (by decide +kernel)
theorem allAtoms_all (ts : List Jvm.Cond) (a : Array Jvm.Value) (st : Jvm.State) : (allAtoms ts).before a st = ts.all (fun c => c.before a st) := by
  induction ts with
  | nil => rfl
  | cons c t ih =>
    show (Jvm.Cond.and c (allAtoms t)).before a st = _
    rw [Jvm.Cond.before_and, ih, List.all_cons]
def words1 : List Jvm.Cond := Jvm.Cond.code x code maxLocals ret :: tables_1
/-- a 'code' word, met by the world's own term for the bytes: nothing is compared byte by byte -/
theorem code_word {y : MethodName} {bytes : ByteArray} {mx : Nat} {rt : Option FieldType} {a : Array Value} {s : State} {m : MethodId} {meth : Method} {c : Code} (h1 : s.methodNamed? y = some m) (h2 : s.vm.method? m = some meth) (h3 : meth.code = some c) (h4 : c.code = bytes)
    (h5 : (c.maxLocals == mx && c.exceptionTable.isEmpty && decide (c.maxStack ≤ mostOperands) && decide (meth.sig.returnType = rt) && !meth.locks && decide (parseMethodDescriptor y.desc = some meth.sig)) = true) : (Jvm.Cond.code y bytes mx rt).before a s = true := by
  simp only [Bool.and_eq_true, beq_iff_eq, Bool.not_eq_true', decide_eq_true_eq] at h5
  obtain ⟨⟨⟨⟨⟨g1, g2⟩, g3⟩, g4⟩, g5⟩, g6⟩ := h5
  simp [Cond.before, Cond.holds, Cond.value, h1, h2, h3, h4, g1, g2, g3, g4, g5, g6]
def isCode : Jvm.Cond → Bool
  | .code _ _ _ _ => true
  | _ => false
theorem all_split {L : List Jvm.Cond} {P : Jvm.Cond → Bool} (h1 : L.all (fun c => isCode c || P c) = true) (h2 : ∀ c ∈ L.filter isCode, P c = true) : L.all P = true := by
  refine List.all_eq_true.mpr fun c hc => ?_
  have h := List.all_eq_true.mp h1 c hc
  rcases Bool.eq_false_or_eq_true (isCode c) with hi | hi
  · exact h2 c (List.mem_filter.mpr ⟨hc, hi⟩)
  · simpa [hi] using h
set_option maxRecDepth 65536 in
theorem w_c0 : (Jvm.Cond.code x code maxLocals ret).before args0 about1 = true := code_word (m := ⟨1, 1⟩) (meth := k1m1) (c := k1c1) (by decide +kernel) rfl rfl rfl (by decide +kernel)
set_option maxRecDepth 65536 in
theorem w_c1 : (Jvm.Cond.code ({ cls := "com/example/aveiro/aveiro/lock/LamportClock", name := "<init>", desc := "()V" } : Jvm.MethodName) prog_26_method_1_code (1 : Nat) (Option.none : Option Jvm.ClassFile.FieldType)).before args0 about1 = true := code_word (m := ⟨2, 0⟩) (meth := k2m0) (c := k2c0) (by decide +kernel) rfl rfl rfl (by decide +kernel)
set_option maxRecDepth 65536 in
theorem w_c2 : (Jvm.Cond.code ({ cls := "java/lang/Object", name := "<init>", desc := "()V" } : Jvm.MethodName) object_method_1_code (1 : Nat) (Option.none : Option Jvm.ClassFile.FieldType)).before args0 about1 = true := code_word (m := ⟨0, 0⟩) (meth := k0m0) (c := k0c0) (by decide +kernel) rfl rfl rfl (by decide +kernel)
set_option maxRecDepth 65536 in
theorem w_c3 : (Jvm.Cond.code ({ cls := "com/example/aveiro/aveiro/lock/LamportClock", name := "time", desc := "()J" } : Jvm.MethodName) prog_26_method_4_code (1 : Nat) (Option.some Jvm.ClassFile.FieldType.long)).before args0 about1 = true := code_word (m := ⟨2, 3⟩) (meth := k2m3) (c := k2c3) (by decide +kernel) rfl rfl rfl (by decide +kernel)
set_option maxRecDepth 65536 in
theorem w_c4 : (Jvm.Cond.code ({ cls := "com/example/aveiro/aveiro/lock/LamportClock", name := "advance", desc := "()J" } : Jvm.MethodName) prog_26_method_2_code (1 : Nat) (Option.some Jvm.ClassFile.FieldType.long)).before args0 about1 = true := code_word (m := ⟨2, 1⟩) (meth := k2m1) (c := k2c1) (by decide +kernel) rfl rfl rfl (by decide +kernel)
set_option maxRecDepth 65536 in
theorem w_c5 : (Jvm.Cond.code ({ cls := "com/example/aveiro/aveiro/lock/LamportClock", name := "receive", desc := "(J)V" } : Jvm.MethodName) prog_26_method_3_code (3 : Nat) (Option.none : Option Jvm.ClassFile.FieldType)).before args0 about1 = true := code_word (m := ⟨2, 2⟩) (meth := k2m2) (c := k2c2) (by decide +kernel) rfl rfl rfl (by decide +kernel)
set_option maxRecDepth 65536 in
theorem w_c6 : (Jvm.Cond.code ({ cls := "java/lang/Math", name := "max", desc := "(JJ)J" } : Jvm.MethodName) jdk_29_method_66_code (4 : Nat) (Option.some Jvm.ClassFile.FieldType.long)).before args0 about1 = true := code_word (m := ⟨3, 1⟩) (meth := k3m1) (c := k3c1) (by decide +kernel) rfl rfl rfl (by decide +kernel)
def codes1 : List Jvm.Cond := [Jvm.Cond.code x code maxLocals ret, Jvm.Cond.code ({ cls := "com/example/aveiro/aveiro/lock/LamportClock", name := "<init>", desc := "()V" } : Jvm.MethodName) prog_26_method_1_code (1 : Nat) (Option.none : Option Jvm.ClassFile.FieldType), Jvm.Cond.code ({ cls := "java/lang/Object", name := "<init>", desc := "()V" } : Jvm.MethodName) object_method_1_code (1 : Nat) (Option.none : Option Jvm.ClassFile.FieldType), Jvm.Cond.code ({ cls := "com/example/aveiro/aveiro/lock/LamportClock", name := "time", desc := "()J" } : Jvm.MethodName) prog_26_method_4_code (1 : Nat) (Option.some Jvm.ClassFile.FieldType.long), Jvm.Cond.code ({ cls := "com/example/aveiro/aveiro/lock/LamportClock", name := "advance", desc := "()J" } : Jvm.MethodName) prog_26_method_2_code (1 : Nat) (Option.some Jvm.ClassFile.FieldType.long), Jvm.Cond.code ({ cls := "com/example/aveiro/aveiro/lock/LamportClock", name := "receive", desc := "(J)V" } : Jvm.MethodName) prog_26_method_3_code (3 : Nat) (Option.none : Option Jvm.ClassFile.FieldType), Jvm.Cond.code ({ cls := "java/lang/Math", name := "max", desc := "(JJ)J" } : Jvm.MethodName) jdk_29_method_66_code (4 : Nat) (Option.some Jvm.ClassFile.FieldType.long)]
set_option maxRecDepth 65536 in
theorem codes_eq : words1.filter isCode = codes1 := rfl
theorem w_codes : ∀ c ∈ words1.filter isCode, c.before args0 about1 = true := by
  rw [codes_eq]
  intro c hc
  simp only [codes1, List.mem_cons, List.not_mem_nil, or_false] at hc
  rcases hc with rfl | rfl | rfl | rfl | rfl | rfl | rfl
  · exact w_c0
  · exact w_c1
  · exact w_c2
  · exact w_c3
  · exact w_c4
  · exact w_c5
  · exact w_c6
set_option maxRecDepth 65536 in
theorem w_t1 : (words1.take 24).all (fun c => isCode c || c.before args0 about1) = true := by decide +kernel
set_option maxRecDepth 65536 in
theorem w_t2 : (words1.drop 24).all (fun c => isCode c || c.before args0 about1) = true := by decide +kernel
theorem w_tables : (allAtoms (Jvm.Cond.code x code maxLocals ret :: tables_1)).before args0 about1 = true := by
  rw [allAtoms_all]
  show words1.all (fun c => c.before args0 about1) = true
  refine all_split ?_ w_codes
  rw [← List.take_append_drop 24 words1, List.all_append, w_t1, w_t2]
  rfl
set_option maxRecDepth 65536 in
theorem w_case : (Jvm.Cond.and given_1 narrow_1).before args0 about1 = true := by decide +kernel
theorem w_applies : (headSpec (Jvm.Cond.code x code maxLocals ret :: tables_1) room_1).applies x e0.platform about1 = true :=
  (Spec.applies_iff w_frames).mpr ⟨w_running, w_runnable, w_alone, w_named, w_hears, w_ripe, w_room, w_tables⟩
theorem atStart : AtStart classFile x code maxLocals ret World_1 tables_1 room_1 Calls_1 rest_1 Pre_1 launch0 p0 e0 about1 theMethod args0 below0 :=
  ⟨lists_1, trivial, launch0.admits_env _ _ _, launch0.least_env, fairChoices_fair.cas, fairChoices_fair.clock, w_frames, w_args, w_heap, w_applies, trivial, trivial, w_case⟩
end start1
theorem witness_1 : WitnessClaimed_1 := ⟨start1.p0, start1.e0, start1.about1, start1.theMethod, start1.args0, start1.below0, start1.atStart⟩
end Jvm.Pilot.@@N@@
