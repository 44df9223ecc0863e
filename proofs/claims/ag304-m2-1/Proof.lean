import JvmDerived
import JvmDerived.Pilot.@@N@@Statement
import JvmDerived.Pilot.@@N@@Code
set_option linter.unusedVariables false
set_option linter.unusedSimpArgs false
namespace Jvm.Pilot.@@N@@
open Jvm Jvm.ClassFile Sem Op Lib Jvm.Free Jvm.Stand Jvm.LawKit Jvm.RoadKit Bundle Jvm.Pilot.@@N@@.Jvm.D
theorem own_sta {Z : State} {h h' : Heap} {C n d C' : String} {w : Value} {o : Addr} (F : Sta Z h C n d w) (K : Keep h h' [o]) (E : Exa Z h o C') : Sta Z h' C n d w := by
  obtain ⟨cf, i, k, f, st, cell, h1, h2, h3, h4, h5, h6, h7⟩ := F
  obtain ⟨ce, ke, e1, e2, e3, e4, e5⟩ := E
  refine ⟨cf, i, k, f, st, cell, h1, h2, h3, h4, K.2.1 st cell h5 (fun hm => ?_), h6, h7⟩
  cases List.mem_singleton.mp hm
  rw [e1] at h5; cases h5; rw [h6] at e4; cases e4
theorem own_fint {s : State} {args : Array Value} {t : Term} {C n d : String} {k : Int32} {w : Addr} (ht : t.eval args s none [] s = some (.ref w)) (h : (Jvm.Cond.eq (.field t C n d) (.int k)).value args s none s [] = some true) : Fld s s.heap w C n d (.int k) := by
  refine Fld.start ?_
  have e := fld_at (args := args) (first := s) (o := none) (idx := []) (s := s) (C := C) (n := n) (dd := d) ht
  obtain ⟨x, y, hx, hy, -, -⟩ := cmp_v (Or.inl h)
  rw [← e, hx]
  cases (Term.int_eval k).symm.trans hy
  cases x <;> simp [Jvm.Cond.value, hx, hy] at h
  rw [h]
theorem own_rem32 (x m : Int32) (hx : 0 ≤ x.toInt) : (x % m).toInt = x.toInt % m.toInt := by rw [Int32.toInt_mod, Int.tmod_eq_emod_of_nonneg hx]
theorem own_lc0 (x y : Int64) : (lcmpW x y < 0 ↔ x < y) ∧ (0 < lcmpW x y ↔ y < x) ∧ (lcmpW x y = 0 ↔ x = y) := by rw [lcW]; exact ⟨lc_lt x y, lc_gt x y, lc_eq x y⟩
theorem lcY_lt {x y : Int64} (h : x < y) : ifCond.holds .lt (lcmpW x y) = true := (if0 _ _).trans (tlt ((own_lc0 x y).1.mpr h)).1
theorem lcN_lt {x y : Int64} (h : ¬ x < y) : ifCond.holds .lt (lcmpW x y) = false := (if0 _ _).trans (flt fun q => h ((own_lc0 x y).1.mp q)).1
theorem lcN_ge {x y : Int64} (h : x < y) : ifCond.holds .ge (lcmpW x y) = false := (if0 _ _).trans (tlt ((own_lc0 x y).1.mpr h)).2.1
theorem lcY_ge {x y : Int64} (h : ¬ x < y) : ifCond.holds .ge (lcmpW x y) = true := (if0 _ _).trans (flt fun q => h ((own_lc0 x y).1.mp q)).2.1
theorem lcY_gt {x y : Int64} (h : y < x) : ifCond.holds .gt (lcmpW x y) = true := (if0 _ _).trans (tlt ((own_lc0 x y).2.1.mpr h)).2.2.1
theorem lcN_gt {x y : Int64} (h : ¬ y < x) : ifCond.holds .gt (lcmpW x y) = false := (if0 _ _).trans (flt fun q => h ((own_lc0 x y).2.1.mp q)).2.2.1
theorem lcN_le {x y : Int64} (h : y < x) : ifCond.holds .le (lcmpW x y) = false := (if0 _ _).trans (tlt ((own_lc0 x y).2.1.mpr h)).2.2.2
theorem lcY_le {x y : Int64} (h : ¬ y < x) : ifCond.holds .le (lcmpW x y) = true := (if0 _ _).trans (flt fun q => h ((own_lc0 x y).2.1.mp q)).2.2.2
theorem lcY_eq {x y : Int64} (h : x = y) : ifCond.holds .eq (lcmpW x y) = true := (if0 _ _).trans (teq ((own_lc0 x y).2.2.mpr h)).1
theorem lcN_eq {x y : Int64} (h : ¬ x = y) : ifCond.holds .eq (lcmpW x y) = false := (if0 _ _).trans (feq fun q => h ((own_lc0 x y).2.2.mp q)).1
theorem lcN_ne {x y : Int64} (h : x = y) : ifCond.holds .ne (lcmpW x y) = false := (if0 _ _).trans (teq ((own_lc0 x y).2.2.mpr h)).2
theorem lcY_ne {x y : Int64} (h : ¬ x = y) : ifCond.holds .ne (lcmpW x y) = true := (if0 _ _).trans (feq fun q => h ((own_lc0 x y).2.2.mp q)).2
/-- a byte array of that length with that first byte -/
def own_B (Z : State) (h : Heap) (a : Addr) (n z : Int32) : Prop := ∃ c : Cell, Arr Z h a c .byte ∧ c.slots.size = n.toNatClampNeg ∧ ¬ n < 0 ∧ c.slots[(0 : Int32).toNatClampNeg]? = some (.int z)
theorem own_cs {s : State} {args : Array Value} {t : Term} {w : Int32} (e : t.eval args s none [] s = some (.int w)) (h : (Jvm.Cond.not (Jvm.Cond.eq t (.int 0))).before args s = true) : ¬ (w = (0 : Int32)) := by
  have q := not_v (Cond.before_iff.mp h)
  intro z
  subst z
  simp [Jvm.Cond.value, e, Term.eval] at q
theorem own_eqv {s : State} {args : Array Value} {t : Term} {k : Int32} (h : (Jvm.Cond.eq t (.int k)).value args s none s [] = some true) : t.eval args s none [] s = some (.int k) := by
  obtain ⟨x, y, hx, hy, -, -⟩ := cmp_v (Or.inl h)
  rw [hx]
  cases (Term.int_eval k).symm.trans hy
  cases x <;> simp [Jvm.Cond.value, hx, hy] at h
  rw [h]
theorem own_bstart {s : State} {args : Array Value} {t : Term} {r : Addr} {n z : Int32} (ev : t.eval args s none [] s = some (.ref r)) (hA : (Jvm.Cond.arrayOf t .byte).value args s none s [] = some true) (hL : (Jvm.Cond.eq (.length t) (.int n)).value args s none s [] = some true) (hE : (Jvm.Cond.eq (.elem t (.int 0)) (.int z)).value args s none s [] = some true) (hn : ¬ n < 0) : own_B s s.heap r n z := by
  obtain ⟨c, A⟩ := Arr.start ev hA
  have ha : s.arrayAt? r = some c := Arr.fin (Z := s) (U := s) (Vm.Alike.refl _) A
  have l := own_eqv hL
  have e := own_eqv hE
  rw [elem_f ev (Term.int_eval 0) ha (by decide)] at e
  refine ⟨c, A, ?_, hn, e⟩
  have l2 : c.slots.size < 2 ^ 31 ∧ c.slots.size.toInt32 = n := by simpa [Term.eval, ev, ha] using l
  obtain ⟨l3, rfl⟩ := l2
  have l4 := len_toInt l3
  simp only [Int32.toNatClampNeg]; omega
theorem d1_0 : decode prog_130_method_4_code 0 = .ok (.aload_n 0, 1) := by decide +kernel
theorem d1_1 : decode prog_130_method_4_code 1 = .ok (.getfield 41, 3) := by decide +kernel
theorem d1_4 : decode prog_130_method_4_code 4 = .ok (.areturn, 1) := by decide +kernel
theorem pn_1 : plainName "com/example/obligation/obligation/xpath/Operations$Comparator" = true := by first | (simp [plainName, overriddenIn]; done) | decide +kernel
theorem ef_1 (m : MethodId) (ob0 : Addr) : entryFrame m #[(.ref ob0)] 1 = mkF m 0 #[.val (.ref ob0)] [] := by first | (simp [entryFrame, mkF, argsToLocals, Value.category]; done) | rfl
def Q1 (Z : State) (ob0 : Addr) (w_ob0_symbol : Addr) (h0 : Heap) (n0 : Nat) (v : Option Value) (h : Heap) (L : List Loc) : Prop := v = some (.ref w_ob0_symbol) ∧ Fr n0 L ∧ h = h0
set_option maxRecDepth 65536 in
set_option maxHeartbeats 40000000 in
theorem rm1 (l : Launch) (Z : State) (a0 : Array Value) (hw : ∀ d ∈ tables_1, d.before a0 Z = true) (ws : List Jvm.Cond) (ob0 : Addr) (w_ob0_symbol : Addr) (h0 : Heap) (n0 : Nat) (Z0 : n0 ≤ h0.size) (F_symbol_ob0 : Fld Z h0 ob0 "com/example/obligation/obligation/xpath/Operations$Comparator" "symbol" "Ljava/lang/String;" (.ref w_ob0_symbol)) :
    MetFree l (⟨"com/example/obligation/obligation/xpath/Operations$Comparator", "symbol", "()Ljava/lang/String;"⟩ : MethodName) (head1 (Jvm.Cond.code (⟨"com/example/obligation/obligation/xpath/Operations$Comparator", "symbol", "()Ljava/lang/String;"⟩ : MethodName) prog_130_method_4_code 1 (some (.object "java/lang/String")) :: ws) ({ frames := 0, cells := 0, slots := 0, locals := 0 } : Room)) (fun a U => a = #[(.ref ob0)] ∧ Z.Warmed39 U.vm ∧ U.heap = h0) (fun _ _ _ _ _ => True) (fun _ U o U' => ∃ v L, o = .returned v ∧ Q1 Z ob0 w_ob0_symbol h0 n0 v U'.heap L ∧ FrameEnd U o U' L ({ frames := 0, cells := 0, slots := 0, locals := 0 } : Room).cells ({ frames := 0, cells := 0, slots := 0, locals := 0 } : Room).slots) := by
  refine MetFree.of_bodySF (plainFor_of_name pn_1) hisR ?_
  intro p e s m args below meth c s₁ Bd hml0 hP hK
  obtain ⟨rfl, hZ, hh⟩ := hP
  have hx := Bd.exec
  have hby := Bd.bytes
  have hml : c.maxLocals = 1 := hml0
  have hown : s.vm.findClass "com/example/obligation/obligation/xpath/Operations$Comparator" = some m.cls := findClass_of_methodNamed Bd.named
  have hnm := (name_of_methodNamed Bd.named Bd.method).1
  have X0 : Stand p l e ({ frames := 0, cells := 0, slots := 0, locals := 0 } : Room) s m #[(.ref ob0)] below meth c s₁ [] 0 0 := Stand.of_body Bd
  have e0 : s₁.heap = h0 := by rw [← hh, Bd.state]; rfl
  have N0 := Fr.nil n0
  have pre0 : ∀ t, Steps p.tables e below (s₁.setTop (mkF m 0 #[.val (.ref ob0)] [])) t → Steps p.tables e below (s₁.setTop (entryFrame m #[(.ref ob0)] 1)) t := fun t k => castTop (ef_1 m ob0) k
  obtain ⟨T1, X1, e1, st1⟩ := getF X0 hx hZ hown (host := "") (Or.inl (hw _ (List.mem_of_getElem? (i := 9) rfl))) Via.refl e0 F_symbol_ob0 (g := (mkF m 1 #[.val (.ref ob0)] [(.ref ob0)])) rfl rfl (hb hby d1_1)
  obtain ⟨fs, hr, hrun, hended, hW, hsame⟩ := X1.leave (v := some (.ref w_ob0_symbol)) (fun h => by rw [Bd.returns] at h; cases h) (BodyLoose.notSynchronized Bd)
  refine ⟨_, _, pre0 _ ?_, hrun, hended, _, _, rfl, ?_, ⟨_, rfl⟩, hW, hsame.mono (by decide) (by decide)⟩
  · show Steps p.tables e below (s₁.setTop (mkF m 0 #[.val (.ref ob0)] [])) _
    refine XS.aloadN X0.here hx rfl (hb hby d1_0) rfl rfl ?_
    show Steps p.tables e below (s₁.setTop (mkF m 1 #[.val (.ref ob0)] [(.ref ob0)])) _
    refine st1 _ ?_
    show Steps p.tables e below (T1.setTop (mkF m 4 #[.val (.ref ob0)] [(.ref w_ob0_symbol)])) _
    exact retOut X1 hx Bd.returns rfl (Or.inr (Or.inr (Or.inr (Or.inr ⟨rfl, rfl, rfl⟩)))) (hb hby d1_4) hr
  · show Q1 Z ob0 w_ob0_symbol h0 n0 _ T1.heap _
    rw [e1]
    exact ⟨rfl, N0, rfl⟩
theorem pd_0 : parseMethodDescriptor "()Ljava/lang/String;" = some ⟨[], some (.object "java/lang/String")⟩ := by decide +kernel
theorem d3_0 : decode jdk_42_method_152_code 0 = .ok (.getstatic 38, 3) := by decide +kernel
theorem d3_3 : decode jdk_42_method_152_code 3 = .ok (.ifCond .eq 10, 3) := by decide +kernel
theorem d3_6 : decode jdk_42_method_152_code 6 = .ok (.aload_n 0, 1) := by decide +kernel
theorem d3_7 : decode jdk_42_method_152_code 7 = .ok (.getfield 15, 3) := by decide +kernel
theorem d3_10 : decode jdk_42_method_152_code 10 = .ok (.goto 4, 3) := by decide +kernel
theorem d3_14 : decode jdk_42_method_152_code 14 = .ok (.ireturn, 1) := by decide +kernel
theorem pn_3 : plainName "java/lang/String" = true := by first | (simp [plainName, overriddenIn]; done) | decide +kernel
theorem ef_3 (m : MethodId) (ob0 : Addr) : entryFrame m #[(.ref ob0)] 1 = mkF m 0 #[.val (.ref ob0)] [] := by first | (simp [entryFrame, mkF, argsToLocals, Value.category]; done) | rfl
def Q3 (Z : State) (ob0 : Addr) (w_COMPACT_STRINGS : Int32) (h0 : Heap) (n0 : Nat) (v : Option Value) (h : Heap) (L : List Loc) : Prop := v = some (.int (0 : Int32)) ∧ Fr n0 L ∧ h = h0
set_option maxRecDepth 65536 in
set_option maxHeartbeats 40000000 in
theorem rm3 (l : Launch) (Z : State) (a0 : Array Value) (hw : ∀ d ∈ tables_1, d.before a0 Z = true) (ws : List Jvm.Cond) (ob0 : Addr) (w_COMPACT_STRINGS : Int32) (h0 : Heap) (n0 : Nat) (Z0 : n0 ≤ h0.size) (S_COMPACT_STRINGS : Sta Z h0 "java/lang/String" "COMPACT_STRINGS" "Z" (.int w_COMPACT_STRINGS)) (hc3 : ¬ (w_COMPACT_STRINGS = (0 : Int32))) (F_coder_ob0 : Fld Z h0 ob0 "java/lang/String" "coder" "B" (.int (0 : Int32))) :
    MetFree l (⟨"java/lang/String", "coder", "()B"⟩ : MethodName) (head1 (Jvm.Cond.code (⟨"java/lang/String", "coder", "()B"⟩ : MethodName) jdk_42_method_152_code 1 (some .byte) :: ws) ({ frames := 0, cells := 0, slots := 0, locals := 0 } : Room)) (fun a U => a = #[(.ref ob0)] ∧ Z.Warmed39 U.vm ∧ U.heap = h0) (fun _ _ _ _ _ => True) (fun _ U o U' => ∃ v L, o = .returned v ∧ Q3 Z ob0 w_COMPACT_STRINGS h0 n0 v U'.heap L ∧ FrameEnd U o U' L ({ frames := 0, cells := 0, slots := 0, locals := 0 } : Room).cells ({ frames := 0, cells := 0, slots := 0, locals := 0 } : Room).slots) := by
  refine MetFree.of_bodySF (plainFor_of_name pn_3) hisR ?_
  intro p e s m args below meth c s₁ Bd hml0 hP hK
  obtain ⟨rfl, hZ, hh⟩ := hP
  have hx := Bd.exec
  have hby := Bd.bytes
  have hml : c.maxLocals = 1 := hml0
  have hown : s.vm.findClass "java/lang/String" = some m.cls := findClass_of_methodNamed Bd.named
  have hnm := (name_of_methodNamed Bd.named Bd.method).1
  have X0 : Stand p l e ({ frames := 0, cells := 0, slots := 0, locals := 0 } : Room) s m #[(.ref ob0)] below meth c s₁ [] 0 0 := Stand.of_body Bd
  have e0 : s₁.heap = h0 := by rw [← hh, Bd.state]; rfl
  have N0 := Fr.nil n0
  have pre0 : ∀ t, Steps p.tables e below (s₁.setTop (mkF m 0 #[.val (.ref ob0)] [])) t → Steps p.tables e below (s₁.setTop (entryFrame m #[(.ref ob0)] 1)) t := fun t k => castTop (ef_3 m ob0) k
  obtain ⟨T1, X1, e1, st1⟩ := getS2 X0 hx hZ hown (host := "") (Or.inl (hw _ (List.mem_of_getElem? (i := 24) rfl))) Via.refl e0 S_COMPACT_STRINGS (g := (mkF m 0 #[.val (.ref ob0)] [])) rfl (hb hby d3_0)
  obtain ⟨T2, X2, e2, st2⟩ := getF X1 hx hZ hown (host := "") (Or.inl (hw _ (List.mem_of_getElem? (i := 25) rfl))) Via.refl e1 F_coder_ob0 (g := (mkF m 7 #[.val (.ref ob0)] [(.ref ob0)])) rfl rfl (hb hby d3_7)
  obtain ⟨fs, hr, hrun, hended, hW, hsame⟩ := X2.leave (v := some (.int (0 : Int32))) (fun h => by rw [Bd.returns] at h; cases h) (BodyLoose.notSynchronized Bd)
  refine ⟨_, _, pre0 _ ?_, hrun, hended, _, _, rfl, ?_, ⟨_, rfl⟩, hW, hsame.mono (by decide) (by decide)⟩
  · show Steps p.tables e below (s₁.setTop (mkF m 0 #[.val (.ref ob0)] [])) _
    refine st1 _ ?_
    show Steps p.tables e below (T1.setTop (mkF m 3 #[.val (.ref ob0)] [(.int w_COMPACT_STRINGS)])) _
    refine XS.ifNo X1.here hx rfl (hb hby d3_3) rfl ((if0 _ _).trans (feq hc3).1) ?_
    show Steps p.tables e below (T1.setTop (mkF m 6 #[.val (.ref ob0)] [])) _
    refine XS.aloadN X1.here hx rfl (hb hby d3_6) rfl rfl ?_
    show Steps p.tables e below (T1.setTop (mkF m 7 #[.val (.ref ob0)] [(.ref ob0)])) _
    refine st2 _ ?_
    show Steps p.tables e below (T2.setTop (mkF m 10 #[.val (.ref ob0)] [(.int (0 : Int32))])) _
    refine XS.goto X2.here hx rfl (pc0 := 10) (pc' := 14) rfl (hb hby d3_10) (by decide) (by decide) ?_
    show Steps p.tables e below (T2.setTop (mkF m 14 #[.val (.ref ob0)] [(.int (0 : Int32))])) _
    exact retN X2 hx (t := .byte) Bd.returns (by simp) (hb hby d3_14) hr
  · show Q3 Z ob0 w_COMPACT_STRINGS h0 n0 _ T2.heap _
    rw [e2]
    exact ⟨rfl, N0, rfl⟩
theorem pd_1 : parseMethodDescriptor "()B" = some ⟨[], some .byte⟩ := by decide +kernel
theorem d2_0 : decode jdk_42_method_54_code 0 = .ok (.aload_n 0, 1) := by decide +kernel
theorem d2_1 : decode jdk_42_method_54_code 1 = .ok (.getfield 9, 3) := by decide +kernel
theorem d2_4 : decode jdk_42_method_54_code 4 = .ok (.arraylength, 1) := by decide +kernel
theorem d2_5 : decode jdk_42_method_54_code 5 = .ok (.aload_n 0, 1) := by decide +kernel
theorem d2_6 : decode jdk_42_method_54_code 6 = .ok (.invokevirtual 335, 3) := by decide +kernel
theorem d2_9 : decode jdk_42_method_54_code 9 = .ok (.ishr, 1) := by decide +kernel
theorem d2_10 : decode jdk_42_method_54_code 10 = .ok (.ireturn, 1) := by decide +kernel
theorem pn_2 : plainName "java/lang/String" = true := by first | (simp [plainName, overriddenIn]; done) | decide +kernel
theorem ef_2 (m : MethodId) (ob0 : Addr) : entryFrame m #[(.ref ob0)] 1 = mkF m 0 #[.val (.ref ob0)] [] := by first | (simp [entryFrame, mkF, argsToLocals, Value.category]; done) | rfl
def Q2 (Z : State) (ob0 : Addr) (w_ob0_value : Addr) (n_v : Int32) (z_v : Int32) (w_COMPACT_STRINGS : Int32) (h0 : Heap) (n0 : Nat) (v : Option Value) (h : Heap) (L : List Loc) : Prop := v = some (.int (n_v >>> ((0 : Int32) &&& 31))) ∧ Fr n0 L ∧ h = h0
set_option maxRecDepth 65536 in
set_option maxHeartbeats 40000000 in
theorem rm2 (l : Launch) (Z : State) (a0 : Array Value) (hw : ∀ d ∈ tables_1, d.before a0 Z = true) (ws : List Jvm.Cond) (ob0 : Addr) (w_ob0_value : Addr) (n_v : Int32) (z_v : Int32) (w_COMPACT_STRINGS : Int32) (h0 : Heap) (n0 : Nat) (Z0 : n0 ≤ h0.size) (F_value_ob0 : Fld Z h0 ob0 "java/lang/String" "value" "[B" (.ref w_ob0_value)) (B_v : own_B Z h0 w_ob0_value n_v z_v) (S_COMPACT_STRINGS : Sta Z h0 "java/lang/String" "COMPACT_STRINGS" "Z" (.int w_COMPACT_STRINGS)) (hcs : ¬ (w_COMPACT_STRINGS = (0 : Int32))) (F_coder_ob0 : Fld Z h0 ob0 "java/lang/String" "coder" "B" (.int (0 : Int32))) (E_ob0 : Exa Z h0 ob0 "java/lang/String") :
    MetFree l (⟨"java/lang/String", "length", "()I"⟩ : MethodName) (head1 (Jvm.Cond.code (⟨"java/lang/String", "length", "()I"⟩ : MethodName) jdk_42_method_54_code 1 (some .int) :: ws) ({ frames := 1, cells := 0, slots := 0, locals := 13 } : Room)) (fun a U => a = #[(.ref ob0)] ∧ Z.Warmed39 U.vm ∧ U.heap = h0) (fun _ _ _ _ _ => True) (fun _ U o U' => ∃ v L, o = .returned v ∧ Q2 Z ob0 w_ob0_value n_v z_v w_COMPACT_STRINGS h0 n0 v U'.heap L ∧ FrameEnd U o U' L ({ frames := 1, cells := 0, slots := 0, locals := 13 } : Room).cells ({ frames := 1, cells := 0, slots := 0, locals := 13 } : Room).slots) := by
  refine MetFree.of_bodySF (plainFor_of_name pn_2) hisR ?_
  intro p e s m args below meth c s₁ Bd hml0 hP hK
  obtain ⟨rfl, hZ, hh⟩ := hP
  have hx := Bd.exec
  have hby := Bd.bytes
  have hml : c.maxLocals = 1 := hml0
  have hown : s.vm.findClass "java/lang/String" = some m.cls := findClass_of_methodNamed Bd.named
  have hnm := (name_of_methodNamed Bd.named Bd.method).1
  have X0 : Stand p l e ({ frames := 1, cells := 0, slots := 0, locals := 13 } : Room) s m #[(.ref ob0)] below meth c s₁ [] 0 0 := Stand.of_body Bd
  have e0 : s₁.heap = h0 := by rw [← hh, Bd.state]; rfl
  have N0 := Fr.nil n0
  have pre0 : ∀ t, Steps p.tables e below (s₁.setTop (mkF m 0 #[.val (.ref ob0)] [])) t → Steps p.tables e below (s₁.setTop (entryFrame m #[(.ref ob0)] 1)) t := fun t k => castTop (ef_2 m ob0) k
  obtain ⟨T1, X1, e1, st1⟩ := getF X0 hx hZ hown (host := "") (Or.inl (hw _ (List.mem_of_getElem? (i := 17) rfl))) Via.refl e0 F_value_ob0 (g := (mkF m 1 #[.val (.ref ob0)] [(.ref ob0)])) rfl rfl (hb hby d2_1)
  obtain ⟨cl2, Ar2, Sz2, Ng2, -⟩ := id B_v
  have hp3 : ¬ (w_COMPACT_STRINGS = (0 : Int32)) := hcs
  obtain ⟨cq4, kq4, q4a, q4b, q4c⟩ := isOf hZ e1 E_ob0
  obtain ⟨_, _, ⟨T4, L4, k4, n4⟩, -, X4, ⟨Lc4, hQ4, l4, y4, z4⟩, st4⟩ := X1.virtualBack hx (y := (⟨"java/lang/String", "coder", "()B"⟩ : MethodName)) (z := (⟨"java/lang/String", "coder", "()B"⟩ : MethodName)) hown (mvT hZ (hw _ (List.mem_of_getElem? (i := 19) rfl))) (mvT hZ (hw _ (List.mem_of_getElem? (i := 20) rfl))) (notFace_of_selects (args := #[]) (mvT hZ (hw _ (List.mem_of_getElem? (i := 22) rfl)))) (mvT hZ (hw _ (List.mem_of_getElem? (i := 22) rfl))) (mvT hZ (hw _ (List.mem_of_getElem? (i := 21) rfl))) (by decide) (backOf (W := 1) (rm3 l Z a0 hw [] ob0 w_COMPACT_STRINGS h0 n0 Z0 S_COMPACT_STRINGS hp3 F_coder_ob0) hZ (hw _ (List.mem_of_getElem? (i := 23) rfl)) (hw _ (List.mem_of_getElem? (i := 15) rfl)) (by decide) (by decide)) q4a q4c (g := (mkF m 6 #[.val (.ref ob0)] [(.ref ob0), (.int n_v)])) rfl (by rw [hml]; rfl) (Steps.refl _) (argsL := []) (rest := [(.int n_v)]) (lenOf pd_1 rfl) rfl (by show 2 * 0 + _ ≤ _; exact Nat.le_of_eq rfl) (hb hby d2_6) (fun _ _ => ⟨rfl, e1, (by decide : 0 + 0 ≤ _), (by decide : 0 + 0 ≤ _)⟩)
  dsimp only [Pt.U, Pt.locs, Pt.cells, Pt.slots] at X4 l4 y4 z4 st4 hQ4
  subst l4 y4 z4
  obtain ⟨rfl, N4q, e4⟩ := hQ4
  have N4 := Fr.app N0 N4q
  obtain ⟨fs, hr, hrun, hended, hW, hsame⟩ := X4.leave (v := some (.int (n_v >>> ((0 : Int32) &&& 31)))) (fun h => by rw [Bd.returns] at h; cases h) (BodyLoose.notSynchronized Bd)
  refine ⟨_, _, pre0 _ ?_, hrun, hended, _, _, rfl, ?_, ⟨_, rfl⟩, hW, hsame.mono (by decide) (by decide)⟩
  · show Steps p.tables e below (s₁.setTop (mkF m 0 #[.val (.ref ob0)] [])) _
    refine XS.aloadN X0.here hx rfl (hb hby d2_0) rfl rfl ?_
    show Steps p.tables e below (s₁.setTop (mkF m 1 #[.val (.ref ob0)] [(.ref ob0)])) _
    refine st1 _ ?_
    show Steps p.tables e below (T1.setTop (mkF m 4 #[.val (.ref ob0)] [(.ref w_ob0_value)])) _
    refine X1.arraylength hx (by rw [e1]; exact Ar2.1) (State.isArrayOf_alike hZ.alike Ar2.2.1) (g := (mkF m 4 #[.val (.ref ob0)] [(.ref w_ob0_value)])) rfl rfl (hb hby d2_4) _ ?_
    rw [len_of Sz2 Ng2]
    show Steps p.tables e below (T1.setTop (mkF m 5 #[.val (.ref ob0)] [(.int n_v)])) _
    refine XS.aloadN X1.here hx rfl (hb hby d2_5) rfl rfl ?_
    show Steps p.tables e below (T1.setTop (mkF m 6 #[.val (.ref ob0)] [(.ref ob0), (.int n_v)])) _
    refine st4.trans ?_
    show Steps p.tables e below (T4.setTop (mkF m 9 #[.val (.ref ob0)] [(.int (0 : Int32)), (.int n_v)])) _
    refine XS.ishr X4.here hx rfl (hb hby d2_9) rfl ?_
    show Steps p.tables e below (T4.setTop (mkF m 10 #[.val (.ref ob0)] [(.int (n_v >>> ((0 : Int32) &&& 31)))])) _
    exact retOut X4 hx Bd.returns rfl (Or.inl ⟨rfl, Or.inl rfl, _, rfl⟩) (hb hby d2_10) hr
  · show Q2 Z ob0 w_ob0_value n_v z_v w_COMPACT_STRINGS h0 n0 _ T4.heap _
    rw [e4]
    exact ⟨rfl, N4, rfl⟩
theorem pd_2 : parseMethodDescriptor "()I" = some ⟨[], some .int⟩ := by decide +kernel
theorem d5_0 : decode jdk_42_method_154_code 0 = .ok (.getstatic 38, 3) := by decide +kernel
theorem d5_3 : decode jdk_42_method_154_code 3 = .ok (.ifCond .eq 14, 3) := by decide +kernel
theorem d5_6 : decode jdk_42_method_154_code 6 = .ok (.aload_n 0, 1) := by decide +kernel
theorem d5_7 : decode jdk_42_method_154_code 7 = .ok (.getfield 15, 3) := by decide +kernel
theorem d5_10 : decode jdk_42_method_154_code 10 = .ok (.ifCond .ne 7, 3) := by decide +kernel
theorem d5_13 : decode jdk_42_method_154_code 13 = .ok (.iconst 1, 1) := by decide +kernel
theorem d5_14 : decode jdk_42_method_154_code 14 = .ok (.goto 4, 3) := by decide +kernel
theorem d5_18 : decode jdk_42_method_154_code 18 = .ok (.ireturn, 1) := by decide +kernel
theorem pn_5 : plainName "java/lang/String" = true := by first | (simp [plainName, overriddenIn]; done) | decide +kernel
theorem ef_5 (m : MethodId) (ob0 : Addr) : entryFrame m #[(.ref ob0)] 1 = mkF m 0 #[.val (.ref ob0)] [] := by first | (simp [entryFrame, mkF, argsToLocals, Value.category]; done) | rfl
def Q5 (Z : State) (ob0 : Addr) (w_COMPACT_STRINGS : Int32) (h0 : Heap) (n0 : Nat) (v : Option Value) (h : Heap) (L : List Loc) : Prop := v = some (.int (1 : Int32)) ∧ Fr n0 L ∧ h = h0
set_option maxRecDepth 65536 in
set_option maxHeartbeats 40000000 in
theorem rm5 (l : Launch) (Z : State) (a0 : Array Value) (hw : ∀ d ∈ tables_1, d.before a0 Z = true) (ws : List Jvm.Cond) (ob0 : Addr) (w_COMPACT_STRINGS : Int32) (h0 : Heap) (n0 : Nat) (Z0 : n0 ≤ h0.size) (S_COMPACT_STRINGS : Sta Z h0 "java/lang/String" "COMPACT_STRINGS" "Z" (.int w_COMPACT_STRINGS)) (hc3 : ¬ (w_COMPACT_STRINGS = (0 : Int32))) (F_coder_ob0 : Fld Z h0 ob0 "java/lang/String" "coder" "B" (.int (0 : Int32))) :
    MetFree l (⟨"java/lang/String", "isLatin1", "()Z"⟩ : MethodName) (head1 (Jvm.Cond.code (⟨"java/lang/String", "isLatin1", "()Z"⟩ : MethodName) jdk_42_method_154_code 1 (some .boolean) :: ws) ({ frames := 0, cells := 0, slots := 0, locals := 0 } : Room)) (fun a U => a = #[(.ref ob0)] ∧ Z.Warmed39 U.vm ∧ U.heap = h0) (fun _ _ _ _ _ => True) (fun _ U o U' => ∃ v L, o = .returned v ∧ Q5 Z ob0 w_COMPACT_STRINGS h0 n0 v U'.heap L ∧ FrameEnd U o U' L ({ frames := 0, cells := 0, slots := 0, locals := 0 } : Room).cells ({ frames := 0, cells := 0, slots := 0, locals := 0 } : Room).slots) := by
  refine MetFree.of_bodySF (plainFor_of_name pn_5) hisR ?_
  intro p e s m args below meth c s₁ Bd hml0 hP hK
  obtain ⟨rfl, hZ, hh⟩ := hP
  have hx := Bd.exec
  have hby := Bd.bytes
  have hml : c.maxLocals = 1 := hml0
  have hown : s.vm.findClass "java/lang/String" = some m.cls := findClass_of_methodNamed Bd.named
  have hnm := (name_of_methodNamed Bd.named Bd.method).1
  have X0 : Stand p l e ({ frames := 0, cells := 0, slots := 0, locals := 0 } : Room) s m #[(.ref ob0)] below meth c s₁ [] 0 0 := Stand.of_body Bd
  have e0 : s₁.heap = h0 := by rw [← hh, Bd.state]; rfl
  have N0 := Fr.nil n0
  have pre0 : ∀ t, Steps p.tables e below (s₁.setTop (mkF m 0 #[.val (.ref ob0)] [])) t → Steps p.tables e below (s₁.setTop (entryFrame m #[(.ref ob0)] 1)) t := fun t k => castTop (ef_5 m ob0) k
  obtain ⟨T1, X1, e1, st1⟩ := getS2 X0 hx hZ hown (host := "") (Or.inl (hw _ (List.mem_of_getElem? (i := 24) rfl))) Via.refl e0 S_COMPACT_STRINGS (g := (mkF m 0 #[.val (.ref ob0)] [])) rfl (hb hby d5_0)
  obtain ⟨T2, X2, e2, st2⟩ := getF X1 hx hZ hown (host := "") (Or.inl (hw _ (List.mem_of_getElem? (i := 25) rfl))) Via.refl e1 F_coder_ob0 (g := (mkF m 7 #[.val (.ref ob0)] [(.ref ob0)])) rfl rfl (hb hby d5_7)
  obtain ⟨fs, hr, hrun, hended, hW, hsame⟩ := X2.leave (v := some (.int (1 : Int32))) (fun h => by rw [Bd.returns] at h; cases h) (BodyLoose.notSynchronized Bd)
  refine ⟨_, _, pre0 _ ?_, hrun, hended, _, _, rfl, ?_, ⟨_, rfl⟩, hW, hsame.mono (by decide) (by decide)⟩
  · show Steps p.tables e below (s₁.setTop (mkF m 0 #[.val (.ref ob0)] [])) _
    refine st1 _ ?_
    show Steps p.tables e below (T1.setTop (mkF m 3 #[.val (.ref ob0)] [(.int w_COMPACT_STRINGS)])) _
    refine XS.ifNo X1.here hx rfl (hb hby d5_3) rfl ((if0 _ _).trans (feq hc3).1) ?_
    show Steps p.tables e below (T1.setTop (mkF m 6 #[.val (.ref ob0)] [])) _
    refine XS.aloadN X1.here hx rfl (hb hby d5_6) rfl rfl ?_
    show Steps p.tables e below (T1.setTop (mkF m 7 #[.val (.ref ob0)] [(.ref ob0)])) _
    refine st2 _ ?_
    show Steps p.tables e below (T2.setTop (mkF m 10 #[.val (.ref ob0)] [(.int (0 : Int32))])) _
    refine XS.ifNo X2.here hx rfl (hb hby d5_10) rfl ((if0 _ _).trans (teq (by decide : (0 : Int32) = (0 : Int32))).2) ?_
    show Steps p.tables e below (T2.setTop (mkF m 13 #[.val (.ref ob0)] [])) _
    refine XS.iconst X2.here hx rfl (hb hby d5_13) ?_
    show Steps p.tables e below (T2.setTop (mkF m 14 #[.val (.ref ob0)] [(.int (1 : Int32))])) _
    refine XS.goto X2.here hx rfl (pc0 := 14) (pc' := 18) rfl (hb hby d5_14) (by decide) (by decide) ?_
    show Steps p.tables e below (T2.setTop (mkF m 18 #[.val (.ref ob0)] [(.int (1 : Int32))])) _
    exact retN X2 hx (t := .boolean) Bd.returns (by simp) (hb hby d5_18) hr
  · show Q5 Z ob0 w_COMPACT_STRINGS h0 n0 _ T2.heap _
    rw [e2]
    exact ⟨rfl, N0, rfl⟩
theorem pd_3 : parseMethodDescriptor "()Z" = some ⟨[], some .boolean⟩ := by decide +kernel
theorem d8_0 : decode jdk_41_method_11_code 0 = .ok (.iload_n 0, 1) := by decide +kernel
theorem d8_1 : decode jdk_41_method_11_code 1 = .ok (.ifCond .lt 8, 3) := by decide +kernel
theorem d8_4 : decode jdk_41_method_11_code 4 = .ok (.iload_n 0, 1) := by decide +kernel
theorem d8_5 : decode jdk_41_method_11_code 5 = .ok (.iload_n 1, 1) := by decide +kernel
theorem d8_6 : decode jdk_41_method_11_code 6 = .ok (.if_icmp .lt 10, 3) := by decide +kernel
theorem d8_16 : decode jdk_41_method_11_code 16 = .ok (.iload_n 0, 1) := by decide +kernel
theorem d8_17 : decode jdk_41_method_11_code 17 = .ok (.ireturn, 1) := by decide +kernel
theorem pn_8 : plainName "jdk/internal/util/Preconditions" = true := by first | (simp [plainName, overriddenIn]; done) | decide +kernel
theorem ef_8 (m : MethodId) (p1 : Int32) (v2 : Value) (hv2 : v2.isRef = true) : entryFrame m #[(.int (0 : Int32)), (.int p1), v2] 3 = mkF m 0 #[.val (.int (0 : Int32)), .val (.int p1), .val v2] [] := by rcases ref_cases hv2 with rfl | ⟨_, rfl⟩ <;> first | (simp [entryFrame, mkF, argsToLocals, Value.category]; done) | rfl
def Q8 (Z : State) (p1 : Int32) (v2 : Value) (h0 : Heap) (n0 : Nat) (v : Option Value) (h : Heap) (L : List Loc) : Prop := v = some (.int (0 : Int32)) ∧ Fr n0 L ∧ h = h0
set_option maxRecDepth 65536 in
set_option maxHeartbeats 40000000 in
theorem rm8 (l : Launch) (Z : State) (a0 : Array Value) (hw : ∀ d ∈ tables_1, d.before a0 Z = true) (ws : List Jvm.Cond) (p1 : Int32) (v2 : Value) (h0 : Heap) (n0 : Nat) (Z0 : n0 ≤ h0.size) (hv2 : v2.isRef = true) (hc6 : (0 : Int32) < p1) :
    MetFree l (⟨"jdk/internal/util/Preconditions", "checkIndex", "(IILjava/util/function/BiFunction;)I"⟩ : MethodName) (head1 (Jvm.Cond.code (⟨"jdk/internal/util/Preconditions", "checkIndex", "(IILjava/util/function/BiFunction;)I"⟩ : MethodName) jdk_41_method_11_code 3 (some .int) :: ws) ({ frames := 0, cells := 0, slots := 0, locals := 0 } : Room)) (fun a U => a = #[(.int (0 : Int32)), (.int p1), v2] ∧ Z.Warmed39 U.vm ∧ U.heap = h0) (fun _ _ _ _ _ => True) (fun _ U o U' => ∃ v L, o = .returned v ∧ Q8 Z p1 v2 h0 n0 v U'.heap L ∧ FrameEnd U o U' L ({ frames := 0, cells := 0, slots := 0, locals := 0 } : Room).cells ({ frames := 0, cells := 0, slots := 0, locals := 0 } : Room).slots) := by
  refine MetFree.of_bodySF (plainFor_of_name pn_8) hisR ?_
  intro p e s m args below meth c s₁ Bd hml0 hP hK
  obtain ⟨rfl, hZ, hh⟩ := hP
  have hx := Bd.exec
  have hby := Bd.bytes
  have hml : c.maxLocals = 3 := hml0
  have hown : s.vm.findClass "jdk/internal/util/Preconditions" = some m.cls := findClass_of_methodNamed Bd.named
  have hnm := (name_of_methodNamed Bd.named Bd.method).1
  have X0 : Stand p l e ({ frames := 0, cells := 0, slots := 0, locals := 0 } : Room) s m #[(.int (0 : Int32)), (.int p1), v2] below meth c s₁ [] 0 0 := Stand.of_body Bd
  have e0 : s₁.heap = h0 := by rw [← hh, Bd.state]; rfl
  have N0 := Fr.nil n0
  have pre0 : ∀ t, Steps p.tables e below (s₁.setTop (mkF m 0 #[.val (.int (0 : Int32)), .val (.int p1), .val v2] [])) t → Steps p.tables e below (s₁.setTop (entryFrame m #[(.int (0 : Int32)), (.int p1), v2] 3)) t := fun t k => castTop (ef_8 m p1 v2 hv2) k
  obtain ⟨fs, hr, hrun, hended, hW, hsame⟩ := X0.leave (v := some (.int (0 : Int32))) (fun h => by rw [Bd.returns] at h; cases h) (BodyLoose.notSynchronized Bd)
  refine ⟨_, _, pre0 _ ?_, hrun, hended, _, _, rfl, ?_, ⟨_, rfl⟩, hW, hsame.mono (by decide) (by decide)⟩
  · show Steps p.tables e below (s₁.setTop (mkF m 0 #[.val (.int (0 : Int32)), .val (.int p1), .val v2] [])) _
    refine XS.iloadN X0.here hx rfl (hb hby d8_0) rfl ?_
    show Steps p.tables e below (s₁.setTop (mkF m 1 #[.val (.int (0 : Int32)), .val (.int p1), .val v2] [(.int (0 : Int32))])) _
    refine XS.ifNo X0.here hx rfl (hb hby d8_1) rfl ((if0 _ _).trans (flt (by decide : ¬ ((0 : Int32) < (0 : Int32)))).1) ?_
    show Steps p.tables e below (s₁.setTop (mkF m 4 #[.val (.int (0 : Int32)), .val (.int p1), .val v2] [])) _
    refine XS.iloadN X0.here hx rfl (hb hby d8_4) rfl ?_
    show Steps p.tables e below (s₁.setTop (mkF m 5 #[.val (.int (0 : Int32)), .val (.int p1), .val v2] [(.int (0 : Int32))])) _
    refine XS.iloadN X0.here hx rfl (hb hby d8_5) rfl ?_
    show Steps p.tables e below (s₁.setTop (mkF m 6 #[.val (.int (0 : Int32)), .val (.int p1), .val v2] [(.int p1), (.int (0 : Int32))])) _
    refine XS.icmpYes X0.here hx rfl (pc0 := 6) (pc' := 16) rfl (hb hby d8_6) rfl (tlt hc6).1 (by decide) (by decide) ?_
    show Steps p.tables e below (s₁.setTop (mkF m 16 #[.val (.int (0 : Int32)), .val (.int p1), .val v2] [])) _
    refine XS.iloadN X0.here hx rfl (hb hby d8_16) rfl ?_
    show Steps p.tables e below (s₁.setTop (mkF m 17 #[.val (.int (0 : Int32)), .val (.int p1), .val v2] [(.int (0 : Int32))])) _
    exact retOut X0 hx Bd.returns rfl (Or.inl ⟨rfl, Or.inl rfl, _, rfl⟩) (hb hby d8_17) hr
  · show Q8 Z p1 v2 h0 n0 _ s₁.heap _
    rw [e0]
    exact ⟨rfl, N0, rfl⟩
theorem pd_4 : parseMethodDescriptor "(IILjava/util/function/BiFunction;)I" = some ⟨[.int, .int, (.object "java/util/function/BiFunction")], some .int⟩ := by decide +kernel
theorem d7_0 : decode jdk_42_method_155_code 0 = .ok (.iload_n 0, 1) := by decide +kernel
theorem d7_1 : decode jdk_42_method_155_code 1 = .ok (.iload_n 1, 1) := by decide +kernel
theorem d7_2 : decode jdk_42_method_155_code 2 = .ok (.getstatic 1053, 3) := by decide +kernel
theorem d7_5 : decode jdk_42_method_155_code 5 = .ok (.invokestatic 1059, 3) := by decide +kernel
theorem d7_8 : decode jdk_42_method_155_code 8 = .ok (.pop, 1) := by decide +kernel
theorem d7_9 : decode jdk_42_method_155_code 9 = .ok (.return_, 1) := by decide +kernel
theorem pn_7 : plainName "java/lang/String" = true := by first | (simp [plainName, overriddenIn]; done) | decide +kernel
theorem ef_7 (m : MethodId) (p1 : Int32) : entryFrame m #[(.int (0 : Int32)), (.int p1)] 2 = mkF m 0 #[.val (.int (0 : Int32)), .val (.int p1)] [] := by first | (simp [entryFrame, mkF, argsToLocals, Value.category]; done) | rfl
def Q7 (Z : State) (p1 : Int32) (w_SIOOBE_FORMATTER : Value) (h0 : Heap) (n0 : Nat) (v : Option Value) (h : Heap) (L : List Loc) : Prop := v = none ∧ Fr n0 L ∧ h = h0
set_option maxRecDepth 65536 in
set_option maxHeartbeats 40000000 in
theorem rm7 (l : Launch) (Z : State) (a0 : Array Value) (hw : ∀ d ∈ tables_1, d.before a0 Z = true) (ws : List Jvm.Cond) (p1 : Int32) (w_SIOOBE_FORMATTER : Value) (h0 : Heap) (n0 : Nat) (Z0 : n0 ≤ h0.size) (hr_w_SIOOBE_FORMATTER : w_SIOOBE_FORMATTER.isRef = true) (S_SIOOBE_FORMATTER : Sta Z h0 "jdk/internal/util/Preconditions" "SIOOBE_FORMATTER" "Ljava/util/function/BiFunction;" w_SIOOBE_FORMATTER) (hlen : (0 : Int32) < p1) :
    MetFree l (⟨"java/lang/String", "checkIndex", "(II)V"⟩ : MethodName) (head1 (Jvm.Cond.code (⟨"java/lang/String", "checkIndex", "(II)V"⟩ : MethodName) jdk_42_method_155_code 2 none :: ws) ({ frames := 1, cells := 0, slots := 0, locals := 14 } : Room)) (fun a U => a = #[(.int (0 : Int32)), (.int p1)] ∧ Z.Warmed39 U.vm ∧ U.heap = h0) (fun _ _ _ _ _ => True) (fun _ U o U' => ∃ v L, o = .returned v ∧ Q7 Z p1 w_SIOOBE_FORMATTER h0 n0 v U'.heap L ∧ FrameEnd U o U' L ({ frames := 1, cells := 0, slots := 0, locals := 14 } : Room).cells ({ frames := 1, cells := 0, slots := 0, locals := 14 } : Room).slots) := by
  refine MetFree.of_bodySF (plainFor_of_name pn_7) hisR ?_
  intro p e s m args below meth c s₁ Bd hml0 hP hK
  obtain ⟨rfl, hZ, hh⟩ := hP
  have hx := Bd.exec
  have hby := Bd.bytes
  have hml : c.maxLocals = 2 := hml0
  have hown : s.vm.findClass "java/lang/String" = some m.cls := findClass_of_methodNamed Bd.named
  have hnm := (name_of_methodNamed Bd.named Bd.method).1
  have X0 : Stand p l e ({ frames := 1, cells := 0, slots := 0, locals := 14 } : Room) s m #[(.int (0 : Int32)), (.int p1)] below meth c s₁ [] 0 0 := Stand.of_body Bd
  have e0 : s₁.heap = h0 := by rw [← hh, Bd.state]; rfl
  have N0 := Fr.nil n0
  have pre0 : ∀ t, Steps p.tables e below (s₁.setTop (mkF m 0 #[.val (.int (0 : Int32)), .val (.int p1)] [])) t → Steps p.tables e below (s₁.setTop (entryFrame m #[(.int (0 : Int32)), (.int p1)] 2)) t := fun t k => castTop (ef_7 m p1) k
  obtain ⟨T1, X1, e1, st1⟩ := getS2 X0 hx hZ hown (host := "") (Or.inl (hw _ (List.mem_of_getElem? (i := 44) rfl))) Via.refl e0 S_SIOOBE_FORMATTER (g := (mkF m 2 #[.val (.int (0 : Int32)), .val (.int p1)] [(.int p1), (.int (0 : Int32))])) rfl (hb hby d7_2)
  have hp2 : (0 : Int32) < p1 := hlen
  obtain ⟨_, _, ⟨T3, L3, k3, n3⟩, -, X3, ⟨Lc3, hQ3, l3, y3, z3⟩, st3⟩ := Jvm.LawKit.callS X1 hx (y := (⟨"jdk/internal/util/Preconditions", "checkIndex", "(IILjava/util/function/BiFunction;)I"⟩ : MethodName)) hown (mvT hZ (hw _ (List.mem_of_getElem? (i := 46) rfl))) (mvT hZ (hw _ (List.mem_of_getElem? (i := 47) rfl))) (mvT hZ (hw _ (List.mem_of_getElem? (i := 45) rfl))) (mvT hZ (hw _ (List.mem_of_getElem? (i := 48) rfl))) (by decide) (backOf (W := 0) (rm8 l Z a0 hw [] p1 w_SIOOBE_FORMATTER h0 n0 Z0 hr_w_SIOOBE_FORMATTER hp2) hZ (hw _ (List.mem_of_getElem? (i := 48) rfl)) (hw _ (List.mem_of_getElem? (i := 45) rfl)) (by decide) (by decide)) (g := (mkF m 5 #[.val (.int (0 : Int32)), .val (.int p1)] [w_SIOOBE_FORMATTER, (.int p1), (.int (0 : Int32))])) rfl (by rw [hml]; rfl) (argsL := [(.int (0 : Int32)), (.int p1), w_SIOOBE_FORMATTER]) (rest := []) (lenOf pd_4 rfl) rfl (by show 2 * 0 + _ ≤ _; exact Nat.le_of_eq rfl) (hb hby d7_5) (fun _ _ => ⟨rfl, e1, (by decide : 0 + 0 ≤ _), (by decide : 0 + 0 ≤ _)⟩)
  dsimp only [Pt.U, Pt.locs, Pt.cells, Pt.slots] at X3 l3 y3 z3 st3 hQ3
  subst l3 y3 z3
  obtain ⟨rfl, N3q, e3⟩ := hQ3
  have N3 := Fr.app N0 N3q
  obtain ⟨fs, hr, hrun, hended, hW, hsame⟩ := X3.leave (v := none) (fun _ => rfl) (BodyLoose.notSynchronized Bd)
  refine ⟨_, _, pre0 _ ?_, hrun, hended, _, _, rfl, ?_, ⟨_, rfl⟩, hW, hsame.mono (by decide) (by decide)⟩
  · show Steps p.tables e below (s₁.setTop (mkF m 0 #[.val (.int (0 : Int32)), .val (.int p1)] [])) _
    refine XS.iloadN X0.here hx rfl (hb hby d7_0) rfl ?_
    show Steps p.tables e below (s₁.setTop (mkF m 1 #[.val (.int (0 : Int32)), .val (.int p1)] [(.int (0 : Int32))])) _
    refine XS.iloadN X0.here hx rfl (hb hby d7_1) rfl ?_
    show Steps p.tables e below (s₁.setTop (mkF m 2 #[.val (.int (0 : Int32)), .val (.int p1)] [(.int p1), (.int (0 : Int32))])) _
    refine st1 _ ?_
    show Steps p.tables e below (T1.setTop (mkF m 5 #[.val (.int (0 : Int32)), .val (.int p1)] [w_SIOOBE_FORMATTER, (.int p1), (.int (0 : Int32))])) _
    refine st3 _ ?_
    show Steps p.tables e below (T3.setTop (mkF m 8 #[.val (.int (0 : Int32)), .val (.int p1)] [(.int (0 : Int32))])) _
    refine XS.pop X3.here hx rfl (hb hby d7_8) rfl rfl ?_
    show Steps p.tables e below (T3.setTop (mkF m 9 #[.val (.int (0 : Int32)), .val (.int p1)] [])) _
    exact X3.returnOut hx Bd.returns (hb hby d7_9) hr
  · show Q7 Z p1 w_SIOOBE_FORMATTER h0 n0 _ T3.heap _
    rw [e3]
    exact ⟨rfl, N3, rfl⟩
theorem pd_5 : parseMethodDescriptor "(II)V" = some ⟨[.int, .int], none⟩ := by decide +kernel
theorem d6_0 : decode jdk_43_method_2_code 0 = .ok (.iload_n 1, 1) := by decide +kernel
theorem d6_1 : decode jdk_43_method_2_code 1 = .ok (.aload_n 0, 1) := by decide +kernel
theorem d6_2 : decode jdk_43_method_2_code 2 = .ok (.arraylength, 1) := by decide +kernel
theorem d6_3 : decode jdk_43_method_2_code 3 = .ok (.invokestatic 9, 3) := by decide +kernel
theorem d6_6 : decode jdk_43_method_2_code 6 = .ok (.aload_n 0, 1) := by decide +kernel
theorem d6_7 : decode jdk_43_method_2_code 7 = .ok (.iload_n 1, 1) := by decide +kernel
theorem d6_8 : decode jdk_43_method_2_code 8 = .ok (.baload, 1) := by decide +kernel
theorem d6_9 : decode jdk_43_method_2_code 9 = .ok (.sipush 255, 3) := by decide +kernel
theorem d6_12 : decode jdk_43_method_2_code 12 = .ok (.iand, 1) := by decide +kernel
theorem d6_13 : decode jdk_43_method_2_code 13 = .ok (.i2c, 1) := by decide +kernel
theorem d6_14 : decode jdk_43_method_2_code 14 = .ok (.ireturn, 1) := by decide +kernel
theorem pn_6 : plainName "java/lang/StringLatin1" = true := by first | (simp [plainName, overriddenIn]; done) | decide +kernel
theorem ef_6 (m : MethodId) (ob0 : Addr) : entryFrame m #[(.ref ob0), (.int (0 : Int32))] 2 = mkF m 0 #[.val (.ref ob0), .val (.int (0 : Int32))] [] := by first | (simp [entryFrame, mkF, argsToLocals, Value.category]; done) | rfl
def Q6 (Z : State) (ob0 : Addr) (n_v : Int32) (z_v : Int32) (w_SIOOBE_FORMATTER : Value) (h0 : Heap) (n0 : Nat) (v : Option Value) (h : Heap) (L : List Loc) : Prop := v = some (.int (nar .char ((z_v &&& (255 : Int32)).toUInt32.toUInt16.toUInt32.toInt32))) ∧ Fr n0 L ∧ h = h0
set_option maxRecDepth 65536 in
set_option maxHeartbeats 40000000 in
theorem rm6 (l : Launch) (Z : State) (a0 : Array Value) (hw : ∀ d ∈ tables_1, d.before a0 Z = true) (ws : List Jvm.Cond) (ob0 : Addr) (n_v : Int32) (z_v : Int32) (w_SIOOBE_FORMATTER : Value) (h0 : Heap) (n0 : Nat) (Z0 : n0 ≤ h0.size) (B_v : own_B Z h0 ob0 n_v z_v) (hlen : (0 : Int32) < n_v) (hr_w_SIOOBE_FORMATTER : w_SIOOBE_FORMATTER.isRef = true) (S_SIOOBE_FORMATTER : Sta Z h0 "jdk/internal/util/Preconditions" "SIOOBE_FORMATTER" "Ljava/util/function/BiFunction;" w_SIOOBE_FORMATTER) :
    MetFree l (⟨"java/lang/StringLatin1", "charAt", "([BI)C"⟩ : MethodName) (head1 (Jvm.Cond.code (⟨"java/lang/StringLatin1", "charAt", "([BI)C"⟩ : MethodName) jdk_43_method_2_code 2 (some .char) :: ws) ({ frames := 2, cells := 0, slots := 0, locals := 27 } : Room)) (fun a U => a = #[(.ref ob0), (.int (0 : Int32))] ∧ Z.Warmed39 U.vm ∧ U.heap = h0) (fun _ _ _ _ _ => True) (fun _ U o U' => ∃ v L, o = .returned v ∧ Q6 Z ob0 n_v z_v w_SIOOBE_FORMATTER h0 n0 v U'.heap L ∧ FrameEnd U o U' L ({ frames := 2, cells := 0, slots := 0, locals := 27 } : Room).cells ({ frames := 2, cells := 0, slots := 0, locals := 27 } : Room).slots) := by
  refine MetFree.of_bodySF (plainFor_of_name pn_6) hisR ?_
  intro p e s m args below meth c s₁ Bd hml0 hP hK
  obtain ⟨rfl, hZ, hh⟩ := hP
  have hx := Bd.exec
  have hby := Bd.bytes
  have hml : c.maxLocals = 2 := hml0
  have hown : s.vm.findClass "java/lang/StringLatin1" = some m.cls := findClass_of_methodNamed Bd.named
  have hnm := (name_of_methodNamed Bd.named Bd.method).1
  have X0 : Stand p l e ({ frames := 2, cells := 0, slots := 0, locals := 27 } : Room) s m #[(.ref ob0), (.int (0 : Int32))] below meth c s₁ [] 0 0 := Stand.of_body Bd
  have e0 : s₁.heap = h0 := by rw [← hh, Bd.state]; rfl
  have N0 := Fr.nil n0
  have pre0 : ∀ t, Steps p.tables e below (s₁.setTop (mkF m 0 #[.val (.ref ob0), .val (.int (0 : Int32))] [])) t → Steps p.tables e below (s₁.setTop (entryFrame m #[(.ref ob0), (.int (0 : Int32))] 2)) t := fun t k => castTop (ef_6 m ob0) k
  obtain ⟨cl1, Ar1, Sz1, Ng1, -⟩ := id B_v
  have hp2 : (0 : Int32) < n_v := hlen
  obtain ⟨_, _, ⟨T3, L3, k3, n3⟩, -, X3, ⟨Lc3, hQ3, l3, y3, z3⟩, st3⟩ := Jvm.LawKit.callS X0 hx (y := (⟨"java/lang/String", "checkIndex", "(II)V"⟩ : MethodName)) hown (mvT hZ (hw _ (List.mem_of_getElem? (i := 41) rfl))) (mvT hZ (hw _ (List.mem_of_getElem? (i := 42) rfl))) (mvT hZ (hw _ (List.mem_of_getElem? (i := 15) rfl))) (mvT hZ (hw _ (List.mem_of_getElem? (i := 43) rfl))) (by decide) (backOf (W := 0) (rm7 l Z a0 hw [] n_v w_SIOOBE_FORMATTER h0 n0 Z0 hr_w_SIOOBE_FORMATTER S_SIOOBE_FORMATTER hp2) hZ (hw _ (List.mem_of_getElem? (i := 43) rfl)) (hw _ (List.mem_of_getElem? (i := 15) rfl)) (by decide) (by decide)) (g := (mkF m 3 #[.val (.ref ob0), .val (.int (0 : Int32))] [(.int n_v), (.int (0 : Int32))])) rfl (by rw [hml]; rfl) (argsL := [(.int (0 : Int32)), (.int n_v)]) (rest := []) (lenOf pd_5 rfl) rfl (by show 2 * 0 + _ ≤ _; exact Nat.le_of_eq rfl) (hb hby d6_3) (fun _ _ => ⟨rfl, e0, (by decide : 0 + 0 ≤ _), (by decide : 0 + 0 ≤ _)⟩)
  dsimp only [Pt.U, Pt.locs, Pt.cells, Pt.slots] at X3 l3 y3 z3 st3 hQ3
  subst l3 y3 z3
  obtain ⟨rfl, N3q, e3⟩ := hQ3
  have N3 := Fr.app N0 N3q
  obtain ⟨cl4, Ar4, Sz4, Ng4, H4⟩ := id B_v
  have hin4 : ¬ ((0 : Int32) < 0 ∨ cl4.slots.size ≤ ((0 : Int32)).toNatClampNeg) := inb_of Sz4 ⟨by decide, hlen⟩
  obtain ⟨fs, hr, hrun, hended, hW, hsame⟩ := X3.leave (v := some (.int (nar .char ((z_v &&& (255 : Int32)).toUInt32.toUInt16.toUInt32.toInt32)))) (fun h => by rw [Bd.returns] at h; cases h) (BodyLoose.notSynchronized Bd)
  refine ⟨_, _, pre0 _ ?_, hrun, hended, _, _, rfl, ?_, ⟨_, rfl⟩, hW, hsame.mono (by decide) (by decide)⟩
  · show Steps p.tables e below (s₁.setTop (mkF m 0 #[.val (.ref ob0), .val (.int (0 : Int32))] [])) _
    refine XS.iloadN X0.here hx rfl (hb hby d6_0) rfl ?_
    show Steps p.tables e below (s₁.setTop (mkF m 1 #[.val (.ref ob0), .val (.int (0 : Int32))] [(.int (0 : Int32))])) _
    refine XS.aloadN X0.here hx rfl (hb hby d6_1) rfl rfl ?_
    show Steps p.tables e below (s₁.setTop (mkF m 2 #[.val (.ref ob0), .val (.int (0 : Int32))] [(.ref ob0), (.int (0 : Int32))])) _
    refine X0.arraylength hx (by rw [e0]; exact Ar1.1) (State.isArrayOf_alike hZ.alike Ar1.2.1) (g := (mkF m 2 #[.val (.ref ob0), .val (.int (0 : Int32))] [(.ref ob0), (.int (0 : Int32))])) rfl rfl (hb hby d6_2) _ ?_
    rw [len_of Sz1 Ng1]
    show Steps p.tables e below (s₁.setTop (mkF m 3 #[.val (.ref ob0), .val (.int (0 : Int32))] [(.int n_v), (.int (0 : Int32))])) _
    refine st3 _ ?_
    show Steps p.tables e below (T3.setTop (mkF m 6 #[.val (.ref ob0), .val (.int (0 : Int32))] [])) _
    refine XS.aloadN X3.here hx rfl (hb hby d6_6) rfl rfl ?_
    show Steps p.tables e below (T3.setTop (mkF m 7 #[.val (.ref ob0), .val (.int (0 : Int32))] [(.ref ob0)])) _
    refine XS.iloadN X3.here hx rfl (hb hby d6_7) rfl ?_
    show Steps p.tables e below (T3.setTop (mkF m 8 #[.val (.ref ob0), .val (.int (0 : Int32))] [(.int (0 : Int32)), (.ref ob0)])) _
    refine X3.baloadBytes hx (j := (0 : Int32)) (v := (.int z_v)) (by rw [e3]; exact Ar4.1) (State.isArrayOf_alike hZ.alike Ar4.2.1) Ar4.2.2 hin4 H4 (g := (mkF m 8 #[.val (.ref ob0), .val (.int (0 : Int32))] [(.int (0 : Int32)), (.ref ob0)])) rfl rfl (hb hby d6_8) _ ?_
    show Steps p.tables e below (T3.setTop (mkF m 9 #[.val (.ref ob0), .val (.int (0 : Int32))] [(.int z_v)])) _
    refine XS.sipush X3.here hx rfl (hb hby d6_9) ?_
    show Steps p.tables e below (T3.setTop (mkF m 12 #[.val (.ref ob0), .val (.int (0 : Int32))] [(.int (255 : Int32)), (.int z_v)])) _
    refine XS.iand X3.here hx rfl (hb hby d6_12) rfl ?_
    show Steps p.tables e below (T3.setTop (mkF m 13 #[.val (.ref ob0), .val (.int (0 : Int32))] [(.int (z_v &&& (255 : Int32)))])) _
    refine XS.i2c X3.here hx rfl (hb hby d6_13) rfl ?_
    show Steps p.tables e below (T3.setTop (mkF m 14 #[.val (.ref ob0), .val (.int (0 : Int32))] [(.int ((z_v &&& (255 : Int32)).toUInt32.toUInt16.toUInt32.toInt32))])) _
    exact retN X3 hx (t := .char) Bd.returns (by simp) (hb hby d6_14) hr
  · show Q6 Z ob0 n_v z_v w_SIOOBE_FORMATTER h0 n0 _ T3.heap _
    rw [e3]
    exact ⟨rfl, N3, rfl⟩
theorem pd_6 : parseMethodDescriptor "([BI)C" = some ⟨[(.array .byte), .int], some .char⟩ := by decide +kernel
theorem d4_0 : decode jdk_42_method_56_code 0 = .ok (.aload_n 0, 1) := by decide +kernel
theorem d4_1 : decode jdk_42_method_56_code 1 = .ok (.invokevirtual 492, 3) := by decide +kernel
theorem d4_4 : decode jdk_42_method_56_code 4 = .ok (.ifCond .eq 12, 3) := by decide +kernel
theorem d4_7 : decode jdk_42_method_56_code 7 = .ok (.aload_n 0, 1) := by decide +kernel
theorem d4_8 : decode jdk_42_method_56_code 8 = .ok (.getfield 9, 3) := by decide +kernel
theorem d4_11 : decode jdk_42_method_56_code 11 = .ok (.iload_n 1, 1) := by decide +kernel
theorem d4_12 : decode jdk_42_method_56_code 12 = .ok (.invokestatic 495, 3) := by decide +kernel
theorem d4_15 : decode jdk_42_method_56_code 15 = .ok (.ireturn, 1) := by decide +kernel
theorem pn_4 : plainName "java/lang/String" = true := by first | (simp [plainName, overriddenIn]; done) | decide +kernel
theorem ef_4 (m : MethodId) (ob0 : Addr) : entryFrame m #[(.ref ob0), (.int (0 : Int32))] 2 = mkF m 0 #[.val (.ref ob0), .val (.int (0 : Int32))] [] := by first | (simp [entryFrame, mkF, argsToLocals, Value.category]; done) | rfl
def Q4 (Z : State) (ob0 : Addr) (w_ob0_value : Addr) (n_v : Int32) (z_v : Int32) (w_COMPACT_STRINGS : Int32) (w_SIOOBE_FORMATTER : Value) (h0 : Heap) (n0 : Nat) (v : Option Value) (h : Heap) (L : List Loc) : Prop := v = some (.int (nar .char (nar .char ((z_v &&& (255 : Int32)).toUInt32.toUInt16.toUInt32.toInt32)))) ∧ Fr n0 L ∧ h = h0
set_option maxRecDepth 65536 in
set_option maxHeartbeats 40000000 in
theorem rm4 (l : Launch) (Z : State) (a0 : Array Value) (hw : ∀ d ∈ tables_1, d.before a0 Z = true) (ws : List Jvm.Cond) (ob0 : Addr) (w_ob0_value : Addr) (n_v : Int32) (z_v : Int32) (w_COMPACT_STRINGS : Int32) (w_SIOOBE_FORMATTER : Value) (h0 : Heap) (n0 : Nat) (Z0 : n0 ≤ h0.size) (F_value_ob0 : Fld Z h0 ob0 "java/lang/String" "value" "[B" (.ref w_ob0_value)) (B_v : own_B Z h0 w_ob0_value n_v z_v) (S_COMPACT_STRINGS : Sta Z h0 "java/lang/String" "COMPACT_STRINGS" "Z" (.int w_COMPACT_STRINGS)) (hcs : ¬ (w_COMPACT_STRINGS = (0 : Int32))) (F_coder_ob0 : Fld Z h0 ob0 "java/lang/String" "coder" "B" (.int (0 : Int32))) (E_ob0 : Exa Z h0 ob0 "java/lang/String") (hr_w_SIOOBE_FORMATTER : w_SIOOBE_FORMATTER.isRef = true) (S_SIOOBE_FORMATTER : Sta Z h0 "jdk/internal/util/Preconditions" "SIOOBE_FORMATTER" "Ljava/util/function/BiFunction;" w_SIOOBE_FORMATTER) (hlen : (0 : Int32) < n_v) :
    MetFree l (⟨"java/lang/String", "charAt", "(I)C"⟩ : MethodName) (head1 (Jvm.Cond.code (⟨"java/lang/String", "charAt", "(I)C"⟩ : MethodName) jdk_42_method_56_code 2 (some .char) :: ws) ({ frames := 3, cells := 0, slots := 0, locals := 40 } : Room)) (fun a U => a = #[(.ref ob0), (.int (0 : Int32))] ∧ Z.Warmed39 U.vm ∧ U.heap = h0) (fun _ _ _ _ _ => True) (fun _ U o U' => ∃ v L, o = .returned v ∧ Q4 Z ob0 w_ob0_value n_v z_v w_COMPACT_STRINGS w_SIOOBE_FORMATTER h0 n0 v U'.heap L ∧ FrameEnd U o U' L ({ frames := 3, cells := 0, slots := 0, locals := 40 } : Room).cells ({ frames := 3, cells := 0, slots := 0, locals := 40 } : Room).slots) := by
  refine MetFree.of_bodySF (plainFor_of_name pn_4) hisR ?_
  intro p e s m args below meth c s₁ Bd hml0 hP hK
  obtain ⟨rfl, hZ, hh⟩ := hP
  have hx := Bd.exec
  have hby := Bd.bytes
  have hml : c.maxLocals = 2 := hml0
  have hown : s.vm.findClass "java/lang/String" = some m.cls := findClass_of_methodNamed Bd.named
  have hnm := (name_of_methodNamed Bd.named Bd.method).1
  have X0 : Stand p l e ({ frames := 3, cells := 0, slots := 0, locals := 40 } : Room) s m #[(.ref ob0), (.int (0 : Int32))] below meth c s₁ [] 0 0 := Stand.of_body Bd
  have e0 : s₁.heap = h0 := by rw [← hh, Bd.state]; rfl
  have N0 := Fr.nil n0
  have pre0 : ∀ t, Steps p.tables e below (s₁.setTop (mkF m 0 #[.val (.ref ob0), .val (.int (0 : Int32))] [])) t → Steps p.tables e below (s₁.setTop (entryFrame m #[(.ref ob0), (.int (0 : Int32))] 2)) t := fun t k => castTop (ef_4 m ob0) k
  have hp1 : ¬ (w_COMPACT_STRINGS = (0 : Int32)) := hcs
  obtain ⟨cq2, kq2, q2a, q2b, q2c⟩ := isOf hZ e0 E_ob0
  obtain ⟨_, _, ⟨T2, L2, k2, n2⟩, -, X2, ⟨Lc2, hQ2, l2, y2, z2⟩, st2⟩ := X0.virtualBack hx (y := (⟨"java/lang/String", "isLatin1", "()Z"⟩ : MethodName)) (z := (⟨"java/lang/String", "isLatin1", "()Z"⟩ : MethodName)) hown (mvT hZ (hw _ (List.mem_of_getElem? (i := 32) rfl))) (mvT hZ (hw _ (List.mem_of_getElem? (i := 33) rfl))) (notFace_of_selects (args := #[]) (mvT hZ (hw _ (List.mem_of_getElem? (i := 35) rfl)))) (mvT hZ (hw _ (List.mem_of_getElem? (i := 35) rfl))) (mvT hZ (hw _ (List.mem_of_getElem? (i := 34) rfl))) (by decide) (backOf (W := 0) (rm5 l Z a0 hw [] ob0 w_COMPACT_STRINGS h0 n0 Z0 S_COMPACT_STRINGS hp1 F_coder_ob0) hZ (hw _ (List.mem_of_getElem? (i := 36) rfl)) (hw _ (List.mem_of_getElem? (i := 15) rfl)) (by decide) (by decide)) q2a q2c (g := (mkF m 1 #[.val (.ref ob0), .val (.int (0 : Int32))] [(.ref ob0)])) rfl (by rw [hml]; rfl) (Steps.refl _) (argsL := []) (rest := []) (lenOf pd_3 rfl) rfl (by show 2 * 0 + _ ≤ _; exact Nat.le_of_eq rfl) (hb hby d4_1) (fun _ _ => ⟨rfl, e0, (by decide : 0 + 0 ≤ _), (by decide : 0 + 0 ≤ _)⟩)
  dsimp only [Pt.U, Pt.locs, Pt.cells, Pt.slots] at X2 l2 y2 z2 st2 hQ2
  subst l2 y2 z2
  obtain ⟨rfl, N2q, e2⟩ := hQ2
  have N2 := Fr.app N0 N2q
  obtain ⟨T3, X3, e3, st3⟩ := getF X2 hx hZ hown (host := "") (Or.inl (hw _ (List.mem_of_getElem? (i := 17) rfl))) Via.refl e2 F_value_ob0 (g := (mkF m 8 #[.val (.ref ob0), .val (.int (0 : Int32))] [(.ref ob0)])) rfl rfl (hb hby d4_8)
  have hp4 : (0 : Int32) < n_v := hlen
  obtain ⟨_, _, ⟨T5, L5, k5, n5⟩, -, X5, ⟨Lc5, hQ5, l5, y5, z5⟩, st5⟩ := Jvm.LawKit.callS X3 hx (y := (⟨"java/lang/StringLatin1", "charAt", "([BI)C"⟩ : MethodName)) hown (mvT hZ (hw _ (List.mem_of_getElem? (i := 37) rfl))) (mvT hZ (hw _ (List.mem_of_getElem? (i := 38) rfl))) (mvT hZ (hw _ (List.mem_of_getElem? (i := 39) rfl))) (mvT hZ (hw _ (List.mem_of_getElem? (i := 40) rfl))) (by decide) (backOf (W := 0) (rm6 l Z a0 hw [] w_ob0_value n_v z_v w_SIOOBE_FORMATTER h0 n0 Z0 B_v hp4 hr_w_SIOOBE_FORMATTER S_SIOOBE_FORMATTER) hZ (hw _ (List.mem_of_getElem? (i := 40) rfl)) (hw _ (List.mem_of_getElem? (i := 39) rfl)) (by decide) (by decide)) (g := (mkF m 12 #[.val (.ref ob0), .val (.int (0 : Int32))] [(.int (0 : Int32)), (.ref w_ob0_value)])) rfl (by rw [hml]; rfl) (argsL := [(.ref w_ob0_value), (.int (0 : Int32))]) (rest := []) (lenOf pd_6 rfl) rfl (by show 2 * 0 + _ ≤ _; exact Nat.le_of_eq rfl) (hb hby d4_12) (fun _ _ => ⟨rfl, e3, (by decide : 0 + 0 ≤ _), (by decide : 0 + 0 ≤ _)⟩)
  dsimp only [Pt.U, Pt.locs, Pt.cells, Pt.slots] at X5 l5 y5 z5 st5 hQ5
  subst l5 y5 z5
  obtain ⟨rfl, N5q, e5⟩ := hQ5
  have N5 := Fr.app N2 N5q
  obtain ⟨fs, hr, hrun, hended, hW, hsame⟩ := X5.leave (v := some (.int (nar .char (nar .char ((z_v &&& (255 : Int32)).toUInt32.toUInt16.toUInt32.toInt32))))) (fun h => by rw [Bd.returns] at h; cases h) (BodyLoose.notSynchronized Bd)
  refine ⟨_, _, pre0 _ ?_, hrun, hended, _, _, rfl, ?_, ⟨_, rfl⟩, hW, hsame.mono (by decide) (by decide)⟩
  · show Steps p.tables e below (s₁.setTop (mkF m 0 #[.val (.ref ob0), .val (.int (0 : Int32))] [])) _
    refine XS.aloadN X0.here hx rfl (hb hby d4_0) rfl rfl ?_
    show Steps p.tables e below (s₁.setTop (mkF m 1 #[.val (.ref ob0), .val (.int (0 : Int32))] [(.ref ob0)])) _
    refine st2.trans ?_
    show Steps p.tables e below (T2.setTop (mkF m 4 #[.val (.ref ob0), .val (.int (0 : Int32))] [(.int (1 : Int32))])) _
    refine XS.ifNo X2.here hx rfl (hb hby d4_4) rfl ((if0 _ _).trans (feq (by decide : ¬ ((1 : Int32) = (0 : Int32)))).1) ?_
    show Steps p.tables e below (T2.setTop (mkF m 7 #[.val (.ref ob0), .val (.int (0 : Int32))] [])) _
    refine XS.aloadN X2.here hx rfl (hb hby d4_7) rfl rfl ?_
    show Steps p.tables e below (T2.setTop (mkF m 8 #[.val (.ref ob0), .val (.int (0 : Int32))] [(.ref ob0)])) _
    refine st3 _ ?_
    show Steps p.tables e below (T3.setTop (mkF m 11 #[.val (.ref ob0), .val (.int (0 : Int32))] [(.ref w_ob0_value)])) _
    refine XS.iloadN X3.here hx rfl (hb hby d4_11) rfl ?_
    show Steps p.tables e below (T3.setTop (mkF m 12 #[.val (.ref ob0), .val (.int (0 : Int32))] [(.int (0 : Int32)), (.ref w_ob0_value)])) _
    refine st5 _ ?_
    show Steps p.tables e below (T5.setTop (mkF m 15 #[.val (.ref ob0), .val (.int (0 : Int32))] [(.int (nar .char ((z_v &&& (255 : Int32)).toUInt32.toUInt16.toUInt32.toInt32)))])) _
    exact retN X5 hx (t := .char) Bd.returns (by simp) (hb hby d4_15) hr
  · show Q4 Z ob0 w_ob0_value n_v z_v w_COMPACT_STRINGS w_SIOOBE_FORMATTER h0 n0 _ T5.heap _
    rw [e5]
    exact ⟨rfl, N5, rfl⟩
theorem pd_7 : parseMethodDescriptor "(I)C" = some ⟨[.int], some .char⟩ := by decide +kernel
def F9 (ob0 : Addr) (w_EQUAL : Addr) (w_NOT_EQUAL : Addr) : Int32 :=
  if ob0 = w_EQUAL then (1 : Int32) else if ob0 = w_NOT_EQUAL then (1 : Int32) else (0 : Int32)
theorem d9_0 : decode prog_130_method_5_code 0 = .ok (.aload_n 0, 1) := by decide +kernel
theorem d9_1 : decode prog_130_method_5_code 1 = .ok (.getstatic 3, 3) := by decide +kernel
theorem d9_4 : decode prog_130_method_5_code 4 = .ok (.if_acmp .eq 10, 3) := by decide +kernel
theorem d9_7 : decode prog_130_method_5_code 7 = .ok (.aload_n 0, 1) := by decide +kernel
theorem d9_8 : decode prog_130_method_5_code 8 = .ok (.getstatic 7, 3) := by decide +kernel
theorem d9_11 : decode prog_130_method_5_code 11 = .ok (.if_acmp .ne 7, 3) := by decide +kernel
theorem d9_14 : decode prog_130_method_5_code 14 = .ok (.iconst 1, 1) := by decide +kernel
theorem d9_15 : decode prog_130_method_5_code 15 = .ok (.goto 4, 3) := by decide +kernel
theorem d9_18 : decode prog_130_method_5_code 18 = .ok (.iconst 0, 1) := by decide +kernel
theorem d9_19 : decode prog_130_method_5_code 19 = .ok (.ireturn, 1) := by decide +kernel
theorem pn_9 : plainName "com/example/obligation/obligation/xpath/Operations$Comparator" = true := by first | (simp [plainName, overriddenIn]; done) | decide +kernel
theorem ef_9 (m : MethodId) (ob0 : Addr) : entryFrame m #[(.ref ob0)] 1 = mkF m 0 #[.val (.ref ob0)] [] := by first | (simp [entryFrame, mkF, argsToLocals, Value.category]; done) | rfl
def Q9 (Z : State) (ob0 : Addr) (w_EQUAL : Addr) (w_NOT_EQUAL : Addr) (h0 : Heap) (n0 : Nat) (v : Option Value) (h : Heap) (L : List Loc) : Prop := v = some (.int (F9 ob0 w_EQUAL w_NOT_EQUAL)) ∧ Fr n0 L ∧ h = h0
set_option maxRecDepth 65536 in
set_option maxHeartbeats 40000000 in
theorem rm9 (l : Launch) (Z : State) (a0 : Array Value) (hw : ∀ d ∈ tables_1, d.before a0 Z = true) (ws : List Jvm.Cond) (ob0 : Addr) (w_EQUAL : Addr) (w_NOT_EQUAL : Addr) (h0 : Heap) (n0 : Nat) (Z0 : n0 ≤ h0.size) (S_EQUAL : Sta Z h0 "com/example/obligation/obligation/xpath/Operations$Comparator" "EQUAL" "Lcom/example/obligation/obligation/xpath/Operations$Comparator;" (.ref w_EQUAL)) (S_NOT_EQUAL : Sta Z h0 "com/example/obligation/obligation/xpath/Operations$Comparator" "NOT_EQUAL" "Lcom/example/obligation/obligation/xpath/Operations$Comparator;" (.ref w_NOT_EQUAL)) :
    MetFree l (⟨"com/example/obligation/obligation/xpath/Operations$Comparator", "isEquality", "()Z"⟩ : MethodName) (head1 (Jvm.Cond.code (⟨"com/example/obligation/obligation/xpath/Operations$Comparator", "isEquality", "()Z"⟩ : MethodName) prog_130_method_5_code 1 (some .boolean) :: ws) ({ frames := 0, cells := 0, slots := 0, locals := 0 } : Room)) (fun a U => a = #[(.ref ob0)] ∧ Z.Warmed39 U.vm ∧ U.heap = h0) (fun _ _ _ _ _ => True) (fun _ U o U' => ∃ v L, o = .returned v ∧ Q9 Z ob0 w_EQUAL w_NOT_EQUAL h0 n0 v U'.heap L ∧ FrameEnd U o U' L ({ frames := 0, cells := 0, slots := 0, locals := 0 } : Room).cells ({ frames := 0, cells := 0, slots := 0, locals := 0 } : Room).slots) := by
  refine MetFree.of_bodySF (plainFor_of_name pn_9) hisR ?_
  intro p e s m args below meth c s₁ Bd hml0 hP hK
  obtain ⟨rfl, hZ, hh⟩ := hP
  have hx := Bd.exec
  have hby := Bd.bytes
  have hml : c.maxLocals = 1 := hml0
  have hown : s.vm.findClass "com/example/obligation/obligation/xpath/Operations$Comparator" = some m.cls := findClass_of_methodNamed Bd.named
  have hnm := (name_of_methodNamed Bd.named Bd.method).1
  have X0 : Stand p l e ({ frames := 0, cells := 0, slots := 0, locals := 0 } : Room) s m #[(.ref ob0)] below meth c s₁ [] 0 0 := Stand.of_body Bd
  have e0 : s₁.heap = h0 := by rw [← hh, Bd.state]; rfl
  have N0 := Fr.nil n0
  have pre0 : ∀ t, Steps p.tables e below (s₁.setTop (mkF m 0 #[.val (.ref ob0)] [])) t → Steps p.tables e below (s₁.setTop (entryFrame m #[(.ref ob0)] 1)) t := fun t k => castTop (ef_9 m ob0) k
  obtain ⟨T1, X1, e1, st1⟩ := getS2 X0 hx hZ hown (host := "") (Or.inl (hw _ (List.mem_of_getElem? (i := 54) rfl))) Via.refl e0 S_EQUAL (g := (mkF m 1 #[.val (.ref ob0)] [(.ref ob0)])) rfl (hb hby d9_1)
  have pre2 : ∀ t, Steps p.tables e below (T1.setTop (mkF m 4 #[.val (.ref ob0)] [(.ref w_EQUAL), (.ref ob0)])) t → Steps p.tables e below (s₁.setTop (entryFrame m #[(.ref ob0)] 1)) t := fun t k => by
    refine pre0 t ?_
    show Steps p.tables e below (s₁.setTop (mkF m 0 #[.val (.ref ob0)] [])) _
    refine XS.aloadN X0.here hx rfl (hb hby d9_0) rfl rfl ?_
    show Steps p.tables e below (s₁.setTop (mkF m 1 #[.val (.ref ob0)] [(.ref ob0)])) _
    refine st1 _ ?_
    exact k
  by_cases ha4 : ob0 = w_EQUAL
  · obtain ⟨fs, hr, hrun, hended, hW, hsame⟩ := X1.leave (v := some (.int (1 : Int32))) (fun h => by rw [Bd.returns] at h; cases h) (BodyLoose.notSynchronized Bd)
    refine ⟨_, _, pre2 _ ?_, hrun, hended, _, _, rfl, ?_, ⟨_, rfl⟩, hW, hsame.mono (by decide) (by decide)⟩
    · show Steps p.tables e below (T1.setTop (mkF m 4 #[.val (.ref ob0)] [(.ref w_EQUAL), (.ref ob0)])) _
      refine Jvm.RoadKit.acmp (g := (mkF m 4 #[.val (.ref ob0)] [(.ref w_EQUAL), (.ref ob0)])) X1 hx rfl rfl rfl (pc0 := 4) (pc' := 14) (same := true) rfl (hb hby d9_4) rfl (decide_eq_true (congrArg Value.ref ha4)) (by decide) (by decide) ?_
      show Steps p.tables e below (T1.setTop (mkF m 14 #[.val (.ref ob0)] [])) _
      refine XS.iconst X1.here hx rfl (hb hby d9_14) ?_
      show Steps p.tables e below (T1.setTop (mkF m 15 #[.val (.ref ob0)] [(.int (1 : Int32))])) _
      refine XS.goto X1.here hx rfl (pc0 := 15) (pc' := 19) rfl (hb hby d9_15) (by decide) (by decide) ?_
      show Steps p.tables e below (T1.setTop (mkF m 19 #[.val (.ref ob0)] [(.int (1 : Int32))])) _
      exact retN X1 hx (t := .boolean) Bd.returns (by simp) (hb hby d9_19) hr
    · show Q9 Z ob0 w_EQUAL w_NOT_EQUAL h0 n0 _ T1.heap _
      rw [e1]
      exact ⟨(by rw [F9, if_pos ha4]), N0, rfl⟩
  · obtain ⟨T3, X3, e3, st3⟩ := getS2 X1 hx hZ hown (host := "") (Or.inl (hw _ (List.mem_of_getElem? (i := 57) rfl))) Via.refl e1 S_NOT_EQUAL (g := (mkF m 8 #[.val (.ref ob0)] [(.ref ob0)])) rfl (hb hby d9_8)
    have pre4 : ∀ t, Steps p.tables e below (T3.setTop (mkF m 11 #[.val (.ref ob0)] [(.ref w_NOT_EQUAL), (.ref ob0)])) t → Steps p.tables e below (s₁.setTop (entryFrame m #[(.ref ob0)] 1)) t := fun t k => by
      refine pre2 t ?_
      show Steps p.tables e below (T1.setTop (mkF m 4 #[.val (.ref ob0)] [(.ref w_EQUAL), (.ref ob0)])) _
      refine Jvm.RoadKit.acmp (g := (mkF m 4 #[.val (.ref ob0)] [(.ref w_EQUAL), (.ref ob0)])) X1 hx rfl rfl rfl (pc0 := 4) (pc' := 7) (same := false) rfl (hb hby d9_4) rfl (decide_eq_false fun q => ha4 (Value.ref.inj q)) (by decide) (by decide) ?_
      show Steps p.tables e below (T1.setTop (mkF m 7 #[.val (.ref ob0)] [])) _
      refine XS.aloadN X1.here hx rfl (hb hby d9_7) rfl rfl ?_
      show Steps p.tables e below (T1.setTop (mkF m 8 #[.val (.ref ob0)] [(.ref ob0)])) _
      refine st3 _ ?_
      exact k
    by_cases ha11 : ob0 = w_NOT_EQUAL
    · obtain ⟨fs, hr, hrun, hended, hW, hsame⟩ := X3.leave (v := some (.int (1 : Int32))) (fun h => by rw [Bd.returns] at h; cases h) (BodyLoose.notSynchronized Bd)
      refine ⟨_, _, pre4 _ ?_, hrun, hended, _, _, rfl, ?_, ⟨_, rfl⟩, hW, hsame.mono (by decide) (by decide)⟩
      · show Steps p.tables e below (T3.setTop (mkF m 11 #[.val (.ref ob0)] [(.ref w_NOT_EQUAL), (.ref ob0)])) _
        refine Jvm.RoadKit.acmp (g := (mkF m 11 #[.val (.ref ob0)] [(.ref w_NOT_EQUAL), (.ref ob0)])) X3 hx rfl rfl rfl (pc0 := 11) (pc' := 14) (same := true) rfl (hb hby d9_11) rfl (decide_eq_true (congrArg Value.ref ha11)) (by decide) (by decide) ?_
        show Steps p.tables e below (T3.setTop (mkF m 14 #[.val (.ref ob0)] [])) _
        refine XS.iconst X3.here hx rfl (hb hby d9_14) ?_
        show Steps p.tables e below (T3.setTop (mkF m 15 #[.val (.ref ob0)] [(.int (1 : Int32))])) _
        refine XS.goto X3.here hx rfl (pc0 := 15) (pc' := 19) rfl (hb hby d9_15) (by decide) (by decide) ?_
        show Steps p.tables e below (T3.setTop (mkF m 19 #[.val (.ref ob0)] [(.int (1 : Int32))])) _
        exact retN X3 hx (t := .boolean) Bd.returns (by simp) (hb hby d9_19) hr
      · show Q9 Z ob0 w_EQUAL w_NOT_EQUAL h0 n0 _ T3.heap _
        rw [e3]
        exact ⟨(by rw [F9, if_neg ha4, if_pos ha11]), N0, rfl⟩
    · obtain ⟨fs, hr, hrun, hended, hW, hsame⟩ := X3.leave (v := some (.int (0 : Int32))) (fun h => by rw [Bd.returns] at h; cases h) (BodyLoose.notSynchronized Bd)
      refine ⟨_, _, pre4 _ ?_, hrun, hended, _, _, rfl, ?_, ⟨_, rfl⟩, hW, hsame.mono (by decide) (by decide)⟩
      · show Steps p.tables e below (T3.setTop (mkF m 11 #[.val (.ref ob0)] [(.ref w_NOT_EQUAL), (.ref ob0)])) _
        refine Jvm.RoadKit.acmp (g := (mkF m 11 #[.val (.ref ob0)] [(.ref w_NOT_EQUAL), (.ref ob0)])) X3 hx rfl rfl rfl (pc0 := 11) (pc' := 18) (same := false) rfl (hb hby d9_11) rfl (decide_eq_false fun q => ha11 (Value.ref.inj q)) (by decide) (by decide) ?_
        show Steps p.tables e below (T3.setTop (mkF m 18 #[.val (.ref ob0)] [])) _
        refine XS.iconst X3.here hx rfl (hb hby d9_18) ?_
        show Steps p.tables e below (T3.setTop (mkF m 19 #[.val (.ref ob0)] [(.int (0 : Int32))])) _
        exact retN X3 hx (t := .boolean) Bd.returns (by simp) (hb hby d9_19) hr
      · show Q9 Z ob0 w_EQUAL w_NOT_EQUAL h0 n0 _ T3.heap _
        rw [e3]
        exact ⟨(by rw [F9, if_neg ha4, if_neg ha11]), N0, rfl⟩
theorem pn_0 : plainName "com/example/obligation/obligation/xpath/ComparatorIsEqualityPinLaw" = true := by first | (simp [plainName, overriddenIn]; done) | decide +kernel
theorem ef_0 (m : MethodId) (p0 : Int32) : entryFrame m #[(.int p0)] maxLocals = mkF m 0 #[.val (.int p0), .unset, .unset, .unset, .unset, .unset, .unset] [] := by first | (simp [entryFrame, mkF, argsToLocals, Value.category, maxLocals]; done) | rfl
def Q0 (Z : State) (p0 : Int32) (w_COMPACT_STRINGS : Int32) (w_SIOOBE_FORMATTER : Value) (w_EQUAL : Addr) (y_EQUAL : Addr) (r_EQUAL : Addr) (w_NOT_EQUAL : Addr) (y_NOT_EQUAL : Addr) (r_NOT_EQUAL : Addr) (w_LESS : Addr) (y_LESS : Addr) (r_LESS : Addr) (w_LESS_OR_EQUAL : Addr) (y_LESS_OR_EQUAL : Addr) (r_LESS_OR_EQUAL : Addr) (w_GREATER : Addr) (y_GREATER : Addr) (r_GREATER : Addr) (w_GREATER_OR_EQUAL : Addr) (y_GREATER_OR_EQUAL : Addr) (r_GREATER_OR_EQUAL : Addr) (h0 : Heap) (n0 : Nat) (v : Option Value) (h : Heap) (L : List Loc) : Prop := v = some (.int 1) ∧ Fr n0 L
set_option maxRecDepth 65536 in
set_option maxHeartbeats 40000000 in
theorem rm0 (l : Launch) (Z : State) (a0 : Array Value) (hw : ∀ d ∈ tables_1, d.before a0 Z = true) (ws : List Jvm.Cond) (p0 : Int32) (w_COMPACT_STRINGS : Int32) (w_SIOOBE_FORMATTER : Value) (w_EQUAL : Addr) (y_EQUAL : Addr) (r_EQUAL : Addr) (w_NOT_EQUAL : Addr) (y_NOT_EQUAL : Addr) (r_NOT_EQUAL : Addr) (w_LESS : Addr) (y_LESS : Addr) (r_LESS : Addr) (w_LESS_OR_EQUAL : Addr) (y_LESS_OR_EQUAL : Addr) (r_LESS_OR_EQUAL : Addr) (w_GREATER : Addr) (y_GREATER : Addr) (r_GREATER : Addr) (w_GREATER_OR_EQUAL : Addr) (y_GREATER_OR_EQUAL : Addr) (r_GREATER_OR_EQUAL : Addr) (h0 : Heap) (n0 : Nat) (Z0 : n0 ≤ h0.size) (S_COMPACT_STRINGS : Sta Z h0 "java/lang/String" "COMPACT_STRINGS" "Z" (.int w_COMPACT_STRINGS)) (S_SIOOBE_FORMATTER : Sta Z h0 "jdk/internal/util/Preconditions" "SIOOBE_FORMATTER" "Ljava/util/function/BiFunction;" w_SIOOBE_FORMATTER) (hr_w_SIOOBE_FORMATTER : w_SIOOBE_FORMATTER.isRef = true) (S_EQUAL : Sta Z h0 "com/example/obligation/obligation/xpath/Operations$Comparator" "EQUAL" "Lcom/example/obligation/obligation/xpath/Operations$Comparator;" (.ref w_EQUAL)) (E_EQUAL : Exa Z h0 w_EQUAL "com/example/obligation/obligation/xpath/Operations$Comparator") (Fs_EQUAL : Fld Z h0 w_EQUAL "com/example/obligation/obligation/xpath/Operations$Comparator" "symbol" "Ljava/lang/String;" (.ref y_EQUAL)) (Ey_EQUAL : Exa Z h0 y_EQUAL "java/lang/String") (Fv_EQUAL : Fld Z h0 y_EQUAL "java/lang/String" "value" "[B" (.ref r_EQUAL)) (Fc_EQUAL : Fld Z h0 y_EQUAL "java/lang/String" "coder" "B" (.int (0 : Int32))) (B_EQUAL : own_B Z h0 r_EQUAL (1 : Int32) (61 : Int32)) (S_NOT_EQUAL : Sta Z h0 "com/example/obligation/obligation/xpath/Operations$Comparator" "NOT_EQUAL" "Lcom/example/obligation/obligation/xpath/Operations$Comparator;" (.ref w_NOT_EQUAL)) (E_NOT_EQUAL : Exa Z h0 w_NOT_EQUAL "com/example/obligation/obligation/xpath/Operations$Comparator") (Fs_NOT_EQUAL : Fld Z h0 w_NOT_EQUAL "com/example/obligation/obligation/xpath/Operations$Comparator" "symbol" "Ljava/lang/String;" (.ref y_NOT_EQUAL)) (Ey_NOT_EQUAL : Exa Z h0 y_NOT_EQUAL "java/lang/String") (Fv_NOT_EQUAL : Fld Z h0 y_NOT_EQUAL "java/lang/String" "value" "[B" (.ref r_NOT_EQUAL)) (Fc_NOT_EQUAL : Fld Z h0 y_NOT_EQUAL "java/lang/String" "coder" "B" (.int (0 : Int32))) (B_NOT_EQUAL : own_B Z h0 r_NOT_EQUAL (2 : Int32) (33 : Int32)) (S_LESS : Sta Z h0 "com/example/obligation/obligation/xpath/Operations$Comparator" "LESS" "Lcom/example/obligation/obligation/xpath/Operations$Comparator;" (.ref w_LESS)) (E_LESS : Exa Z h0 w_LESS "com/example/obligation/obligation/xpath/Operations$Comparator") (Fs_LESS : Fld Z h0 w_LESS "com/example/obligation/obligation/xpath/Operations$Comparator" "symbol" "Ljava/lang/String;" (.ref y_LESS)) (Ey_LESS : Exa Z h0 y_LESS "java/lang/String") (Fv_LESS : Fld Z h0 y_LESS "java/lang/String" "value" "[B" (.ref r_LESS)) (Fc_LESS : Fld Z h0 y_LESS "java/lang/String" "coder" "B" (.int (0 : Int32))) (B_LESS : own_B Z h0 r_LESS (1 : Int32) (60 : Int32)) (S_LESS_OR_EQUAL : Sta Z h0 "com/example/obligation/obligation/xpath/Operations$Comparator" "LESS_OR_EQUAL" "Lcom/example/obligation/obligation/xpath/Operations$Comparator;" (.ref w_LESS_OR_EQUAL)) (E_LESS_OR_EQUAL : Exa Z h0 w_LESS_OR_EQUAL "com/example/obligation/obligation/xpath/Operations$Comparator") (Fs_LESS_OR_EQUAL : Fld Z h0 w_LESS_OR_EQUAL "com/example/obligation/obligation/xpath/Operations$Comparator" "symbol" "Ljava/lang/String;" (.ref y_LESS_OR_EQUAL)) (Ey_LESS_OR_EQUAL : Exa Z h0 y_LESS_OR_EQUAL "java/lang/String") (Fv_LESS_OR_EQUAL : Fld Z h0 y_LESS_OR_EQUAL "java/lang/String" "value" "[B" (.ref r_LESS_OR_EQUAL)) (Fc_LESS_OR_EQUAL : Fld Z h0 y_LESS_OR_EQUAL "java/lang/String" "coder" "B" (.int (0 : Int32))) (B_LESS_OR_EQUAL : own_B Z h0 r_LESS_OR_EQUAL (2 : Int32) (60 : Int32)) (S_GREATER : Sta Z h0 "com/example/obligation/obligation/xpath/Operations$Comparator" "GREATER" "Lcom/example/obligation/obligation/xpath/Operations$Comparator;" (.ref w_GREATER)) (E_GREATER : Exa Z h0 w_GREATER "com/example/obligation/obligation/xpath/Operations$Comparator") (Fs_GREATER : Fld Z h0 w_GREATER "com/example/obligation/obligation/xpath/Operations$Comparator" "symbol" "Ljava/lang/String;" (.ref y_GREATER)) (Ey_GREATER : Exa Z h0 y_GREATER "java/lang/String") (Fv_GREATER : Fld Z h0 y_GREATER "java/lang/String" "value" "[B" (.ref r_GREATER)) (Fc_GREATER : Fld Z h0 y_GREATER "java/lang/String" "coder" "B" (.int (0 : Int32))) (B_GREATER : own_B Z h0 r_GREATER (1 : Int32) (62 : Int32)) (S_GREATER_OR_EQUAL : Sta Z h0 "com/example/obligation/obligation/xpath/Operations$Comparator" "GREATER_OR_EQUAL" "Lcom/example/obligation/obligation/xpath/Operations$Comparator;" (.ref w_GREATER_OR_EQUAL)) (E_GREATER_OR_EQUAL : Exa Z h0 w_GREATER_OR_EQUAL "com/example/obligation/obligation/xpath/Operations$Comparator") (Fs_GREATER_OR_EQUAL : Fld Z h0 w_GREATER_OR_EQUAL "com/example/obligation/obligation/xpath/Operations$Comparator" "symbol" "Ljava/lang/String;" (.ref y_GREATER_OR_EQUAL)) (Ey_GREATER_OR_EQUAL : Exa Z h0 y_GREATER_OR_EQUAL "java/lang/String") (Fv_GREATER_OR_EQUAL : Fld Z h0 y_GREATER_OR_EQUAL "java/lang/String" "value" "[B" (.ref r_GREATER_OR_EQUAL)) (Fc_GREATER_OR_EQUAL : Fld Z h0 y_GREATER_OR_EQUAL "java/lang/String" "coder" "B" (.int (0 : Int32))) (B_GREATER_OR_EQUAL : own_B Z h0 r_GREATER_OR_EQUAL (2 : Int32) (62 : Int32)) (ne_NOT_EQUAL_EQUAL : ¬ w_NOT_EQUAL = w_EQUAL) (ne_LESS_EQUAL : ¬ w_LESS = w_EQUAL) (ne_LESS_NOT_EQUAL : ¬ w_LESS = w_NOT_EQUAL) (ne_LESS_OR_EQUAL_EQUAL : ¬ w_LESS_OR_EQUAL = w_EQUAL) (ne_LESS_OR_EQUAL_NOT_EQUAL : ¬ w_LESS_OR_EQUAL = w_NOT_EQUAL) (ne_GREATER_EQUAL : ¬ w_GREATER = w_EQUAL) (ne_GREATER_NOT_EQUAL : ¬ w_GREATER = w_NOT_EQUAL) (ne_GREATER_OR_EQUAL_EQUAL : ¬ w_GREATER_OR_EQUAL = w_EQUAL) (ne_GREATER_OR_EQUAL_NOT_EQUAL : ¬ w_GREATER_OR_EQUAL = w_NOT_EQUAL) (hcs : ¬ (w_COMPACT_STRINGS = (0 : Int32))) :
    MetFree l x (head1 (Jvm.Cond.code x code maxLocals ret :: ws) room_1) (fun a U => a = #[(.int p0)] ∧ Z.Warmed39 U.vm ∧ U.heap = h0) (fun _ _ _ _ _ => True) (fun _ U o U' => ∃ v L, o = .returned v ∧ Q0 Z p0 w_COMPACT_STRINGS w_SIOOBE_FORMATTER w_EQUAL y_EQUAL r_EQUAL w_NOT_EQUAL y_NOT_EQUAL r_NOT_EQUAL w_LESS y_LESS r_LESS w_LESS_OR_EQUAL y_LESS_OR_EQUAL r_LESS_OR_EQUAL w_GREATER y_GREATER r_GREATER w_GREATER_OR_EQUAL y_GREATER_OR_EQUAL r_GREATER_OR_EQUAL h0 n0 v U'.heap L ∧ FrameEnd U o U' L room_1.cells room_1.slots) := by
  refine MetFree.of_bodySF (plainFor_of_name pn_0) hisR ?_
  intro p e s m args below meth c s₁ Bd hml0 hP hK
  obtain ⟨rfl, hZ, hh⟩ := hP
  have hx := Bd.exec
  have hby := Bd.bytes
  have hml : c.maxLocals = 7 := hml0
  have hown : s.vm.findClass "com/example/obligation/obligation/xpath/ComparatorIsEqualityPinLaw" = some m.cls := findClass_of_methodNamed Bd.named
  have hnm := (name_of_methodNamed Bd.named Bd.method).1
  have X0 : Stand p l e room_1 s m #[(.int p0)] below meth c s₁ [] 0 0 := Stand.of_body Bd
  have e0 : s₁.heap = h0 := by rw [← hh, Bd.state]; rfl
  have N0 := Fr.nil n0
  have pre0 : ∀ t, Steps p.tables e below (s₁.setTop (mkF m 0 #[.val (.int p0), .unset, .unset, .unset, .unset, .unset, .unset] [])) t → Steps p.tables e below (s₁.setTop (entryFrame m #[(.int p0)] maxLocals)) t := fun t k => castTop (ef_0 m p0) k
  have pre1 : ∀ t, Steps p.tables e below (s₁.setTop (mkF m 9 #[.val (.int p0), .val (.int ((p0 &&& (2147483647 : Int32)) % (6 : Int32))), .unset, .unset, .unset, .unset, .unset] [(.int ((p0 &&& (2147483647 : Int32)) % (6 : Int32)))])) t → Steps p.tables e below (s₁.setTop (entryFrame m #[(.int p0)] maxLocals)) t := fun t k => by
    refine pre0 t ?_
    show Steps p.tables e below (s₁.setTop (mkF m 0 #[.val (.int p0), .unset, .unset, .unset, .unset, .unset, .unset] [])) _
    refine XS.iloadN X0.here hx rfl (hb hby at_0) rfl ?_
    show Steps p.tables e below (s₁.setTop (mkF m 1 #[.val (.int p0), .unset, .unset, .unset, .unset, .unset, .unset] [(.int p0)])) _
    refine X0.ldcInt hx hown (mvT hZ (hw _ (List.mem_of_getElem? (i := 0) rfl))) (g := (mkF m 1 #[.val (.int p0), .unset, .unset, .unset, .unset, .unset, .unset] [(.int p0)])) rfl (hb hby at_1) _ ?_
    show Steps p.tables e below (s₁.setTop (mkF m 3 #[.val (.int p0), .unset, .unset, .unset, .unset, .unset, .unset] [(.int (2147483647 : Int32)), (.int p0)])) _
    refine XS.iand X0.here hx rfl (hb hby at_3) rfl ?_
    show Steps p.tables e below (s₁.setTop (mkF m 4 #[.val (.int p0), .unset, .unset, .unset, .unset, .unset, .unset] [(.int (p0 &&& (2147483647 : Int32)))])) _
    refine XS.bipush X0.here hx rfl (hb hby at_4) ?_
    show Steps p.tables e below (s₁.setTop (mkF m 6 #[.val (.int p0), .unset, .unset, .unset, .unset, .unset, .unset] [(.int (6 : Int32)), (.int (p0 &&& (2147483647 : Int32)))])) _
    refine iremM X0 hx rfl (hb hby at_6) rfl (by decide) ?_
    show Steps p.tables e below (s₁.setTop (mkF m 7 #[.val (.int p0), .unset, .unset, .unset, .unset, .unset, .unset] [(.int ((p0 &&& (2147483647 : Int32)) % (6 : Int32)))])) _
    refine XS.istoreN X0.here hx rfl (hb hby at_7) rfl (l' := #[.val (.int p0), .val (.int ((p0 &&& (2147483647 : Int32)) % (6 : Int32))), .unset, .unset, .unset, .unset, .unset]) rfl ?_
    show Steps p.tables e below (s₁.setTop (mkF m 8 #[.val (.int p0), .val (.int ((p0 &&& (2147483647 : Int32)) % (6 : Int32))), .unset, .unset, .unset, .unset, .unset] [])) _
    refine XS.iloadN X0.here hx rfl (hb hby at_8) rfl ?_
    exact k
  by_cases hc9 : ((p0 &&& (2147483647 : Int32)) % (6 : Int32)) = (0 : Int32)
  · obtain ⟨T2, X2, e2, st2⟩ := getS2 X0 hx hZ hown (host := "") (Or.inl (hw _ (List.mem_of_getElem? (i := 1) rfl))) Via.refl e0 S_EQUAL (g := (mkF m 12 #[.val (.int p0), .val (.int ((p0 &&& (2147483647 : Int32)) % (6 : Int32))), .unset, .unset, .unset, .unset, .unset] [])) rfl (hb hby at_12)
    obtain ⟨cq3, kq3, q3a, q3b, q3c⟩ := isOf hZ e2 E_EQUAL
    obtain ⟨_, _, ⟨T3, L3, k3, n3⟩, -, X3, ⟨Lc3, hQ3, l3, y3, z3⟩, st3⟩ := X2.virtualBack hx (y := (⟨"com/example/obligation/obligation/xpath/Operations$Comparator", "symbol", "()Ljava/lang/String;"⟩ : MethodName)) (z := (⟨"com/example/obligation/obligation/xpath/Operations$Comparator", "symbol", "()Ljava/lang/String;"⟩ : MethodName)) hown (mvT hZ (hw _ (List.mem_of_getElem? (i := 4) rfl))) (mvT hZ (hw _ (List.mem_of_getElem? (i := 5) rfl))) (notFace_of_selects (args := #[]) (mvT hZ (hw _ (List.mem_of_getElem? (i := 7) rfl)))) (mvT hZ (hw _ (List.mem_of_getElem? (i := 7) rfl))) (mvT hZ (hw _ (List.mem_of_getElem? (i := 6) rfl))) (by decide) (backOf (W := 0) (rm1 l Z a0 hw [] w_EQUAL y_EQUAL h0 n0 Z0 Fs_EQUAL) hZ (hw _ (List.mem_of_getElem? (i := 8) rfl)) (hw _ (List.mem_of_getElem? (i := 2) rfl)) (by decide) (by decide)) q3a q3c (g := (mkF m 84 #[.val (.int p0), .val (.int ((p0 &&& (2147483647 : Int32)) % (6 : Int32))), .val (.ref w_EQUAL), .val (.int (1 : Int32)), .unset, .unset, .unset] [(.ref w_EQUAL)])) rfl (by rw [hml]; rfl) (Steps.refl _) (argsL := []) (rest := []) (lenOf pd_0 rfl) rfl (by show 2 * 0 + _ ≤ _; exact Nat.le_of_eq rfl) (hb hby at_84) (fun _ _ => ⟨rfl, e2, (by decide : 0 + 0 ≤ _), (by decide : 0 + 0 ≤ _)⟩)
    dsimp only [Pt.U, Pt.locs, Pt.cells, Pt.slots] at X3 l3 y3 z3 st3 hQ3
    subst l3 y3 z3
    obtain ⟨rfl, N3q, e3⟩ := hQ3
    have N3 := Fr.app N0 N3q
    have hp4 : ¬ (w_COMPACT_STRINGS = (0 : Int32)) := hcs
    obtain ⟨cq5, kq5, q5a, q5b, q5c⟩ := isOf hZ e3 Ey_EQUAL
    obtain ⟨_, _, ⟨T5, L5, k5, n5⟩, -, X5, ⟨Lc5, hQ5, l5, y5, z5⟩, st5⟩ := X3.virtualBack hx (y := (⟨"java/lang/String", "length", "()I"⟩ : MethodName)) (z := (⟨"java/lang/String", "length", "()I"⟩ : MethodName)) hown (mvT hZ (hw _ (List.mem_of_getElem? (i := 11) rfl))) (mvT hZ (hw _ (List.mem_of_getElem? (i := 12) rfl))) (notFace_of_selects (args := #[]) (mvT hZ (hw _ (List.mem_of_getElem? (i := 14) rfl)))) (mvT hZ (hw _ (List.mem_of_getElem? (i := 14) rfl))) (mvT hZ (hw _ (List.mem_of_getElem? (i := 13) rfl))) (by decide) (backOf (W := 0) (rm2 l Z a0 hw [] y_EQUAL r_EQUAL (1 : Int32) (61 : Int32) w_COMPACT_STRINGS h0 n0 Z0 Fv_EQUAL B_EQUAL S_COMPACT_STRINGS hp4 Fc_EQUAL Ey_EQUAL) hZ (hw _ (List.mem_of_getElem? (i := 16) rfl)) (hw _ (List.mem_of_getElem? (i := 15) rfl)) (by decide) (by decide)) q5a q5c (g := (mkF m 91 #[.val (.int p0), .val (.int ((p0 &&& (2147483647 : Int32)) % (6 : Int32))), .val (.ref w_EQUAL), .val (.int (1 : Int32)), .val (.ref y_EQUAL), .unset, .unset] [(.ref y_EQUAL)])) rfl (by rw [hml]; rfl) (Steps.refl _) (argsL := []) (rest := []) (lenOf pd_2 rfl) rfl (by show 2 * 0 + _ ≤ _; exact Nat.le_of_eq rfl) (hb hby at_91) (fun _ _ => ⟨rfl, e3, (by decide : 0 + 0 ≤ _), (by decide : 0 + 0 ≤ _)⟩)
    dsimp only [Pt.U, Pt.locs, Pt.cells, Pt.slots] at X5 l5 y5 z5 st5 hQ5
    subst l5 y5 z5
    obtain ⟨rfl, N5q, e5⟩ := hQ5
    have N5 := Fr.app N3 N5q
    have hc94 : (0 : Int32) < ((1 : Int32) >>> ((0 : Int32) &&& 31)) := by decide
    have hp6 : ¬ (w_COMPACT_STRINGS = (0 : Int32)) := hcs
    have hp7 : (0 : Int32) < (1 : Int32) := by decide
    obtain ⟨cq8, kq8, q8a, q8b, q8c⟩ := isOf hZ e5 Ey_EQUAL
    obtain ⟨_, _, ⟨T8, L8, k8, n8⟩, -, X8, ⟨Lc8, hQ8, l8, y8, z8⟩, st8⟩ := X5.virtualBack hx (y := (⟨"java/lang/String", "charAt", "(I)C"⟩ : MethodName)) (z := (⟨"java/lang/String", "charAt", "(I)C"⟩ : MethodName)) hown (mvT hZ (hw _ (List.mem_of_getElem? (i := 27) rfl))) (mvT hZ (hw _ (List.mem_of_getElem? (i := 28) rfl))) (notFace_of_selects (args := #[]) (mvT hZ (hw _ (List.mem_of_getElem? (i := 30) rfl)))) (mvT hZ (hw _ (List.mem_of_getElem? (i := 30) rfl))) (mvT hZ (hw _ (List.mem_of_getElem? (i := 29) rfl))) (by decide) (backOf (W := 0) (rm4 l Z a0 hw [] y_EQUAL r_EQUAL (1 : Int32) (61 : Int32) w_COMPACT_STRINGS w_SIOOBE_FORMATTER h0 n0 Z0 Fv_EQUAL B_EQUAL S_COMPACT_STRINGS hp6 Fc_EQUAL Ey_EQUAL hr_w_SIOOBE_FORMATTER S_SIOOBE_FORMATTER hp7) hZ (hw _ (List.mem_of_getElem? (i := 31) rfl)) (hw _ (List.mem_of_getElem? (i := 15) rfl)) (by decide) (by decide)) q8a q8c (g := (mkF m 100 #[.val (.int p0), .val (.int ((p0 &&& (2147483647 : Int32)) % (6 : Int32))), .val (.ref w_EQUAL), .val (.int (1 : Int32)), .val (.ref y_EQUAL), .unset, .unset] [(.int (0 : Int32)), (.ref y_EQUAL)])) rfl (by rw [hml]; rfl) (Steps.refl _) (argsL := [(.int (0 : Int32))]) (rest := []) (lenOf pd_7 rfl) rfl (by show 2 * 0 + _ ≤ _; exact Nat.le_of_eq rfl) (hb hby at_100) (fun _ _ => ⟨rfl, e5, (by decide : 0 + 0 ≤ _), (by decide : 0 + 0 ≤ _)⟩)
    dsimp only [Pt.U, Pt.locs, Pt.cells, Pt.slots] at X8 l8 y8 z8 st8 hQ8
    subst l8 y8 z8
    obtain ⟨rfl, N8q, e8⟩ := hQ8
    have N8 := Fr.app N5 N8q
    have hc105 : ¬ ((nar .char (nar .char (((61 : Int32) &&& (255 : Int32)).toUInt32.toUInt16.toUInt32.toInt32))) = (60 : Int32)) := by decide
    have hp9 : ¬ (w_COMPACT_STRINGS = (0 : Int32)) := hcs
    have hp10 : (0 : Int32) < (1 : Int32) := by decide
    obtain ⟨cq11, kq11, q11a, q11b, q11c⟩ := isOf hZ e8 Ey_EQUAL
    obtain ⟨_, _, ⟨T11, L11, k11, n11⟩, -, X11, ⟨Lc11, hQ11, l11, y11, z11⟩, st11⟩ := X8.virtualBack hx (y := (⟨"java/lang/String", "charAt", "(I)C"⟩ : MethodName)) (z := (⟨"java/lang/String", "charAt", "(I)C"⟩ : MethodName)) hown (mvT hZ (hw _ (List.mem_of_getElem? (i := 27) rfl))) (mvT hZ (hw _ (List.mem_of_getElem? (i := 28) rfl))) (notFace_of_selects (args := #[]) (mvT hZ (hw _ (List.mem_of_getElem? (i := 30) rfl)))) (mvT hZ (hw _ (List.mem_of_getElem? (i := 30) rfl))) (mvT hZ (hw _ (List.mem_of_getElem? (i := 29) rfl))) (by decide) (backOf (W := 0) (rm4 l Z a0 hw [] y_EQUAL r_EQUAL (1 : Int32) (61 : Int32) w_COMPACT_STRINGS w_SIOOBE_FORMATTER h0 n0 Z0 Fv_EQUAL B_EQUAL S_COMPACT_STRINGS hp9 Fc_EQUAL Ey_EQUAL hr_w_SIOOBE_FORMATTER S_SIOOBE_FORMATTER hp10) hZ (hw _ (List.mem_of_getElem? (i := 31) rfl)) (hw _ (List.mem_of_getElem? (i := 15) rfl)) (by decide) (by decide)) q11a q11c (g := (mkF m 111 #[.val (.int p0), .val (.int ((p0 &&& (2147483647 : Int32)) % (6 : Int32))), .val (.ref w_EQUAL), .val (.int (1 : Int32)), .val (.ref y_EQUAL), .unset, .unset] [(.int (0 : Int32)), (.ref y_EQUAL)])) rfl (by rw [hml]; rfl) (Steps.refl _) (argsL := [(.int (0 : Int32))]) (rest := []) (lenOf pd_7 rfl) rfl (by show 2 * 0 + _ ≤ _; exact Nat.le_of_eq rfl) (hb hby at_111) (fun _ _ => ⟨rfl, e8, (by decide : 0 + 0 ≤ _), (by decide : 0 + 0 ≤ _)⟩)
    dsimp only [Pt.U, Pt.locs, Pt.cells, Pt.slots] at X11 l11 y11 z11 st11 hQ11
    subst l11 y11 z11
    obtain ⟨rfl, N11q, e11⟩ := hQ11
    have N11 := Fr.app N8 N11q
    have hc116 : ¬ ((nar .char (nar .char (((61 : Int32) &&& (255 : Int32)).toUInt32.toUInt16.toUInt32.toInt32))) = (62 : Int32)) := by decide
    obtain ⟨cq12, kq12, q12a, q12b, q12c⟩ := isOf hZ e11 E_EQUAL
    obtain ⟨_, _, ⟨T12, L12, k12, n12⟩, -, X12, ⟨Lc12, hQ12, l12, y12, z12⟩, st12⟩ := X11.virtualBack hx (y := (⟨"com/example/obligation/obligation/xpath/Operations$Comparator", "isEquality", "()Z"⟩ : MethodName)) (z := (⟨"com/example/obligation/obligation/xpath/Operations$Comparator", "isEquality", "()Z"⟩ : MethodName)) hown (mvT hZ (hw _ (List.mem_of_getElem? (i := 49) rfl))) (mvT hZ (hw _ (List.mem_of_getElem? (i := 50) rfl))) (notFace_of_selects (args := #[]) (mvT hZ (hw _ (List.mem_of_getElem? (i := 52) rfl)))) (mvT hZ (hw _ (List.mem_of_getElem? (i := 52) rfl))) (mvT hZ (hw _ (List.mem_of_getElem? (i := 51) rfl))) (by decide) (backOf (W := 0) (rm9 l Z a0 hw [] w_EQUAL w_EQUAL w_NOT_EQUAL h0 n0 Z0 S_EQUAL S_NOT_EQUAL) hZ (hw _ (List.mem_of_getElem? (i := 53) rfl)) (hw _ (List.mem_of_getElem? (i := 2) rfl)) (by decide) (by decide)) q12a q12c (g := (mkF m 127 #[.val (.int p0), .val (.int ((p0 &&& (2147483647 : Int32)) % (6 : Int32))), .val (.ref w_EQUAL), .val (.int (1 : Int32)), .val (.ref y_EQUAL), .val (.int (1 : Int32)), .unset] [(.ref w_EQUAL)])) rfl (by rw [hml]; rfl) (Steps.refl _) (argsL := []) (rest := []) (lenOf pd_3 rfl) rfl (by show 2 * 0 + _ ≤ _; exact Nat.le_of_eq rfl) (hb hby at_127) (fun _ _ => ⟨rfl, e11, (by decide : 0 + 0 ≤ _), (by decide : 0 + 0 ≤ _)⟩)
    dsimp only [Pt.U, Pt.locs, Pt.cells, Pt.slots] at X12 l12 y12 z12 st12 hQ12
    subst l12 y12 z12
    obtain ⟨rfl, N12q, e12⟩ := hQ12
    have N12 := Fr.app N11 N12q
    have hc135 : (F9 w_EQUAL w_EQUAL w_NOT_EQUAL) = (1 : Int32) := by rw [F9, if_pos rfl]
    obtain ⟨fs, hr, hrun, hended, hW, hsame⟩ := X12.leave (v := some (.int (1 : Int32))) (fun h => by rw [Bd.returns] at h; cases h) (BodyLoose.notSynchronized Bd)
    refine ⟨_, _, pre1 _ ?_, hrun, hended, _, _, rfl, ?_, ⟨_, rfl⟩, hW, hsame.mono (by decide) (by decide)⟩
    · show Steps p.tables e below (s₁.setTop (mkF m 9 #[.val (.int p0), .val (.int ((p0 &&& (2147483647 : Int32)) % (6 : Int32))), .unset, .unset, .unset, .unset, .unset] [(.int ((p0 &&& (2147483647 : Int32)) % (6 : Int32)))])) _
      refine XS.ifNo X0.here hx rfl (hb hby at_9) rfl ((if0 _ _).trans (teq hc9).2) ?_
      show Steps p.tables e below (s₁.setTop (mkF m 12 #[.val (.int p0), .val (.int ((p0 &&& (2147483647 : Int32)) % (6 : Int32))), .unset, .unset, .unset, .unset, .unset] [])) _
      refine st2 _ ?_
      show Steps p.tables e below (T2.setTop (mkF m 15 #[.val (.int p0), .val (.int ((p0 &&& (2147483647 : Int32)) % (6 : Int32))), .unset, .unset, .unset, .unset, .unset] [(.ref w_EQUAL)])) _
      refine XS.astoreN X2.here hx rfl (hb hby at_15) rfl rfl (l' := #[.val (.int p0), .val (.int ((p0 &&& (2147483647 : Int32)) % (6 : Int32))), .val (.ref w_EQUAL), .unset, .unset, .unset, .unset]) rfl ?_
      show Steps p.tables e below (T2.setTop (mkF m 16 #[.val (.int p0), .val (.int ((p0 &&& (2147483647 : Int32)) % (6 : Int32))), .val (.ref w_EQUAL), .unset, .unset, .unset, .unset] [])) _
      refine XS.iconst X2.here hx rfl (hb hby at_16) ?_
      show Steps p.tables e below (T2.setTop (mkF m 17 #[.val (.int p0), .val (.int ((p0 &&& (2147483647 : Int32)) % (6 : Int32))), .val (.ref w_EQUAL), .unset, .unset, .unset, .unset] [(.int (1 : Int32))])) _
      refine XS.istoreN X2.here hx rfl (hb hby at_17) rfl (l' := #[.val (.int p0), .val (.int ((p0 &&& (2147483647 : Int32)) % (6 : Int32))), .val (.ref w_EQUAL), .val (.int (1 : Int32)), .unset, .unset, .unset]) rfl ?_
      show Steps p.tables e below (T2.setTop (mkF m 18 #[.val (.int p0), .val (.int ((p0 &&& (2147483647 : Int32)) % (6 : Int32))), .val (.ref w_EQUAL), .val (.int (1 : Int32)), .unset, .unset, .unset] [])) _
      refine XS.goto X2.here hx rfl (pc0 := 18) (pc' := 83) rfl (hb hby at_18) (by decide) (by decide) ?_
      show Steps p.tables e below (T2.setTop (mkF m 83 #[.val (.int p0), .val (.int ((p0 &&& (2147483647 : Int32)) % (6 : Int32))), .val (.ref w_EQUAL), .val (.int (1 : Int32)), .unset, .unset, .unset] [])) _
      refine XS.aloadN X2.here hx rfl (hb hby at_83) rfl rfl ?_
      show Steps p.tables e below (T2.setTop (mkF m 84 #[.val (.int p0), .val (.int ((p0 &&& (2147483647 : Int32)) % (6 : Int32))), .val (.ref w_EQUAL), .val (.int (1 : Int32)), .unset, .unset, .unset] [(.ref w_EQUAL)])) _
      refine st3.trans ?_
      show Steps p.tables e below (T3.setTop (mkF m 87 #[.val (.int p0), .val (.int ((p0 &&& (2147483647 : Int32)) % (6 : Int32))), .val (.ref w_EQUAL), .val (.int (1 : Int32)), .unset, .unset, .unset] [(.ref y_EQUAL)])) _
      refine XS.astore X3.here hx rfl (hb hby at_87) rfl rfl (l' := #[.val (.int p0), .val (.int ((p0 &&& (2147483647 : Int32)) % (6 : Int32))), .val (.ref w_EQUAL), .val (.int (1 : Int32)), .val (.ref y_EQUAL), .unset, .unset]) rfl ?_
      show Steps p.tables e below (T3.setTop (mkF m 89 #[.val (.int p0), .val (.int ((p0 &&& (2147483647 : Int32)) % (6 : Int32))), .val (.ref w_EQUAL), .val (.int (1 : Int32)), .val (.ref y_EQUAL), .unset, .unset] [])) _
      refine XS.aload X3.here hx rfl (hb hby at_89) rfl rfl ?_
      show Steps p.tables e below (T3.setTop (mkF m 91 #[.val (.int p0), .val (.int ((p0 &&& (2147483647 : Int32)) % (6 : Int32))), .val (.ref w_EQUAL), .val (.int (1 : Int32)), .val (.ref y_EQUAL), .unset, .unset] [(.ref y_EQUAL)])) _
      refine st5.trans ?_
      show Steps p.tables e below (T5.setTop (mkF m 94 #[.val (.int p0), .val (.int ((p0 &&& (2147483647 : Int32)) % (6 : Int32))), .val (.ref w_EQUAL), .val (.int (1 : Int32)), .val (.ref y_EQUAL), .unset, .unset] [(.int ((1 : Int32) >>> ((0 : Int32) &&& 31)))])) _
      refine XS.ifNo X5.here hx rfl (hb hby at_94) rfl ((if0 _ _).trans (tlt hc94).2.2.2) ?_
      show Steps p.tables e below (T5.setTop (mkF m 97 #[.val (.int p0), .val (.int ((p0 &&& (2147483647 : Int32)) % (6 : Int32))), .val (.ref w_EQUAL), .val (.int (1 : Int32)), .val (.ref y_EQUAL), .unset, .unset] [])) _
      refine XS.aload X5.here hx rfl (hb hby at_97) rfl rfl ?_
      show Steps p.tables e below (T5.setTop (mkF m 99 #[.val (.int p0), .val (.int ((p0 &&& (2147483647 : Int32)) % (6 : Int32))), .val (.ref w_EQUAL), .val (.int (1 : Int32)), .val (.ref y_EQUAL), .unset, .unset] [(.ref y_EQUAL)])) _
      refine XS.iconst X5.here hx rfl (hb hby at_99) ?_
      show Steps p.tables e below (T5.setTop (mkF m 100 #[.val (.int p0), .val (.int ((p0 &&& (2147483647 : Int32)) % (6 : Int32))), .val (.ref w_EQUAL), .val (.int (1 : Int32)), .val (.ref y_EQUAL), .unset, .unset] [(.int (0 : Int32)), (.ref y_EQUAL)])) _
      refine st8.trans ?_
      show Steps p.tables e below (T8.setTop (mkF m 103 #[.val (.int p0), .val (.int ((p0 &&& (2147483647 : Int32)) % (6 : Int32))), .val (.ref w_EQUAL), .val (.int (1 : Int32)), .val (.ref y_EQUAL), .unset, .unset] [(.int (nar .char (nar .char (((61 : Int32) &&& (255 : Int32)).toUInt32.toUInt16.toUInt32.toInt32))))])) _
      refine XS.bipush X8.here hx rfl (hb hby at_103) ?_
      show Steps p.tables e below (T8.setTop (mkF m 105 #[.val (.int p0), .val (.int ((p0 &&& (2147483647 : Int32)) % (6 : Int32))), .val (.ref w_EQUAL), .val (.int (1 : Int32)), .val (.ref y_EQUAL), .unset, .unset] [(.int (60 : Int32)), (.int (nar .char (nar .char (((61 : Int32) &&& (255 : Int32)).toUInt32.toUInt16.toUInt32.toInt32))))])) _
      refine XS.icmpNo X8.here hx rfl (hb hby at_105) rfl (feq hc105).1 ?_
      show Steps p.tables e below (T8.setTop (mkF m 108 #[.val (.int p0), .val (.int ((p0 &&& (2147483647 : Int32)) % (6 : Int32))), .val (.ref w_EQUAL), .val (.int (1 : Int32)), .val (.ref y_EQUAL), .unset, .unset] [])) _
      refine XS.aload X8.here hx rfl (hb hby at_108) rfl rfl ?_
      show Steps p.tables e below (T8.setTop (mkF m 110 #[.val (.int p0), .val (.int ((p0 &&& (2147483647 : Int32)) % (6 : Int32))), .val (.ref w_EQUAL), .val (.int (1 : Int32)), .val (.ref y_EQUAL), .unset, .unset] [(.ref y_EQUAL)])) _
      refine XS.iconst X8.here hx rfl (hb hby at_110) ?_
      show Steps p.tables e below (T8.setTop (mkF m 111 #[.val (.int p0), .val (.int ((p0 &&& (2147483647 : Int32)) % (6 : Int32))), .val (.ref w_EQUAL), .val (.int (1 : Int32)), .val (.ref y_EQUAL), .unset, .unset] [(.int (0 : Int32)), (.ref y_EQUAL)])) _
      refine st11.trans ?_
      show Steps p.tables e below (T11.setTop (mkF m 114 #[.val (.int p0), .val (.int ((p0 &&& (2147483647 : Int32)) % (6 : Int32))), .val (.ref w_EQUAL), .val (.int (1 : Int32)), .val (.ref y_EQUAL), .unset, .unset] [(.int (nar .char (nar .char (((61 : Int32) &&& (255 : Int32)).toUInt32.toUInt16.toUInt32.toInt32))))])) _
      refine XS.bipush X11.here hx rfl (hb hby at_114) ?_
      show Steps p.tables e below (T11.setTop (mkF m 116 #[.val (.int p0), .val (.int ((p0 &&& (2147483647 : Int32)) % (6 : Int32))), .val (.ref w_EQUAL), .val (.int (1 : Int32)), .val (.ref y_EQUAL), .unset, .unset] [(.int (62 : Int32)), (.int (nar .char (nar .char (((61 : Int32) &&& (255 : Int32)).toUInt32.toUInt16.toUInt32.toInt32))))])) _
      refine XS.icmpNo X11.here hx rfl (hb hby at_116) rfl (feq hc116).1 ?_
      show Steps p.tables e below (T11.setTop (mkF m 119 #[.val (.int p0), .val (.int ((p0 &&& (2147483647 : Int32)) % (6 : Int32))), .val (.ref w_EQUAL), .val (.int (1 : Int32)), .val (.ref y_EQUAL), .unset, .unset] [])) _
      refine XS.iconst X11.here hx rfl (hb hby at_119) ?_
      show Steps p.tables e below (T11.setTop (mkF m 120 #[.val (.int p0), .val (.int ((p0 &&& (2147483647 : Int32)) % (6 : Int32))), .val (.ref w_EQUAL), .val (.int (1 : Int32)), .val (.ref y_EQUAL), .unset, .unset] [(.int (1 : Int32))])) _
      refine XS.goto X11.here hx rfl (pc0 := 120) (pc' := 124) rfl (hb hby at_120) (by decide) (by decide) ?_
      show Steps p.tables e below (T11.setTop (mkF m 124 #[.val (.int p0), .val (.int ((p0 &&& (2147483647 : Int32)) % (6 : Int32))), .val (.ref w_EQUAL), .val (.int (1 : Int32)), .val (.ref y_EQUAL), .unset, .unset] [(.int (1 : Int32))])) _
      refine XS.istore X11.here hx rfl (hb hby at_124) rfl (l' := #[.val (.int p0), .val (.int ((p0 &&& (2147483647 : Int32)) % (6 : Int32))), .val (.ref w_EQUAL), .val (.int (1 : Int32)), .val (.ref y_EQUAL), .val (.int (1 : Int32)), .unset]) rfl ?_
      show Steps p.tables e below (T11.setTop (mkF m 126 #[.val (.int p0), .val (.int ((p0 &&& (2147483647 : Int32)) % (6 : Int32))), .val (.ref w_EQUAL), .val (.int (1 : Int32)), .val (.ref y_EQUAL), .val (.int (1 : Int32)), .unset] [])) _
      refine XS.aloadN X11.here hx rfl (hb hby at_126) rfl rfl ?_
      show Steps p.tables e below (T11.setTop (mkF m 127 #[.val (.int p0), .val (.int ((p0 &&& (2147483647 : Int32)) % (6 : Int32))), .val (.ref w_EQUAL), .val (.int (1 : Int32)), .val (.ref y_EQUAL), .val (.int (1 : Int32)), .unset] [(.ref w_EQUAL)])) _
      refine st12.trans ?_
      show Steps p.tables e below (T12.setTop (mkF m 130 #[.val (.int p0), .val (.int ((p0 &&& (2147483647 : Int32)) % (6 : Int32))), .val (.ref w_EQUAL), .val (.int (1 : Int32)), .val (.ref y_EQUAL), .val (.int (1 : Int32)), .unset] [(.int (F9 w_EQUAL w_EQUAL w_NOT_EQUAL))])) _
      refine XS.istore X12.here hx rfl (hb hby at_130) rfl (l' := #[.val (.int p0), .val (.int ((p0 &&& (2147483647 : Int32)) % (6 : Int32))), .val (.ref w_EQUAL), .val (.int (1 : Int32)), .val (.ref y_EQUAL), .val (.int (1 : Int32)), .val (.int (F9 w_EQUAL w_EQUAL w_NOT_EQUAL))]) rfl ?_
      show Steps p.tables e below (T12.setTop (mkF m 132 #[.val (.int p0), .val (.int ((p0 &&& (2147483647 : Int32)) % (6 : Int32))), .val (.ref w_EQUAL), .val (.int (1 : Int32)), .val (.ref y_EQUAL), .val (.int (1 : Int32)), .val (.int (F9 w_EQUAL w_EQUAL w_NOT_EQUAL))] [])) _
      refine XS.iload X12.here hx rfl (hb hby at_132) rfl ?_
      show Steps p.tables e below (T12.setTop (mkF m 134 #[.val (.int p0), .val (.int ((p0 &&& (2147483647 : Int32)) % (6 : Int32))), .val (.ref w_EQUAL), .val (.int (1 : Int32)), .val (.ref y_EQUAL), .val (.int (1 : Int32)), .val (.int (F9 w_EQUAL w_EQUAL w_NOT_EQUAL))] [(.int (F9 w_EQUAL w_EQUAL w_NOT_EQUAL))])) _
      refine XS.iloadN X12.here hx rfl (hb hby at_134) rfl ?_
      show Steps p.tables e below (T12.setTop (mkF m 135 #[.val (.int p0), .val (.int ((p0 &&& (2147483647 : Int32)) % (6 : Int32))), .val (.ref w_EQUAL), .val (.int (1 : Int32)), .val (.ref y_EQUAL), .val (.int (1 : Int32)), .val (.int (F9 w_EQUAL w_EQUAL w_NOT_EQUAL))] [(.int (1 : Int32)), (.int (F9 w_EQUAL w_EQUAL w_NOT_EQUAL))])) _
      refine XS.icmpNo X12.here hx rfl (hb hby at_135) rfl (teq hc135).2 ?_
      show Steps p.tables e below (T12.setTop (mkF m 138 #[.val (.int p0), .val (.int ((p0 &&& (2147483647 : Int32)) % (6 : Int32))), .val (.ref w_EQUAL), .val (.int (1 : Int32)), .val (.ref y_EQUAL), .val (.int (1 : Int32)), .val (.int (F9 w_EQUAL w_EQUAL w_NOT_EQUAL))] [])) _
      refine XS.iload X12.here hx rfl (hb hby at_138) rfl ?_
      show Steps p.tables e below (T12.setTop (mkF m 140 #[.val (.int p0), .val (.int ((p0 &&& (2147483647 : Int32)) % (6 : Int32))), .val (.ref w_EQUAL), .val (.int (1 : Int32)), .val (.ref y_EQUAL), .val (.int (1 : Int32)), .val (.int (F9 w_EQUAL w_EQUAL w_NOT_EQUAL))] [(.int (F9 w_EQUAL w_EQUAL w_NOT_EQUAL))])) _
      refine XS.iload X12.here hx rfl (hb hby at_140) rfl ?_
      show Steps p.tables e below (T12.setTop (mkF m 142 #[.val (.int p0), .val (.int ((p0 &&& (2147483647 : Int32)) % (6 : Int32))), .val (.ref w_EQUAL), .val (.int (1 : Int32)), .val (.ref y_EQUAL), .val (.int (1 : Int32)), .val (.int (F9 w_EQUAL w_EQUAL w_NOT_EQUAL))] [(.int (1 : Int32)), (.int (F9 w_EQUAL w_EQUAL w_NOT_EQUAL))])) _
      refine XS.icmpNo X12.here hx rfl (hb hby at_142) rfl (teq hc135).2 ?_
      show Steps p.tables e below (T12.setTop (mkF m 145 #[.val (.int p0), .val (.int ((p0 &&& (2147483647 : Int32)) % (6 : Int32))), .val (.ref w_EQUAL), .val (.int (1 : Int32)), .val (.ref y_EQUAL), .val (.int (1 : Int32)), .val (.int (F9 w_EQUAL w_EQUAL w_NOT_EQUAL))] [])) _
      refine XS.iconst X12.here hx rfl (hb hby at_145) ?_
      show Steps p.tables e below (T12.setTop (mkF m 146 #[.val (.int p0), .val (.int ((p0 &&& (2147483647 : Int32)) % (6 : Int32))), .val (.ref w_EQUAL), .val (.int (1 : Int32)), .val (.ref y_EQUAL), .val (.int (1 : Int32)), .val (.int (F9 w_EQUAL w_EQUAL w_NOT_EQUAL))] [(.int (1 : Int32))])) _
      refine XS.goto X12.here hx rfl (pc0 := 146) (pc' := 150) rfl (hb hby at_146) (by decide) (by decide) ?_
      show Steps p.tables e below (T12.setTop (mkF m 150 #[.val (.int p0), .val (.int ((p0 &&& (2147483647 : Int32)) % (6 : Int32))), .val (.ref w_EQUAL), .val (.int (1 : Int32)), .val (.ref y_EQUAL), .val (.int (1 : Int32)), .val (.int (F9 w_EQUAL w_EQUAL w_NOT_EQUAL))] [(.int (1 : Int32))])) _
      exact retN X12 hx (t := .boolean) Bd.returns (by simp) (hb hby at_150) hr
    · show Q0 Z p0 w_COMPACT_STRINGS w_SIOOBE_FORMATTER w_EQUAL y_EQUAL r_EQUAL w_NOT_EQUAL y_NOT_EQUAL r_NOT_EQUAL w_LESS y_LESS r_LESS w_LESS_OR_EQUAL y_LESS_OR_EQUAL r_LESS_OR_EQUAL w_GREATER y_GREATER r_GREATER w_GREATER_OR_EQUAL y_GREATER_OR_EQUAL r_GREATER_OR_EQUAL h0 n0 _ T12.heap _
      rw [e12]
      exact ⟨rfl, N12⟩
  · have pre13 : ∀ t, Steps p.tables e below (s₁.setTop (mkF m 23 #[.val (.int p0), .val (.int ((p0 &&& (2147483647 : Int32)) % (6 : Int32))), .unset, .unset, .unset, .unset, .unset] [(.int (1 : Int32)), (.int ((p0 &&& (2147483647 : Int32)) % (6 : Int32)))])) t → Steps p.tables e below (s₁.setTop (entryFrame m #[(.int p0)] maxLocals)) t := fun t k => by
      refine pre1 t ?_
      show Steps p.tables e below (s₁.setTop (mkF m 9 #[.val (.int p0), .val (.int ((p0 &&& (2147483647 : Int32)) % (6 : Int32))), .unset, .unset, .unset, .unset, .unset] [(.int ((p0 &&& (2147483647 : Int32)) % (6 : Int32)))])) _
      refine XS.ifYes X0.here hx rfl (pc0 := 9) (pc' := 21) rfl (hb hby at_9) rfl ((if0 _ _).trans (feq hc9).2) (by decide) (by decide) ?_
      show Steps p.tables e below (s₁.setTop (mkF m 21 #[.val (.int p0), .val (.int ((p0 &&& (2147483647 : Int32)) % (6 : Int32))), .unset, .unset, .unset, .unset, .unset] [])) _
      refine XS.iloadN X0.here hx rfl (hb hby at_21) rfl ?_
      show Steps p.tables e below (s₁.setTop (mkF m 22 #[.val (.int p0), .val (.int ((p0 &&& (2147483647 : Int32)) % (6 : Int32))), .unset, .unset, .unset, .unset, .unset] [(.int ((p0 &&& (2147483647 : Int32)) % (6 : Int32)))])) _
      refine XS.iconst X0.here hx rfl (hb hby at_22) ?_
      exact k
    by_cases hc23 : ((p0 &&& (2147483647 : Int32)) % (6 : Int32)) = (1 : Int32)
    · obtain ⟨T14, X14, e14, st14⟩ := getS2 X0 hx hZ hown (host := "") (Or.inl (hw _ (List.mem_of_getElem? (i := 61) rfl))) Via.refl e0 S_NOT_EQUAL (g := (mkF m 26 #[.val (.int p0), .val (.int ((p0 &&& (2147483647 : Int32)) % (6 : Int32))), .unset, .unset, .unset, .unset, .unset] [])) rfl (hb hby at_26)
      obtain ⟨cq15, kq15, q15a, q15b, q15c⟩ := isOf hZ e14 E_NOT_EQUAL
      obtain ⟨_, _, ⟨T15, L15, k15, n15⟩, -, X15, ⟨Lc15, hQ15, l15, y15, z15⟩, st15⟩ := X14.virtualBack hx (y := (⟨"com/example/obligation/obligation/xpath/Operations$Comparator", "symbol", "()Ljava/lang/String;"⟩ : MethodName)) (z := (⟨"com/example/obligation/obligation/xpath/Operations$Comparator", "symbol", "()Ljava/lang/String;"⟩ : MethodName)) hown (mvT hZ (hw _ (List.mem_of_getElem? (i := 4) rfl))) (mvT hZ (hw _ (List.mem_of_getElem? (i := 5) rfl))) (notFace_of_selects (args := #[]) (mvT hZ (hw _ (List.mem_of_getElem? (i := 7) rfl)))) (mvT hZ (hw _ (List.mem_of_getElem? (i := 7) rfl))) (mvT hZ (hw _ (List.mem_of_getElem? (i := 6) rfl))) (by decide) (backOf (W := 0) (rm1 l Z a0 hw [] w_NOT_EQUAL y_NOT_EQUAL h0 n0 Z0 Fs_NOT_EQUAL) hZ (hw _ (List.mem_of_getElem? (i := 8) rfl)) (hw _ (List.mem_of_getElem? (i := 2) rfl)) (by decide) (by decide)) q15a q15c (g := (mkF m 84 #[.val (.int p0), .val (.int ((p0 &&& (2147483647 : Int32)) % (6 : Int32))), .val (.ref w_NOT_EQUAL), .val (.int (1 : Int32)), .unset, .unset, .unset] [(.ref w_NOT_EQUAL)])) rfl (by rw [hml]; rfl) (Steps.refl _) (argsL := []) (rest := []) (lenOf pd_0 rfl) rfl (by show 2 * 0 + _ ≤ _; exact Nat.le_of_eq rfl) (hb hby at_84) (fun _ _ => ⟨rfl, e14, (by decide : 0 + 0 ≤ _), (by decide : 0 + 0 ≤ _)⟩)
      dsimp only [Pt.U, Pt.locs, Pt.cells, Pt.slots] at X15 l15 y15 z15 st15 hQ15
      subst l15 y15 z15
      obtain ⟨rfl, N15q, e15⟩ := hQ15
      have N15 := Fr.app N0 N15q
      have hp16 : ¬ (w_COMPACT_STRINGS = (0 : Int32)) := hcs
      obtain ⟨cq17, kq17, q17a, q17b, q17c⟩ := isOf hZ e15 Ey_NOT_EQUAL
      obtain ⟨_, _, ⟨T17, L17, k17, n17⟩, -, X17, ⟨Lc17, hQ17, l17, y17, z17⟩, st17⟩ := X15.virtualBack hx (y := (⟨"java/lang/String", "length", "()I"⟩ : MethodName)) (z := (⟨"java/lang/String", "length", "()I"⟩ : MethodName)) hown (mvT hZ (hw _ (List.mem_of_getElem? (i := 11) rfl))) (mvT hZ (hw _ (List.mem_of_getElem? (i := 12) rfl))) (notFace_of_selects (args := #[]) (mvT hZ (hw _ (List.mem_of_getElem? (i := 14) rfl)))) (mvT hZ (hw _ (List.mem_of_getElem? (i := 14) rfl))) (mvT hZ (hw _ (List.mem_of_getElem? (i := 13) rfl))) (by decide) (backOf (W := 0) (rm2 l Z a0 hw [] y_NOT_EQUAL r_NOT_EQUAL (2 : Int32) (33 : Int32) w_COMPACT_STRINGS h0 n0 Z0 Fv_NOT_EQUAL B_NOT_EQUAL S_COMPACT_STRINGS hp16 Fc_NOT_EQUAL Ey_NOT_EQUAL) hZ (hw _ (List.mem_of_getElem? (i := 16) rfl)) (hw _ (List.mem_of_getElem? (i := 15) rfl)) (by decide) (by decide)) q17a q17c (g := (mkF m 91 #[.val (.int p0), .val (.int ((p0 &&& (2147483647 : Int32)) % (6 : Int32))), .val (.ref w_NOT_EQUAL), .val (.int (1 : Int32)), .val (.ref y_NOT_EQUAL), .unset, .unset] [(.ref y_NOT_EQUAL)])) rfl (by rw [hml]; rfl) (Steps.refl _) (argsL := []) (rest := []) (lenOf pd_2 rfl) rfl (by show 2 * 0 + _ ≤ _; exact Nat.le_of_eq rfl) (hb hby at_91) (fun _ _ => ⟨rfl, e15, (by decide : 0 + 0 ≤ _), (by decide : 0 + 0 ≤ _)⟩)
      dsimp only [Pt.U, Pt.locs, Pt.cells, Pt.slots] at X17 l17 y17 z17 st17 hQ17
      subst l17 y17 z17
      obtain ⟨rfl, N17q, e17⟩ := hQ17
      have N17 := Fr.app N15 N17q
      have hc94 : (0 : Int32) < ((2 : Int32) >>> ((0 : Int32) &&& 31)) := by decide
      have hp18 : ¬ (w_COMPACT_STRINGS = (0 : Int32)) := hcs
      have hp19 : (0 : Int32) < (2 : Int32) := by decide
      obtain ⟨cq20, kq20, q20a, q20b, q20c⟩ := isOf hZ e17 Ey_NOT_EQUAL
      obtain ⟨_, _, ⟨T20, L20, k20, n20⟩, -, X20, ⟨Lc20, hQ20, l20, y20, z20⟩, st20⟩ := X17.virtualBack hx (y := (⟨"java/lang/String", "charAt", "(I)C"⟩ : MethodName)) (z := (⟨"java/lang/String", "charAt", "(I)C"⟩ : MethodName)) hown (mvT hZ (hw _ (List.mem_of_getElem? (i := 27) rfl))) (mvT hZ (hw _ (List.mem_of_getElem? (i := 28) rfl))) (notFace_of_selects (args := #[]) (mvT hZ (hw _ (List.mem_of_getElem? (i := 30) rfl)))) (mvT hZ (hw _ (List.mem_of_getElem? (i := 30) rfl))) (mvT hZ (hw _ (List.mem_of_getElem? (i := 29) rfl))) (by decide) (backOf (W := 0) (rm4 l Z a0 hw [] y_NOT_EQUAL r_NOT_EQUAL (2 : Int32) (33 : Int32) w_COMPACT_STRINGS w_SIOOBE_FORMATTER h0 n0 Z0 Fv_NOT_EQUAL B_NOT_EQUAL S_COMPACT_STRINGS hp18 Fc_NOT_EQUAL Ey_NOT_EQUAL hr_w_SIOOBE_FORMATTER S_SIOOBE_FORMATTER hp19) hZ (hw _ (List.mem_of_getElem? (i := 31) rfl)) (hw _ (List.mem_of_getElem? (i := 15) rfl)) (by decide) (by decide)) q20a q20c (g := (mkF m 100 #[.val (.int p0), .val (.int ((p0 &&& (2147483647 : Int32)) % (6 : Int32))), .val (.ref w_NOT_EQUAL), .val (.int (1 : Int32)), .val (.ref y_NOT_EQUAL), .unset, .unset] [(.int (0 : Int32)), (.ref y_NOT_EQUAL)])) rfl (by rw [hml]; rfl) (Steps.refl _) (argsL := [(.int (0 : Int32))]) (rest := []) (lenOf pd_7 rfl) rfl (by show 2 * 0 + _ ≤ _; exact Nat.le_of_eq rfl) (hb hby at_100) (fun _ _ => ⟨rfl, e17, (by decide : 0 + 0 ≤ _), (by decide : 0 + 0 ≤ _)⟩)
      dsimp only [Pt.U, Pt.locs, Pt.cells, Pt.slots] at X20 l20 y20 z20 st20 hQ20
      subst l20 y20 z20
      obtain ⟨rfl, N20q, e20⟩ := hQ20
      have N20 := Fr.app N17 N20q
      have hc105 : ¬ ((nar .char (nar .char (((33 : Int32) &&& (255 : Int32)).toUInt32.toUInt16.toUInt32.toInt32))) = (60 : Int32)) := by decide
      have hp21 : ¬ (w_COMPACT_STRINGS = (0 : Int32)) := hcs
      have hp22 : (0 : Int32) < (2 : Int32) := by decide
      obtain ⟨cq23, kq23, q23a, q23b, q23c⟩ := isOf hZ e20 Ey_NOT_EQUAL
      obtain ⟨_, _, ⟨T23, L23, k23, n23⟩, -, X23, ⟨Lc23, hQ23, l23, y23, z23⟩, st23⟩ := X20.virtualBack hx (y := (⟨"java/lang/String", "charAt", "(I)C"⟩ : MethodName)) (z := (⟨"java/lang/String", "charAt", "(I)C"⟩ : MethodName)) hown (mvT hZ (hw _ (List.mem_of_getElem? (i := 27) rfl))) (mvT hZ (hw _ (List.mem_of_getElem? (i := 28) rfl))) (notFace_of_selects (args := #[]) (mvT hZ (hw _ (List.mem_of_getElem? (i := 30) rfl)))) (mvT hZ (hw _ (List.mem_of_getElem? (i := 30) rfl))) (mvT hZ (hw _ (List.mem_of_getElem? (i := 29) rfl))) (by decide) (backOf (W := 0) (rm4 l Z a0 hw [] y_NOT_EQUAL r_NOT_EQUAL (2 : Int32) (33 : Int32) w_COMPACT_STRINGS w_SIOOBE_FORMATTER h0 n0 Z0 Fv_NOT_EQUAL B_NOT_EQUAL S_COMPACT_STRINGS hp21 Fc_NOT_EQUAL Ey_NOT_EQUAL hr_w_SIOOBE_FORMATTER S_SIOOBE_FORMATTER hp22) hZ (hw _ (List.mem_of_getElem? (i := 31) rfl)) (hw _ (List.mem_of_getElem? (i := 15) rfl)) (by decide) (by decide)) q23a q23c (g := (mkF m 111 #[.val (.int p0), .val (.int ((p0 &&& (2147483647 : Int32)) % (6 : Int32))), .val (.ref w_NOT_EQUAL), .val (.int (1 : Int32)), .val (.ref y_NOT_EQUAL), .unset, .unset] [(.int (0 : Int32)), (.ref y_NOT_EQUAL)])) rfl (by rw [hml]; rfl) (Steps.refl _) (argsL := [(.int (0 : Int32))]) (rest := []) (lenOf pd_7 rfl) rfl (by show 2 * 0 + _ ≤ _; exact Nat.le_of_eq rfl) (hb hby at_111) (fun _ _ => ⟨rfl, e20, (by decide : 0 + 0 ≤ _), (by decide : 0 + 0 ≤ _)⟩)
      dsimp only [Pt.U, Pt.locs, Pt.cells, Pt.slots] at X23 l23 y23 z23 st23 hQ23
      subst l23 y23 z23
      obtain ⟨rfl, N23q, e23⟩ := hQ23
      have N23 := Fr.app N20 N23q
      have hc116 : ¬ ((nar .char (nar .char (((33 : Int32) &&& (255 : Int32)).toUInt32.toUInt16.toUInt32.toInt32))) = (62 : Int32)) := by decide
      obtain ⟨cq24, kq24, q24a, q24b, q24c⟩ := isOf hZ e23 E_NOT_EQUAL
      obtain ⟨_, _, ⟨T24, L24, k24, n24⟩, -, X24, ⟨Lc24, hQ24, l24, y24, z24⟩, st24⟩ := X23.virtualBack hx (y := (⟨"com/example/obligation/obligation/xpath/Operations$Comparator", "isEquality", "()Z"⟩ : MethodName)) (z := (⟨"com/example/obligation/obligation/xpath/Operations$Comparator", "isEquality", "()Z"⟩ : MethodName)) hown (mvT hZ (hw _ (List.mem_of_getElem? (i := 49) rfl))) (mvT hZ (hw _ (List.mem_of_getElem? (i := 50) rfl))) (notFace_of_selects (args := #[]) (mvT hZ (hw _ (List.mem_of_getElem? (i := 52) rfl)))) (mvT hZ (hw _ (List.mem_of_getElem? (i := 52) rfl))) (mvT hZ (hw _ (List.mem_of_getElem? (i := 51) rfl))) (by decide) (backOf (W := 0) (rm9 l Z a0 hw [] w_NOT_EQUAL w_EQUAL w_NOT_EQUAL h0 n0 Z0 S_EQUAL S_NOT_EQUAL) hZ (hw _ (List.mem_of_getElem? (i := 53) rfl)) (hw _ (List.mem_of_getElem? (i := 2) rfl)) (by decide) (by decide)) q24a q24c (g := (mkF m 127 #[.val (.int p0), .val (.int ((p0 &&& (2147483647 : Int32)) % (6 : Int32))), .val (.ref w_NOT_EQUAL), .val (.int (1 : Int32)), .val (.ref y_NOT_EQUAL), .val (.int (1 : Int32)), .unset] [(.ref w_NOT_EQUAL)])) rfl (by rw [hml]; rfl) (Steps.refl _) (argsL := []) (rest := []) (lenOf pd_3 rfl) rfl (by show 2 * 0 + _ ≤ _; exact Nat.le_of_eq rfl) (hb hby at_127) (fun _ _ => ⟨rfl, e23, (by decide : 0 + 0 ≤ _), (by decide : 0 + 0 ≤ _)⟩)
      dsimp only [Pt.U, Pt.locs, Pt.cells, Pt.slots] at X24 l24 y24 z24 st24 hQ24
      subst l24 y24 z24
      obtain ⟨rfl, N24q, e24⟩ := hQ24
      have N24 := Fr.app N23 N24q
      have hc135 : (F9 w_NOT_EQUAL w_EQUAL w_NOT_EQUAL) = (1 : Int32) := by rw [F9, if_neg ne_NOT_EQUAL_EQUAL, if_pos rfl]
      obtain ⟨fs, hr, hrun, hended, hW, hsame⟩ := X24.leave (v := some (.int (1 : Int32))) (fun h => by rw [Bd.returns] at h; cases h) (BodyLoose.notSynchronized Bd)
      refine ⟨_, _, pre13 _ ?_, hrun, hended, _, _, rfl, ?_, ⟨_, rfl⟩, hW, hsame.mono (by decide) (by decide)⟩
      · show Steps p.tables e below (s₁.setTop (mkF m 23 #[.val (.int p0), .val (.int ((p0 &&& (2147483647 : Int32)) % (6 : Int32))), .unset, .unset, .unset, .unset, .unset] [(.int (1 : Int32)), (.int ((p0 &&& (2147483647 : Int32)) % (6 : Int32)))])) _
        refine XS.icmpNo X0.here hx rfl (hb hby at_23) rfl (teq hc23).2 ?_
        show Steps p.tables e below (s₁.setTop (mkF m 26 #[.val (.int p0), .val (.int ((p0 &&& (2147483647 : Int32)) % (6 : Int32))), .unset, .unset, .unset, .unset, .unset] [])) _
        refine st14 _ ?_
        show Steps p.tables e below (T14.setTop (mkF m 29 #[.val (.int p0), .val (.int ((p0 &&& (2147483647 : Int32)) % (6 : Int32))), .unset, .unset, .unset, .unset, .unset] [(.ref w_NOT_EQUAL)])) _
        refine XS.astoreN X14.here hx rfl (hb hby at_29) rfl rfl (l' := #[.val (.int p0), .val (.int ((p0 &&& (2147483647 : Int32)) % (6 : Int32))), .val (.ref w_NOT_EQUAL), .unset, .unset, .unset, .unset]) rfl ?_
        show Steps p.tables e below (T14.setTop (mkF m 30 #[.val (.int p0), .val (.int ((p0 &&& (2147483647 : Int32)) % (6 : Int32))), .val (.ref w_NOT_EQUAL), .unset, .unset, .unset, .unset] [])) _
        refine XS.iconst X14.here hx rfl (hb hby at_30) ?_
        show Steps p.tables e below (T14.setTop (mkF m 31 #[.val (.int p0), .val (.int ((p0 &&& (2147483647 : Int32)) % (6 : Int32))), .val (.ref w_NOT_EQUAL), .unset, .unset, .unset, .unset] [(.int (1 : Int32))])) _
        refine XS.istoreN X14.here hx rfl (hb hby at_31) rfl (l' := #[.val (.int p0), .val (.int ((p0 &&& (2147483647 : Int32)) % (6 : Int32))), .val (.ref w_NOT_EQUAL), .val (.int (1 : Int32)), .unset, .unset, .unset]) rfl ?_
        show Steps p.tables e below (T14.setTop (mkF m 32 #[.val (.int p0), .val (.int ((p0 &&& (2147483647 : Int32)) % (6 : Int32))), .val (.ref w_NOT_EQUAL), .val (.int (1 : Int32)), .unset, .unset, .unset] [])) _
        refine XS.goto X14.here hx rfl (pc0 := 32) (pc' := 83) rfl (hb hby at_32) (by decide) (by decide) ?_
        show Steps p.tables e below (T14.setTop (mkF m 83 #[.val (.int p0), .val (.int ((p0 &&& (2147483647 : Int32)) % (6 : Int32))), .val (.ref w_NOT_EQUAL), .val (.int (1 : Int32)), .unset, .unset, .unset] [])) _
        refine XS.aloadN X14.here hx rfl (hb hby at_83) rfl rfl ?_
        show Steps p.tables e below (T14.setTop (mkF m 84 #[.val (.int p0), .val (.int ((p0 &&& (2147483647 : Int32)) % (6 : Int32))), .val (.ref w_NOT_EQUAL), .val (.int (1 : Int32)), .unset, .unset, .unset] [(.ref w_NOT_EQUAL)])) _
        refine st15.trans ?_
        show Steps p.tables e below (T15.setTop (mkF m 87 #[.val (.int p0), .val (.int ((p0 &&& (2147483647 : Int32)) % (6 : Int32))), .val (.ref w_NOT_EQUAL), .val (.int (1 : Int32)), .unset, .unset, .unset] [(.ref y_NOT_EQUAL)])) _
        refine XS.astore X15.here hx rfl (hb hby at_87) rfl rfl (l' := #[.val (.int p0), .val (.int ((p0 &&& (2147483647 : Int32)) % (6 : Int32))), .val (.ref w_NOT_EQUAL), .val (.int (1 : Int32)), .val (.ref y_NOT_EQUAL), .unset, .unset]) rfl ?_
        show Steps p.tables e below (T15.setTop (mkF m 89 #[.val (.int p0), .val (.int ((p0 &&& (2147483647 : Int32)) % (6 : Int32))), .val (.ref w_NOT_EQUAL), .val (.int (1 : Int32)), .val (.ref y_NOT_EQUAL), .unset, .unset] [])) _
        refine XS.aload X15.here hx rfl (hb hby at_89) rfl rfl ?_
        show Steps p.tables e below (T15.setTop (mkF m 91 #[.val (.int p0), .val (.int ((p0 &&& (2147483647 : Int32)) % (6 : Int32))), .val (.ref w_NOT_EQUAL), .val (.int (1 : Int32)), .val (.ref y_NOT_EQUAL), .unset, .unset] [(.ref y_NOT_EQUAL)])) _
        refine st17.trans ?_
        show Steps p.tables e below (T17.setTop (mkF m 94 #[.val (.int p0), .val (.int ((p0 &&& (2147483647 : Int32)) % (6 : Int32))), .val (.ref w_NOT_EQUAL), .val (.int (1 : Int32)), .val (.ref y_NOT_EQUAL), .unset, .unset] [(.int ((2 : Int32) >>> ((0 : Int32) &&& 31)))])) _
        refine XS.ifNo X17.here hx rfl (hb hby at_94) rfl ((if0 _ _).trans (tlt hc94).2.2.2) ?_
        show Steps p.tables e below (T17.setTop (mkF m 97 #[.val (.int p0), .val (.int ((p0 &&& (2147483647 : Int32)) % (6 : Int32))), .val (.ref w_NOT_EQUAL), .val (.int (1 : Int32)), .val (.ref y_NOT_EQUAL), .unset, .unset] [])) _
        refine XS.aload X17.here hx rfl (hb hby at_97) rfl rfl ?_
        show Steps p.tables e below (T17.setTop (mkF m 99 #[.val (.int p0), .val (.int ((p0 &&& (2147483647 : Int32)) % (6 : Int32))), .val (.ref w_NOT_EQUAL), .val (.int (1 : Int32)), .val (.ref y_NOT_EQUAL), .unset, .unset] [(.ref y_NOT_EQUAL)])) _
        refine XS.iconst X17.here hx rfl (hb hby at_99) ?_
        show Steps p.tables e below (T17.setTop (mkF m 100 #[.val (.int p0), .val (.int ((p0 &&& (2147483647 : Int32)) % (6 : Int32))), .val (.ref w_NOT_EQUAL), .val (.int (1 : Int32)), .val (.ref y_NOT_EQUAL), .unset, .unset] [(.int (0 : Int32)), (.ref y_NOT_EQUAL)])) _
        refine st20.trans ?_
        show Steps p.tables e below (T20.setTop (mkF m 103 #[.val (.int p0), .val (.int ((p0 &&& (2147483647 : Int32)) % (6 : Int32))), .val (.ref w_NOT_EQUAL), .val (.int (1 : Int32)), .val (.ref y_NOT_EQUAL), .unset, .unset] [(.int (nar .char (nar .char (((33 : Int32) &&& (255 : Int32)).toUInt32.toUInt16.toUInt32.toInt32))))])) _
        refine XS.bipush X20.here hx rfl (hb hby at_103) ?_
        show Steps p.tables e below (T20.setTop (mkF m 105 #[.val (.int p0), .val (.int ((p0 &&& (2147483647 : Int32)) % (6 : Int32))), .val (.ref w_NOT_EQUAL), .val (.int (1 : Int32)), .val (.ref y_NOT_EQUAL), .unset, .unset] [(.int (60 : Int32)), (.int (nar .char (nar .char (((33 : Int32) &&& (255 : Int32)).toUInt32.toUInt16.toUInt32.toInt32))))])) _
        refine XS.icmpNo X20.here hx rfl (hb hby at_105) rfl (feq hc105).1 ?_
        show Steps p.tables e below (T20.setTop (mkF m 108 #[.val (.int p0), .val (.int ((p0 &&& (2147483647 : Int32)) % (6 : Int32))), .val (.ref w_NOT_EQUAL), .val (.int (1 : Int32)), .val (.ref y_NOT_EQUAL), .unset, .unset] [])) _
        refine XS.aload X20.here hx rfl (hb hby at_108) rfl rfl ?_
        show Steps p.tables e below (T20.setTop (mkF m 110 #[.val (.int p0), .val (.int ((p0 &&& (2147483647 : Int32)) % (6 : Int32))), .val (.ref w_NOT_EQUAL), .val (.int (1 : Int32)), .val (.ref y_NOT_EQUAL), .unset, .unset] [(.ref y_NOT_EQUAL)])) _
        refine XS.iconst X20.here hx rfl (hb hby at_110) ?_
        show Steps p.tables e below (T20.setTop (mkF m 111 #[.val (.int p0), .val (.int ((p0 &&& (2147483647 : Int32)) % (6 : Int32))), .val (.ref w_NOT_EQUAL), .val (.int (1 : Int32)), .val (.ref y_NOT_EQUAL), .unset, .unset] [(.int (0 : Int32)), (.ref y_NOT_EQUAL)])) _
        refine st23.trans ?_
        show Steps p.tables e below (T23.setTop (mkF m 114 #[.val (.int p0), .val (.int ((p0 &&& (2147483647 : Int32)) % (6 : Int32))), .val (.ref w_NOT_EQUAL), .val (.int (1 : Int32)), .val (.ref y_NOT_EQUAL), .unset, .unset] [(.int (nar .char (nar .char (((33 : Int32) &&& (255 : Int32)).toUInt32.toUInt16.toUInt32.toInt32))))])) _
        refine XS.bipush X23.here hx rfl (hb hby at_114) ?_
        show Steps p.tables e below (T23.setTop (mkF m 116 #[.val (.int p0), .val (.int ((p0 &&& (2147483647 : Int32)) % (6 : Int32))), .val (.ref w_NOT_EQUAL), .val (.int (1 : Int32)), .val (.ref y_NOT_EQUAL), .unset, .unset] [(.int (62 : Int32)), (.int (nar .char (nar .char (((33 : Int32) &&& (255 : Int32)).toUInt32.toUInt16.toUInt32.toInt32))))])) _
        refine XS.icmpNo X23.here hx rfl (hb hby at_116) rfl (feq hc116).1 ?_
        show Steps p.tables e below (T23.setTop (mkF m 119 #[.val (.int p0), .val (.int ((p0 &&& (2147483647 : Int32)) % (6 : Int32))), .val (.ref w_NOT_EQUAL), .val (.int (1 : Int32)), .val (.ref y_NOT_EQUAL), .unset, .unset] [])) _
        refine XS.iconst X23.here hx rfl (hb hby at_119) ?_
        show Steps p.tables e below (T23.setTop (mkF m 120 #[.val (.int p0), .val (.int ((p0 &&& (2147483647 : Int32)) % (6 : Int32))), .val (.ref w_NOT_EQUAL), .val (.int (1 : Int32)), .val (.ref y_NOT_EQUAL), .unset, .unset] [(.int (1 : Int32))])) _
        refine XS.goto X23.here hx rfl (pc0 := 120) (pc' := 124) rfl (hb hby at_120) (by decide) (by decide) ?_
        show Steps p.tables e below (T23.setTop (mkF m 124 #[.val (.int p0), .val (.int ((p0 &&& (2147483647 : Int32)) % (6 : Int32))), .val (.ref w_NOT_EQUAL), .val (.int (1 : Int32)), .val (.ref y_NOT_EQUAL), .unset, .unset] [(.int (1 : Int32))])) _
        refine XS.istore X23.here hx rfl (hb hby at_124) rfl (l' := #[.val (.int p0), .val (.int ((p0 &&& (2147483647 : Int32)) % (6 : Int32))), .val (.ref w_NOT_EQUAL), .val (.int (1 : Int32)), .val (.ref y_NOT_EQUAL), .val (.int (1 : Int32)), .unset]) rfl ?_
        show Steps p.tables e below (T23.setTop (mkF m 126 #[.val (.int p0), .val (.int ((p0 &&& (2147483647 : Int32)) % (6 : Int32))), .val (.ref w_NOT_EQUAL), .val (.int (1 : Int32)), .val (.ref y_NOT_EQUAL), .val (.int (1 : Int32)), .unset] [])) _
        refine XS.aloadN X23.here hx rfl (hb hby at_126) rfl rfl ?_
        show Steps p.tables e below (T23.setTop (mkF m 127 #[.val (.int p0), .val (.int ((p0 &&& (2147483647 : Int32)) % (6 : Int32))), .val (.ref w_NOT_EQUAL), .val (.int (1 : Int32)), .val (.ref y_NOT_EQUAL), .val (.int (1 : Int32)), .unset] [(.ref w_NOT_EQUAL)])) _
        refine st24.trans ?_
        show Steps p.tables e below (T24.setTop (mkF m 130 #[.val (.int p0), .val (.int ((p0 &&& (2147483647 : Int32)) % (6 : Int32))), .val (.ref w_NOT_EQUAL), .val (.int (1 : Int32)), .val (.ref y_NOT_EQUAL), .val (.int (1 : Int32)), .unset] [(.int (F9 w_NOT_EQUAL w_EQUAL w_NOT_EQUAL))])) _
        refine XS.istore X24.here hx rfl (hb hby at_130) rfl (l' := #[.val (.int p0), .val (.int ((p0 &&& (2147483647 : Int32)) % (6 : Int32))), .val (.ref w_NOT_EQUAL), .val (.int (1 : Int32)), .val (.ref y_NOT_EQUAL), .val (.int (1 : Int32)), .val (.int (F9 w_NOT_EQUAL w_EQUAL w_NOT_EQUAL))]) rfl ?_
        show Steps p.tables e below (T24.setTop (mkF m 132 #[.val (.int p0), .val (.int ((p0 &&& (2147483647 : Int32)) % (6 : Int32))), .val (.ref w_NOT_EQUAL), .val (.int (1 : Int32)), .val (.ref y_NOT_EQUAL), .val (.int (1 : Int32)), .val (.int (F9 w_NOT_EQUAL w_EQUAL w_NOT_EQUAL))] [])) _
        refine XS.iload X24.here hx rfl (hb hby at_132) rfl ?_
        show Steps p.tables e below (T24.setTop (mkF m 134 #[.val (.int p0), .val (.int ((p0 &&& (2147483647 : Int32)) % (6 : Int32))), .val (.ref w_NOT_EQUAL), .val (.int (1 : Int32)), .val (.ref y_NOT_EQUAL), .val (.int (1 : Int32)), .val (.int (F9 w_NOT_EQUAL w_EQUAL w_NOT_EQUAL))] [(.int (F9 w_NOT_EQUAL w_EQUAL w_NOT_EQUAL))])) _
        refine XS.iloadN X24.here hx rfl (hb hby at_134) rfl ?_
        show Steps p.tables e below (T24.setTop (mkF m 135 #[.val (.int p0), .val (.int ((p0 &&& (2147483647 : Int32)) % (6 : Int32))), .val (.ref w_NOT_EQUAL), .val (.int (1 : Int32)), .val (.ref y_NOT_EQUAL), .val (.int (1 : Int32)), .val (.int (F9 w_NOT_EQUAL w_EQUAL w_NOT_EQUAL))] [(.int (1 : Int32)), (.int (F9 w_NOT_EQUAL w_EQUAL w_NOT_EQUAL))])) _
        refine XS.icmpNo X24.here hx rfl (hb hby at_135) rfl (teq hc135).2 ?_
        show Steps p.tables e below (T24.setTop (mkF m 138 #[.val (.int p0), .val (.int ((p0 &&& (2147483647 : Int32)) % (6 : Int32))), .val (.ref w_NOT_EQUAL), .val (.int (1 : Int32)), .val (.ref y_NOT_EQUAL), .val (.int (1 : Int32)), .val (.int (F9 w_NOT_EQUAL w_EQUAL w_NOT_EQUAL))] [])) _
        refine XS.iload X24.here hx rfl (hb hby at_138) rfl ?_
        show Steps p.tables e below (T24.setTop (mkF m 140 #[.val (.int p0), .val (.int ((p0 &&& (2147483647 : Int32)) % (6 : Int32))), .val (.ref w_NOT_EQUAL), .val (.int (1 : Int32)), .val (.ref y_NOT_EQUAL), .val (.int (1 : Int32)), .val (.int (F9 w_NOT_EQUAL w_EQUAL w_NOT_EQUAL))] [(.int (F9 w_NOT_EQUAL w_EQUAL w_NOT_EQUAL))])) _
        refine XS.iload X24.here hx rfl (hb hby at_140) rfl ?_
        show Steps p.tables e below (T24.setTop (mkF m 142 #[.val (.int p0), .val (.int ((p0 &&& (2147483647 : Int32)) % (6 : Int32))), .val (.ref w_NOT_EQUAL), .val (.int (1 : Int32)), .val (.ref y_NOT_EQUAL), .val (.int (1 : Int32)), .val (.int (F9 w_NOT_EQUAL w_EQUAL w_NOT_EQUAL))] [(.int (1 : Int32)), (.int (F9 w_NOT_EQUAL w_EQUAL w_NOT_EQUAL))])) _
        refine XS.icmpNo X24.here hx rfl (hb hby at_142) rfl (teq hc135).2 ?_
        show Steps p.tables e below (T24.setTop (mkF m 145 #[.val (.int p0), .val (.int ((p0 &&& (2147483647 : Int32)) % (6 : Int32))), .val (.ref w_NOT_EQUAL), .val (.int (1 : Int32)), .val (.ref y_NOT_EQUAL), .val (.int (1 : Int32)), .val (.int (F9 w_NOT_EQUAL w_EQUAL w_NOT_EQUAL))] [])) _
        refine XS.iconst X24.here hx rfl (hb hby at_145) ?_
        show Steps p.tables e below (T24.setTop (mkF m 146 #[.val (.int p0), .val (.int ((p0 &&& (2147483647 : Int32)) % (6 : Int32))), .val (.ref w_NOT_EQUAL), .val (.int (1 : Int32)), .val (.ref y_NOT_EQUAL), .val (.int (1 : Int32)), .val (.int (F9 w_NOT_EQUAL w_EQUAL w_NOT_EQUAL))] [(.int (1 : Int32))])) _
        refine XS.goto X24.here hx rfl (pc0 := 146) (pc' := 150) rfl (hb hby at_146) (by decide) (by decide) ?_
        show Steps p.tables e below (T24.setTop (mkF m 150 #[.val (.int p0), .val (.int ((p0 &&& (2147483647 : Int32)) % (6 : Int32))), .val (.ref w_NOT_EQUAL), .val (.int (1 : Int32)), .val (.ref y_NOT_EQUAL), .val (.int (1 : Int32)), .val (.int (F9 w_NOT_EQUAL w_EQUAL w_NOT_EQUAL))] [(.int (1 : Int32))])) _
        exact retN X24 hx (t := .boolean) Bd.returns (by simp) (hb hby at_150) hr
      · show Q0 Z p0 w_COMPACT_STRINGS w_SIOOBE_FORMATTER w_EQUAL y_EQUAL r_EQUAL w_NOT_EQUAL y_NOT_EQUAL r_NOT_EQUAL w_LESS y_LESS r_LESS w_LESS_OR_EQUAL y_LESS_OR_EQUAL r_LESS_OR_EQUAL w_GREATER y_GREATER r_GREATER w_GREATER_OR_EQUAL y_GREATER_OR_EQUAL r_GREATER_OR_EQUAL h0 n0 _ T24.heap _
        rw [e24]
        exact ⟨rfl, N24⟩
    · have pre25 : ∀ t, Steps p.tables e below (s₁.setTop (mkF m 37 #[.val (.int p0), .val (.int ((p0 &&& (2147483647 : Int32)) % (6 : Int32))), .unset, .unset, .unset, .unset, .unset] [(.int (2 : Int32)), (.int ((p0 &&& (2147483647 : Int32)) % (6 : Int32)))])) t → Steps p.tables e below (s₁.setTop (entryFrame m #[(.int p0)] maxLocals)) t := fun t k => by
        refine pre13 t ?_
        show Steps p.tables e below (s₁.setTop (mkF m 23 #[.val (.int p0), .val (.int ((p0 &&& (2147483647 : Int32)) % (6 : Int32))), .unset, .unset, .unset, .unset, .unset] [(.int (1 : Int32)), (.int ((p0 &&& (2147483647 : Int32)) % (6 : Int32)))])) _
        refine XS.icmpYes X0.here hx rfl (pc0 := 23) (pc' := 35) rfl (hb hby at_23) rfl (feq hc23).2 (by decide) (by decide) ?_
        show Steps p.tables e below (s₁.setTop (mkF m 35 #[.val (.int p0), .val (.int ((p0 &&& (2147483647 : Int32)) % (6 : Int32))), .unset, .unset, .unset, .unset, .unset] [])) _
        refine XS.iloadN X0.here hx rfl (hb hby at_35) rfl ?_
        show Steps p.tables e below (s₁.setTop (mkF m 36 #[.val (.int p0), .val (.int ((p0 &&& (2147483647 : Int32)) % (6 : Int32))), .unset, .unset, .unset, .unset, .unset] [(.int ((p0 &&& (2147483647 : Int32)) % (6 : Int32)))])) _
        refine XS.iconst X0.here hx rfl (hb hby at_36) ?_
        exact k
      by_cases hc37 : ((p0 &&& (2147483647 : Int32)) % (6 : Int32)) = (2 : Int32)
      · obtain ⟨T26, X26, e26, st26⟩ := getS2 X0 hx hZ hown (host := "") (Or.inl (hw _ (List.mem_of_getElem? (i := 59) rfl))) Via.refl e0 S_LESS (g := (mkF m 40 #[.val (.int p0), .val (.int ((p0 &&& (2147483647 : Int32)) % (6 : Int32))), .unset, .unset, .unset, .unset, .unset] [])) rfl (hb hby at_40)
        obtain ⟨cq27, kq27, q27a, q27b, q27c⟩ := isOf hZ e26 E_LESS
        obtain ⟨_, _, ⟨T27, L27, k27, n27⟩, -, X27, ⟨Lc27, hQ27, l27, y27, z27⟩, st27⟩ := X26.virtualBack hx (y := (⟨"com/example/obligation/obligation/xpath/Operations$Comparator", "symbol", "()Ljava/lang/String;"⟩ : MethodName)) (z := (⟨"com/example/obligation/obligation/xpath/Operations$Comparator", "symbol", "()Ljava/lang/String;"⟩ : MethodName)) hown (mvT hZ (hw _ (List.mem_of_getElem? (i := 4) rfl))) (mvT hZ (hw _ (List.mem_of_getElem? (i := 5) rfl))) (notFace_of_selects (args := #[]) (mvT hZ (hw _ (List.mem_of_getElem? (i := 7) rfl)))) (mvT hZ (hw _ (List.mem_of_getElem? (i := 7) rfl))) (mvT hZ (hw _ (List.mem_of_getElem? (i := 6) rfl))) (by decide) (backOf (W := 0) (rm1 l Z a0 hw [] w_LESS y_LESS h0 n0 Z0 Fs_LESS) hZ (hw _ (List.mem_of_getElem? (i := 8) rfl)) (hw _ (List.mem_of_getElem? (i := 2) rfl)) (by decide) (by decide)) q27a q27c (g := (mkF m 84 #[.val (.int p0), .val (.int ((p0 &&& (2147483647 : Int32)) % (6 : Int32))), .val (.ref w_LESS), .val (.int (0 : Int32)), .unset, .unset, .unset] [(.ref w_LESS)])) rfl (by rw [hml]; rfl) (Steps.refl _) (argsL := []) (rest := []) (lenOf pd_0 rfl) rfl (by show 2 * 0 + _ ≤ _; exact Nat.le_of_eq rfl) (hb hby at_84) (fun _ _ => ⟨rfl, e26, (by decide : 0 + 0 ≤ _), (by decide : 0 + 0 ≤ _)⟩)
        dsimp only [Pt.U, Pt.locs, Pt.cells, Pt.slots] at X27 l27 y27 z27 st27 hQ27
        subst l27 y27 z27
        obtain ⟨rfl, N27q, e27⟩ := hQ27
        have N27 := Fr.app N0 N27q
        have hp28 : ¬ (w_COMPACT_STRINGS = (0 : Int32)) := hcs
        obtain ⟨cq29, kq29, q29a, q29b, q29c⟩ := isOf hZ e27 Ey_LESS
        obtain ⟨_, _, ⟨T29, L29, k29, n29⟩, -, X29, ⟨Lc29, hQ29, l29, y29, z29⟩, st29⟩ := X27.virtualBack hx (y := (⟨"java/lang/String", "length", "()I"⟩ : MethodName)) (z := (⟨"java/lang/String", "length", "()I"⟩ : MethodName)) hown (mvT hZ (hw _ (List.mem_of_getElem? (i := 11) rfl))) (mvT hZ (hw _ (List.mem_of_getElem? (i := 12) rfl))) (notFace_of_selects (args := #[]) (mvT hZ (hw _ (List.mem_of_getElem? (i := 14) rfl)))) (mvT hZ (hw _ (List.mem_of_getElem? (i := 14) rfl))) (mvT hZ (hw _ (List.mem_of_getElem? (i := 13) rfl))) (by decide) (backOf (W := 0) (rm2 l Z a0 hw [] y_LESS r_LESS (1 : Int32) (60 : Int32) w_COMPACT_STRINGS h0 n0 Z0 Fv_LESS B_LESS S_COMPACT_STRINGS hp28 Fc_LESS Ey_LESS) hZ (hw _ (List.mem_of_getElem? (i := 16) rfl)) (hw _ (List.mem_of_getElem? (i := 15) rfl)) (by decide) (by decide)) q29a q29c (g := (mkF m 91 #[.val (.int p0), .val (.int ((p0 &&& (2147483647 : Int32)) % (6 : Int32))), .val (.ref w_LESS), .val (.int (0 : Int32)), .val (.ref y_LESS), .unset, .unset] [(.ref y_LESS)])) rfl (by rw [hml]; rfl) (Steps.refl _) (argsL := []) (rest := []) (lenOf pd_2 rfl) rfl (by show 2 * 0 + _ ≤ _; exact Nat.le_of_eq rfl) (hb hby at_91) (fun _ _ => ⟨rfl, e27, (by decide : 0 + 0 ≤ _), (by decide : 0 + 0 ≤ _)⟩)
        dsimp only [Pt.U, Pt.locs, Pt.cells, Pt.slots] at X29 l29 y29 z29 st29 hQ29
        subst l29 y29 z29
        obtain ⟨rfl, N29q, e29⟩ := hQ29
        have N29 := Fr.app N27 N29q
        have hc94 : (0 : Int32) < ((1 : Int32) >>> ((0 : Int32) &&& 31)) := by decide
        have hp30 : ¬ (w_COMPACT_STRINGS = (0 : Int32)) := hcs
        have hp31 : (0 : Int32) < (1 : Int32) := by decide
        obtain ⟨cq32, kq32, q32a, q32b, q32c⟩ := isOf hZ e29 Ey_LESS
        obtain ⟨_, _, ⟨T32, L32, k32, n32⟩, -, X32, ⟨Lc32, hQ32, l32, y32, z32⟩, st32⟩ := X29.virtualBack hx (y := (⟨"java/lang/String", "charAt", "(I)C"⟩ : MethodName)) (z := (⟨"java/lang/String", "charAt", "(I)C"⟩ : MethodName)) hown (mvT hZ (hw _ (List.mem_of_getElem? (i := 27) rfl))) (mvT hZ (hw _ (List.mem_of_getElem? (i := 28) rfl))) (notFace_of_selects (args := #[]) (mvT hZ (hw _ (List.mem_of_getElem? (i := 30) rfl)))) (mvT hZ (hw _ (List.mem_of_getElem? (i := 30) rfl))) (mvT hZ (hw _ (List.mem_of_getElem? (i := 29) rfl))) (by decide) (backOf (W := 0) (rm4 l Z a0 hw [] y_LESS r_LESS (1 : Int32) (60 : Int32) w_COMPACT_STRINGS w_SIOOBE_FORMATTER h0 n0 Z0 Fv_LESS B_LESS S_COMPACT_STRINGS hp30 Fc_LESS Ey_LESS hr_w_SIOOBE_FORMATTER S_SIOOBE_FORMATTER hp31) hZ (hw _ (List.mem_of_getElem? (i := 31) rfl)) (hw _ (List.mem_of_getElem? (i := 15) rfl)) (by decide) (by decide)) q32a q32c (g := (mkF m 100 #[.val (.int p0), .val (.int ((p0 &&& (2147483647 : Int32)) % (6 : Int32))), .val (.ref w_LESS), .val (.int (0 : Int32)), .val (.ref y_LESS), .unset, .unset] [(.int (0 : Int32)), (.ref y_LESS)])) rfl (by rw [hml]; rfl) (Steps.refl _) (argsL := [(.int (0 : Int32))]) (rest := []) (lenOf pd_7 rfl) rfl (by show 2 * 0 + _ ≤ _; exact Nat.le_of_eq rfl) (hb hby at_100) (fun _ _ => ⟨rfl, e29, (by decide : 0 + 0 ≤ _), (by decide : 0 + 0 ≤ _)⟩)
        dsimp only [Pt.U, Pt.locs, Pt.cells, Pt.slots] at X32 l32 y32 z32 st32 hQ32
        subst l32 y32 z32
        obtain ⟨rfl, N32q, e32⟩ := hQ32
        have N32 := Fr.app N29 N32q
        have hc105 : (nar .char (nar .char (((60 : Int32) &&& (255 : Int32)).toUInt32.toUInt16.toUInt32.toInt32))) = (60 : Int32) := by decide
        obtain ⟨cq33, kq33, q33a, q33b, q33c⟩ := isOf hZ e32 E_LESS
        obtain ⟨_, _, ⟨T33, L33, k33, n33⟩, -, X33, ⟨Lc33, hQ33, l33, y33, z33⟩, st33⟩ := X32.virtualBack hx (y := (⟨"com/example/obligation/obligation/xpath/Operations$Comparator", "isEquality", "()Z"⟩ : MethodName)) (z := (⟨"com/example/obligation/obligation/xpath/Operations$Comparator", "isEquality", "()Z"⟩ : MethodName)) hown (mvT hZ (hw _ (List.mem_of_getElem? (i := 49) rfl))) (mvT hZ (hw _ (List.mem_of_getElem? (i := 50) rfl))) (notFace_of_selects (args := #[]) (mvT hZ (hw _ (List.mem_of_getElem? (i := 52) rfl)))) (mvT hZ (hw _ (List.mem_of_getElem? (i := 52) rfl))) (mvT hZ (hw _ (List.mem_of_getElem? (i := 51) rfl))) (by decide) (backOf (W := 0) (rm9 l Z a0 hw [] w_LESS w_EQUAL w_NOT_EQUAL h0 n0 Z0 S_EQUAL S_NOT_EQUAL) hZ (hw _ (List.mem_of_getElem? (i := 53) rfl)) (hw _ (List.mem_of_getElem? (i := 2) rfl)) (by decide) (by decide)) q33a q33c (g := (mkF m 127 #[.val (.int p0), .val (.int ((p0 &&& (2147483647 : Int32)) % (6 : Int32))), .val (.ref w_LESS), .val (.int (0 : Int32)), .val (.ref y_LESS), .val (.int (0 : Int32)), .unset] [(.ref w_LESS)])) rfl (by rw [hml]; rfl) (Steps.refl _) (argsL := []) (rest := []) (lenOf pd_3 rfl) rfl (by show 2 * 0 + _ ≤ _; exact Nat.le_of_eq rfl) (hb hby at_127) (fun _ _ => ⟨rfl, e32, (by decide : 0 + 0 ≤ _), (by decide : 0 + 0 ≤ _)⟩)
        dsimp only [Pt.U, Pt.locs, Pt.cells, Pt.slots] at X33 l33 y33 z33 st33 hQ33
        subst l33 y33 z33
        obtain ⟨rfl, N33q, e33⟩ := hQ33
        have N33 := Fr.app N32 N33q
        have hc135 : (F9 w_LESS w_EQUAL w_NOT_EQUAL) = (0 : Int32) := by rw [F9, if_neg ne_LESS_EQUAL, if_neg ne_LESS_NOT_EQUAL]
        obtain ⟨fs, hr, hrun, hended, hW, hsame⟩ := X33.leave (v := some (.int (1 : Int32))) (fun h => by rw [Bd.returns] at h; cases h) (BodyLoose.notSynchronized Bd)
        refine ⟨_, _, pre25 _ ?_, hrun, hended, _, _, rfl, ?_, ⟨_, rfl⟩, hW, hsame.mono (by decide) (by decide)⟩
        · show Steps p.tables e below (s₁.setTop (mkF m 37 #[.val (.int p0), .val (.int ((p0 &&& (2147483647 : Int32)) % (6 : Int32))), .unset, .unset, .unset, .unset, .unset] [(.int (2 : Int32)), (.int ((p0 &&& (2147483647 : Int32)) % (6 : Int32)))])) _
          refine XS.icmpNo X0.here hx rfl (hb hby at_37) rfl (teq hc37).2 ?_
          show Steps p.tables e below (s₁.setTop (mkF m 40 #[.val (.int p0), .val (.int ((p0 &&& (2147483647 : Int32)) % (6 : Int32))), .unset, .unset, .unset, .unset, .unset] [])) _
          refine st26 _ ?_
          show Steps p.tables e below (T26.setTop (mkF m 43 #[.val (.int p0), .val (.int ((p0 &&& (2147483647 : Int32)) % (6 : Int32))), .unset, .unset, .unset, .unset, .unset] [(.ref w_LESS)])) _
          refine XS.astoreN X26.here hx rfl (hb hby at_43) rfl rfl (l' := #[.val (.int p0), .val (.int ((p0 &&& (2147483647 : Int32)) % (6 : Int32))), .val (.ref w_LESS), .unset, .unset, .unset, .unset]) rfl ?_
          show Steps p.tables e below (T26.setTop (mkF m 44 #[.val (.int p0), .val (.int ((p0 &&& (2147483647 : Int32)) % (6 : Int32))), .val (.ref w_LESS), .unset, .unset, .unset, .unset] [])) _
          refine XS.iconst X26.here hx rfl (hb hby at_44) ?_
          show Steps p.tables e below (T26.setTop (mkF m 45 #[.val (.int p0), .val (.int ((p0 &&& (2147483647 : Int32)) % (6 : Int32))), .val (.ref w_LESS), .unset, .unset, .unset, .unset] [(.int (0 : Int32))])) _
          refine XS.istoreN X26.here hx rfl (hb hby at_45) rfl (l' := #[.val (.int p0), .val (.int ((p0 &&& (2147483647 : Int32)) % (6 : Int32))), .val (.ref w_LESS), .val (.int (0 : Int32)), .unset, .unset, .unset]) rfl ?_
          show Steps p.tables e below (T26.setTop (mkF m 46 #[.val (.int p0), .val (.int ((p0 &&& (2147483647 : Int32)) % (6 : Int32))), .val (.ref w_LESS), .val (.int (0 : Int32)), .unset, .unset, .unset] [])) _
          refine XS.goto X26.here hx rfl (pc0 := 46) (pc' := 83) rfl (hb hby at_46) (by decide) (by decide) ?_
          show Steps p.tables e below (T26.setTop (mkF m 83 #[.val (.int p0), .val (.int ((p0 &&& (2147483647 : Int32)) % (6 : Int32))), .val (.ref w_LESS), .val (.int (0 : Int32)), .unset, .unset, .unset] [])) _
          refine XS.aloadN X26.here hx rfl (hb hby at_83) rfl rfl ?_
          show Steps p.tables e below (T26.setTop (mkF m 84 #[.val (.int p0), .val (.int ((p0 &&& (2147483647 : Int32)) % (6 : Int32))), .val (.ref w_LESS), .val (.int (0 : Int32)), .unset, .unset, .unset] [(.ref w_LESS)])) _
          refine st27.trans ?_
          show Steps p.tables e below (T27.setTop (mkF m 87 #[.val (.int p0), .val (.int ((p0 &&& (2147483647 : Int32)) % (6 : Int32))), .val (.ref w_LESS), .val (.int (0 : Int32)), .unset, .unset, .unset] [(.ref y_LESS)])) _
          refine XS.astore X27.here hx rfl (hb hby at_87) rfl rfl (l' := #[.val (.int p0), .val (.int ((p0 &&& (2147483647 : Int32)) % (6 : Int32))), .val (.ref w_LESS), .val (.int (0 : Int32)), .val (.ref y_LESS), .unset, .unset]) rfl ?_
          show Steps p.tables e below (T27.setTop (mkF m 89 #[.val (.int p0), .val (.int ((p0 &&& (2147483647 : Int32)) % (6 : Int32))), .val (.ref w_LESS), .val (.int (0 : Int32)), .val (.ref y_LESS), .unset, .unset] [])) _
          refine XS.aload X27.here hx rfl (hb hby at_89) rfl rfl ?_
          show Steps p.tables e below (T27.setTop (mkF m 91 #[.val (.int p0), .val (.int ((p0 &&& (2147483647 : Int32)) % (6 : Int32))), .val (.ref w_LESS), .val (.int (0 : Int32)), .val (.ref y_LESS), .unset, .unset] [(.ref y_LESS)])) _
          refine st29.trans ?_
          show Steps p.tables e below (T29.setTop (mkF m 94 #[.val (.int p0), .val (.int ((p0 &&& (2147483647 : Int32)) % (6 : Int32))), .val (.ref w_LESS), .val (.int (0 : Int32)), .val (.ref y_LESS), .unset, .unset] [(.int ((1 : Int32) >>> ((0 : Int32) &&& 31)))])) _
          refine XS.ifNo X29.here hx rfl (hb hby at_94) rfl ((if0 _ _).trans (tlt hc94).2.2.2) ?_
          show Steps p.tables e below (T29.setTop (mkF m 97 #[.val (.int p0), .val (.int ((p0 &&& (2147483647 : Int32)) % (6 : Int32))), .val (.ref w_LESS), .val (.int (0 : Int32)), .val (.ref y_LESS), .unset, .unset] [])) _
          refine XS.aload X29.here hx rfl (hb hby at_97) rfl rfl ?_
          show Steps p.tables e below (T29.setTop (mkF m 99 #[.val (.int p0), .val (.int ((p0 &&& (2147483647 : Int32)) % (6 : Int32))), .val (.ref w_LESS), .val (.int (0 : Int32)), .val (.ref y_LESS), .unset, .unset] [(.ref y_LESS)])) _
          refine XS.iconst X29.here hx rfl (hb hby at_99) ?_
          show Steps p.tables e below (T29.setTop (mkF m 100 #[.val (.int p0), .val (.int ((p0 &&& (2147483647 : Int32)) % (6 : Int32))), .val (.ref w_LESS), .val (.int (0 : Int32)), .val (.ref y_LESS), .unset, .unset] [(.int (0 : Int32)), (.ref y_LESS)])) _
          refine st32.trans ?_
          show Steps p.tables e below (T32.setTop (mkF m 103 #[.val (.int p0), .val (.int ((p0 &&& (2147483647 : Int32)) % (6 : Int32))), .val (.ref w_LESS), .val (.int (0 : Int32)), .val (.ref y_LESS), .unset, .unset] [(.int (nar .char (nar .char (((60 : Int32) &&& (255 : Int32)).toUInt32.toUInt16.toUInt32.toInt32))))])) _
          refine XS.bipush X32.here hx rfl (hb hby at_103) ?_
          show Steps p.tables e below (T32.setTop (mkF m 105 #[.val (.int p0), .val (.int ((p0 &&& (2147483647 : Int32)) % (6 : Int32))), .val (.ref w_LESS), .val (.int (0 : Int32)), .val (.ref y_LESS), .unset, .unset] [(.int (60 : Int32)), (.int (nar .char (nar .char (((60 : Int32) &&& (255 : Int32)).toUInt32.toUInt16.toUInt32.toInt32))))])) _
          refine XS.icmpYes X32.here hx rfl (pc0 := 105) (pc' := 123) rfl (hb hby at_105) rfl (teq hc105).1 (by decide) (by decide) ?_
          show Steps p.tables e below (T32.setTop (mkF m 123 #[.val (.int p0), .val (.int ((p0 &&& (2147483647 : Int32)) % (6 : Int32))), .val (.ref w_LESS), .val (.int (0 : Int32)), .val (.ref y_LESS), .unset, .unset] [])) _
          refine XS.iconst X32.here hx rfl (hb hby at_123) ?_
          show Steps p.tables e below (T32.setTop (mkF m 124 #[.val (.int p0), .val (.int ((p0 &&& (2147483647 : Int32)) % (6 : Int32))), .val (.ref w_LESS), .val (.int (0 : Int32)), .val (.ref y_LESS), .unset, .unset] [(.int (0 : Int32))])) _
          refine XS.istore X32.here hx rfl (hb hby at_124) rfl (l' := #[.val (.int p0), .val (.int ((p0 &&& (2147483647 : Int32)) % (6 : Int32))), .val (.ref w_LESS), .val (.int (0 : Int32)), .val (.ref y_LESS), .val (.int (0 : Int32)), .unset]) rfl ?_
          show Steps p.tables e below (T32.setTop (mkF m 126 #[.val (.int p0), .val (.int ((p0 &&& (2147483647 : Int32)) % (6 : Int32))), .val (.ref w_LESS), .val (.int (0 : Int32)), .val (.ref y_LESS), .val (.int (0 : Int32)), .unset] [])) _
          refine XS.aloadN X32.here hx rfl (hb hby at_126) rfl rfl ?_
          show Steps p.tables e below (T32.setTop (mkF m 127 #[.val (.int p0), .val (.int ((p0 &&& (2147483647 : Int32)) % (6 : Int32))), .val (.ref w_LESS), .val (.int (0 : Int32)), .val (.ref y_LESS), .val (.int (0 : Int32)), .unset] [(.ref w_LESS)])) _
          refine st33.trans ?_
          show Steps p.tables e below (T33.setTop (mkF m 130 #[.val (.int p0), .val (.int ((p0 &&& (2147483647 : Int32)) % (6 : Int32))), .val (.ref w_LESS), .val (.int (0 : Int32)), .val (.ref y_LESS), .val (.int (0 : Int32)), .unset] [(.int (F9 w_LESS w_EQUAL w_NOT_EQUAL))])) _
          refine XS.istore X33.here hx rfl (hb hby at_130) rfl (l' := #[.val (.int p0), .val (.int ((p0 &&& (2147483647 : Int32)) % (6 : Int32))), .val (.ref w_LESS), .val (.int (0 : Int32)), .val (.ref y_LESS), .val (.int (0 : Int32)), .val (.int (F9 w_LESS w_EQUAL w_NOT_EQUAL))]) rfl ?_
          show Steps p.tables e below (T33.setTop (mkF m 132 #[.val (.int p0), .val (.int ((p0 &&& (2147483647 : Int32)) % (6 : Int32))), .val (.ref w_LESS), .val (.int (0 : Int32)), .val (.ref y_LESS), .val (.int (0 : Int32)), .val (.int (F9 w_LESS w_EQUAL w_NOT_EQUAL))] [])) _
          refine XS.iload X33.here hx rfl (hb hby at_132) rfl ?_
          show Steps p.tables e below (T33.setTop (mkF m 134 #[.val (.int p0), .val (.int ((p0 &&& (2147483647 : Int32)) % (6 : Int32))), .val (.ref w_LESS), .val (.int (0 : Int32)), .val (.ref y_LESS), .val (.int (0 : Int32)), .val (.int (F9 w_LESS w_EQUAL w_NOT_EQUAL))] [(.int (F9 w_LESS w_EQUAL w_NOT_EQUAL))])) _
          refine XS.iloadN X33.here hx rfl (hb hby at_134) rfl ?_
          show Steps p.tables e below (T33.setTop (mkF m 135 #[.val (.int p0), .val (.int ((p0 &&& (2147483647 : Int32)) % (6 : Int32))), .val (.ref w_LESS), .val (.int (0 : Int32)), .val (.ref y_LESS), .val (.int (0 : Int32)), .val (.int (F9 w_LESS w_EQUAL w_NOT_EQUAL))] [(.int (0 : Int32)), (.int (F9 w_LESS w_EQUAL w_NOT_EQUAL))])) _
          refine XS.icmpNo X33.here hx rfl (hb hby at_135) rfl (teq hc135).2 ?_
          show Steps p.tables e below (T33.setTop (mkF m 138 #[.val (.int p0), .val (.int ((p0 &&& (2147483647 : Int32)) % (6 : Int32))), .val (.ref w_LESS), .val (.int (0 : Int32)), .val (.ref y_LESS), .val (.int (0 : Int32)), .val (.int (F9 w_LESS w_EQUAL w_NOT_EQUAL))] [])) _
          refine XS.iload X33.here hx rfl (hb hby at_138) rfl ?_
          show Steps p.tables e below (T33.setTop (mkF m 140 #[.val (.int p0), .val (.int ((p0 &&& (2147483647 : Int32)) % (6 : Int32))), .val (.ref w_LESS), .val (.int (0 : Int32)), .val (.ref y_LESS), .val (.int (0 : Int32)), .val (.int (F9 w_LESS w_EQUAL w_NOT_EQUAL))] [(.int (F9 w_LESS w_EQUAL w_NOT_EQUAL))])) _
          refine XS.iload X33.here hx rfl (hb hby at_140) rfl ?_
          show Steps p.tables e below (T33.setTop (mkF m 142 #[.val (.int p0), .val (.int ((p0 &&& (2147483647 : Int32)) % (6 : Int32))), .val (.ref w_LESS), .val (.int (0 : Int32)), .val (.ref y_LESS), .val (.int (0 : Int32)), .val (.int (F9 w_LESS w_EQUAL w_NOT_EQUAL))] [(.int (0 : Int32)), (.int (F9 w_LESS w_EQUAL w_NOT_EQUAL))])) _
          refine XS.icmpNo X33.here hx rfl (hb hby at_142) rfl (teq hc135).2 ?_
          show Steps p.tables e below (T33.setTop (mkF m 145 #[.val (.int p0), .val (.int ((p0 &&& (2147483647 : Int32)) % (6 : Int32))), .val (.ref w_LESS), .val (.int (0 : Int32)), .val (.ref y_LESS), .val (.int (0 : Int32)), .val (.int (F9 w_LESS w_EQUAL w_NOT_EQUAL))] [])) _
          refine XS.iconst X33.here hx rfl (hb hby at_145) ?_
          show Steps p.tables e below (T33.setTop (mkF m 146 #[.val (.int p0), .val (.int ((p0 &&& (2147483647 : Int32)) % (6 : Int32))), .val (.ref w_LESS), .val (.int (0 : Int32)), .val (.ref y_LESS), .val (.int (0 : Int32)), .val (.int (F9 w_LESS w_EQUAL w_NOT_EQUAL))] [(.int (1 : Int32))])) _
          refine XS.goto X33.here hx rfl (pc0 := 146) (pc' := 150) rfl (hb hby at_146) (by decide) (by decide) ?_
          show Steps p.tables e below (T33.setTop (mkF m 150 #[.val (.int p0), .val (.int ((p0 &&& (2147483647 : Int32)) % (6 : Int32))), .val (.ref w_LESS), .val (.int (0 : Int32)), .val (.ref y_LESS), .val (.int (0 : Int32)), .val (.int (F9 w_LESS w_EQUAL w_NOT_EQUAL))] [(.int (1 : Int32))])) _
          exact retN X33 hx (t := .boolean) Bd.returns (by simp) (hb hby at_150) hr
        · show Q0 Z p0 w_COMPACT_STRINGS w_SIOOBE_FORMATTER w_EQUAL y_EQUAL r_EQUAL w_NOT_EQUAL y_NOT_EQUAL r_NOT_EQUAL w_LESS y_LESS r_LESS w_LESS_OR_EQUAL y_LESS_OR_EQUAL r_LESS_OR_EQUAL w_GREATER y_GREATER r_GREATER w_GREATER_OR_EQUAL y_GREATER_OR_EQUAL r_GREATER_OR_EQUAL h0 n0 _ T33.heap _
          rw [e33]
          exact ⟨rfl, N33⟩
      · have pre34 : ∀ t, Steps p.tables e below (s₁.setTop (mkF m 51 #[.val (.int p0), .val (.int ((p0 &&& (2147483647 : Int32)) % (6 : Int32))), .unset, .unset, .unset, .unset, .unset] [(.int (3 : Int32)), (.int ((p0 &&& (2147483647 : Int32)) % (6 : Int32)))])) t → Steps p.tables e below (s₁.setTop (entryFrame m #[(.int p0)] maxLocals)) t := fun t k => by
          refine pre25 t ?_
          show Steps p.tables e below (s₁.setTop (mkF m 37 #[.val (.int p0), .val (.int ((p0 &&& (2147483647 : Int32)) % (6 : Int32))), .unset, .unset, .unset, .unset, .unset] [(.int (2 : Int32)), (.int ((p0 &&& (2147483647 : Int32)) % (6 : Int32)))])) _
          refine XS.icmpYes X0.here hx rfl (pc0 := 37) (pc' := 49) rfl (hb hby at_37) rfl (feq hc37).2 (by decide) (by decide) ?_
          show Steps p.tables e below (s₁.setTop (mkF m 49 #[.val (.int p0), .val (.int ((p0 &&& (2147483647 : Int32)) % (6 : Int32))), .unset, .unset, .unset, .unset, .unset] [])) _
          refine XS.iloadN X0.here hx rfl (hb hby at_49) rfl ?_
          show Steps p.tables e below (s₁.setTop (mkF m 50 #[.val (.int p0), .val (.int ((p0 &&& (2147483647 : Int32)) % (6 : Int32))), .unset, .unset, .unset, .unset, .unset] [(.int ((p0 &&& (2147483647 : Int32)) % (6 : Int32)))])) _
          refine XS.iconst X0.here hx rfl (hb hby at_50) ?_
          exact k
        by_cases hc51 : ((p0 &&& (2147483647 : Int32)) % (6 : Int32)) = (3 : Int32)
        · obtain ⟨T35, X35, e35, st35⟩ := getS2 X0 hx hZ hown (host := "") (Or.inl (hw _ (List.mem_of_getElem? (i := 55) rfl))) Via.refl e0 S_LESS_OR_EQUAL (g := (mkF m 54 #[.val (.int p0), .val (.int ((p0 &&& (2147483647 : Int32)) % (6 : Int32))), .unset, .unset, .unset, .unset, .unset] [])) rfl (hb hby at_54)
          obtain ⟨cq36, kq36, q36a, q36b, q36c⟩ := isOf hZ e35 E_LESS_OR_EQUAL
          obtain ⟨_, _, ⟨T36, L36, k36, n36⟩, -, X36, ⟨Lc36, hQ36, l36, y36, z36⟩, st36⟩ := X35.virtualBack hx (y := (⟨"com/example/obligation/obligation/xpath/Operations$Comparator", "symbol", "()Ljava/lang/String;"⟩ : MethodName)) (z := (⟨"com/example/obligation/obligation/xpath/Operations$Comparator", "symbol", "()Ljava/lang/String;"⟩ : MethodName)) hown (mvT hZ (hw _ (List.mem_of_getElem? (i := 4) rfl))) (mvT hZ (hw _ (List.mem_of_getElem? (i := 5) rfl))) (notFace_of_selects (args := #[]) (mvT hZ (hw _ (List.mem_of_getElem? (i := 7) rfl)))) (mvT hZ (hw _ (List.mem_of_getElem? (i := 7) rfl))) (mvT hZ (hw _ (List.mem_of_getElem? (i := 6) rfl))) (by decide) (backOf (W := 0) (rm1 l Z a0 hw [] w_LESS_OR_EQUAL y_LESS_OR_EQUAL h0 n0 Z0 Fs_LESS_OR_EQUAL) hZ (hw _ (List.mem_of_getElem? (i := 8) rfl)) (hw _ (List.mem_of_getElem? (i := 2) rfl)) (by decide) (by decide)) q36a q36c (g := (mkF m 84 #[.val (.int p0), .val (.int ((p0 &&& (2147483647 : Int32)) % (6 : Int32))), .val (.ref w_LESS_OR_EQUAL), .val (.int (0 : Int32)), .unset, .unset, .unset] [(.ref w_LESS_OR_EQUAL)])) rfl (by rw [hml]; rfl) (Steps.refl _) (argsL := []) (rest := []) (lenOf pd_0 rfl) rfl (by show 2 * 0 + _ ≤ _; exact Nat.le_of_eq rfl) (hb hby at_84) (fun _ _ => ⟨rfl, e35, (by decide : 0 + 0 ≤ _), (by decide : 0 + 0 ≤ _)⟩)
          dsimp only [Pt.U, Pt.locs, Pt.cells, Pt.slots] at X36 l36 y36 z36 st36 hQ36
          subst l36 y36 z36
          obtain ⟨rfl, N36q, e36⟩ := hQ36
          have N36 := Fr.app N0 N36q
          have hp37 : ¬ (w_COMPACT_STRINGS = (0 : Int32)) := hcs
          obtain ⟨cq38, kq38, q38a, q38b, q38c⟩ := isOf hZ e36 Ey_LESS_OR_EQUAL
          obtain ⟨_, _, ⟨T38, L38, k38, n38⟩, -, X38, ⟨Lc38, hQ38, l38, y38, z38⟩, st38⟩ := X36.virtualBack hx (y := (⟨"java/lang/String", "length", "()I"⟩ : MethodName)) (z := (⟨"java/lang/String", "length", "()I"⟩ : MethodName)) hown (mvT hZ (hw _ (List.mem_of_getElem? (i := 11) rfl))) (mvT hZ (hw _ (List.mem_of_getElem? (i := 12) rfl))) (notFace_of_selects (args := #[]) (mvT hZ (hw _ (List.mem_of_getElem? (i := 14) rfl)))) (mvT hZ (hw _ (List.mem_of_getElem? (i := 14) rfl))) (mvT hZ (hw _ (List.mem_of_getElem? (i := 13) rfl))) (by decide) (backOf (W := 0) (rm2 l Z a0 hw [] y_LESS_OR_EQUAL r_LESS_OR_EQUAL (2 : Int32) (60 : Int32) w_COMPACT_STRINGS h0 n0 Z0 Fv_LESS_OR_EQUAL B_LESS_OR_EQUAL S_COMPACT_STRINGS hp37 Fc_LESS_OR_EQUAL Ey_LESS_OR_EQUAL) hZ (hw _ (List.mem_of_getElem? (i := 16) rfl)) (hw _ (List.mem_of_getElem? (i := 15) rfl)) (by decide) (by decide)) q38a q38c (g := (mkF m 91 #[.val (.int p0), .val (.int ((p0 &&& (2147483647 : Int32)) % (6 : Int32))), .val (.ref w_LESS_OR_EQUAL), .val (.int (0 : Int32)), .val (.ref y_LESS_OR_EQUAL), .unset, .unset] [(.ref y_LESS_OR_EQUAL)])) rfl (by rw [hml]; rfl) (Steps.refl _) (argsL := []) (rest := []) (lenOf pd_2 rfl) rfl (by show 2 * 0 + _ ≤ _; exact Nat.le_of_eq rfl) (hb hby at_91) (fun _ _ => ⟨rfl, e36, (by decide : 0 + 0 ≤ _), (by decide : 0 + 0 ≤ _)⟩)
          dsimp only [Pt.U, Pt.locs, Pt.cells, Pt.slots] at X38 l38 y38 z38 st38 hQ38
          subst l38 y38 z38
          obtain ⟨rfl, N38q, e38⟩ := hQ38
          have N38 := Fr.app N36 N38q
          have hc94 : (0 : Int32) < ((2 : Int32) >>> ((0 : Int32) &&& 31)) := by decide
          have hp39 : ¬ (w_COMPACT_STRINGS = (0 : Int32)) := hcs
          have hp40 : (0 : Int32) < (2 : Int32) := by decide
          obtain ⟨cq41, kq41, q41a, q41b, q41c⟩ := isOf hZ e38 Ey_LESS_OR_EQUAL
          obtain ⟨_, _, ⟨T41, L41, k41, n41⟩, -, X41, ⟨Lc41, hQ41, l41, y41, z41⟩, st41⟩ := X38.virtualBack hx (y := (⟨"java/lang/String", "charAt", "(I)C"⟩ : MethodName)) (z := (⟨"java/lang/String", "charAt", "(I)C"⟩ : MethodName)) hown (mvT hZ (hw _ (List.mem_of_getElem? (i := 27) rfl))) (mvT hZ (hw _ (List.mem_of_getElem? (i := 28) rfl))) (notFace_of_selects (args := #[]) (mvT hZ (hw _ (List.mem_of_getElem? (i := 30) rfl)))) (mvT hZ (hw _ (List.mem_of_getElem? (i := 30) rfl))) (mvT hZ (hw _ (List.mem_of_getElem? (i := 29) rfl))) (by decide) (backOf (W := 0) (rm4 l Z a0 hw [] y_LESS_OR_EQUAL r_LESS_OR_EQUAL (2 : Int32) (60 : Int32) w_COMPACT_STRINGS w_SIOOBE_FORMATTER h0 n0 Z0 Fv_LESS_OR_EQUAL B_LESS_OR_EQUAL S_COMPACT_STRINGS hp39 Fc_LESS_OR_EQUAL Ey_LESS_OR_EQUAL hr_w_SIOOBE_FORMATTER S_SIOOBE_FORMATTER hp40) hZ (hw _ (List.mem_of_getElem? (i := 31) rfl)) (hw _ (List.mem_of_getElem? (i := 15) rfl)) (by decide) (by decide)) q41a q41c (g := (mkF m 100 #[.val (.int p0), .val (.int ((p0 &&& (2147483647 : Int32)) % (6 : Int32))), .val (.ref w_LESS_OR_EQUAL), .val (.int (0 : Int32)), .val (.ref y_LESS_OR_EQUAL), .unset, .unset] [(.int (0 : Int32)), (.ref y_LESS_OR_EQUAL)])) rfl (by rw [hml]; rfl) (Steps.refl _) (argsL := [(.int (0 : Int32))]) (rest := []) (lenOf pd_7 rfl) rfl (by show 2 * 0 + _ ≤ _; exact Nat.le_of_eq rfl) (hb hby at_100) (fun _ _ => ⟨rfl, e38, (by decide : 0 + 0 ≤ _), (by decide : 0 + 0 ≤ _)⟩)
          dsimp only [Pt.U, Pt.locs, Pt.cells, Pt.slots] at X41 l41 y41 z41 st41 hQ41
          subst l41 y41 z41
          obtain ⟨rfl, N41q, e41⟩ := hQ41
          have N41 := Fr.app N38 N41q
          have hc105 : (nar .char (nar .char (((60 : Int32) &&& (255 : Int32)).toUInt32.toUInt16.toUInt32.toInt32))) = (60 : Int32) := by decide
          obtain ⟨cq42, kq42, q42a, q42b, q42c⟩ := isOf hZ e41 E_LESS_OR_EQUAL
          obtain ⟨_, _, ⟨T42, L42, k42, n42⟩, -, X42, ⟨Lc42, hQ42, l42, y42, z42⟩, st42⟩ := X41.virtualBack hx (y := (⟨"com/example/obligation/obligation/xpath/Operations$Comparator", "isEquality", "()Z"⟩ : MethodName)) (z := (⟨"com/example/obligation/obligation/xpath/Operations$Comparator", "isEquality", "()Z"⟩ : MethodName)) hown (mvT hZ (hw _ (List.mem_of_getElem? (i := 49) rfl))) (mvT hZ (hw _ (List.mem_of_getElem? (i := 50) rfl))) (notFace_of_selects (args := #[]) (mvT hZ (hw _ (List.mem_of_getElem? (i := 52) rfl)))) (mvT hZ (hw _ (List.mem_of_getElem? (i := 52) rfl))) (mvT hZ (hw _ (List.mem_of_getElem? (i := 51) rfl))) (by decide) (backOf (W := 0) (rm9 l Z a0 hw [] w_LESS_OR_EQUAL w_EQUAL w_NOT_EQUAL h0 n0 Z0 S_EQUAL S_NOT_EQUAL) hZ (hw _ (List.mem_of_getElem? (i := 53) rfl)) (hw _ (List.mem_of_getElem? (i := 2) rfl)) (by decide) (by decide)) q42a q42c (g := (mkF m 127 #[.val (.int p0), .val (.int ((p0 &&& (2147483647 : Int32)) % (6 : Int32))), .val (.ref w_LESS_OR_EQUAL), .val (.int (0 : Int32)), .val (.ref y_LESS_OR_EQUAL), .val (.int (0 : Int32)), .unset] [(.ref w_LESS_OR_EQUAL)])) rfl (by rw [hml]; rfl) (Steps.refl _) (argsL := []) (rest := []) (lenOf pd_3 rfl) rfl (by show 2 * 0 + _ ≤ _; exact Nat.le_of_eq rfl) (hb hby at_127) (fun _ _ => ⟨rfl, e41, (by decide : 0 + 0 ≤ _), (by decide : 0 + 0 ≤ _)⟩)
          dsimp only [Pt.U, Pt.locs, Pt.cells, Pt.slots] at X42 l42 y42 z42 st42 hQ42
          subst l42 y42 z42
          obtain ⟨rfl, N42q, e42⟩ := hQ42
          have N42 := Fr.app N41 N42q
          have hc135 : (F9 w_LESS_OR_EQUAL w_EQUAL w_NOT_EQUAL) = (0 : Int32) := by rw [F9, if_neg ne_LESS_OR_EQUAL_EQUAL, if_neg ne_LESS_OR_EQUAL_NOT_EQUAL]
          obtain ⟨fs, hr, hrun, hended, hW, hsame⟩ := X42.leave (v := some (.int (1 : Int32))) (fun h => by rw [Bd.returns] at h; cases h) (BodyLoose.notSynchronized Bd)
          refine ⟨_, _, pre34 _ ?_, hrun, hended, _, _, rfl, ?_, ⟨_, rfl⟩, hW, hsame.mono (by decide) (by decide)⟩
          · show Steps p.tables e below (s₁.setTop (mkF m 51 #[.val (.int p0), .val (.int ((p0 &&& (2147483647 : Int32)) % (6 : Int32))), .unset, .unset, .unset, .unset, .unset] [(.int (3 : Int32)), (.int ((p0 &&& (2147483647 : Int32)) % (6 : Int32)))])) _
            refine XS.icmpNo X0.here hx rfl (hb hby at_51) rfl (teq hc51).2 ?_
            show Steps p.tables e below (s₁.setTop (mkF m 54 #[.val (.int p0), .val (.int ((p0 &&& (2147483647 : Int32)) % (6 : Int32))), .unset, .unset, .unset, .unset, .unset] [])) _
            refine st35 _ ?_
            show Steps p.tables e below (T35.setTop (mkF m 57 #[.val (.int p0), .val (.int ((p0 &&& (2147483647 : Int32)) % (6 : Int32))), .unset, .unset, .unset, .unset, .unset] [(.ref w_LESS_OR_EQUAL)])) _
            refine XS.astoreN X35.here hx rfl (hb hby at_57) rfl rfl (l' := #[.val (.int p0), .val (.int ((p0 &&& (2147483647 : Int32)) % (6 : Int32))), .val (.ref w_LESS_OR_EQUAL), .unset, .unset, .unset, .unset]) rfl ?_
            show Steps p.tables e below (T35.setTop (mkF m 58 #[.val (.int p0), .val (.int ((p0 &&& (2147483647 : Int32)) % (6 : Int32))), .val (.ref w_LESS_OR_EQUAL), .unset, .unset, .unset, .unset] [])) _
            refine XS.iconst X35.here hx rfl (hb hby at_58) ?_
            show Steps p.tables e below (T35.setTop (mkF m 59 #[.val (.int p0), .val (.int ((p0 &&& (2147483647 : Int32)) % (6 : Int32))), .val (.ref w_LESS_OR_EQUAL), .unset, .unset, .unset, .unset] [(.int (0 : Int32))])) _
            refine XS.istoreN X35.here hx rfl (hb hby at_59) rfl (l' := #[.val (.int p0), .val (.int ((p0 &&& (2147483647 : Int32)) % (6 : Int32))), .val (.ref w_LESS_OR_EQUAL), .val (.int (0 : Int32)), .unset, .unset, .unset]) rfl ?_
            show Steps p.tables e below (T35.setTop (mkF m 60 #[.val (.int p0), .val (.int ((p0 &&& (2147483647 : Int32)) % (6 : Int32))), .val (.ref w_LESS_OR_EQUAL), .val (.int (0 : Int32)), .unset, .unset, .unset] [])) _
            refine XS.goto X35.here hx rfl (pc0 := 60) (pc' := 83) rfl (hb hby at_60) (by decide) (by decide) ?_
            show Steps p.tables e below (T35.setTop (mkF m 83 #[.val (.int p0), .val (.int ((p0 &&& (2147483647 : Int32)) % (6 : Int32))), .val (.ref w_LESS_OR_EQUAL), .val (.int (0 : Int32)), .unset, .unset, .unset] [])) _
            refine XS.aloadN X35.here hx rfl (hb hby at_83) rfl rfl ?_
            show Steps p.tables e below (T35.setTop (mkF m 84 #[.val (.int p0), .val (.int ((p0 &&& (2147483647 : Int32)) % (6 : Int32))), .val (.ref w_LESS_OR_EQUAL), .val (.int (0 : Int32)), .unset, .unset, .unset] [(.ref w_LESS_OR_EQUAL)])) _
            refine st36.trans ?_
            show Steps p.tables e below (T36.setTop (mkF m 87 #[.val (.int p0), .val (.int ((p0 &&& (2147483647 : Int32)) % (6 : Int32))), .val (.ref w_LESS_OR_EQUAL), .val (.int (0 : Int32)), .unset, .unset, .unset] [(.ref y_LESS_OR_EQUAL)])) _
            refine XS.astore X36.here hx rfl (hb hby at_87) rfl rfl (l' := #[.val (.int p0), .val (.int ((p0 &&& (2147483647 : Int32)) % (6 : Int32))), .val (.ref w_LESS_OR_EQUAL), .val (.int (0 : Int32)), .val (.ref y_LESS_OR_EQUAL), .unset, .unset]) rfl ?_
            show Steps p.tables e below (T36.setTop (mkF m 89 #[.val (.int p0), .val (.int ((p0 &&& (2147483647 : Int32)) % (6 : Int32))), .val (.ref w_LESS_OR_EQUAL), .val (.int (0 : Int32)), .val (.ref y_LESS_OR_EQUAL), .unset, .unset] [])) _
            refine XS.aload X36.here hx rfl (hb hby at_89) rfl rfl ?_
            show Steps p.tables e below (T36.setTop (mkF m 91 #[.val (.int p0), .val (.int ((p0 &&& (2147483647 : Int32)) % (6 : Int32))), .val (.ref w_LESS_OR_EQUAL), .val (.int (0 : Int32)), .val (.ref y_LESS_OR_EQUAL), .unset, .unset] [(.ref y_LESS_OR_EQUAL)])) _
            refine st38.trans ?_
            show Steps p.tables e below (T38.setTop (mkF m 94 #[.val (.int p0), .val (.int ((p0 &&& (2147483647 : Int32)) % (6 : Int32))), .val (.ref w_LESS_OR_EQUAL), .val (.int (0 : Int32)), .val (.ref y_LESS_OR_EQUAL), .unset, .unset] [(.int ((2 : Int32) >>> ((0 : Int32) &&& 31)))])) _
            refine XS.ifNo X38.here hx rfl (hb hby at_94) rfl ((if0 _ _).trans (tlt hc94).2.2.2) ?_
            show Steps p.tables e below (T38.setTop (mkF m 97 #[.val (.int p0), .val (.int ((p0 &&& (2147483647 : Int32)) % (6 : Int32))), .val (.ref w_LESS_OR_EQUAL), .val (.int (0 : Int32)), .val (.ref y_LESS_OR_EQUAL), .unset, .unset] [])) _
            refine XS.aload X38.here hx rfl (hb hby at_97) rfl rfl ?_
            show Steps p.tables e below (T38.setTop (mkF m 99 #[.val (.int p0), .val (.int ((p0 &&& (2147483647 : Int32)) % (6 : Int32))), .val (.ref w_LESS_OR_EQUAL), .val (.int (0 : Int32)), .val (.ref y_LESS_OR_EQUAL), .unset, .unset] [(.ref y_LESS_OR_EQUAL)])) _
            refine XS.iconst X38.here hx rfl (hb hby at_99) ?_
            show Steps p.tables e below (T38.setTop (mkF m 100 #[.val (.int p0), .val (.int ((p0 &&& (2147483647 : Int32)) % (6 : Int32))), .val (.ref w_LESS_OR_EQUAL), .val (.int (0 : Int32)), .val (.ref y_LESS_OR_EQUAL), .unset, .unset] [(.int (0 : Int32)), (.ref y_LESS_OR_EQUAL)])) _
            refine st41.trans ?_
            show Steps p.tables e below (T41.setTop (mkF m 103 #[.val (.int p0), .val (.int ((p0 &&& (2147483647 : Int32)) % (6 : Int32))), .val (.ref w_LESS_OR_EQUAL), .val (.int (0 : Int32)), .val (.ref y_LESS_OR_EQUAL), .unset, .unset] [(.int (nar .char (nar .char (((60 : Int32) &&& (255 : Int32)).toUInt32.toUInt16.toUInt32.toInt32))))])) _
            refine XS.bipush X41.here hx rfl (hb hby at_103) ?_
            show Steps p.tables e below (T41.setTop (mkF m 105 #[.val (.int p0), .val (.int ((p0 &&& (2147483647 : Int32)) % (6 : Int32))), .val (.ref w_LESS_OR_EQUAL), .val (.int (0 : Int32)), .val (.ref y_LESS_OR_EQUAL), .unset, .unset] [(.int (60 : Int32)), (.int (nar .char (nar .char (((60 : Int32) &&& (255 : Int32)).toUInt32.toUInt16.toUInt32.toInt32))))])) _
            refine XS.icmpYes X41.here hx rfl (pc0 := 105) (pc' := 123) rfl (hb hby at_105) rfl (teq hc105).1 (by decide) (by decide) ?_
            show Steps p.tables e below (T41.setTop (mkF m 123 #[.val (.int p0), .val (.int ((p0 &&& (2147483647 : Int32)) % (6 : Int32))), .val (.ref w_LESS_OR_EQUAL), .val (.int (0 : Int32)), .val (.ref y_LESS_OR_EQUAL), .unset, .unset] [])) _
            refine XS.iconst X41.here hx rfl (hb hby at_123) ?_
            show Steps p.tables e below (T41.setTop (mkF m 124 #[.val (.int p0), .val (.int ((p0 &&& (2147483647 : Int32)) % (6 : Int32))), .val (.ref w_LESS_OR_EQUAL), .val (.int (0 : Int32)), .val (.ref y_LESS_OR_EQUAL), .unset, .unset] [(.int (0 : Int32))])) _
            refine XS.istore X41.here hx rfl (hb hby at_124) rfl (l' := #[.val (.int p0), .val (.int ((p0 &&& (2147483647 : Int32)) % (6 : Int32))), .val (.ref w_LESS_OR_EQUAL), .val (.int (0 : Int32)), .val (.ref y_LESS_OR_EQUAL), .val (.int (0 : Int32)), .unset]) rfl ?_
            show Steps p.tables e below (T41.setTop (mkF m 126 #[.val (.int p0), .val (.int ((p0 &&& (2147483647 : Int32)) % (6 : Int32))), .val (.ref w_LESS_OR_EQUAL), .val (.int (0 : Int32)), .val (.ref y_LESS_OR_EQUAL), .val (.int (0 : Int32)), .unset] [])) _
            refine XS.aloadN X41.here hx rfl (hb hby at_126) rfl rfl ?_
            show Steps p.tables e below (T41.setTop (mkF m 127 #[.val (.int p0), .val (.int ((p0 &&& (2147483647 : Int32)) % (6 : Int32))), .val (.ref w_LESS_OR_EQUAL), .val (.int (0 : Int32)), .val (.ref y_LESS_OR_EQUAL), .val (.int (0 : Int32)), .unset] [(.ref w_LESS_OR_EQUAL)])) _
            refine st42.trans ?_
            show Steps p.tables e below (T42.setTop (mkF m 130 #[.val (.int p0), .val (.int ((p0 &&& (2147483647 : Int32)) % (6 : Int32))), .val (.ref w_LESS_OR_EQUAL), .val (.int (0 : Int32)), .val (.ref y_LESS_OR_EQUAL), .val (.int (0 : Int32)), .unset] [(.int (F9 w_LESS_OR_EQUAL w_EQUAL w_NOT_EQUAL))])) _
            refine XS.istore X42.here hx rfl (hb hby at_130) rfl (l' := #[.val (.int p0), .val (.int ((p0 &&& (2147483647 : Int32)) % (6 : Int32))), .val (.ref w_LESS_OR_EQUAL), .val (.int (0 : Int32)), .val (.ref y_LESS_OR_EQUAL), .val (.int (0 : Int32)), .val (.int (F9 w_LESS_OR_EQUAL w_EQUAL w_NOT_EQUAL))]) rfl ?_
            show Steps p.tables e below (T42.setTop (mkF m 132 #[.val (.int p0), .val (.int ((p0 &&& (2147483647 : Int32)) % (6 : Int32))), .val (.ref w_LESS_OR_EQUAL), .val (.int (0 : Int32)), .val (.ref y_LESS_OR_EQUAL), .val (.int (0 : Int32)), .val (.int (F9 w_LESS_OR_EQUAL w_EQUAL w_NOT_EQUAL))] [])) _
            refine XS.iload X42.here hx rfl (hb hby at_132) rfl ?_
            show Steps p.tables e below (T42.setTop (mkF m 134 #[.val (.int p0), .val (.int ((p0 &&& (2147483647 : Int32)) % (6 : Int32))), .val (.ref w_LESS_OR_EQUAL), .val (.int (0 : Int32)), .val (.ref y_LESS_OR_EQUAL), .val (.int (0 : Int32)), .val (.int (F9 w_LESS_OR_EQUAL w_EQUAL w_NOT_EQUAL))] [(.int (F9 w_LESS_OR_EQUAL w_EQUAL w_NOT_EQUAL))])) _
            refine XS.iloadN X42.here hx rfl (hb hby at_134) rfl ?_
            show Steps p.tables e below (T42.setTop (mkF m 135 #[.val (.int p0), .val (.int ((p0 &&& (2147483647 : Int32)) % (6 : Int32))), .val (.ref w_LESS_OR_EQUAL), .val (.int (0 : Int32)), .val (.ref y_LESS_OR_EQUAL), .val (.int (0 : Int32)), .val (.int (F9 w_LESS_OR_EQUAL w_EQUAL w_NOT_EQUAL))] [(.int (0 : Int32)), (.int (F9 w_LESS_OR_EQUAL w_EQUAL w_NOT_EQUAL))])) _
            refine XS.icmpNo X42.here hx rfl (hb hby at_135) rfl (teq hc135).2 ?_
            show Steps p.tables e below (T42.setTop (mkF m 138 #[.val (.int p0), .val (.int ((p0 &&& (2147483647 : Int32)) % (6 : Int32))), .val (.ref w_LESS_OR_EQUAL), .val (.int (0 : Int32)), .val (.ref y_LESS_OR_EQUAL), .val (.int (0 : Int32)), .val (.int (F9 w_LESS_OR_EQUAL w_EQUAL w_NOT_EQUAL))] [])) _
            refine XS.iload X42.here hx rfl (hb hby at_138) rfl ?_
            show Steps p.tables e below (T42.setTop (mkF m 140 #[.val (.int p0), .val (.int ((p0 &&& (2147483647 : Int32)) % (6 : Int32))), .val (.ref w_LESS_OR_EQUAL), .val (.int (0 : Int32)), .val (.ref y_LESS_OR_EQUAL), .val (.int (0 : Int32)), .val (.int (F9 w_LESS_OR_EQUAL w_EQUAL w_NOT_EQUAL))] [(.int (F9 w_LESS_OR_EQUAL w_EQUAL w_NOT_EQUAL))])) _
            refine XS.iload X42.here hx rfl (hb hby at_140) rfl ?_
            show Steps p.tables e below (T42.setTop (mkF m 142 #[.val (.int p0), .val (.int ((p0 &&& (2147483647 : Int32)) % (6 : Int32))), .val (.ref w_LESS_OR_EQUAL), .val (.int (0 : Int32)), .val (.ref y_LESS_OR_EQUAL), .val (.int (0 : Int32)), .val (.int (F9 w_LESS_OR_EQUAL w_EQUAL w_NOT_EQUAL))] [(.int (0 : Int32)), (.int (F9 w_LESS_OR_EQUAL w_EQUAL w_NOT_EQUAL))])) _
            refine XS.icmpNo X42.here hx rfl (hb hby at_142) rfl (teq hc135).2 ?_
            show Steps p.tables e below (T42.setTop (mkF m 145 #[.val (.int p0), .val (.int ((p0 &&& (2147483647 : Int32)) % (6 : Int32))), .val (.ref w_LESS_OR_EQUAL), .val (.int (0 : Int32)), .val (.ref y_LESS_OR_EQUAL), .val (.int (0 : Int32)), .val (.int (F9 w_LESS_OR_EQUAL w_EQUAL w_NOT_EQUAL))] [])) _
            refine XS.iconst X42.here hx rfl (hb hby at_145) ?_
            show Steps p.tables e below (T42.setTop (mkF m 146 #[.val (.int p0), .val (.int ((p0 &&& (2147483647 : Int32)) % (6 : Int32))), .val (.ref w_LESS_OR_EQUAL), .val (.int (0 : Int32)), .val (.ref y_LESS_OR_EQUAL), .val (.int (0 : Int32)), .val (.int (F9 w_LESS_OR_EQUAL w_EQUAL w_NOT_EQUAL))] [(.int (1 : Int32))])) _
            refine XS.goto X42.here hx rfl (pc0 := 146) (pc' := 150) rfl (hb hby at_146) (by decide) (by decide) ?_
            show Steps p.tables e below (T42.setTop (mkF m 150 #[.val (.int p0), .val (.int ((p0 &&& (2147483647 : Int32)) % (6 : Int32))), .val (.ref w_LESS_OR_EQUAL), .val (.int (0 : Int32)), .val (.ref y_LESS_OR_EQUAL), .val (.int (0 : Int32)), .val (.int (F9 w_LESS_OR_EQUAL w_EQUAL w_NOT_EQUAL))] [(.int (1 : Int32))])) _
            exact retN X42 hx (t := .boolean) Bd.returns (by simp) (hb hby at_150) hr
          · show Q0 Z p0 w_COMPACT_STRINGS w_SIOOBE_FORMATTER w_EQUAL y_EQUAL r_EQUAL w_NOT_EQUAL y_NOT_EQUAL r_NOT_EQUAL w_LESS y_LESS r_LESS w_LESS_OR_EQUAL y_LESS_OR_EQUAL r_LESS_OR_EQUAL w_GREATER y_GREATER r_GREATER w_GREATER_OR_EQUAL y_GREATER_OR_EQUAL r_GREATER_OR_EQUAL h0 n0 _ T42.heap _
            rw [e42]
            exact ⟨rfl, N42⟩
        · have pre43 : ∀ t, Steps p.tables e below (s₁.setTop (mkF m 65 #[.val (.int p0), .val (.int ((p0 &&& (2147483647 : Int32)) % (6 : Int32))), .unset, .unset, .unset, .unset, .unset] [(.int (4 : Int32)), (.int ((p0 &&& (2147483647 : Int32)) % (6 : Int32)))])) t → Steps p.tables e below (s₁.setTop (entryFrame m #[(.int p0)] maxLocals)) t := fun t k => by
            refine pre34 t ?_
            show Steps p.tables e below (s₁.setTop (mkF m 51 #[.val (.int p0), .val (.int ((p0 &&& (2147483647 : Int32)) % (6 : Int32))), .unset, .unset, .unset, .unset, .unset] [(.int (3 : Int32)), (.int ((p0 &&& (2147483647 : Int32)) % (6 : Int32)))])) _
            refine XS.icmpYes X0.here hx rfl (pc0 := 51) (pc' := 63) rfl (hb hby at_51) rfl (feq hc51).2 (by decide) (by decide) ?_
            show Steps p.tables e below (s₁.setTop (mkF m 63 #[.val (.int p0), .val (.int ((p0 &&& (2147483647 : Int32)) % (6 : Int32))), .unset, .unset, .unset, .unset, .unset] [])) _
            refine XS.iloadN X0.here hx rfl (hb hby at_63) rfl ?_
            show Steps p.tables e below (s₁.setTop (mkF m 64 #[.val (.int p0), .val (.int ((p0 &&& (2147483647 : Int32)) % (6 : Int32))), .unset, .unset, .unset, .unset, .unset] [(.int ((p0 &&& (2147483647 : Int32)) % (6 : Int32)))])) _
            refine XS.iconst X0.here hx rfl (hb hby at_64) ?_
            exact k
          by_cases hc65 : ((p0 &&& (2147483647 : Int32)) % (6 : Int32)) = (4 : Int32)
          · obtain ⟨T44, X44, e44, st44⟩ := getS2 X0 hx hZ hown (host := "") (Or.inl (hw _ (List.mem_of_getElem? (i := 64) rfl))) Via.refl e0 S_GREATER (g := (mkF m 68 #[.val (.int p0), .val (.int ((p0 &&& (2147483647 : Int32)) % (6 : Int32))), .unset, .unset, .unset, .unset, .unset] [])) rfl (hb hby at_68)
            obtain ⟨cq45, kq45, q45a, q45b, q45c⟩ := isOf hZ e44 E_GREATER
            obtain ⟨_, _, ⟨T45, L45, k45, n45⟩, -, X45, ⟨Lc45, hQ45, l45, y45, z45⟩, st45⟩ := X44.virtualBack hx (y := (⟨"com/example/obligation/obligation/xpath/Operations$Comparator", "symbol", "()Ljava/lang/String;"⟩ : MethodName)) (z := (⟨"com/example/obligation/obligation/xpath/Operations$Comparator", "symbol", "()Ljava/lang/String;"⟩ : MethodName)) hown (mvT hZ (hw _ (List.mem_of_getElem? (i := 4) rfl))) (mvT hZ (hw _ (List.mem_of_getElem? (i := 5) rfl))) (notFace_of_selects (args := #[]) (mvT hZ (hw _ (List.mem_of_getElem? (i := 7) rfl)))) (mvT hZ (hw _ (List.mem_of_getElem? (i := 7) rfl))) (mvT hZ (hw _ (List.mem_of_getElem? (i := 6) rfl))) (by decide) (backOf (W := 0) (rm1 l Z a0 hw [] w_GREATER y_GREATER h0 n0 Z0 Fs_GREATER) hZ (hw _ (List.mem_of_getElem? (i := 8) rfl)) (hw _ (List.mem_of_getElem? (i := 2) rfl)) (by decide) (by decide)) q45a q45c (g := (mkF m 84 #[.val (.int p0), .val (.int ((p0 &&& (2147483647 : Int32)) % (6 : Int32))), .val (.ref w_GREATER), .val (.int (0 : Int32)), .unset, .unset, .unset] [(.ref w_GREATER)])) rfl (by rw [hml]; rfl) (Steps.refl _) (argsL := []) (rest := []) (lenOf pd_0 rfl) rfl (by show 2 * 0 + _ ≤ _; exact Nat.le_of_eq rfl) (hb hby at_84) (fun _ _ => ⟨rfl, e44, (by decide : 0 + 0 ≤ _), (by decide : 0 + 0 ≤ _)⟩)
            dsimp only [Pt.U, Pt.locs, Pt.cells, Pt.slots] at X45 l45 y45 z45 st45 hQ45
            subst l45 y45 z45
            obtain ⟨rfl, N45q, e45⟩ := hQ45
            have N45 := Fr.app N0 N45q
            have hp46 : ¬ (w_COMPACT_STRINGS = (0 : Int32)) := hcs
            obtain ⟨cq47, kq47, q47a, q47b, q47c⟩ := isOf hZ e45 Ey_GREATER
            obtain ⟨_, _, ⟨T47, L47, k47, n47⟩, -, X47, ⟨Lc47, hQ47, l47, y47, z47⟩, st47⟩ := X45.virtualBack hx (y := (⟨"java/lang/String", "length", "()I"⟩ : MethodName)) (z := (⟨"java/lang/String", "length", "()I"⟩ : MethodName)) hown (mvT hZ (hw _ (List.mem_of_getElem? (i := 11) rfl))) (mvT hZ (hw _ (List.mem_of_getElem? (i := 12) rfl))) (notFace_of_selects (args := #[]) (mvT hZ (hw _ (List.mem_of_getElem? (i := 14) rfl)))) (mvT hZ (hw _ (List.mem_of_getElem? (i := 14) rfl))) (mvT hZ (hw _ (List.mem_of_getElem? (i := 13) rfl))) (by decide) (backOf (W := 0) (rm2 l Z a0 hw [] y_GREATER r_GREATER (1 : Int32) (62 : Int32) w_COMPACT_STRINGS h0 n0 Z0 Fv_GREATER B_GREATER S_COMPACT_STRINGS hp46 Fc_GREATER Ey_GREATER) hZ (hw _ (List.mem_of_getElem? (i := 16) rfl)) (hw _ (List.mem_of_getElem? (i := 15) rfl)) (by decide) (by decide)) q47a q47c (g := (mkF m 91 #[.val (.int p0), .val (.int ((p0 &&& (2147483647 : Int32)) % (6 : Int32))), .val (.ref w_GREATER), .val (.int (0 : Int32)), .val (.ref y_GREATER), .unset, .unset] [(.ref y_GREATER)])) rfl (by rw [hml]; rfl) (Steps.refl _) (argsL := []) (rest := []) (lenOf pd_2 rfl) rfl (by show 2 * 0 + _ ≤ _; exact Nat.le_of_eq rfl) (hb hby at_91) (fun _ _ => ⟨rfl, e45, (by decide : 0 + 0 ≤ _), (by decide : 0 + 0 ≤ _)⟩)
            dsimp only [Pt.U, Pt.locs, Pt.cells, Pt.slots] at X47 l47 y47 z47 st47 hQ47
            subst l47 y47 z47
            obtain ⟨rfl, N47q, e47⟩ := hQ47
            have N47 := Fr.app N45 N47q
            have hc94 : (0 : Int32) < ((1 : Int32) >>> ((0 : Int32) &&& 31)) := by decide
            have hp48 : ¬ (w_COMPACT_STRINGS = (0 : Int32)) := hcs
            have hp49 : (0 : Int32) < (1 : Int32) := by decide
            obtain ⟨cq50, kq50, q50a, q50b, q50c⟩ := isOf hZ e47 Ey_GREATER
            obtain ⟨_, _, ⟨T50, L50, k50, n50⟩, -, X50, ⟨Lc50, hQ50, l50, y50, z50⟩, st50⟩ := X47.virtualBack hx (y := (⟨"java/lang/String", "charAt", "(I)C"⟩ : MethodName)) (z := (⟨"java/lang/String", "charAt", "(I)C"⟩ : MethodName)) hown (mvT hZ (hw _ (List.mem_of_getElem? (i := 27) rfl))) (mvT hZ (hw _ (List.mem_of_getElem? (i := 28) rfl))) (notFace_of_selects (args := #[]) (mvT hZ (hw _ (List.mem_of_getElem? (i := 30) rfl)))) (mvT hZ (hw _ (List.mem_of_getElem? (i := 30) rfl))) (mvT hZ (hw _ (List.mem_of_getElem? (i := 29) rfl))) (by decide) (backOf (W := 0) (rm4 l Z a0 hw [] y_GREATER r_GREATER (1 : Int32) (62 : Int32) w_COMPACT_STRINGS w_SIOOBE_FORMATTER h0 n0 Z0 Fv_GREATER B_GREATER S_COMPACT_STRINGS hp48 Fc_GREATER Ey_GREATER hr_w_SIOOBE_FORMATTER S_SIOOBE_FORMATTER hp49) hZ (hw _ (List.mem_of_getElem? (i := 31) rfl)) (hw _ (List.mem_of_getElem? (i := 15) rfl)) (by decide) (by decide)) q50a q50c (g := (mkF m 100 #[.val (.int p0), .val (.int ((p0 &&& (2147483647 : Int32)) % (6 : Int32))), .val (.ref w_GREATER), .val (.int (0 : Int32)), .val (.ref y_GREATER), .unset, .unset] [(.int (0 : Int32)), (.ref y_GREATER)])) rfl (by rw [hml]; rfl) (Steps.refl _) (argsL := [(.int (0 : Int32))]) (rest := []) (lenOf pd_7 rfl) rfl (by show 2 * 0 + _ ≤ _; exact Nat.le_of_eq rfl) (hb hby at_100) (fun _ _ => ⟨rfl, e47, (by decide : 0 + 0 ≤ _), (by decide : 0 + 0 ≤ _)⟩)
            dsimp only [Pt.U, Pt.locs, Pt.cells, Pt.slots] at X50 l50 y50 z50 st50 hQ50
            subst l50 y50 z50
            obtain ⟨rfl, N50q, e50⟩ := hQ50
            have N50 := Fr.app N47 N50q
            have hc105 : ¬ ((nar .char (nar .char (((62 : Int32) &&& (255 : Int32)).toUInt32.toUInt16.toUInt32.toInt32))) = (60 : Int32)) := by decide
            have hp51 : ¬ (w_COMPACT_STRINGS = (0 : Int32)) := hcs
            have hp52 : (0 : Int32) < (1 : Int32) := by decide
            obtain ⟨cq53, kq53, q53a, q53b, q53c⟩ := isOf hZ e50 Ey_GREATER
            obtain ⟨_, _, ⟨T53, L53, k53, n53⟩, -, X53, ⟨Lc53, hQ53, l53, y53, z53⟩, st53⟩ := X50.virtualBack hx (y := (⟨"java/lang/String", "charAt", "(I)C"⟩ : MethodName)) (z := (⟨"java/lang/String", "charAt", "(I)C"⟩ : MethodName)) hown (mvT hZ (hw _ (List.mem_of_getElem? (i := 27) rfl))) (mvT hZ (hw _ (List.mem_of_getElem? (i := 28) rfl))) (notFace_of_selects (args := #[]) (mvT hZ (hw _ (List.mem_of_getElem? (i := 30) rfl)))) (mvT hZ (hw _ (List.mem_of_getElem? (i := 30) rfl))) (mvT hZ (hw _ (List.mem_of_getElem? (i := 29) rfl))) (by decide) (backOf (W := 0) (rm4 l Z a0 hw [] y_GREATER r_GREATER (1 : Int32) (62 : Int32) w_COMPACT_STRINGS w_SIOOBE_FORMATTER h0 n0 Z0 Fv_GREATER B_GREATER S_COMPACT_STRINGS hp51 Fc_GREATER Ey_GREATER hr_w_SIOOBE_FORMATTER S_SIOOBE_FORMATTER hp52) hZ (hw _ (List.mem_of_getElem? (i := 31) rfl)) (hw _ (List.mem_of_getElem? (i := 15) rfl)) (by decide) (by decide)) q53a q53c (g := (mkF m 111 #[.val (.int p0), .val (.int ((p0 &&& (2147483647 : Int32)) % (6 : Int32))), .val (.ref w_GREATER), .val (.int (0 : Int32)), .val (.ref y_GREATER), .unset, .unset] [(.int (0 : Int32)), (.ref y_GREATER)])) rfl (by rw [hml]; rfl) (Steps.refl _) (argsL := [(.int (0 : Int32))]) (rest := []) (lenOf pd_7 rfl) rfl (by show 2 * 0 + _ ≤ _; exact Nat.le_of_eq rfl) (hb hby at_111) (fun _ _ => ⟨rfl, e50, (by decide : 0 + 0 ≤ _), (by decide : 0 + 0 ≤ _)⟩)
            dsimp only [Pt.U, Pt.locs, Pt.cells, Pt.slots] at X53 l53 y53 z53 st53 hQ53
            subst l53 y53 z53
            obtain ⟨rfl, N53q, e53⟩ := hQ53
            have N53 := Fr.app N50 N53q
            have hc116 : (nar .char (nar .char (((62 : Int32) &&& (255 : Int32)).toUInt32.toUInt16.toUInt32.toInt32))) = (62 : Int32) := by decide
            obtain ⟨cq54, kq54, q54a, q54b, q54c⟩ := isOf hZ e53 E_GREATER
            obtain ⟨_, _, ⟨T54, L54, k54, n54⟩, -, X54, ⟨Lc54, hQ54, l54, y54, z54⟩, st54⟩ := X53.virtualBack hx (y := (⟨"com/example/obligation/obligation/xpath/Operations$Comparator", "isEquality", "()Z"⟩ : MethodName)) (z := (⟨"com/example/obligation/obligation/xpath/Operations$Comparator", "isEquality", "()Z"⟩ : MethodName)) hown (mvT hZ (hw _ (List.mem_of_getElem? (i := 49) rfl))) (mvT hZ (hw _ (List.mem_of_getElem? (i := 50) rfl))) (notFace_of_selects (args := #[]) (mvT hZ (hw _ (List.mem_of_getElem? (i := 52) rfl)))) (mvT hZ (hw _ (List.mem_of_getElem? (i := 52) rfl))) (mvT hZ (hw _ (List.mem_of_getElem? (i := 51) rfl))) (by decide) (backOf (W := 0) (rm9 l Z a0 hw [] w_GREATER w_EQUAL w_NOT_EQUAL h0 n0 Z0 S_EQUAL S_NOT_EQUAL) hZ (hw _ (List.mem_of_getElem? (i := 53) rfl)) (hw _ (List.mem_of_getElem? (i := 2) rfl)) (by decide) (by decide)) q54a q54c (g := (mkF m 127 #[.val (.int p0), .val (.int ((p0 &&& (2147483647 : Int32)) % (6 : Int32))), .val (.ref w_GREATER), .val (.int (0 : Int32)), .val (.ref y_GREATER), .val (.int (0 : Int32)), .unset] [(.ref w_GREATER)])) rfl (by rw [hml]; rfl) (Steps.refl _) (argsL := []) (rest := []) (lenOf pd_3 rfl) rfl (by show 2 * 0 + _ ≤ _; exact Nat.le_of_eq rfl) (hb hby at_127) (fun _ _ => ⟨rfl, e53, (by decide : 0 + 0 ≤ _), (by decide : 0 + 0 ≤ _)⟩)
            dsimp only [Pt.U, Pt.locs, Pt.cells, Pt.slots] at X54 l54 y54 z54 st54 hQ54
            subst l54 y54 z54
            obtain ⟨rfl, N54q, e54⟩ := hQ54
            have N54 := Fr.app N53 N54q
            have hc135 : (F9 w_GREATER w_EQUAL w_NOT_EQUAL) = (0 : Int32) := by rw [F9, if_neg ne_GREATER_EQUAL, if_neg ne_GREATER_NOT_EQUAL]
            obtain ⟨fs, hr, hrun, hended, hW, hsame⟩ := X54.leave (v := some (.int (1 : Int32))) (fun h => by rw [Bd.returns] at h; cases h) (BodyLoose.notSynchronized Bd)
            refine ⟨_, _, pre43 _ ?_, hrun, hended, _, _, rfl, ?_, ⟨_, rfl⟩, hW, hsame.mono (by decide) (by decide)⟩
            · show Steps p.tables e below (s₁.setTop (mkF m 65 #[.val (.int p0), .val (.int ((p0 &&& (2147483647 : Int32)) % (6 : Int32))), .unset, .unset, .unset, .unset, .unset] [(.int (4 : Int32)), (.int ((p0 &&& (2147483647 : Int32)) % (6 : Int32)))])) _
              refine XS.icmpNo X0.here hx rfl (hb hby at_65) rfl (teq hc65).2 ?_
              show Steps p.tables e below (s₁.setTop (mkF m 68 #[.val (.int p0), .val (.int ((p0 &&& (2147483647 : Int32)) % (6 : Int32))), .unset, .unset, .unset, .unset, .unset] [])) _
              refine st44 _ ?_
              show Steps p.tables e below (T44.setTop (mkF m 71 #[.val (.int p0), .val (.int ((p0 &&& (2147483647 : Int32)) % (6 : Int32))), .unset, .unset, .unset, .unset, .unset] [(.ref w_GREATER)])) _
              refine XS.astoreN X44.here hx rfl (hb hby at_71) rfl rfl (l' := #[.val (.int p0), .val (.int ((p0 &&& (2147483647 : Int32)) % (6 : Int32))), .val (.ref w_GREATER), .unset, .unset, .unset, .unset]) rfl ?_
              show Steps p.tables e below (T44.setTop (mkF m 72 #[.val (.int p0), .val (.int ((p0 &&& (2147483647 : Int32)) % (6 : Int32))), .val (.ref w_GREATER), .unset, .unset, .unset, .unset] [])) _
              refine XS.iconst X44.here hx rfl (hb hby at_72) ?_
              show Steps p.tables e below (T44.setTop (mkF m 73 #[.val (.int p0), .val (.int ((p0 &&& (2147483647 : Int32)) % (6 : Int32))), .val (.ref w_GREATER), .unset, .unset, .unset, .unset] [(.int (0 : Int32))])) _
              refine XS.istoreN X44.here hx rfl (hb hby at_73) rfl (l' := #[.val (.int p0), .val (.int ((p0 &&& (2147483647 : Int32)) % (6 : Int32))), .val (.ref w_GREATER), .val (.int (0 : Int32)), .unset, .unset, .unset]) rfl ?_
              show Steps p.tables e below (T44.setTop (mkF m 74 #[.val (.int p0), .val (.int ((p0 &&& (2147483647 : Int32)) % (6 : Int32))), .val (.ref w_GREATER), .val (.int (0 : Int32)), .unset, .unset, .unset] [])) _
              refine XS.goto X44.here hx rfl (pc0 := 74) (pc' := 83) rfl (hb hby at_74) (by decide) (by decide) ?_
              show Steps p.tables e below (T44.setTop (mkF m 83 #[.val (.int p0), .val (.int ((p0 &&& (2147483647 : Int32)) % (6 : Int32))), .val (.ref w_GREATER), .val (.int (0 : Int32)), .unset, .unset, .unset] [])) _
              refine XS.aloadN X44.here hx rfl (hb hby at_83) rfl rfl ?_
              show Steps p.tables e below (T44.setTop (mkF m 84 #[.val (.int p0), .val (.int ((p0 &&& (2147483647 : Int32)) % (6 : Int32))), .val (.ref w_GREATER), .val (.int (0 : Int32)), .unset, .unset, .unset] [(.ref w_GREATER)])) _
              refine st45.trans ?_
              show Steps p.tables e below (T45.setTop (mkF m 87 #[.val (.int p0), .val (.int ((p0 &&& (2147483647 : Int32)) % (6 : Int32))), .val (.ref w_GREATER), .val (.int (0 : Int32)), .unset, .unset, .unset] [(.ref y_GREATER)])) _
              refine XS.astore X45.here hx rfl (hb hby at_87) rfl rfl (l' := #[.val (.int p0), .val (.int ((p0 &&& (2147483647 : Int32)) % (6 : Int32))), .val (.ref w_GREATER), .val (.int (0 : Int32)), .val (.ref y_GREATER), .unset, .unset]) rfl ?_
              show Steps p.tables e below (T45.setTop (mkF m 89 #[.val (.int p0), .val (.int ((p0 &&& (2147483647 : Int32)) % (6 : Int32))), .val (.ref w_GREATER), .val (.int (0 : Int32)), .val (.ref y_GREATER), .unset, .unset] [])) _
              refine XS.aload X45.here hx rfl (hb hby at_89) rfl rfl ?_
              show Steps p.tables e below (T45.setTop (mkF m 91 #[.val (.int p0), .val (.int ((p0 &&& (2147483647 : Int32)) % (6 : Int32))), .val (.ref w_GREATER), .val (.int (0 : Int32)), .val (.ref y_GREATER), .unset, .unset] [(.ref y_GREATER)])) _
              refine st47.trans ?_
              show Steps p.tables e below (T47.setTop (mkF m 94 #[.val (.int p0), .val (.int ((p0 &&& (2147483647 : Int32)) % (6 : Int32))), .val (.ref w_GREATER), .val (.int (0 : Int32)), .val (.ref y_GREATER), .unset, .unset] [(.int ((1 : Int32) >>> ((0 : Int32) &&& 31)))])) _
              refine XS.ifNo X47.here hx rfl (hb hby at_94) rfl ((if0 _ _).trans (tlt hc94).2.2.2) ?_
              show Steps p.tables e below (T47.setTop (mkF m 97 #[.val (.int p0), .val (.int ((p0 &&& (2147483647 : Int32)) % (6 : Int32))), .val (.ref w_GREATER), .val (.int (0 : Int32)), .val (.ref y_GREATER), .unset, .unset] [])) _
              refine XS.aload X47.here hx rfl (hb hby at_97) rfl rfl ?_
              show Steps p.tables e below (T47.setTop (mkF m 99 #[.val (.int p0), .val (.int ((p0 &&& (2147483647 : Int32)) % (6 : Int32))), .val (.ref w_GREATER), .val (.int (0 : Int32)), .val (.ref y_GREATER), .unset, .unset] [(.ref y_GREATER)])) _
              refine XS.iconst X47.here hx rfl (hb hby at_99) ?_
              show Steps p.tables e below (T47.setTop (mkF m 100 #[.val (.int p0), .val (.int ((p0 &&& (2147483647 : Int32)) % (6 : Int32))), .val (.ref w_GREATER), .val (.int (0 : Int32)), .val (.ref y_GREATER), .unset, .unset] [(.int (0 : Int32)), (.ref y_GREATER)])) _
              refine st50.trans ?_
              show Steps p.tables e below (T50.setTop (mkF m 103 #[.val (.int p0), .val (.int ((p0 &&& (2147483647 : Int32)) % (6 : Int32))), .val (.ref w_GREATER), .val (.int (0 : Int32)), .val (.ref y_GREATER), .unset, .unset] [(.int (nar .char (nar .char (((62 : Int32) &&& (255 : Int32)).toUInt32.toUInt16.toUInt32.toInt32))))])) _
              refine XS.bipush X50.here hx rfl (hb hby at_103) ?_
              show Steps p.tables e below (T50.setTop (mkF m 105 #[.val (.int p0), .val (.int ((p0 &&& (2147483647 : Int32)) % (6 : Int32))), .val (.ref w_GREATER), .val (.int (0 : Int32)), .val (.ref y_GREATER), .unset, .unset] [(.int (60 : Int32)), (.int (nar .char (nar .char (((62 : Int32) &&& (255 : Int32)).toUInt32.toUInt16.toUInt32.toInt32))))])) _
              refine XS.icmpNo X50.here hx rfl (hb hby at_105) rfl (feq hc105).1 ?_
              show Steps p.tables e below (T50.setTop (mkF m 108 #[.val (.int p0), .val (.int ((p0 &&& (2147483647 : Int32)) % (6 : Int32))), .val (.ref w_GREATER), .val (.int (0 : Int32)), .val (.ref y_GREATER), .unset, .unset] [])) _
              refine XS.aload X50.here hx rfl (hb hby at_108) rfl rfl ?_
              show Steps p.tables e below (T50.setTop (mkF m 110 #[.val (.int p0), .val (.int ((p0 &&& (2147483647 : Int32)) % (6 : Int32))), .val (.ref w_GREATER), .val (.int (0 : Int32)), .val (.ref y_GREATER), .unset, .unset] [(.ref y_GREATER)])) _
              refine XS.iconst X50.here hx rfl (hb hby at_110) ?_
              show Steps p.tables e below (T50.setTop (mkF m 111 #[.val (.int p0), .val (.int ((p0 &&& (2147483647 : Int32)) % (6 : Int32))), .val (.ref w_GREATER), .val (.int (0 : Int32)), .val (.ref y_GREATER), .unset, .unset] [(.int (0 : Int32)), (.ref y_GREATER)])) _
              refine st53.trans ?_
              show Steps p.tables e below (T53.setTop (mkF m 114 #[.val (.int p0), .val (.int ((p0 &&& (2147483647 : Int32)) % (6 : Int32))), .val (.ref w_GREATER), .val (.int (0 : Int32)), .val (.ref y_GREATER), .unset, .unset] [(.int (nar .char (nar .char (((62 : Int32) &&& (255 : Int32)).toUInt32.toUInt16.toUInt32.toInt32))))])) _
              refine XS.bipush X53.here hx rfl (hb hby at_114) ?_
              show Steps p.tables e below (T53.setTop (mkF m 116 #[.val (.int p0), .val (.int ((p0 &&& (2147483647 : Int32)) % (6 : Int32))), .val (.ref w_GREATER), .val (.int (0 : Int32)), .val (.ref y_GREATER), .unset, .unset] [(.int (62 : Int32)), (.int (nar .char (nar .char (((62 : Int32) &&& (255 : Int32)).toUInt32.toUInt16.toUInt32.toInt32))))])) _
              refine XS.icmpYes X53.here hx rfl (pc0 := 116) (pc' := 123) rfl (hb hby at_116) rfl (teq hc116).1 (by decide) (by decide) ?_
              show Steps p.tables e below (T53.setTop (mkF m 123 #[.val (.int p0), .val (.int ((p0 &&& (2147483647 : Int32)) % (6 : Int32))), .val (.ref w_GREATER), .val (.int (0 : Int32)), .val (.ref y_GREATER), .unset, .unset] [])) _
              refine XS.iconst X53.here hx rfl (hb hby at_123) ?_
              show Steps p.tables e below (T53.setTop (mkF m 124 #[.val (.int p0), .val (.int ((p0 &&& (2147483647 : Int32)) % (6 : Int32))), .val (.ref w_GREATER), .val (.int (0 : Int32)), .val (.ref y_GREATER), .unset, .unset] [(.int (0 : Int32))])) _
              refine XS.istore X53.here hx rfl (hb hby at_124) rfl (l' := #[.val (.int p0), .val (.int ((p0 &&& (2147483647 : Int32)) % (6 : Int32))), .val (.ref w_GREATER), .val (.int (0 : Int32)), .val (.ref y_GREATER), .val (.int (0 : Int32)), .unset]) rfl ?_
              show Steps p.tables e below (T53.setTop (mkF m 126 #[.val (.int p0), .val (.int ((p0 &&& (2147483647 : Int32)) % (6 : Int32))), .val (.ref w_GREATER), .val (.int (0 : Int32)), .val (.ref y_GREATER), .val (.int (0 : Int32)), .unset] [])) _
              refine XS.aloadN X53.here hx rfl (hb hby at_126) rfl rfl ?_
              show Steps p.tables e below (T53.setTop (mkF m 127 #[.val (.int p0), .val (.int ((p0 &&& (2147483647 : Int32)) % (6 : Int32))), .val (.ref w_GREATER), .val (.int (0 : Int32)), .val (.ref y_GREATER), .val (.int (0 : Int32)), .unset] [(.ref w_GREATER)])) _
              refine st54.trans ?_
              show Steps p.tables e below (T54.setTop (mkF m 130 #[.val (.int p0), .val (.int ((p0 &&& (2147483647 : Int32)) % (6 : Int32))), .val (.ref w_GREATER), .val (.int (0 : Int32)), .val (.ref y_GREATER), .val (.int (0 : Int32)), .unset] [(.int (F9 w_GREATER w_EQUAL w_NOT_EQUAL))])) _
              refine XS.istore X54.here hx rfl (hb hby at_130) rfl (l' := #[.val (.int p0), .val (.int ((p0 &&& (2147483647 : Int32)) % (6 : Int32))), .val (.ref w_GREATER), .val (.int (0 : Int32)), .val (.ref y_GREATER), .val (.int (0 : Int32)), .val (.int (F9 w_GREATER w_EQUAL w_NOT_EQUAL))]) rfl ?_
              show Steps p.tables e below (T54.setTop (mkF m 132 #[.val (.int p0), .val (.int ((p0 &&& (2147483647 : Int32)) % (6 : Int32))), .val (.ref w_GREATER), .val (.int (0 : Int32)), .val (.ref y_GREATER), .val (.int (0 : Int32)), .val (.int (F9 w_GREATER w_EQUAL w_NOT_EQUAL))] [])) _
              refine XS.iload X54.here hx rfl (hb hby at_132) rfl ?_
              show Steps p.tables e below (T54.setTop (mkF m 134 #[.val (.int p0), .val (.int ((p0 &&& (2147483647 : Int32)) % (6 : Int32))), .val (.ref w_GREATER), .val (.int (0 : Int32)), .val (.ref y_GREATER), .val (.int (0 : Int32)), .val (.int (F9 w_GREATER w_EQUAL w_NOT_EQUAL))] [(.int (F9 w_GREATER w_EQUAL w_NOT_EQUAL))])) _
              refine XS.iloadN X54.here hx rfl (hb hby at_134) rfl ?_
              show Steps p.tables e below (T54.setTop (mkF m 135 #[.val (.int p0), .val (.int ((p0 &&& (2147483647 : Int32)) % (6 : Int32))), .val (.ref w_GREATER), .val (.int (0 : Int32)), .val (.ref y_GREATER), .val (.int (0 : Int32)), .val (.int (F9 w_GREATER w_EQUAL w_NOT_EQUAL))] [(.int (0 : Int32)), (.int (F9 w_GREATER w_EQUAL w_NOT_EQUAL))])) _
              refine XS.icmpNo X54.here hx rfl (hb hby at_135) rfl (teq hc135).2 ?_
              show Steps p.tables e below (T54.setTop (mkF m 138 #[.val (.int p0), .val (.int ((p0 &&& (2147483647 : Int32)) % (6 : Int32))), .val (.ref w_GREATER), .val (.int (0 : Int32)), .val (.ref y_GREATER), .val (.int (0 : Int32)), .val (.int (F9 w_GREATER w_EQUAL w_NOT_EQUAL))] [])) _
              refine XS.iload X54.here hx rfl (hb hby at_138) rfl ?_
              show Steps p.tables e below (T54.setTop (mkF m 140 #[.val (.int p0), .val (.int ((p0 &&& (2147483647 : Int32)) % (6 : Int32))), .val (.ref w_GREATER), .val (.int (0 : Int32)), .val (.ref y_GREATER), .val (.int (0 : Int32)), .val (.int (F9 w_GREATER w_EQUAL w_NOT_EQUAL))] [(.int (F9 w_GREATER w_EQUAL w_NOT_EQUAL))])) _
              refine XS.iload X54.here hx rfl (hb hby at_140) rfl ?_
              show Steps p.tables e below (T54.setTop (mkF m 142 #[.val (.int p0), .val (.int ((p0 &&& (2147483647 : Int32)) % (6 : Int32))), .val (.ref w_GREATER), .val (.int (0 : Int32)), .val (.ref y_GREATER), .val (.int (0 : Int32)), .val (.int (F9 w_GREATER w_EQUAL w_NOT_EQUAL))] [(.int (0 : Int32)), (.int (F9 w_GREATER w_EQUAL w_NOT_EQUAL))])) _
              refine XS.icmpNo X54.here hx rfl (hb hby at_142) rfl (teq hc135).2 ?_
              show Steps p.tables e below (T54.setTop (mkF m 145 #[.val (.int p0), .val (.int ((p0 &&& (2147483647 : Int32)) % (6 : Int32))), .val (.ref w_GREATER), .val (.int (0 : Int32)), .val (.ref y_GREATER), .val (.int (0 : Int32)), .val (.int (F9 w_GREATER w_EQUAL w_NOT_EQUAL))] [])) _
              refine XS.iconst X54.here hx rfl (hb hby at_145) ?_
              show Steps p.tables e below (T54.setTop (mkF m 146 #[.val (.int p0), .val (.int ((p0 &&& (2147483647 : Int32)) % (6 : Int32))), .val (.ref w_GREATER), .val (.int (0 : Int32)), .val (.ref y_GREATER), .val (.int (0 : Int32)), .val (.int (F9 w_GREATER w_EQUAL w_NOT_EQUAL))] [(.int (1 : Int32))])) _
              refine XS.goto X54.here hx rfl (pc0 := 146) (pc' := 150) rfl (hb hby at_146) (by decide) (by decide) ?_
              show Steps p.tables e below (T54.setTop (mkF m 150 #[.val (.int p0), .val (.int ((p0 &&& (2147483647 : Int32)) % (6 : Int32))), .val (.ref w_GREATER), .val (.int (0 : Int32)), .val (.ref y_GREATER), .val (.int (0 : Int32)), .val (.int (F9 w_GREATER w_EQUAL w_NOT_EQUAL))] [(.int (1 : Int32))])) _
              exact retN X54 hx (t := .boolean) Bd.returns (by simp) (hb hby at_150) hr
            · show Q0 Z p0 w_COMPACT_STRINGS w_SIOOBE_FORMATTER w_EQUAL y_EQUAL r_EQUAL w_NOT_EQUAL y_NOT_EQUAL r_NOT_EQUAL w_LESS y_LESS r_LESS w_LESS_OR_EQUAL y_LESS_OR_EQUAL r_LESS_OR_EQUAL w_GREATER y_GREATER r_GREATER w_GREATER_OR_EQUAL y_GREATER_OR_EQUAL r_GREATER_OR_EQUAL h0 n0 _ T54.heap _
              rw [e54]
              exact ⟨rfl, N54⟩
          · obtain ⟨T55, X55, e55, st55⟩ := getS2 X0 hx hZ hown (host := "") (Or.inl (hw _ (List.mem_of_getElem? (i := 62) rfl))) Via.refl e0 S_GREATER_OR_EQUAL (g := (mkF m 77 #[.val (.int p0), .val (.int ((p0 &&& (2147483647 : Int32)) % (6 : Int32))), .unset, .unset, .unset, .unset, .unset] [])) rfl (hb hby at_77)
            obtain ⟨cq56, kq56, q56a, q56b, q56c⟩ := isOf hZ e55 E_GREATER_OR_EQUAL
            obtain ⟨_, _, ⟨T56, L56, k56, n56⟩, -, X56, ⟨Lc56, hQ56, l56, y56, z56⟩, st56⟩ := X55.virtualBack hx (y := (⟨"com/example/obligation/obligation/xpath/Operations$Comparator", "symbol", "()Ljava/lang/String;"⟩ : MethodName)) (z := (⟨"com/example/obligation/obligation/xpath/Operations$Comparator", "symbol", "()Ljava/lang/String;"⟩ : MethodName)) hown (mvT hZ (hw _ (List.mem_of_getElem? (i := 4) rfl))) (mvT hZ (hw _ (List.mem_of_getElem? (i := 5) rfl))) (notFace_of_selects (args := #[]) (mvT hZ (hw _ (List.mem_of_getElem? (i := 7) rfl)))) (mvT hZ (hw _ (List.mem_of_getElem? (i := 7) rfl))) (mvT hZ (hw _ (List.mem_of_getElem? (i := 6) rfl))) (by decide) (backOf (W := 0) (rm1 l Z a0 hw [] w_GREATER_OR_EQUAL y_GREATER_OR_EQUAL h0 n0 Z0 Fs_GREATER_OR_EQUAL) hZ (hw _ (List.mem_of_getElem? (i := 8) rfl)) (hw _ (List.mem_of_getElem? (i := 2) rfl)) (by decide) (by decide)) q56a q56c (g := (mkF m 84 #[.val (.int p0), .val (.int ((p0 &&& (2147483647 : Int32)) % (6 : Int32))), .val (.ref w_GREATER_OR_EQUAL), .val (.int (0 : Int32)), .unset, .unset, .unset] [(.ref w_GREATER_OR_EQUAL)])) rfl (by rw [hml]; rfl) (Steps.refl _) (argsL := []) (rest := []) (lenOf pd_0 rfl) rfl (by show 2 * 0 + _ ≤ _; exact Nat.le_of_eq rfl) (hb hby at_84) (fun _ _ => ⟨rfl, e55, (by decide : 0 + 0 ≤ _), (by decide : 0 + 0 ≤ _)⟩)
            dsimp only [Pt.U, Pt.locs, Pt.cells, Pt.slots] at X56 l56 y56 z56 st56 hQ56
            subst l56 y56 z56
            obtain ⟨rfl, N56q, e56⟩ := hQ56
            have N56 := Fr.app N0 N56q
            have hp57 : ¬ (w_COMPACT_STRINGS = (0 : Int32)) := hcs
            obtain ⟨cq58, kq58, q58a, q58b, q58c⟩ := isOf hZ e56 Ey_GREATER_OR_EQUAL
            obtain ⟨_, _, ⟨T58, L58, k58, n58⟩, -, X58, ⟨Lc58, hQ58, l58, y58, z58⟩, st58⟩ := X56.virtualBack hx (y := (⟨"java/lang/String", "length", "()I"⟩ : MethodName)) (z := (⟨"java/lang/String", "length", "()I"⟩ : MethodName)) hown (mvT hZ (hw _ (List.mem_of_getElem? (i := 11) rfl))) (mvT hZ (hw _ (List.mem_of_getElem? (i := 12) rfl))) (notFace_of_selects (args := #[]) (mvT hZ (hw _ (List.mem_of_getElem? (i := 14) rfl)))) (mvT hZ (hw _ (List.mem_of_getElem? (i := 14) rfl))) (mvT hZ (hw _ (List.mem_of_getElem? (i := 13) rfl))) (by decide) (backOf (W := 0) (rm2 l Z a0 hw [] y_GREATER_OR_EQUAL r_GREATER_OR_EQUAL (2 : Int32) (62 : Int32) w_COMPACT_STRINGS h0 n0 Z0 Fv_GREATER_OR_EQUAL B_GREATER_OR_EQUAL S_COMPACT_STRINGS hp57 Fc_GREATER_OR_EQUAL Ey_GREATER_OR_EQUAL) hZ (hw _ (List.mem_of_getElem? (i := 16) rfl)) (hw _ (List.mem_of_getElem? (i := 15) rfl)) (by decide) (by decide)) q58a q58c (g := (mkF m 91 #[.val (.int p0), .val (.int ((p0 &&& (2147483647 : Int32)) % (6 : Int32))), .val (.ref w_GREATER_OR_EQUAL), .val (.int (0 : Int32)), .val (.ref y_GREATER_OR_EQUAL), .unset, .unset] [(.ref y_GREATER_OR_EQUAL)])) rfl (by rw [hml]; rfl) (Steps.refl _) (argsL := []) (rest := []) (lenOf pd_2 rfl) rfl (by show 2 * 0 + _ ≤ _; exact Nat.le_of_eq rfl) (hb hby at_91) (fun _ _ => ⟨rfl, e56, (by decide : 0 + 0 ≤ _), (by decide : 0 + 0 ≤ _)⟩)
            dsimp only [Pt.U, Pt.locs, Pt.cells, Pt.slots] at X58 l58 y58 z58 st58 hQ58
            subst l58 y58 z58
            obtain ⟨rfl, N58q, e58⟩ := hQ58
            have N58 := Fr.app N56 N58q
            have hc94 : (0 : Int32) < ((2 : Int32) >>> ((0 : Int32) &&& 31)) := by decide
            have hp59 : ¬ (w_COMPACT_STRINGS = (0 : Int32)) := hcs
            have hp60 : (0 : Int32) < (2 : Int32) := by decide
            obtain ⟨cq61, kq61, q61a, q61b, q61c⟩ := isOf hZ e58 Ey_GREATER_OR_EQUAL
            obtain ⟨_, _, ⟨T61, L61, k61, n61⟩, -, X61, ⟨Lc61, hQ61, l61, y61, z61⟩, st61⟩ := X58.virtualBack hx (y := (⟨"java/lang/String", "charAt", "(I)C"⟩ : MethodName)) (z := (⟨"java/lang/String", "charAt", "(I)C"⟩ : MethodName)) hown (mvT hZ (hw _ (List.mem_of_getElem? (i := 27) rfl))) (mvT hZ (hw _ (List.mem_of_getElem? (i := 28) rfl))) (notFace_of_selects (args := #[]) (mvT hZ (hw _ (List.mem_of_getElem? (i := 30) rfl)))) (mvT hZ (hw _ (List.mem_of_getElem? (i := 30) rfl))) (mvT hZ (hw _ (List.mem_of_getElem? (i := 29) rfl))) (by decide) (backOf (W := 0) (rm4 l Z a0 hw [] y_GREATER_OR_EQUAL r_GREATER_OR_EQUAL (2 : Int32) (62 : Int32) w_COMPACT_STRINGS w_SIOOBE_FORMATTER h0 n0 Z0 Fv_GREATER_OR_EQUAL B_GREATER_OR_EQUAL S_COMPACT_STRINGS hp59 Fc_GREATER_OR_EQUAL Ey_GREATER_OR_EQUAL hr_w_SIOOBE_FORMATTER S_SIOOBE_FORMATTER hp60) hZ (hw _ (List.mem_of_getElem? (i := 31) rfl)) (hw _ (List.mem_of_getElem? (i := 15) rfl)) (by decide) (by decide)) q61a q61c (g := (mkF m 100 #[.val (.int p0), .val (.int ((p0 &&& (2147483647 : Int32)) % (6 : Int32))), .val (.ref w_GREATER_OR_EQUAL), .val (.int (0 : Int32)), .val (.ref y_GREATER_OR_EQUAL), .unset, .unset] [(.int (0 : Int32)), (.ref y_GREATER_OR_EQUAL)])) rfl (by rw [hml]; rfl) (Steps.refl _) (argsL := [(.int (0 : Int32))]) (rest := []) (lenOf pd_7 rfl) rfl (by show 2 * 0 + _ ≤ _; exact Nat.le_of_eq rfl) (hb hby at_100) (fun _ _ => ⟨rfl, e58, (by decide : 0 + 0 ≤ _), (by decide : 0 + 0 ≤ _)⟩)
            dsimp only [Pt.U, Pt.locs, Pt.cells, Pt.slots] at X61 l61 y61 z61 st61 hQ61
            subst l61 y61 z61
            obtain ⟨rfl, N61q, e61⟩ := hQ61
            have N61 := Fr.app N58 N61q
            have hc105 : ¬ ((nar .char (nar .char (((62 : Int32) &&& (255 : Int32)).toUInt32.toUInt16.toUInt32.toInt32))) = (60 : Int32)) := by decide
            have hp62 : ¬ (w_COMPACT_STRINGS = (0 : Int32)) := hcs
            have hp63 : (0 : Int32) < (2 : Int32) := by decide
            obtain ⟨cq64, kq64, q64a, q64b, q64c⟩ := isOf hZ e61 Ey_GREATER_OR_EQUAL
            obtain ⟨_, _, ⟨T64, L64, k64, n64⟩, -, X64, ⟨Lc64, hQ64, l64, y64, z64⟩, st64⟩ := X61.virtualBack hx (y := (⟨"java/lang/String", "charAt", "(I)C"⟩ : MethodName)) (z := (⟨"java/lang/String", "charAt", "(I)C"⟩ : MethodName)) hown (mvT hZ (hw _ (List.mem_of_getElem? (i := 27) rfl))) (mvT hZ (hw _ (List.mem_of_getElem? (i := 28) rfl))) (notFace_of_selects (args := #[]) (mvT hZ (hw _ (List.mem_of_getElem? (i := 30) rfl)))) (mvT hZ (hw _ (List.mem_of_getElem? (i := 30) rfl))) (mvT hZ (hw _ (List.mem_of_getElem? (i := 29) rfl))) (by decide) (backOf (W := 0) (rm4 l Z a0 hw [] y_GREATER_OR_EQUAL r_GREATER_OR_EQUAL (2 : Int32) (62 : Int32) w_COMPACT_STRINGS w_SIOOBE_FORMATTER h0 n0 Z0 Fv_GREATER_OR_EQUAL B_GREATER_OR_EQUAL S_COMPACT_STRINGS hp62 Fc_GREATER_OR_EQUAL Ey_GREATER_OR_EQUAL hr_w_SIOOBE_FORMATTER S_SIOOBE_FORMATTER hp63) hZ (hw _ (List.mem_of_getElem? (i := 31) rfl)) (hw _ (List.mem_of_getElem? (i := 15) rfl)) (by decide) (by decide)) q64a q64c (g := (mkF m 111 #[.val (.int p0), .val (.int ((p0 &&& (2147483647 : Int32)) % (6 : Int32))), .val (.ref w_GREATER_OR_EQUAL), .val (.int (0 : Int32)), .val (.ref y_GREATER_OR_EQUAL), .unset, .unset] [(.int (0 : Int32)), (.ref y_GREATER_OR_EQUAL)])) rfl (by rw [hml]; rfl) (Steps.refl _) (argsL := [(.int (0 : Int32))]) (rest := []) (lenOf pd_7 rfl) rfl (by show 2 * 0 + _ ≤ _; exact Nat.le_of_eq rfl) (hb hby at_111) (fun _ _ => ⟨rfl, e61, (by decide : 0 + 0 ≤ _), (by decide : 0 + 0 ≤ _)⟩)
            dsimp only [Pt.U, Pt.locs, Pt.cells, Pt.slots] at X64 l64 y64 z64 st64 hQ64
            subst l64 y64 z64
            obtain ⟨rfl, N64q, e64⟩ := hQ64
            have N64 := Fr.app N61 N64q
            have hc116 : (nar .char (nar .char (((62 : Int32) &&& (255 : Int32)).toUInt32.toUInt16.toUInt32.toInt32))) = (62 : Int32) := by decide
            obtain ⟨cq65, kq65, q65a, q65b, q65c⟩ := isOf hZ e64 E_GREATER_OR_EQUAL
            obtain ⟨_, _, ⟨T65, L65, k65, n65⟩, -, X65, ⟨Lc65, hQ65, l65, y65, z65⟩, st65⟩ := X64.virtualBack hx (y := (⟨"com/example/obligation/obligation/xpath/Operations$Comparator", "isEquality", "()Z"⟩ : MethodName)) (z := (⟨"com/example/obligation/obligation/xpath/Operations$Comparator", "isEquality", "()Z"⟩ : MethodName)) hown (mvT hZ (hw _ (List.mem_of_getElem? (i := 49) rfl))) (mvT hZ (hw _ (List.mem_of_getElem? (i := 50) rfl))) (notFace_of_selects (args := #[]) (mvT hZ (hw _ (List.mem_of_getElem? (i := 52) rfl)))) (mvT hZ (hw _ (List.mem_of_getElem? (i := 52) rfl))) (mvT hZ (hw _ (List.mem_of_getElem? (i := 51) rfl))) (by decide) (backOf (W := 0) (rm9 l Z a0 hw [] w_GREATER_OR_EQUAL w_EQUAL w_NOT_EQUAL h0 n0 Z0 S_EQUAL S_NOT_EQUAL) hZ (hw _ (List.mem_of_getElem? (i := 53) rfl)) (hw _ (List.mem_of_getElem? (i := 2) rfl)) (by decide) (by decide)) q65a q65c (g := (mkF m 127 #[.val (.int p0), .val (.int ((p0 &&& (2147483647 : Int32)) % (6 : Int32))), .val (.ref w_GREATER_OR_EQUAL), .val (.int (0 : Int32)), .val (.ref y_GREATER_OR_EQUAL), .val (.int (0 : Int32)), .unset] [(.ref w_GREATER_OR_EQUAL)])) rfl (by rw [hml]; rfl) (Steps.refl _) (argsL := []) (rest := []) (lenOf pd_3 rfl) rfl (by show 2 * 0 + _ ≤ _; exact Nat.le_of_eq rfl) (hb hby at_127) (fun _ _ => ⟨rfl, e64, (by decide : 0 + 0 ≤ _), (by decide : 0 + 0 ≤ _)⟩)
            dsimp only [Pt.U, Pt.locs, Pt.cells, Pt.slots] at X65 l65 y65 z65 st65 hQ65
            subst l65 y65 z65
            obtain ⟨rfl, N65q, e65⟩ := hQ65
            have N65 := Fr.app N64 N65q
            have hc135 : (F9 w_GREATER_OR_EQUAL w_EQUAL w_NOT_EQUAL) = (0 : Int32) := by rw [F9, if_neg ne_GREATER_OR_EQUAL_EQUAL, if_neg ne_GREATER_OR_EQUAL_NOT_EQUAL]
            obtain ⟨fs, hr, hrun, hended, hW, hsame⟩ := X65.leave (v := some (.int (1 : Int32))) (fun h => by rw [Bd.returns] at h; cases h) (BodyLoose.notSynchronized Bd)
            refine ⟨_, _, pre43 _ ?_, hrun, hended, _, _, rfl, ?_, ⟨_, rfl⟩, hW, hsame.mono (by decide) (by decide)⟩
            · show Steps p.tables e below (s₁.setTop (mkF m 65 #[.val (.int p0), .val (.int ((p0 &&& (2147483647 : Int32)) % (6 : Int32))), .unset, .unset, .unset, .unset, .unset] [(.int (4 : Int32)), (.int ((p0 &&& (2147483647 : Int32)) % (6 : Int32)))])) _
              refine XS.icmpYes X0.here hx rfl (pc0 := 65) (pc' := 77) rfl (hb hby at_65) rfl (feq hc65).2 (by decide) (by decide) ?_
              show Steps p.tables e below (s₁.setTop (mkF m 77 #[.val (.int p0), .val (.int ((p0 &&& (2147483647 : Int32)) % (6 : Int32))), .unset, .unset, .unset, .unset, .unset] [])) _
              refine st55 _ ?_
              show Steps p.tables e below (T55.setTop (mkF m 80 #[.val (.int p0), .val (.int ((p0 &&& (2147483647 : Int32)) % (6 : Int32))), .unset, .unset, .unset, .unset, .unset] [(.ref w_GREATER_OR_EQUAL)])) _
              refine XS.astoreN X55.here hx rfl (hb hby at_80) rfl rfl (l' := #[.val (.int p0), .val (.int ((p0 &&& (2147483647 : Int32)) % (6 : Int32))), .val (.ref w_GREATER_OR_EQUAL), .unset, .unset, .unset, .unset]) rfl ?_
              show Steps p.tables e below (T55.setTop (mkF m 81 #[.val (.int p0), .val (.int ((p0 &&& (2147483647 : Int32)) % (6 : Int32))), .val (.ref w_GREATER_OR_EQUAL), .unset, .unset, .unset, .unset] [])) _
              refine XS.iconst X55.here hx rfl (hb hby at_81) ?_
              show Steps p.tables e below (T55.setTop (mkF m 82 #[.val (.int p0), .val (.int ((p0 &&& (2147483647 : Int32)) % (6 : Int32))), .val (.ref w_GREATER_OR_EQUAL), .unset, .unset, .unset, .unset] [(.int (0 : Int32))])) _
              refine XS.istoreN X55.here hx rfl (hb hby at_82) rfl (l' := #[.val (.int p0), .val (.int ((p0 &&& (2147483647 : Int32)) % (6 : Int32))), .val (.ref w_GREATER_OR_EQUAL), .val (.int (0 : Int32)), .unset, .unset, .unset]) rfl ?_
              show Steps p.tables e below (T55.setTop (mkF m 83 #[.val (.int p0), .val (.int ((p0 &&& (2147483647 : Int32)) % (6 : Int32))), .val (.ref w_GREATER_OR_EQUAL), .val (.int (0 : Int32)), .unset, .unset, .unset] [])) _
              refine XS.aloadN X55.here hx rfl (hb hby at_83) rfl rfl ?_
              show Steps p.tables e below (T55.setTop (mkF m 84 #[.val (.int p0), .val (.int ((p0 &&& (2147483647 : Int32)) % (6 : Int32))), .val (.ref w_GREATER_OR_EQUAL), .val (.int (0 : Int32)), .unset, .unset, .unset] [(.ref w_GREATER_OR_EQUAL)])) _
              refine st56.trans ?_
              show Steps p.tables e below (T56.setTop (mkF m 87 #[.val (.int p0), .val (.int ((p0 &&& (2147483647 : Int32)) % (6 : Int32))), .val (.ref w_GREATER_OR_EQUAL), .val (.int (0 : Int32)), .unset, .unset, .unset] [(.ref y_GREATER_OR_EQUAL)])) _
              refine XS.astore X56.here hx rfl (hb hby at_87) rfl rfl (l' := #[.val (.int p0), .val (.int ((p0 &&& (2147483647 : Int32)) % (6 : Int32))), .val (.ref w_GREATER_OR_EQUAL), .val (.int (0 : Int32)), .val (.ref y_GREATER_OR_EQUAL), .unset, .unset]) rfl ?_
              show Steps p.tables e below (T56.setTop (mkF m 89 #[.val (.int p0), .val (.int ((p0 &&& (2147483647 : Int32)) % (6 : Int32))), .val (.ref w_GREATER_OR_EQUAL), .val (.int (0 : Int32)), .val (.ref y_GREATER_OR_EQUAL), .unset, .unset] [])) _
              refine XS.aload X56.here hx rfl (hb hby at_89) rfl rfl ?_
              show Steps p.tables e below (T56.setTop (mkF m 91 #[.val (.int p0), .val (.int ((p0 &&& (2147483647 : Int32)) % (6 : Int32))), .val (.ref w_GREATER_OR_EQUAL), .val (.int (0 : Int32)), .val (.ref y_GREATER_OR_EQUAL), .unset, .unset] [(.ref y_GREATER_OR_EQUAL)])) _
              refine st58.trans ?_
              show Steps p.tables e below (T58.setTop (mkF m 94 #[.val (.int p0), .val (.int ((p0 &&& (2147483647 : Int32)) % (6 : Int32))), .val (.ref w_GREATER_OR_EQUAL), .val (.int (0 : Int32)), .val (.ref y_GREATER_OR_EQUAL), .unset, .unset] [(.int ((2 : Int32) >>> ((0 : Int32) &&& 31)))])) _
              refine XS.ifNo X58.here hx rfl (hb hby at_94) rfl ((if0 _ _).trans (tlt hc94).2.2.2) ?_
              show Steps p.tables e below (T58.setTop (mkF m 97 #[.val (.int p0), .val (.int ((p0 &&& (2147483647 : Int32)) % (6 : Int32))), .val (.ref w_GREATER_OR_EQUAL), .val (.int (0 : Int32)), .val (.ref y_GREATER_OR_EQUAL), .unset, .unset] [])) _
              refine XS.aload X58.here hx rfl (hb hby at_97) rfl rfl ?_
              show Steps p.tables e below (T58.setTop (mkF m 99 #[.val (.int p0), .val (.int ((p0 &&& (2147483647 : Int32)) % (6 : Int32))), .val (.ref w_GREATER_OR_EQUAL), .val (.int (0 : Int32)), .val (.ref y_GREATER_OR_EQUAL), .unset, .unset] [(.ref y_GREATER_OR_EQUAL)])) _
              refine XS.iconst X58.here hx rfl (hb hby at_99) ?_
              show Steps p.tables e below (T58.setTop (mkF m 100 #[.val (.int p0), .val (.int ((p0 &&& (2147483647 : Int32)) % (6 : Int32))), .val (.ref w_GREATER_OR_EQUAL), .val (.int (0 : Int32)), .val (.ref y_GREATER_OR_EQUAL), .unset, .unset] [(.int (0 : Int32)), (.ref y_GREATER_OR_EQUAL)])) _
              refine st61.trans ?_
              show Steps p.tables e below (T61.setTop (mkF m 103 #[.val (.int p0), .val (.int ((p0 &&& (2147483647 : Int32)) % (6 : Int32))), .val (.ref w_GREATER_OR_EQUAL), .val (.int (0 : Int32)), .val (.ref y_GREATER_OR_EQUAL), .unset, .unset] [(.int (nar .char (nar .char (((62 : Int32) &&& (255 : Int32)).toUInt32.toUInt16.toUInt32.toInt32))))])) _
              refine XS.bipush X61.here hx rfl (hb hby at_103) ?_
              show Steps p.tables e below (T61.setTop (mkF m 105 #[.val (.int p0), .val (.int ((p0 &&& (2147483647 : Int32)) % (6 : Int32))), .val (.ref w_GREATER_OR_EQUAL), .val (.int (0 : Int32)), .val (.ref y_GREATER_OR_EQUAL), .unset, .unset] [(.int (60 : Int32)), (.int (nar .char (nar .char (((62 : Int32) &&& (255 : Int32)).toUInt32.toUInt16.toUInt32.toInt32))))])) _
              refine XS.icmpNo X61.here hx rfl (hb hby at_105) rfl (feq hc105).1 ?_
              show Steps p.tables e below (T61.setTop (mkF m 108 #[.val (.int p0), .val (.int ((p0 &&& (2147483647 : Int32)) % (6 : Int32))), .val (.ref w_GREATER_OR_EQUAL), .val (.int (0 : Int32)), .val (.ref y_GREATER_OR_EQUAL), .unset, .unset] [])) _
              refine XS.aload X61.here hx rfl (hb hby at_108) rfl rfl ?_
              show Steps p.tables e below (T61.setTop (mkF m 110 #[.val (.int p0), .val (.int ((p0 &&& (2147483647 : Int32)) % (6 : Int32))), .val (.ref w_GREATER_OR_EQUAL), .val (.int (0 : Int32)), .val (.ref y_GREATER_OR_EQUAL), .unset, .unset] [(.ref y_GREATER_OR_EQUAL)])) _
              refine XS.iconst X61.here hx rfl (hb hby at_110) ?_
              show Steps p.tables e below (T61.setTop (mkF m 111 #[.val (.int p0), .val (.int ((p0 &&& (2147483647 : Int32)) % (6 : Int32))), .val (.ref w_GREATER_OR_EQUAL), .val (.int (0 : Int32)), .val (.ref y_GREATER_OR_EQUAL), .unset, .unset] [(.int (0 : Int32)), (.ref y_GREATER_OR_EQUAL)])) _
              refine st64.trans ?_
              show Steps p.tables e below (T64.setTop (mkF m 114 #[.val (.int p0), .val (.int ((p0 &&& (2147483647 : Int32)) % (6 : Int32))), .val (.ref w_GREATER_OR_EQUAL), .val (.int (0 : Int32)), .val (.ref y_GREATER_OR_EQUAL), .unset, .unset] [(.int (nar .char (nar .char (((62 : Int32) &&& (255 : Int32)).toUInt32.toUInt16.toUInt32.toInt32))))])) _
              refine XS.bipush X64.here hx rfl (hb hby at_114) ?_
              show Steps p.tables e below (T64.setTop (mkF m 116 #[.val (.int p0), .val (.int ((p0 &&& (2147483647 : Int32)) % (6 : Int32))), .val (.ref w_GREATER_OR_EQUAL), .val (.int (0 : Int32)), .val (.ref y_GREATER_OR_EQUAL), .unset, .unset] [(.int (62 : Int32)), (.int (nar .char (nar .char (((62 : Int32) &&& (255 : Int32)).toUInt32.toUInt16.toUInt32.toInt32))))])) _
              refine XS.icmpYes X64.here hx rfl (pc0 := 116) (pc' := 123) rfl (hb hby at_116) rfl (teq hc116).1 (by decide) (by decide) ?_
              show Steps p.tables e below (T64.setTop (mkF m 123 #[.val (.int p0), .val (.int ((p0 &&& (2147483647 : Int32)) % (6 : Int32))), .val (.ref w_GREATER_OR_EQUAL), .val (.int (0 : Int32)), .val (.ref y_GREATER_OR_EQUAL), .unset, .unset] [])) _
              refine XS.iconst X64.here hx rfl (hb hby at_123) ?_
              show Steps p.tables e below (T64.setTop (mkF m 124 #[.val (.int p0), .val (.int ((p0 &&& (2147483647 : Int32)) % (6 : Int32))), .val (.ref w_GREATER_OR_EQUAL), .val (.int (0 : Int32)), .val (.ref y_GREATER_OR_EQUAL), .unset, .unset] [(.int (0 : Int32))])) _
              refine XS.istore X64.here hx rfl (hb hby at_124) rfl (l' := #[.val (.int p0), .val (.int ((p0 &&& (2147483647 : Int32)) % (6 : Int32))), .val (.ref w_GREATER_OR_EQUAL), .val (.int (0 : Int32)), .val (.ref y_GREATER_OR_EQUAL), .val (.int (0 : Int32)), .unset]) rfl ?_
              show Steps p.tables e below (T64.setTop (mkF m 126 #[.val (.int p0), .val (.int ((p0 &&& (2147483647 : Int32)) % (6 : Int32))), .val (.ref w_GREATER_OR_EQUAL), .val (.int (0 : Int32)), .val (.ref y_GREATER_OR_EQUAL), .val (.int (0 : Int32)), .unset] [])) _
              refine XS.aloadN X64.here hx rfl (hb hby at_126) rfl rfl ?_
              show Steps p.tables e below (T64.setTop (mkF m 127 #[.val (.int p0), .val (.int ((p0 &&& (2147483647 : Int32)) % (6 : Int32))), .val (.ref w_GREATER_OR_EQUAL), .val (.int (0 : Int32)), .val (.ref y_GREATER_OR_EQUAL), .val (.int (0 : Int32)), .unset] [(.ref w_GREATER_OR_EQUAL)])) _
              refine st65.trans ?_
              show Steps p.tables e below (T65.setTop (mkF m 130 #[.val (.int p0), .val (.int ((p0 &&& (2147483647 : Int32)) % (6 : Int32))), .val (.ref w_GREATER_OR_EQUAL), .val (.int (0 : Int32)), .val (.ref y_GREATER_OR_EQUAL), .val (.int (0 : Int32)), .unset] [(.int (F9 w_GREATER_OR_EQUAL w_EQUAL w_NOT_EQUAL))])) _
              refine XS.istore X65.here hx rfl (hb hby at_130) rfl (l' := #[.val (.int p0), .val (.int ((p0 &&& (2147483647 : Int32)) % (6 : Int32))), .val (.ref w_GREATER_OR_EQUAL), .val (.int (0 : Int32)), .val (.ref y_GREATER_OR_EQUAL), .val (.int (0 : Int32)), .val (.int (F9 w_GREATER_OR_EQUAL w_EQUAL w_NOT_EQUAL))]) rfl ?_
              show Steps p.tables e below (T65.setTop (mkF m 132 #[.val (.int p0), .val (.int ((p0 &&& (2147483647 : Int32)) % (6 : Int32))), .val (.ref w_GREATER_OR_EQUAL), .val (.int (0 : Int32)), .val (.ref y_GREATER_OR_EQUAL), .val (.int (0 : Int32)), .val (.int (F9 w_GREATER_OR_EQUAL w_EQUAL w_NOT_EQUAL))] [])) _
              refine XS.iload X65.here hx rfl (hb hby at_132) rfl ?_
              show Steps p.tables e below (T65.setTop (mkF m 134 #[.val (.int p0), .val (.int ((p0 &&& (2147483647 : Int32)) % (6 : Int32))), .val (.ref w_GREATER_OR_EQUAL), .val (.int (0 : Int32)), .val (.ref y_GREATER_OR_EQUAL), .val (.int (0 : Int32)), .val (.int (F9 w_GREATER_OR_EQUAL w_EQUAL w_NOT_EQUAL))] [(.int (F9 w_GREATER_OR_EQUAL w_EQUAL w_NOT_EQUAL))])) _
              refine XS.iloadN X65.here hx rfl (hb hby at_134) rfl ?_
              show Steps p.tables e below (T65.setTop (mkF m 135 #[.val (.int p0), .val (.int ((p0 &&& (2147483647 : Int32)) % (6 : Int32))), .val (.ref w_GREATER_OR_EQUAL), .val (.int (0 : Int32)), .val (.ref y_GREATER_OR_EQUAL), .val (.int (0 : Int32)), .val (.int (F9 w_GREATER_OR_EQUAL w_EQUAL w_NOT_EQUAL))] [(.int (0 : Int32)), (.int (F9 w_GREATER_OR_EQUAL w_EQUAL w_NOT_EQUAL))])) _
              refine XS.icmpNo X65.here hx rfl (hb hby at_135) rfl (teq hc135).2 ?_
              show Steps p.tables e below (T65.setTop (mkF m 138 #[.val (.int p0), .val (.int ((p0 &&& (2147483647 : Int32)) % (6 : Int32))), .val (.ref w_GREATER_OR_EQUAL), .val (.int (0 : Int32)), .val (.ref y_GREATER_OR_EQUAL), .val (.int (0 : Int32)), .val (.int (F9 w_GREATER_OR_EQUAL w_EQUAL w_NOT_EQUAL))] [])) _
              refine XS.iload X65.here hx rfl (hb hby at_138) rfl ?_
              show Steps p.tables e below (T65.setTop (mkF m 140 #[.val (.int p0), .val (.int ((p0 &&& (2147483647 : Int32)) % (6 : Int32))), .val (.ref w_GREATER_OR_EQUAL), .val (.int (0 : Int32)), .val (.ref y_GREATER_OR_EQUAL), .val (.int (0 : Int32)), .val (.int (F9 w_GREATER_OR_EQUAL w_EQUAL w_NOT_EQUAL))] [(.int (F9 w_GREATER_OR_EQUAL w_EQUAL w_NOT_EQUAL))])) _
              refine XS.iload X65.here hx rfl (hb hby at_140) rfl ?_
              show Steps p.tables e below (T65.setTop (mkF m 142 #[.val (.int p0), .val (.int ((p0 &&& (2147483647 : Int32)) % (6 : Int32))), .val (.ref w_GREATER_OR_EQUAL), .val (.int (0 : Int32)), .val (.ref y_GREATER_OR_EQUAL), .val (.int (0 : Int32)), .val (.int (F9 w_GREATER_OR_EQUAL w_EQUAL w_NOT_EQUAL))] [(.int (0 : Int32)), (.int (F9 w_GREATER_OR_EQUAL w_EQUAL w_NOT_EQUAL))])) _
              refine XS.icmpNo X65.here hx rfl (hb hby at_142) rfl (teq hc135).2 ?_
              show Steps p.tables e below (T65.setTop (mkF m 145 #[.val (.int p0), .val (.int ((p0 &&& (2147483647 : Int32)) % (6 : Int32))), .val (.ref w_GREATER_OR_EQUAL), .val (.int (0 : Int32)), .val (.ref y_GREATER_OR_EQUAL), .val (.int (0 : Int32)), .val (.int (F9 w_GREATER_OR_EQUAL w_EQUAL w_NOT_EQUAL))] [])) _
              refine XS.iconst X65.here hx rfl (hb hby at_145) ?_
              show Steps p.tables e below (T65.setTop (mkF m 146 #[.val (.int p0), .val (.int ((p0 &&& (2147483647 : Int32)) % (6 : Int32))), .val (.ref w_GREATER_OR_EQUAL), .val (.int (0 : Int32)), .val (.ref y_GREATER_OR_EQUAL), .val (.int (0 : Int32)), .val (.int (F9 w_GREATER_OR_EQUAL w_EQUAL w_NOT_EQUAL))] [(.int (1 : Int32))])) _
              refine XS.goto X65.here hx rfl (pc0 := 146) (pc' := 150) rfl (hb hby at_146) (by decide) (by decide) ?_
              show Steps p.tables e below (T65.setTop (mkF m 150 #[.val (.int p0), .val (.int ((p0 &&& (2147483647 : Int32)) % (6 : Int32))), .val (.ref w_GREATER_OR_EQUAL), .val (.int (0 : Int32)), .val (.ref y_GREATER_OR_EQUAL), .val (.int (0 : Int32)), .val (.int (F9 w_GREATER_OR_EQUAL w_EQUAL w_NOT_EQUAL))] [(.int (1 : Int32))])) _
              exact retN X65 hx (t := .boolean) Bd.returns (by simp) (hb hby at_150) hr
            · show Q0 Z p0 w_COMPACT_STRINGS w_SIOOBE_FORMATTER w_EQUAL y_EQUAL r_EQUAL w_NOT_EQUAL y_NOT_EQUAL r_NOT_EQUAL w_LESS y_LESS r_LESS w_LESS_OR_EQUAL y_LESS_OR_EQUAL r_LESS_OR_EQUAL w_GREATER y_GREATER r_GREATER w_GREATER_OR_EQUAL y_GREATER_OR_EQUAL r_GREATER_OR_EQUAL h0 n0 _ T65.heap _
              rw [e65]
              exact ⟨rfl, N65⟩
set_option maxRecDepth 65536 in
set_option maxHeartbeats 40000000 in
theorem comes_1 {Post : Tables → Env → Array Value → State → Outcome → State → Prop} (hpost : ∀ tb e args s v u, (limb_1_1.after args s (.returned v) u = true ∧ limb_1_2.after args s (.returned v) u = true ∧ True) → FrameEnd s (.returned v) u (Jvm.fieldLocs frame_1_writes args s ++ Jvm.arrayLocs frame_1_arrays args s ++ Jvm.staticLocs frame_1_statics s) 0 0 → Post tb e args s (.returned v) u) :
    ArmFor flags0 classFile x code maxLocals ret World_1 tables_1 room_1 Calls_1 rest_1 Pre_1 Post := by
  intro l hfl _ _ p e ha hc hk s m args below hf hA hF happ hP
  obtain ⟨hcalls, hrest, hpre⟩ := hP
  obtain ⟨-, -, -, hnamed, -, -, -, hat⟩ := (Spec.applies_iff hf).mp happ
  obtain ⟨hg, hn⟩ := and_e (Cond.before_iff.mp (show (Jvm.Cond.and given_1 narrow_1).before args s = true from hpre))
  obtain ⟨g1, g2⟩ := and_e hg
  obtain ⟨w0, rfl⟩ : ∃ w0 : Value, args = #[w0] := by
    have hs : args.size = 1 := by simpa [Cond.value, given_1] using g1
    obtain ⟨L⟩ := args
    match L, hs with
    | [w0], _ => exact ⟨w0, rfl⟩
  have hw := fun d (hd : d ∈ tables_1) => atoms_spec (ws := Jvm.Cond.code x code maxLocals ret :: tables_1) hat d (List.mem_cons_of_mem _ hd)
  obtain ⟨hsets, hown0⟩ := atoms_of _ (rest_1_c_eq ▸ (show rest_1_c.before _ s = true from hrest))
  obtain ⟨i0, ei0⟩ := is_v g2
  obtain rfl : w0 = (.int i0) := Option.some.inj ei0
  obtain ⟨nl1, nr1⟩ := and_e hn
  obtain ⟨nl2, nr2⟩ := and_e nr1
  obtain ⟨nl3, nr3⟩ := and_e nr2
  obtain ⟨nl4, nr4⟩ := and_e nr3
  obtain ⟨nl5, nr5⟩ := and_e nr4
  obtain ⟨nl6, nr6⟩ := and_e nr5
  obtain ⟨nl7, nr7⟩ := and_e nr6
  obtain ⟨nl8, nr8⟩ := and_e nr7
  obtain ⟨nl9, nr9⟩ := and_e nr8
  obtain ⟨nl10, nr10⟩ := and_e nr9
  obtain ⟨nl11, nr11⟩ := and_e nr10
  obtain ⟨nl12, nr12⟩ := and_e nr11
  obtain ⟨nl13, nr13⟩ := and_e nr12
  obtain ⟨nl14, nr14⟩ := and_e nr13
  obtain ⟨nl15, nr15⟩ := and_e nr14
  obtain ⟨nl16, nr16⟩ := and_e nr15
  obtain ⟨nl17, nr17⟩ := and_e nr16
  obtain ⟨nl18, nr18⟩ := and_e nr17
  obtain ⟨nl19, nr19⟩ := and_e nr18
  obtain ⟨nl20, nr20⟩ := and_e nr19
  obtain ⟨nl21, nr21⟩ := and_e nr20
  obtain ⟨nl22, nr22⟩ := and_e nr21
  obtain ⟨nl23, nr23⟩ := and_e nr22
  obtain ⟨nl24, nr24⟩ := and_e nr23
  obtain ⟨nl25, nr25⟩ := and_e nr24
  obtain ⟨nl26, nr26⟩ := and_e nr25
  obtain ⟨nl27, nr27⟩ := and_e nr26
  obtain ⟨nl28, nr28⟩ := and_e nr27
  obtain ⟨nl29, nr29⟩ := and_e nr28
  obtain ⟨nl30, nr30⟩ := and_e nr29
  obtain ⟨nl31, nr31⟩ := and_e nr30
  obtain ⟨nl32, nr32⟩ := and_e nr31
  obtain ⟨nl33, nr33⟩ := and_e nr32
  obtain ⟨nl34, nr34⟩ := and_e nr33
  obtain ⟨nl35, nr35⟩ := and_e nr34
  obtain ⟨nl36, nr36⟩ := and_e nr35
  obtain ⟨nl37, nr37⟩ := and_e nr36
  obtain ⟨nl38, nr38⟩ := and_e nr37
  obtain ⟨nl39, nr39⟩ := and_e nr38
  obtain ⟨nl40, nr40⟩ := and_e nr39
  obtain ⟨nl41, nr41⟩ := and_e nr40
  obtain ⟨nl42, nr42⟩ := and_e nr41
  obtain ⟨nl43, nr43⟩ := and_e nr42
  obtain ⟨nl44, nr44⟩ := and_e nr43
  obtain ⟨w_COMPACT_STRINGS, ecs⟩ := is_v (Cond.before_iff.mp (hsets _ (List.mem_of_getElem? (i := 1) rfl)))
  have S_COMPACT_STRINGS := Sta.start ecs (Or.inl (hsets _ (List.mem_of_getElem? (i := 0) rfl)))
  have hcs : ¬ (w_COMPACT_STRINGS = (0 : Int32)) := own_cs ecs (hsets _ (List.mem_of_getElem? (i := 2) rfl))
  obtain ⟨w_SIOOBE_FORMATTER, esf, hr_w_SIOOBE_FORMATTER⟩ := isR_v (Cond.before_iff.mp (hsets _ (List.mem_of_getElem? (i := 8) rfl)))
  have S_SIOOBE_FORMATTER := Sta.start esf (Or.inl (hsets _ (List.mem_of_getElem? (i := 7) rfl)))
  obtain ⟨w_EQUAL, ev_EQUAL⟩ := exa_v nl1
  have E_EQUAL := Exa.start ev_EQUAL nl1
  have S_EQUAL := Sta.start ev_EQUAL (Or.inr ⟨(hw _ (List.mem_of_getElem? (i := 2) rfl)), (hw _ (List.mem_of_getElem? (i := 3) rfl))⟩)
  obtain ⟨y_EQUAL, ey_EQUAL⟩ := exa_v nl2
  have Ey_EQUAL := Exa.start ey_EQUAL nl2
  have Fs_EQUAL := Fld.start ((fld_at ev_EQUAL).symm.trans ey_EQUAL)
  obtain ⟨r_EQUAL, er_EQUAL⟩ := arr_v nl3
  have Fv_EQUAL := Fld.start ((fld_at ey_EQUAL).symm.trans er_EQUAL)
  have Fc_EQUAL := own_fint ey_EQUAL nl5
  have B_EQUAL := own_bstart er_EQUAL nl3 nl4 nl6 (by decide)
  obtain ⟨w_NOT_EQUAL, ev_NOT_EQUAL⟩ := exa_v nl15
  have E_NOT_EQUAL := Exa.start ev_NOT_EQUAL nl15
  have S_NOT_EQUAL := Sta.start ev_NOT_EQUAL (Or.inr ⟨(hw _ (List.mem_of_getElem? (i := 2) rfl)), (hw _ (List.mem_of_getElem? (i := 58) rfl))⟩)
  obtain ⟨y_NOT_EQUAL, ey_NOT_EQUAL⟩ := exa_v nl24
  have Ey_NOT_EQUAL := Exa.start ey_NOT_EQUAL nl24
  have Fs_NOT_EQUAL := Fld.start ((fld_at ev_NOT_EQUAL).symm.trans ey_NOT_EQUAL)
  obtain ⟨r_NOT_EQUAL, er_NOT_EQUAL⟩ := arr_v nl25
  have Fv_NOT_EQUAL := Fld.start ((fld_at ey_NOT_EQUAL).symm.trans er_NOT_EQUAL)
  have Fc_NOT_EQUAL := own_fint ey_NOT_EQUAL nl27
  have B_NOT_EQUAL := own_bstart er_NOT_EQUAL nl25 nl26 nl28 (by decide)
  obtain ⟨w_LESS, ev_LESS⟩ := exa_v nl17
  have E_LESS := Exa.start ev_LESS nl17
  have S_LESS := Sta.start ev_LESS (Or.inr ⟨(hw _ (List.mem_of_getElem? (i := 2) rfl)), (hw _ (List.mem_of_getElem? (i := 60) rfl))⟩)
  obtain ⟨y_LESS, ey_LESS⟩ := exa_v nl18
  have Ey_LESS := Exa.start ey_LESS nl18
  have Fs_LESS := Fld.start ((fld_at ev_LESS).symm.trans ey_LESS)
  obtain ⟨r_LESS, er_LESS⟩ := arr_v nl19
  have Fv_LESS := Fld.start ((fld_at ey_LESS).symm.trans er_LESS)
  have Fc_LESS := own_fint ey_LESS nl21
  have B_LESS := own_bstart er_LESS nl19 nl20 nl22 (by decide)
  obtain ⟨w_LESS_OR_EQUAL, ev_LESS_OR_EQUAL⟩ := exa_v nl7
  have E_LESS_OR_EQUAL := Exa.start ev_LESS_OR_EQUAL nl7
  have S_LESS_OR_EQUAL := Sta.start ev_LESS_OR_EQUAL (Or.inr ⟨(hw _ (List.mem_of_getElem? (i := 2) rfl)), (hw _ (List.mem_of_getElem? (i := 56) rfl))⟩)
  obtain ⟨y_LESS_OR_EQUAL, ey_LESS_OR_EQUAL⟩ := exa_v nl8
  have Ey_LESS_OR_EQUAL := Exa.start ey_LESS_OR_EQUAL nl8
  have Fs_LESS_OR_EQUAL := Fld.start ((fld_at ev_LESS_OR_EQUAL).symm.trans ey_LESS_OR_EQUAL)
  obtain ⟨r_LESS_OR_EQUAL, er_LESS_OR_EQUAL⟩ := arr_v nl9
  have Fv_LESS_OR_EQUAL := Fld.start ((fld_at ey_LESS_OR_EQUAL).symm.trans er_LESS_OR_EQUAL)
  have Fc_LESS_OR_EQUAL := own_fint ey_LESS_OR_EQUAL nl11
  have B_LESS_OR_EQUAL := own_bstart er_LESS_OR_EQUAL nl9 nl10 nl12 (by decide)
  obtain ⟨w_GREATER, ev_GREATER⟩ := exa_v nl36
  have E_GREATER := Exa.start ev_GREATER nl36
  have S_GREATER := Sta.start ev_GREATER (Or.inr ⟨(hw _ (List.mem_of_getElem? (i := 2) rfl)), (hw _ (List.mem_of_getElem? (i := 65) rfl))⟩)
  obtain ⟨y_GREATER, ey_GREATER⟩ := exa_v nl37
  have Ey_GREATER := Exa.start ey_GREATER nl37
  have Fs_GREATER := Fld.start ((fld_at ev_GREATER).symm.trans ey_GREATER)
  obtain ⟨r_GREATER, er_GREATER⟩ := arr_v nl38
  have Fv_GREATER := Fld.start ((fld_at ey_GREATER).symm.trans er_GREATER)
  have Fc_GREATER := own_fint ey_GREATER nl40
  have B_GREATER := own_bstart er_GREATER nl38 nl39 nl41 (by decide)
  obtain ⟨w_GREATER_OR_EQUAL, ev_GREATER_OR_EQUAL⟩ := exa_v nl29
  have E_GREATER_OR_EQUAL := Exa.start ev_GREATER_OR_EQUAL nl29
  have S_GREATER_OR_EQUAL := Sta.start ev_GREATER_OR_EQUAL (Or.inr ⟨(hw _ (List.mem_of_getElem? (i := 2) rfl)), (hw _ (List.mem_of_getElem? (i := 63) rfl))⟩)
  obtain ⟨y_GREATER_OR_EQUAL, ey_GREATER_OR_EQUAL⟩ := exa_v nl30
  have Ey_GREATER_OR_EQUAL := Exa.start ey_GREATER_OR_EQUAL nl30
  have Fs_GREATER_OR_EQUAL := Fld.start ((fld_at ev_GREATER_OR_EQUAL).symm.trans ey_GREATER_OR_EQUAL)
  obtain ⟨r_GREATER_OR_EQUAL, er_GREATER_OR_EQUAL⟩ := arr_v nl31
  have Fv_GREATER_OR_EQUAL := Fld.start ((fld_at ey_GREATER_OR_EQUAL).symm.trans er_GREATER_OR_EQUAL)
  have Fc_GREATER_OR_EQUAL := own_fint ey_GREATER_OR_EQUAL nl33
  have B_GREATER_OR_EQUAL := own_bstart er_GREATER_OR_EQUAL nl31 nl32 nl34 (by decide)
  have ne_NOT_EQUAL_EQUAL : ¬ w_NOT_EQUAL = w_EQUAL := Fld.ne (own_fint ev_NOT_EQUAL nl16) (own_fint ev_EQUAL nl14) (by decide)
  have ne_LESS_EQUAL : ¬ w_LESS = w_EQUAL := Fld.ne (own_fint ev_LESS nl23) (own_fint ev_EQUAL nl14) (by decide)
  have ne_LESS_NOT_EQUAL : ¬ w_LESS = w_NOT_EQUAL := Fld.ne (own_fint ev_LESS nl23) (own_fint ev_NOT_EQUAL nl16) (by decide)
  have ne_LESS_OR_EQUAL_EQUAL : ¬ w_LESS_OR_EQUAL = w_EQUAL := Fld.ne (own_fint ev_LESS_OR_EQUAL nl13) (own_fint ev_EQUAL nl14) (by decide)
  have ne_LESS_OR_EQUAL_NOT_EQUAL : ¬ w_LESS_OR_EQUAL = w_NOT_EQUAL := Fld.ne (own_fint ev_LESS_OR_EQUAL nl13) (own_fint ev_NOT_EQUAL nl16) (by decide)
  have ne_GREATER_EQUAL : ¬ w_GREATER = w_EQUAL := Fld.ne (own_fint ev_GREATER nl42) (own_fint ev_EQUAL nl14) (by decide)
  have ne_GREATER_NOT_EQUAL : ¬ w_GREATER = w_NOT_EQUAL := Fld.ne (own_fint ev_GREATER nl42) (own_fint ev_NOT_EQUAL nl16) (by decide)
  have ne_GREATER_OR_EQUAL_EQUAL : ¬ w_GREATER_OR_EQUAL = w_EQUAL := Fld.ne (own_fint ev_GREATER_OR_EQUAL nl35) (own_fint ev_EQUAL nl14) (by decide)
  have ne_GREATER_OR_EQUAL_NOT_EQUAL : ¬ w_GREATER_OR_EQUAL = w_NOT_EQUAL := Fld.ne (own_fint ev_GREATER_OR_EQUAL nl35) (own_fint ev_NOT_EQUAL nl16) (by decide)
  obtain ⟨n, o, h1, h2, h3, _, L, rfl, ⟨rfl, N⟩, hq⟩ := rm0 l s _ hw tables_1 i0 w_COMPACT_STRINGS w_SIOOBE_FORMATTER w_EQUAL y_EQUAL r_EQUAL w_NOT_EQUAL y_NOT_EQUAL r_NOT_EQUAL w_LESS y_LESS r_LESS w_LESS_OR_EQUAL y_LESS_OR_EQUAL r_LESS_OR_EQUAL w_GREATER y_GREATER r_GREATER w_GREATER_OR_EQUAL y_GREATER_OR_EQUAL r_GREATER_OR_EQUAL s.heap s.heap.size (Nat.le_refl _) S_COMPACT_STRINGS S_SIOOBE_FORMATTER hr_w_SIOOBE_FORMATTER S_EQUAL E_EQUAL Fs_EQUAL Ey_EQUAL Fv_EQUAL Fc_EQUAL B_EQUAL S_NOT_EQUAL E_NOT_EQUAL Fs_NOT_EQUAL Ey_NOT_EQUAL Fv_NOT_EQUAL Fc_NOT_EQUAL B_NOT_EQUAL S_LESS E_LESS Fs_LESS Ey_LESS Fv_LESS Fc_LESS B_LESS S_LESS_OR_EQUAL E_LESS_OR_EQUAL Fs_LESS_OR_EQUAL Ey_LESS_OR_EQUAL Fv_LESS_OR_EQUAL Fc_LESS_OR_EQUAL B_LESS_OR_EQUAL S_GREATER E_GREATER Fs_GREATER Ey_GREATER Fv_GREATER Fc_GREATER B_GREATER S_GREATER_OR_EQUAL E_GREATER_OR_EQUAL Fs_GREATER_OR_EQUAL Ey_GREATER_OR_EQUAL Fv_GREATER_OR_EQUAL Fc_GREATER_OR_EQUAL B_GREATER_OR_EQUAL ne_NOT_EQUAL_EQUAL ne_LESS_EQUAL ne_LESS_NOT_EQUAL ne_LESS_OR_EQUAL_EQUAL ne_LESS_OR_EQUAL_NOT_EQUAL ne_GREATER_EQUAL ne_GREATER_NOT_EQUAL ne_GREATER_OR_EQUAL_EQUAL ne_GREATER_OR_EQUAL_NOT_EQUAL hcs p e ha hc hk s m _ below hf ((Spec.applies_iff_loose hf).mp happ).1 ⟨rfl, State.Warmed39.refl s, rfl⟩ trivial
  refine ⟨n, _, h1, h2, h3, hpost _ _ _ _ _ _ ⟨Cond.after_iff.mpr rfl, Cond.after_iff.mpr (eq_i res_at (Term.int_eval (1)) rfl), trivial⟩ ⟨hq.1, hq.2.1, (hq.2.2.sift fun y hy => Or.inr (N y hy)).mono (by decide) (by decide)⟩⟩
theorem main_1_1 : Claimed_1_1 := comes_1 fun _ _ _ _ _ _ h hF => ⟨h.1, hF⟩
theorem main_1_2 : Claimed_1_2 := comes_1 fun _ _ _ _ _ _ h hF => ⟨h.2.1, hF⟩
end Jvm.Pilot.@@N@@
namespace Jvm.Pilot.@@N@@
open Jvm Jvm.ClassFile Sem Op Lib Jvm.Free Jvm.Stand Jvm.Pilot.@@N@@.Jvm.D
/-! MADE BY PROGRAM (witnessworld.py) out of the Statement's table words and the real class files: 18 classes; the members and pool entries that the words name. The judged class is class 1, her method 1. -/
namespace start1
open Jvm.ClassFile
def u (s : String) : CpInfo := .utf8 (stringToUtf16 s)
/-- a pool by its gaps: so many unusable entries, then the entry; so many at the end -/
def gap : Nat → List CpInfo → List CpInfo
  | 0, r => r
  | n + 1, r => .unusable :: gap n r
def poolList (es : List (Nat × CpInfo)) (last : Nat) : List CpInfo := es.foldr (fun e r => gap e.1 (e.2 :: r)) (gap last [])
def pool (es : List (Nat × CpInfo)) (last : Nat) : Array CpInfo := ⟨poolList es last⟩
def fileOf (pool : Array CpInfo) (this : Nat) (attrs : Array Attribute := #[]) (ms : Array MethodInfo := #[]) (fl : Nat := 33) (sup : Nat := 0) (ifs : Array Nat := #[]) (fds : Array FieldInfo := #[]) : ClassFile where
  minorVersion := 0
  majorVersion := 65
  constantPool := pool
  accessFlags := fl
  thisClass := this
  superClass := sup
  interfaces := ifs
  fields := fds
  methods := ms
  attributes := attrs
def plain (name : String) (sup : Option ClassId) : Class where
  name := name
  kind := .ordinary
  loader := none
  accessFlags := 33
  super := sup
  interfaces := #[]
  cf := none
  fields := #[]
  methods := #[]
  instanceTypes := #[]
  staticTypes := #[]
  resolved := #[]
  callSites := []
  init := .initialized
  statics := none
  mirror := none

def pool0 : Array CpInfo := pool [(5, u "<init>"), (0, u "()V"), (1, .class_ 10), (1, u "java/lang/Object")] 113

def k0m0 : Method := { name := "<init>", desc := "()V", sig := { parameters := [], returnType := none }, accessFlags := 1, code := none }
/-- java/lang/Object -/
def k0 : Class := { plain "java/lang/Object" none with
  accessFlags := 33
  interfaces := #[]
  cf := some (fileOf pool0 8 #[] #[{ accessFlags := 1, nameIndex := 5, descriptorIndex := 6, attributes := #[] }] 33 0 #[] #[])
  fields := #[]
  methods := #[k0m0]
  instanceTypes := #[]
  staticTypes := #[]
  resolved := Array.replicate 124 none
  statics := none }

def pool1 : Array CpInfo := pool [(2, .class_ 4), (1, u "java/lang/Object"), (0, u "<init>"), (0, u "()V"), (0, .integer 2147483647), (0, .fieldref 9 10), (0, .class_ 11), (0, .nameAndType 12 13), (0, u "com/example/obligation/obligation/xpath/Operations$Comparator"), (0, u "EQUAL"), (0, u "Lcom/example/obligation/obligation/xpath/Operations$Comparator;"), (0, .fieldref 9 15), (0, .nameAndType 16 13), (0, u "NOT_EQUAL"), (0, .fieldref 9 18), (0, .nameAndType 19 13), (0, u "LESS"), (0, .fieldref 9 21), (0, .nameAndType 22 13), (0, u "LESS_OR_EQUAL"), (0, .fieldref 9 24), (0, .nameAndType 25 13), (0, u "GREATER"), (0, .fieldref 9 27), (0, .nameAndType 28 13), (0, u "GREATER_OR_EQUAL"), (0, .methodref 9 30), (0, .nameAndType 31 32), (0, u "symbol"), (0, u "()Ljava/lang/String;"), (0, .methodref 34 35), (0, .class_ 36), (0, .nameAndType 37 38), (0, u "java/lang/String"), (0, u "length"), (0, u "()I"), (0, .methodref 34 40), (0, .nameAndType 41 42), (0, u "charAt"), (0, u "(I)C"), (0, .methodref 9 44), (0, .nameAndType 45 46), (0, u "isEquality"), (0, u "()Z"), (0, .class_ 48), (0, u "com/example/obligation/obligation/xpath/ComparatorIsEqualityPinLaw"), (2, u "law"), (0, u "(I)Z")] 7

def k1m0 : Method := { name := "<init>", desc := "()V", sig := { parameters := [], returnType := none }, accessFlags := 2, code := none }
def k1c1 : Code := { maxStack := 2, maxLocals := 7, code := code, exceptionTable := #[], attributes := #[] }
def k1m1 : Method := { name := "law", desc := "(I)Z", sig := { parameters := [.int], returnType := some .boolean }, accessFlags := 9, code := some k1c1 }
/-- com/example/obligation/obligation/xpath/ComparatorIsEqualityPinLaw -/
def k1 : Class := { plain "com/example/obligation/obligation/xpath/ComparatorIsEqualityPinLaw" (some 0) with
  accessFlags := 49
  interfaces := #[]
  cf := some (fileOf pool1 47 #[] #[{ accessFlags := 2, nameIndex := 5, descriptorIndex := 6, attributes := #[] }, { accessFlags := 9, nameIndex := 51, descriptorIndex := 52, attributes := #[] }] 49 2 #[] #[])
  fields := #[]
  methods := #[k1m0, k1m1]
  instanceTypes := #[]
  staticTypes := #[]
  resolved := Array.replicate 60 none
  statics := none }

def pool2 : Array CpInfo := pool [(1, .class_ 2), (0, u "java/lang/constant/Constable"), (0, .class_ 4), (0, u "java/lang/Object")] 6

/-- java/lang/constant/Constable -/
def k2 : Class := { plain "java/lang/constant/Constable" (some 0) with
  accessFlags := 1537
  interfaces := #[]
  cf := some (fileOf pool2 1 #[] #[] 1537 3 #[] #[])
  fields := #[]
  methods := #[]
  instanceTypes := #[]
  staticTypes := #[]
  resolved := Array.replicate 11 none
  statics := none }

def pool3 : Array CpInfo := pool [(1, .class_ 2), (0, u "java/lang/Comparable"), (0, .class_ 4), (0, u "java/lang/Object")] 7

/-- java/lang/Comparable -/
def k3 : Class := { plain "java/lang/Comparable" (some 0) with
  accessFlags := 1537
  interfaces := #[]
  cf := some (fileOf pool3 1 #[] #[] 1537 3 #[] #[])
  fields := #[]
  methods := #[]
  instanceTypes := #[]
  staticTypes := #[]
  resolved := Array.replicate 12 none
  statics := none }

def pool4 : Array CpInfo := pool [(1, .class_ 2), (0, u "java/io/Serializable"), (0, .class_ 4), (0, u "java/lang/Object")] 2

/-- java/io/Serializable -/
def k4 : Class := { plain "java/io/Serializable" (some 0) with
  accessFlags := 1537
  interfaces := #[]
  cf := some (fileOf pool4 1 #[] #[] 1537 3 #[] #[])
  fields := #[]
  methods := #[]
  instanceTypes := #[]
  staticTypes := #[]
  resolved := Array.replicate 7 none
  statics := none }

def pool5 : Array CpInfo := pool [(2, .class_ 4), (1, u "java/lang/Enum"), (0, u "name"), (0, u "Ljava/lang/String;"), (2, u "ordinal"), (0, u "I"), (1, .class_ 14), (1, u "java/lang/Object"), (4, u "hash"), (86, .class_ 108), (1, u "java/lang/Enum$EnumDesc"), (2, .class_ 112), (0, u "java/lang/constant/Constable"), (0, .class_ 114), (0, u "java/lang/Comparable"), (0, .class_ 116), (0, u "java/io/Serializable")] 87

/-- java/lang/Enum -/
def k5 : Class := { plain "java/lang/Enum" (some 0) with
  accessFlags := 1057
  interfaces := #[2, 3, 4]
  cf := some (fileOf pool5 2 #[.nestMembers #[106]] #[] 1057 12 #[111, 113, 115] #[{ accessFlags := 18, nameIndex := 5, descriptorIndex := 6, attributes := #[] }, { accessFlags := 18, nameIndex := 9, descriptorIndex := 10, attributes := #[] }, { accessFlags := 2, nameIndex := 19, descriptorIndex := 10, attributes := #[] }])
  fields := #[{ name := "name", type := (.object "java/lang/String"), accessFlags := 18, slot := 0, constantValue := 0 }, { name := "ordinal", type := .int, accessFlags := 18, slot := 1, constantValue := 0 }, { name := "hash", type := .int, accessFlags := 2, slot := 2, constantValue := 0 }]
  methods := #[]
  instanceTypes := #[(.object "java/lang/String"), .int, .int]
  staticTypes := #[]
  resolved := Array.replicate 204 none
  statics := none }

def pool6 : Array CpInfo := pool [(1, .class_ 2), (0, u "com/example/obligation/obligation/xpath/Operations$Comparator"), (0, .fieldref 1 4), (0, .nameAndType 5 6), (0, u "EQUAL"), (0, u "Lcom/example/obligation/obligation/xpath/Operations$Comparator;"), (0, .fieldref 1 8), (0, .nameAndType 9 6), (0, u "NOT_EQUAL"), (2, u "LESS"), (2, u "LESS_OR_EQUAL"), (2, u "GREATER"), (2, u "GREATER_OR_EQUAL"), (2, u "$VALUES"), (0, u "[Lcom/example/obligation/obligation/xpath/Operations$Comparator;"), (6, .class_ 34), (1, u "java/lang/Enum"), (6, .fieldref 1 42), (0, .nameAndType 43 44), (0, u "symbol"), (0, u "Ljava/lang/String;"), (52, u "()Ljava/lang/String;"), (0, u "isEquality"), (0, u "()Z"), (11, .class_ 112), (0, u "com/example/obligation/obligation/xpath/Operations")] 2

def k6c0 : Code := { maxStack := 1, maxLocals := 1, code := prog_130_method_4_code, exceptionTable := #[], attributes := #[] }
def k6m0 : Method := { name := "symbol", desc := "()Ljava/lang/String;", sig := { parameters := [], returnType := some (.object "java/lang/String") }, accessFlags := 0, code := some k6c0 }
def k6c1 : Code := { maxStack := 2, maxLocals := 1, code := prog_130_method_5_code, exceptionTable := #[], attributes := #[] }
def k6m1 : Method := { name := "isEquality", desc := "()Z", sig := { parameters := [], returnType := some .boolean }, accessFlags := 0, code := some k6c1 }
/-- com/example/obligation/obligation/xpath/Operations$Comparator -/
def k6 : Class := { plain "com/example/obligation/obligation/xpath/Operations$Comparator" (some 5) with
  accessFlags := 16432
  interfaces := #[]
  cf := some (fileOf pool6 1 #[.nestHost 111] #[{ accessFlags := 0, nameIndex := 43, descriptorIndex := 97, attributes := #[] }, { accessFlags := 0, nameIndex := 98, descriptorIndex := 99, attributes := #[] }] 16432 32 #[] #[{ accessFlags := 16409, nameIndex := 5, descriptorIndex := 6, attributes := #[] }, { accessFlags := 16409, nameIndex := 9, descriptorIndex := 6, attributes := #[] }, { accessFlags := 16409, nameIndex := 12, descriptorIndex := 6, attributes := #[] }, { accessFlags := 16409, nameIndex := 15, descriptorIndex := 6, attributes := #[] }, { accessFlags := 16409, nameIndex := 18, descriptorIndex := 6, attributes := #[] }, { accessFlags := 16409, nameIndex := 21, descriptorIndex := 6, attributes := #[] }, { accessFlags := 18, nameIndex := 43, descriptorIndex := 44, attributes := #[] }, { accessFlags := 4122, nameIndex := 24, descriptorIndex := 25, attributes := #[] }])
  fields := #[{ name := "EQUAL", type := (.object "com/example/obligation/obligation/xpath/Operations$Comparator"), accessFlags := 16409, slot := 0, constantValue := 0 }, { name := "NOT_EQUAL", type := (.object "com/example/obligation/obligation/xpath/Operations$Comparator"), accessFlags := 16409, slot := 1, constantValue := 0 }, { name := "LESS", type := (.object "com/example/obligation/obligation/xpath/Operations$Comparator"), accessFlags := 16409, slot := 2, constantValue := 0 }, { name := "LESS_OR_EQUAL", type := (.object "com/example/obligation/obligation/xpath/Operations$Comparator"), accessFlags := 16409, slot := 3, constantValue := 0 }, { name := "GREATER", type := (.object "com/example/obligation/obligation/xpath/Operations$Comparator"), accessFlags := 16409, slot := 4, constantValue := 0 }, { name := "GREATER_OR_EQUAL", type := (.object "com/example/obligation/obligation/xpath/Operations$Comparator"), accessFlags := 16409, slot := 5, constantValue := 0 }, { name := "symbol", type := (.object "java/lang/String"), accessFlags := 18, slot := 3, constantValue := 0 }, { name := "$VALUES", type := (.array (.object "com/example/obligation/obligation/xpath/Operations$Comparator")), accessFlags := 4122, slot := 6, constantValue := 0 }]
  methods := #[k6m0, k6m1]
  instanceTypes := #[(.object "java/lang/String"), .int, .int, (.object "java/lang/String")]
  staticTypes := #[(.object "com/example/obligation/obligation/xpath/Operations$Comparator"), (.object "com/example/obligation/obligation/xpath/Operations$Comparator"), (.object "com/example/obligation/obligation/xpath/Operations$Comparator"), (.object "com/example/obligation/obligation/xpath/Operations$Comparator"), (.object "com/example/obligation/obligation/xpath/Operations$Comparator"), (.object "com/example/obligation/obligation/xpath/Operations$Comparator"), (.array (.object "com/example/obligation/obligation/xpath/Operations$Comparator"))]
  resolved := Array.replicate 115 none
  statics := some 0 }

def pool7 : Array CpInfo := pool [(2, .class_ 4), (1, u "java/lang/CharSequence"), (42, .class_ 48), (0, u "java/lang/CharSequence$1CodePointIterator"), (10, .class_ 60), (0, u "java/lang/CharSequence$1CharIterator"), (5, .class_ 67), (0, u "java/lang/Object")] 63

/-- java/lang/CharSequence -/
def k7 : Class := { plain "java/lang/CharSequence" (some 0) with
  accessFlags := 1537
  interfaces := #[]
  cf := some (fileOf pool7 2 #[.nestMembers #[47, 59]] #[] 1537 66 #[] #[])
  fields := #[]
  methods := #[]
  instanceTypes := #[]
  staticTypes := #[]
  resolved := Array.replicate 131 none
  statics := none }

def pool8 : Array CpInfo := pool [(1, .class_ 2), (0, u "java/lang/constant/ConstantDesc"), (0, .class_ 4), (0, u "java/lang/Object")] 32

/-- java/lang/constant/ConstantDesc -/
def k8 : Class := { plain "java/lang/constant/ConstantDesc" (some 0) with
  accessFlags := 1537
  interfaces := #[]
  cf := some (fileOf pool8 1 #[] #[] 1537 3 #[] #[])
  fields := #[]
  methods := #[]
  instanceTypes := #[]
  staticTypes := #[]
  resolved := Array.replicate 37 none
  statics := none }

def pool9 : Array CpInfo := pool [(2, .class_ 4), (1, u "java/lang/Object"), (0, u "<init>"), (0, u "()V"), (2, .fieldref 10 11), (0, .class_ 12), (0, .nameAndType 13 14), (0, u "java/lang/String"), (0, u "value"), (0, u "[B"), (0, .fieldref 10 16), (0, .nameAndType 17 18), (0, u "coder"), (0, u "B"), (2, u "hash"), (0, u "I"), (2, u "hashIsZero"), (0, u "Z"), (11, .fieldref 10 39), (0, .nameAndType 40 26), (0, u "COMPACT_STRINGS"), (66, .class_ 109), (1, u "java/lang/StringLatin1"), (32, u "()Z"), (191, u "()I"), (0, .methodref 10 336), (0, .nameAndType 17 337), (0, u "()B"), (25, u "([BI)C"), (27, u "(II)V"), (35, u "(I)C"), (64, .methodref 10 493), (0, .nameAndType 494 142), (0, u "isLatin1"), (0, .methodref 107 496), (0, .nameAndType 497 363), (0, u "charAt"), (3, u "checkIndex"), (5, u "length"), (67, .class_ 576), (0, u "java/lang/CharSequence"), (22, u "CASE_INSENSITIVE_ORDER"), (0, u "Ljava/util/Comparator;"), (452, .fieldref 1054 1055), (0, .class_ 1056), (0, .nameAndType 1057 1058), (0, u "jdk/internal/util/Preconditions"), (0, u "SIOOBE_FORMATTER"), (0, u "Ljava/util/function/BiFunction;"), (0, .methodref 1054 1060), (0, .nameAndType 501 1061), (0, u "(IILjava/util/function/BiFunction;)I"), (39, u "serialPersistentFields"), (0, u "[Ljava/io/ObjectStreamField;"), (0, .class_ 1104), (0, u "java/lang/String$CaseInsensitiveComparator"), (1, .class_ 1107), (0, u "java/io/Serializable"), (0, .class_ 1109), (0, u "java/lang/Comparable"), (0, .class_ 1111), (0, u "java/lang/constant/Constable"), (0, .class_ 1113), (0, u "java/lang/constant/ConstantDesc"), (2, u "serialVersionUID"), (0, u "J"), (3, u "REPL"), (0, u "C"), (2, u "LATIN1"), (1, u "UTF16")] 323

def k9m0 : Method := { name := "<init>", desc := "()V", sig := { parameters := [], returnType := none }, accessFlags := 1, code := none }
def k9c1 : Code := { maxStack := 2, maxLocals := 1, code := jdk_42_method_54_code, exceptionTable := #[], attributes := #[] }
def k9m1 : Method := { name := "length", desc := "()I", sig := { parameters := [], returnType := some .int }, accessFlags := 1, code := some k9c1 }
def k9c2 : Code := { maxStack := 2, maxLocals := 2, code := jdk_42_method_56_code, exceptionTable := #[], attributes := #[] }
def k9m2 : Method := { name := "charAt", desc := "(I)C", sig := { parameters := [.int], returnType := some .char }, accessFlags := 1, code := some k9c2 }
def k9c3 : Code := { maxStack := 1, maxLocals := 1, code := jdk_42_method_152_code, exceptionTable := #[], attributes := #[] }
def k9m3 : Method := { name := "coder", desc := "()B", sig := { parameters := [], returnType := some .byte }, accessFlags := 0, code := some k9c3 }
def k9c4 : Code := { maxStack := 1, maxLocals := 1, code := jdk_42_method_154_code, exceptionTable := #[], attributes := #[] }
def k9m4 : Method := { name := "isLatin1", desc := "()Z", sig := { parameters := [], returnType := some .boolean }, accessFlags := 0, code := some k9c4 }
def k9c5 : Code := { maxStack := 3, maxLocals := 2, code := jdk_42_method_155_code, exceptionTable := #[], attributes := #[] }
def k9m5 : Method := { name := "checkIndex", desc := "(II)V", sig := { parameters := [.int, .int], returnType := none }, accessFlags := 8, code := some k9c5 }
/-- java/lang/String -/
def k9 : Class := { plain "java/lang/String" (some 0) with
  accessFlags := 49
  interfaces := #[4, 3, 7, 2, 8]
  cf := some (fileOf pool9 10 #[.nestMembers #[1103]] #[{ accessFlags := 1, nameIndex := 5, descriptorIndex := 6, attributes := #[] }, { accessFlags := 1, nameIndex := 507, descriptorIndex := 334, attributes := #[] }, { accessFlags := 1, nameIndex := 497, descriptorIndex := 427, attributes := #[] }, { accessFlags := 0, nameIndex := 17, descriptorIndex := 337, attributes := #[] }, { accessFlags := 0, nameIndex := 494, descriptorIndex := 142, attributes := #[] }, { accessFlags := 8, nameIndex := 501, descriptorIndex := 391, attributes := #[] }] 49 2 #[1106, 1108, 575, 1110, 1112] #[{ accessFlags := 18, nameIndex := 13, descriptorIndex := 14, attributes := #[] }, { accessFlags := 18, nameIndex := 17, descriptorIndex := 18, attributes := #[] }, { accessFlags := 2, nameIndex := 21, descriptorIndex := 22, attributes := #[] }, { accessFlags := 2, nameIndex := 25, descriptorIndex := 26, attributes := #[] }, { accessFlags := 26, nameIndex := 1116, descriptorIndex := 1117, attributes := #[] }, { accessFlags := 24, nameIndex := 40, descriptorIndex := 26, attributes := #[] }, { accessFlags := 26, nameIndex := 1101, descriptorIndex := 1102, attributes := #[] }, { accessFlags := 26, nameIndex := 1121, descriptorIndex := 1122, attributes := #[] }, { accessFlags := 25, nameIndex := 599, descriptorIndex := 600, attributes := #[] }, { accessFlags := 24, nameIndex := 1125, descriptorIndex := 18, attributes := #[] }, { accessFlags := 24, nameIndex := 1127, descriptorIndex := 18, attributes := #[] }])
  fields := #[{ name := "value", type := (.array .byte), accessFlags := 18, slot := 0, constantValue := 0 }, { name := "coder", type := .byte, accessFlags := 18, slot := 1, constantValue := 0 }, { name := "hash", type := .int, accessFlags := 2, slot := 2, constantValue := 0 }, { name := "hashIsZero", type := .boolean, accessFlags := 2, slot := 3, constantValue := 0 }, { name := "serialVersionUID", type := .long, accessFlags := 26, slot := 0, constantValue := 0 }, { name := "COMPACT_STRINGS", type := .boolean, accessFlags := 24, slot := 1, constantValue := 0 }, { name := "serialPersistentFields", type := (.array (.object "java/io/ObjectStreamField")), accessFlags := 26, slot := 2, constantValue := 0 }, { name := "REPL", type := .char, accessFlags := 26, slot := 3, constantValue := 0 }, { name := "CASE_INSENSITIVE_ORDER", type := (.object "java/util/Comparator"), accessFlags := 25, slot := 4, constantValue := 0 }, { name := "LATIN1", type := .byte, accessFlags := 24, slot := 5, constantValue := 0 }, { name := "UTF16", type := .byte, accessFlags := 24, slot := 6, constantValue := 0 }]
  methods := #[k9m0, k9m1, k9m2, k9m3, k9m4, k9m5]
  instanceTypes := #[(.array .byte), .byte, .int, .boolean]
  staticTypes := #[.long, .boolean, (.array (.object "java/io/ObjectStreamField")), .char, (.object "java/util/Comparator"), .byte, .byte]
  resolved := Array.replicate 1451 none
  statics := some 1 }

def pool10 : Array CpInfo := pool [(1, .class_ 2), (0, u "java/lang/String"), (1, .class_ 6), (1, u "java/lang/Object"), (0, u "<init>"), (0, u "()V"), (0, .methodref 1 10), (0, .nameAndType 11 12), (0, u "checkIndex"), (0, u "(II)V"), (1, .class_ 16), (1, u "java/lang/StringLatin1"), (36, u "([BI)C"), (67, u "$assertionsDisabled"), (0, u "Z"), (98, .class_ 223), (1, u "java/lang/StringLatin1$LinesSpliterator"), (28, u "charAt"), (137, .class_ 391), (0, u "java/lang/StringLatin1$CharsSpliterator")] 3

def k10m0 : Method := { name := "<init>", desc := "()V", sig := { parameters := [], returnType := none }, accessFlags := 0, code := none }
def k10c1 : Code := { maxStack := 2, maxLocals := 2, code := jdk_43_method_2_code, exceptionTable := #[], attributes := #[] }
def k10m1 : Method := { name := "charAt", desc := "([BI)C", sig := { parameters := [(.array .byte), .int], returnType := some .char }, accessFlags := 9, code := some k10c1 }
/-- java/lang/StringLatin1 -/
def k10 : Class := { plain "java/lang/StringLatin1" (some 0) with
  accessFlags := 48
  interfaces := #[]
  cf := some (fileOf pool10 14 #[.nestMembers #[390, 221]] #[{ accessFlags := 0, nameIndex := 7, descriptorIndex := 8, attributes := #[] }, { accessFlags := 9, nameIndex := 252, descriptorIndex := 53, attributes := #[] }] 48 4 #[] #[{ accessFlags := 4120, nameIndex := 121, descriptorIndex := 122, attributes := #[] }])
  fields := #[{ name := "$assertionsDisabled", type := .boolean, accessFlags := 4120, slot := 0, constantValue := 0 }]
  methods := #[k10m0, k10m1]
  instanceTypes := #[]
  staticTypes := #[.boolean]
  resolved := Array.replicate 395 none
  statics := none }

def pool11 : Array CpInfo := pool [(2, .class_ 4), (1, u "java/lang/Object"), (0, u "<init>"), (0, u "()V"), (17, .class_ 26), (1, u "jdk/internal/util/Preconditions"), (6, u "checkIndex"), (21, .class_ 56), (0, u "jdk/internal/util/Preconditions$4"), (57, .class_ 115), (0, u "jdk/internal/util/Preconditions$1"), (7, u "SIOOBE_FORMATTER"), (0, u "Ljava/util/function/BiFunction;"), (0, .class_ 126), (0, u "jdk/internal/util/Preconditions$2"), (3, u "AIOOBE_FORMATTER"), (0, .class_ 132), (0, u "jdk/internal/util/Preconditions$3"), (3, u "IOOBE_FORMATTER"), (41, u "(IILjava/util/function/BiFunction;)I")] 15

def k11m0 : Method := { name := "<init>", desc := "()V", sig := { parameters := [], returnType := none }, accessFlags := 1, code := none }
def k11c1 : Code := { maxStack := 3, maxLocals := 3, code := jdk_41_method_11_code, exceptionTable := #[], attributes := #[] }
def k11m1 : Method := { name := "checkIndex", desc := "(IILjava/util/function/BiFunction;)I", sig := { parameters := [.int, .int, (.object "java/util/function/BiFunction")], returnType := some .int }, accessFlags := 9, code := some k11c1 }
/-- jdk/internal/util/Preconditions -/
def k11 : Class := { plain "jdk/internal/util/Preconditions" (some 0) with
  accessFlags := 33
  interfaces := #[]
  cf := some (fileOf pool11 24 #[.nestMembers #[55, 131, 125, 114]] #[{ accessFlags := 1, nameIndex := 5, descriptorIndex := 6, attributes := #[] }, { accessFlags := 9, nameIndex := 33, descriptorIndex := 178, attributes := #[] }] 33 2 #[] #[{ accessFlags := 25, nameIndex := 123, descriptorIndex := 124, attributes := #[] }, { accessFlags := 25, nameIndex := 130, descriptorIndex := 124, attributes := #[] }, { accessFlags := 25, nameIndex := 136, descriptorIndex := 124, attributes := #[] }])
  fields := #[{ name := "SIOOBE_FORMATTER", type := (.object "java/util/function/BiFunction"), accessFlags := 25, slot := 0, constantValue := 0 }, { name := "AIOOBE_FORMATTER", type := (.object "java/util/function/BiFunction"), accessFlags := 25, slot := 1, constantValue := 0 }, { name := "IOOBE_FORMATTER", type := (.object "java/util/function/BiFunction"), accessFlags := 25, slot := 2, constantValue := 0 }]
  methods := #[k11m0, k11m1]
  instanceTypes := #[]
  staticTypes := #[(.object "java/util/function/BiFunction"), (.object "java/util/function/BiFunction"), (.object "java/util/function/BiFunction")]
  resolved := Array.replicate 194 none
  statics := some 2 }

def pool12 : Array CpInfo := pool [(9, u "<init>"), (6, .class_ 18), (1, u "java/lang/Object"), (0, u "()V"), (1, .class_ 23), (1, u "jdk/internal/util/ArraysSupport"), (0, u "LOG2_ARRAY_LONG_INDEX_SCALE"), (0, u "I"), (2, u "U"), (0, u "Ljdk/internal/misc/Unsafe;"), (8, u "BIG_ENDIAN"), (0, u "Z"), (8, u "LOG2_BYTE_BIT_SIZE"), (4, u "LOG2_ARRAY_INT_INDEX_SCALE"), (54, u "JLA"), (0, u "Ljdk/internal/access/JavaLangAccess;"), (11, u "LOG2_ARRAY_BOOLEAN_INDEX_SCALE"), (9, u "LOG2_ARRAY_BYTE_INDEX_SCALE"), (5, u "LOG2_ARRAY_CHAR_INDEX_SCALE"), (5, u "LOG2_ARRAY_SHORT_INDEX_SCALE"), (18, u "LOG2_ARRAY_FLOAT_INDEX_SCALE"), (24, u "LOG2_ARRAY_DOUBLE_INDEX_SCALE"), (89, u "T_BOOLEAN"), (2, u "T_CHAR"), (1, u "T_FLOAT"), (1, u "T_DOUBLE"), (1, u "T_BYTE"), (1, u "T_SHORT"), (1, u "T_INT"), (1, u "T_LONG"), (1, u "SOFT_MAX_ARRAY_LENGTH")] 83

def k12m0 : Method := { name := "<init>", desc := "()V", sig := { parameters := [], returnType := none }, accessFlags := 2, code := none }
/-- jdk/internal/util/ArraysSupport -/
def k12 : Class := { plain "jdk/internal/util/ArraysSupport" (some 0) with
  accessFlags := 33
  interfaces := #[]
  cf := some (fileOf pool12 21 #[] #[{ accessFlags := 2, nameIndex := 9, descriptorIndex := 19, attributes := #[] }] 33 16 #[] #[{ accessFlags := 24, nameIndex := 28, descriptorIndex := 29, attributes := #[] }, { accessFlags := 26, nameIndex := 38, descriptorIndex := 39, attributes := #[] }, { accessFlags := 25, nameIndex := 121, descriptorIndex := 25, attributes := #[] }, { accessFlags := 25, nameIndex := 131, descriptorIndex := 25, attributes := #[] }, { accessFlags := 25, nameIndex := 137, descriptorIndex := 25, attributes := #[] }, { accessFlags := 25, nameIndex := 143, descriptorIndex := 25, attributes := #[] }, { accessFlags := 25, nameIndex := 53, descriptorIndex := 25, attributes := #[] }, { accessFlags := 25, nameIndex := 24, descriptorIndex := 25, attributes := #[] }, { accessFlags := 25, nameIndex := 162, descriptorIndex := 25, attributes := #[] }, { accessFlags := 25, nameIndex := 187, descriptorIndex := 25, attributes := #[] }, { accessFlags := 26, nameIndex := 48, descriptorIndex := 25, attributes := #[] }, { accessFlags := 25, nameIndex := 277, descriptorIndex := 25, attributes := #[] }, { accessFlags := 25, nameIndex := 280, descriptorIndex := 25, attributes := #[] }, { accessFlags := 25, nameIndex := 282, descriptorIndex := 25, attributes := #[] }, { accessFlags := 25, nameIndex := 284, descriptorIndex := 25, attributes := #[] }, { accessFlags := 25, nameIndex := 286, descriptorIndex := 25, attributes := #[] }, { accessFlags := 25, nameIndex := 288, descriptorIndex := 25, attributes := #[] }, { accessFlags := 25, nameIndex := 290, descriptorIndex := 25, attributes := #[] }, { accessFlags := 25, nameIndex := 292, descriptorIndex := 25, attributes := #[] }, { accessFlags := 26, nameIndex := 108, descriptorIndex := 109, attributes := #[] }, { accessFlags := 25, nameIndex := 294, descriptorIndex := 25, attributes := #[] }])
  fields := #[{ name := "U", type := (.object "jdk/internal/misc/Unsafe"), accessFlags := 24, slot := 0, constantValue := 0 }, { name := "BIG_ENDIAN", type := .boolean, accessFlags := 26, slot := 1, constantValue := 0 }, { name := "LOG2_ARRAY_BOOLEAN_INDEX_SCALE", type := .int, accessFlags := 25, slot := 2, constantValue := 0 }, { name := "LOG2_ARRAY_BYTE_INDEX_SCALE", type := .int, accessFlags := 25, slot := 3, constantValue := 0 }, { name := "LOG2_ARRAY_CHAR_INDEX_SCALE", type := .int, accessFlags := 25, slot := 4, constantValue := 0 }, { name := "LOG2_ARRAY_SHORT_INDEX_SCALE", type := .int, accessFlags := 25, slot := 5, constantValue := 0 }, { name := "LOG2_ARRAY_INT_INDEX_SCALE", type := .int, accessFlags := 25, slot := 6, constantValue := 0 }, { name := "LOG2_ARRAY_LONG_INDEX_SCALE", type := .int, accessFlags := 25, slot := 7, constantValue := 0 }, { name := "LOG2_ARRAY_FLOAT_INDEX_SCALE", type := .int, accessFlags := 25, slot := 8, constantValue := 0 }, { name := "LOG2_ARRAY_DOUBLE_INDEX_SCALE", type := .int, accessFlags := 25, slot := 9, constantValue := 0 }, { name := "LOG2_BYTE_BIT_SIZE", type := .int, accessFlags := 26, slot := 10, constantValue := 0 }, { name := "T_BOOLEAN", type := .int, accessFlags := 25, slot := 11, constantValue := 0 }, { name := "T_CHAR", type := .int, accessFlags := 25, slot := 12, constantValue := 0 }, { name := "T_FLOAT", type := .int, accessFlags := 25, slot := 13, constantValue := 0 }, { name := "T_DOUBLE", type := .int, accessFlags := 25, slot := 14, constantValue := 0 }, { name := "T_BYTE", type := .int, accessFlags := 25, slot := 15, constantValue := 0 }, { name := "T_SHORT", type := .int, accessFlags := 25, slot := 16, constantValue := 0 }, { name := "T_INT", type := .int, accessFlags := 25, slot := 17, constantValue := 0 }, { name := "T_LONG", type := .int, accessFlags := 25, slot := 18, constantValue := 0 }, { name := "JLA", type := (.object "jdk/internal/access/JavaLangAccess"), accessFlags := 26, slot := 19, constantValue := 0 }, { name := "SOFT_MAX_ARRAY_LENGTH", type := .int, accessFlags := 25, slot := 20, constantValue := 0 }]
  methods := #[k12m0]
  instanceTypes := #[]
  staticTypes := #[(.object "jdk/internal/misc/Unsafe"), .boolean, .int, .int, .int, .int, .int, .int, .int, .int, .int, .int, .int, .int, .int, .int, .int, .int, .int, (.object "jdk/internal/access/JavaLangAccess"), .int]
  resolved := Array.replicate 378 none
  statics := none }

def pool13 : Array CpInfo := pool [(1, u "java/lang/Cloneable"), (0, .class_ 1), (0, u "java/lang/Object"), (0, .class_ 3)] 3

/-- java/lang/Cloneable -/
def k13 : Class := { plain "java/lang/Cloneable" (some 0) with
  accessFlags := 1537
  interfaces := #[]
  cf := some (fileOf pool13 2 #[] #[] 1537 4 #[] #[])
  fields := #[]
  methods := #[]
  instanceTypes := #[]
  staticTypes := #[]
  resolved := Array.replicate 8 none
  statics := none }

/-- the primitive byte -/
def k14 : Class := { plain "byte" none with kind := .primitive 'B', accessFlags := 0x411 }
/-- [B -/
def k15 : Class := { plain "[B" (some 0) with kind := .array 14 .byte, interfaces := #[13, 4], accessFlags := 1041 }

/-- the primitive int -/
def k16 : Class := { plain "int" none with kind := .primitive 'I', accessFlags := 0x411 }
/-- [I -/
def k17 : Class := { plain "[I" (some 0) with kind := .array 16 .int, interfaces := #[13, 4], accessFlags := 1041 }

def heap : Heap := #[{ cls := 6, slots := #[.ref 15, .ref 16, .ref 17, .ref 18, .ref 19, .ref 20, .null], vm := .statics 6 },
  { cls := 9, slots := #[.long 0, .int 1, .null, .int 0, .null, .int 0, .int 0], vm := .statics 9 },
  { cls := 11, slots := #[.null, .null, .null], vm := .statics 11 },
  { cls := 15, slots := #[.int 61], vm := .none },
  { cls := 15, slots := #[.int 33, .int 61], vm := .none },
  { cls := 15, slots := #[.int 60], vm := .none },
  { cls := 15, slots := #[.int 60, .int 61], vm := .none },
  { cls := 15, slots := #[.int 62], vm := .none },
  { cls := 15, slots := #[.int 62, .int 61], vm := .none },
  { cls := 9, slots := #[.ref 3, .int 0, .int 0, .int 0], vm := .none },
  { cls := 9, slots := #[.ref 4, .int 0, .int 0, .int 0], vm := .none },
  { cls := 9, slots := #[.ref 5, .int 0, .int 0, .int 0], vm := .none },
  { cls := 9, slots := #[.ref 6, .int 0, .int 0, .int 0], vm := .none },
  { cls := 9, slots := #[.ref 7, .int 0, .int 0, .int 0], vm := .none },
  { cls := 9, slots := #[.ref 8, .int 0, .int 0, .int 0], vm := .none },
  { cls := 6, slots := #[.null, .int 0, .int 0, .ref 9], vm := .none },
  { cls := 6, slots := #[.null, .int 1, .int 0, .ref 10], vm := .none },
  { cls := 6, slots := #[.null, .int 2, .int 0, .ref 11], vm := .none },
  { cls := 6, slots := #[.null, .int 3, .int 0, .ref 12], vm := .none },
  { cls := 6, slots := #[.null, .int 4, .int 0, .ref 13], vm := .none },
  { cls := 6, slots := #[.null, .int 5, .int 0, .ref 14], vm := .none }]
def classes : Array Class := #[k0, k1, k2, k3, k4, k5, k6, k7, k8, k9, k10, k11, k12, k13, k14, k15, k16, k17]
def interned : List (Array UInt16 × Addr) := []
def slotsUsed : Nat := 74
def theMethod : MethodId := ⟨1, 1⟩
def args0 : Array Value := #[.int 1]
def aboutOver (below : List Frame) : State where
  vm := { classes := classes, interned := interned.toArray }
  heap := heap
  slotsUsed := slotsUsed
  threads := #[{ frames := .invoking theMethod args0 :: below }]
def below0 : List Frame := [.native { method := ⟨0, 0⟩, args := #[] }]
def about1 : State := aboutOver below0
def p0 : Program := .bare "" "" ""
def e0 : Env := launch0.env 0 0 0
theorem w_frames : about1.frames = Frame.invoking theMethod args0 :: below0 := rfl
set_option maxRecDepth 65536 in
theorem w_args : argsFit about1.vm theMethod args0 = true := by decide +kernel
set_option maxRecDepth 65536 in
theorem w_heap : heapFits about1 = true := by decide +kernel
set_option maxRecDepth 65536 in
theorem w_runnable : about1.curStatus? = some .runnable := by decide +kernel
set_option maxRecDepth 65536 in
theorem w_alone : about1.alone = true := by decide +kernel
set_option maxRecDepth 65536 in
theorem w_named : about1.methodNamed? x = some theMethod := by decide +kernel
set_option maxRecDepth 65536 in
theorem w_hears : about1.hears theMethod below0 = true := by decide +kernel
set_option maxRecDepth 65536 in
theorem w_ripe : about1.ripe theMethod args0 below0 = true := by decide +kernel
theorem w_running : about1.status = .running := rfl
set_option maxRecDepth 65536 in
theorem w_room : about1.hasRoom e0.platform room_1 = true :=
  launch0.hasRoom_least _ room_1 (by decide +kernel) (by decide +kernel) (by decide +kernel) (by decide +kernel) (by decide +kernel) (by decide +kernel)
theorem allAtoms_all (ts : List Jvm.Cond) (a : Array Jvm.Value) (st : Jvm.State) : (allAtoms ts).before a st = ts.all (fun c => c.before a st) := by
  induction ts with
  | nil => rfl
  | cons c t ih =>
    show (Jvm.Cond.and c (allAtoms t)).before a st = _
    rw [Jvm.Cond.before_and, ih, List.all_cons]
def words1 : List Jvm.Cond := Jvm.Cond.code x code maxLocals ret :: tables_1
/-- a 'code' word, met by the world's own term for the bytes: nothing is compared byte by byte -/
theorem code_word {y : MethodName} {bytes : ByteArray} {mx : Nat} {rt : Option FieldType} {a : Array Value} {s : State} {m : MethodId} {meth : Method} {c : Code} (h1 : s.methodNamed? y = some m) (h2 : s.vm.method? m = some meth) (h3 : meth.code = some c) (h4 : c.code = bytes)
    (h5 : (c.maxLocals == mx && c.exceptionTable.isEmpty && decide (c.maxStack ≤ mostOperands) && decide (meth.sig.returnType = rt) && !meth.locks && decide (parseMethodDescriptor y.desc = some meth.sig)) = true) : (Jvm.Cond.code y bytes mx rt).before a s = true := by
  simp only [Bool.and_eq_true, beq_iff_eq, Bool.not_eq_true', decide_eq_true_eq] at h5
  obtain ⟨⟨⟨⟨⟨g1, g2⟩, g3⟩, g4⟩, g5⟩, g6⟩ := h5
  simp [Cond.before, Cond.holds, Cond.value, h1, h2, h3, h4, g1, g2, g3, g4, g5, g6]
def isCode : Jvm.Cond → Bool
  | .code _ _ _ _ => true
  | _ => false
theorem all_split {L : List Jvm.Cond} {P : Jvm.Cond → Bool} (h1 : L.all (fun c => isCode c || P c) = true) (h2 : ∀ c ∈ L.filter isCode, P c = true) : L.all P = true := by
  refine List.all_eq_true.mpr fun c hc => ?_
  have h := List.all_eq_true.mp h1 c hc
  rcases Bool.eq_false_or_eq_true (isCode c) with hi | hi
  · exact h2 c (List.mem_filter.mpr ⟨hc, hi⟩)
  · simpa [hi] using h
set_option maxRecDepth 65536 in
theorem w_c0 : (Jvm.Cond.code x code maxLocals ret).before args0 about1 = true := code_word (m := ⟨1, 1⟩) (meth := k1m1) (c := k1c1) (by decide +kernel) rfl rfl rfl (by decide +kernel)
set_option maxRecDepth 65536 in
theorem w_c1 : (Jvm.Cond.code ({ cls := "com/example/obligation/obligation/xpath/Operations$Comparator", name := "symbol", desc := "()Ljava/lang/String;" } : Jvm.MethodName) prog_130_method_4_code (1 : Nat) (Option.some (Jvm.ClassFile.FieldType.object "java/lang/String"))).before args0 about1 = true := code_word (m := ⟨6, 0⟩) (meth := k6m0) (c := k6c0) (by decide +kernel) rfl rfl rfl (by decide +kernel)
set_option maxRecDepth 65536 in
theorem w_c2 : (Jvm.Cond.code ({ cls := "java/lang/String", name := "length", desc := "()I" } : Jvm.MethodName) jdk_42_method_54_code (1 : Nat) (Option.some Jvm.ClassFile.FieldType.int)).before args0 about1 = true := code_word (m := ⟨9, 1⟩) (meth := k9m1) (c := k9c1) (by decide +kernel) rfl rfl rfl (by decide +kernel)
set_option maxRecDepth 65536 in
theorem w_c3 : (Jvm.Cond.code ({ cls := "java/lang/String", name := "coder", desc := "()B" } : Jvm.MethodName) jdk_42_method_152_code (1 : Nat) (Option.some Jvm.ClassFile.FieldType.byte)).before args0 about1 = true := code_word (m := ⟨9, 3⟩) (meth := k9m3) (c := k9c3) (by decide +kernel) rfl rfl rfl (by decide +kernel)
set_option maxRecDepth 65536 in
theorem w_c4 : (Jvm.Cond.code ({ cls := "java/lang/String", name := "charAt", desc := "(I)C" } : Jvm.MethodName) jdk_42_method_56_code (2 : Nat) (Option.some Jvm.ClassFile.FieldType.char)).before args0 about1 = true := code_word (m := ⟨9, 2⟩) (meth := k9m2) (c := k9c2) (by decide +kernel) rfl rfl rfl (by decide +kernel)
set_option maxRecDepth 65536 in
theorem w_c5 : (Jvm.Cond.code ({ cls := "java/lang/String", name := "isLatin1", desc := "()Z" } : Jvm.MethodName) jdk_42_method_154_code (1 : Nat) (Option.some Jvm.ClassFile.FieldType.boolean)).before args0 about1 = true := code_word (m := ⟨9, 4⟩) (meth := k9m4) (c := k9c4) (by decide +kernel) rfl rfl rfl (by decide +kernel)
set_option maxRecDepth 65536 in
theorem w_c6 : (Jvm.Cond.code ({ cls := "java/lang/StringLatin1", name := "charAt", desc := "([BI)C" } : Jvm.MethodName) jdk_43_method_2_code (2 : Nat) (Option.some Jvm.ClassFile.FieldType.char)).before args0 about1 = true := code_word (m := ⟨10, 1⟩) (meth := k10m1) (c := k10c1) (by decide +kernel) rfl rfl rfl (by decide +kernel)
set_option maxRecDepth 65536 in
theorem w_c7 : (Jvm.Cond.code ({ cls := "java/lang/String", name := "checkIndex", desc := "(II)V" } : Jvm.MethodName) jdk_42_method_155_code (2 : Nat) (Option.none : Option Jvm.ClassFile.FieldType)).before args0 about1 = true := code_word (m := ⟨9, 5⟩) (meth := k9m5) (c := k9c5) (by decide +kernel) rfl rfl rfl (by decide +kernel)
set_option maxRecDepth 65536 in
theorem w_c8 : (Jvm.Cond.code ({ cls := "jdk/internal/util/Preconditions", name := "checkIndex", desc := "(IILjava/util/function/BiFunction;)I" } : Jvm.MethodName) jdk_41_method_11_code (3 : Nat) (Option.some Jvm.ClassFile.FieldType.int)).before args0 about1 = true := code_word (m := ⟨11, 1⟩) (meth := k11m1) (c := k11c1) (by decide +kernel) rfl rfl rfl (by decide +kernel)
set_option maxRecDepth 65536 in
theorem w_c9 : (Jvm.Cond.code ({ cls := "com/example/obligation/obligation/xpath/Operations$Comparator", name := "isEquality", desc := "()Z" } : Jvm.MethodName) prog_130_method_5_code (1 : Nat) (Option.some Jvm.ClassFile.FieldType.boolean)).before args0 about1 = true := code_word (m := ⟨6, 1⟩) (meth := k6m1) (c := k6c1) (by decide +kernel) rfl rfl rfl (by decide +kernel)
def codes1 : List Jvm.Cond := [Jvm.Cond.code x code maxLocals ret, Jvm.Cond.code ({ cls := "com/example/obligation/obligation/xpath/Operations$Comparator", name := "symbol", desc := "()Ljava/lang/String;" } : Jvm.MethodName) prog_130_method_4_code (1 : Nat) (Option.some (Jvm.ClassFile.FieldType.object "java/lang/String")), Jvm.Cond.code ({ cls := "java/lang/String", name := "length", desc := "()I" } : Jvm.MethodName) jdk_42_method_54_code (1 : Nat) (Option.some Jvm.ClassFile.FieldType.int), Jvm.Cond.code ({ cls := "java/lang/String", name := "coder", desc := "()B" } : Jvm.MethodName) jdk_42_method_152_code (1 : Nat) (Option.some Jvm.ClassFile.FieldType.byte), Jvm.Cond.code ({ cls := "java/lang/String", name := "charAt", desc := "(I)C" } : Jvm.MethodName) jdk_42_method_56_code (2 : Nat) (Option.some Jvm.ClassFile.FieldType.char), Jvm.Cond.code ({ cls := "java/lang/String", name := "isLatin1", desc := "()Z" } : Jvm.MethodName) jdk_42_method_154_code (1 : Nat) (Option.some Jvm.ClassFile.FieldType.boolean), Jvm.Cond.code ({ cls := "java/lang/StringLatin1", name := "charAt", desc := "([BI)C" } : Jvm.MethodName) jdk_43_method_2_code (2 : Nat) (Option.some Jvm.ClassFile.FieldType.char), Jvm.Cond.code ({ cls := "java/lang/String", name := "checkIndex", desc := "(II)V" } : Jvm.MethodName) jdk_42_method_155_code (2 : Nat) (Option.none : Option Jvm.ClassFile.FieldType), Jvm.Cond.code ({ cls := "jdk/internal/util/Preconditions", name := "checkIndex", desc := "(IILjava/util/function/BiFunction;)I" } : Jvm.MethodName) jdk_41_method_11_code (3 : Nat) (Option.some Jvm.ClassFile.FieldType.int), Jvm.Cond.code ({ cls := "com/example/obligation/obligation/xpath/Operations$Comparator", name := "isEquality", desc := "()Z" } : Jvm.MethodName) prog_130_method_5_code (1 : Nat) (Option.some Jvm.ClassFile.FieldType.boolean)]
set_option maxRecDepth 65536 in
theorem codes_eq : words1.filter isCode = codes1 := rfl
theorem w_codes : ∀ c ∈ words1.filter isCode, c.before args0 about1 = true := by
  rw [codes_eq]
  intro c hc
  simp only [codes1, List.mem_cons, List.not_mem_nil, or_false] at hc
  rcases hc with rfl | rfl | rfl | rfl | rfl | rfl | rfl | rfl | rfl | rfl
  · exact w_c0
  · exact w_c1
  · exact w_c2
  · exact w_c3
  · exact w_c4
  · exact w_c5
  · exact w_c6
  · exact w_c7
  · exact w_c8
  · exact w_c9
set_option maxRecDepth 65536 in
theorem w_t1 : (words1.take 24).all (fun c => isCode c || c.before args0 about1) = true := by decide +kernel
set_option maxRecDepth 65536 in
theorem w_t2 : ((words1.drop 24).take 24).all (fun c => isCode c || c.before args0 about1) = true := by decide +kernel
set_option maxRecDepth 65536 in
theorem w_t3 : ((words1.drop 24).drop 24).all (fun c => isCode c || c.before args0 about1) = true := by decide +kernel
theorem w_tables : (allAtoms (Jvm.Cond.code x code maxLocals ret :: tables_1)).before args0 about1 = true := by
  rw [allAtoms_all]
  show words1.all (fun c => c.before args0 about1) = true
  refine all_split ?_ w_codes
  rw [← List.take_append_drop 24 words1, List.all_append, w_t1, ← List.take_append_drop 24 (words1.drop 24), List.all_append, w_t2, w_t3]
  rfl
set_option maxRecDepth 65536 in
theorem w_rest : rest_1_c.before args0 about1 = true := by decide +kernel
set_option maxRecDepth 65536 in
theorem w_case : (Jvm.Cond.and given_1 narrow_1).before args0 about1 = true := by decide +kernel
theorem w_applies : (headSpec (Jvm.Cond.code x code maxLocals ret :: tables_1) room_1).applies x e0.platform about1 = true :=
  (Spec.applies_iff w_frames).mpr ⟨w_running, w_runnable, w_alone, w_named, w_hears, w_ripe, w_room, w_tables⟩
theorem atStart : AtStart classFile x code maxLocals ret World_1 tables_1 room_1 Calls_1 rest_1 Pre_1 launch0 p0 e0 about1 theMethod args0 below0 :=
  ⟨lists_1, trivial, launch0.admits_env _ _ _, launch0.least_env, fairChoices_fair.cas, fairChoices_fair.clock, w_frames, w_args, w_heap, w_applies, trivial, w_rest, w_case⟩
end start1
theorem witness_1 : WitnessClaimed_1 := ⟨start1.p0, start1.e0, start1.about1, start1.theMethod, start1.args0, start1.below0, start1.atStart⟩
end Jvm.Pilot.@@N@@
