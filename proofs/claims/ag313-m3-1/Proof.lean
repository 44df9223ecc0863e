import JvmDerived
import JvmDerived.Pilot.@@N@@Statement
import JvmDerived.Pilot.@@N@@Code
set_option linter.unusedVariables false
set_option linter.unusedSimpArgs false
namespace Jvm.Pilot.@@N@@
open Jvm Jvm.ClassFile Sem Op Lib Jvm.Free Jvm.Stand Jvm.LawKit Jvm.RoadKit Bundle Jvm.Pilot.@@N@@.Jvm.D
theorem own_sta {Z : State} {h h' : Heap} {C n d C' : String} {w : Value} {o : Addr} (F : Sta Z h C n d w) (K : Keep h h' [o]) (E : Exa Z h o C') : Sta Z h' C n d w := by
  obtain ⟨cf, i, k, f, st, cell, h1, h2, h3, h4, h5, h6, h7⟩ := F
  obtain ⟨ce, ke, e1, e2, e3, e4, e5⟩ := E
  refine ⟨cf, i, k, f, st, cell, h1, h2, h3, h4, K.2.1 st cell h5 (fun hm => ?_), h6, h7⟩
  cases List.mem_singleton.mp hm
  rw [e1] at h5; cases h5; rw [h6] at e4; cases e4
theorem own_fint {s : State} {args : Array Value} {t : Term} {C n d : String} {k : Int32} {w : Addr} (ht : t.eval args s none [] s = some (.ref w)) (h : (Jvm.Cond.eq (.field t C n d) (.int k)).value args s none s [] = some true) : Fld s s.heap w C n d (.int k) := by
  refine Fld.start ?_
  have e := fld_at (args := args) (first := s) (o := none) (idx := []) (s := s) (C := C) (n := n) (dd := d) ht
  obtain ⟨x, y, hx, hy, -, -⟩ := cmp_v (Or.inl h)
  rw [← e, hx]
  cases (Term.int_eval k).symm.trans hy
  cases x <;> simp [Jvm.Cond.value, hx, hy] at h
  rw [h]
theorem own_rem32 (x m : Int32) (hx : 0 ≤ x.toInt) : (x % m).toInt = x.toInt % m.toInt := by rw [Int32.toInt_mod, Int.tmod_eq_emod_of_nonneg hx]
theorem own_lc0 (x y : Int64) : (lcmpW x y < 0 ↔ x < y) ∧ (0 < lcmpW x y ↔ y < x) ∧ (lcmpW x y = 0 ↔ x = y) := by rw [lcW]; exact ⟨lc_lt x y, lc_gt x y, lc_eq x y⟩
theorem lcY_lt {x y : Int64} (h : x < y) : ifCond.holds .lt (lcmpW x y) = true := (if0 _ _).trans (tlt ((own_lc0 x y).1.mpr h)).1
theorem lcN_lt {x y : Int64} (h : ¬ x < y) : ifCond.holds .lt (lcmpW x y) = false := (if0 _ _).trans (flt fun q => h ((own_lc0 x y).1.mp q)).1
theorem lcN_ge {x y : Int64} (h : x < y) : ifCond.holds .ge (lcmpW x y) = false := (if0 _ _).trans (tlt ((own_lc0 x y).1.mpr h)).2.1
theorem lcY_ge {x y : Int64} (h : ¬ x < y) : ifCond.holds .ge (lcmpW x y) = true := (if0 _ _).trans (flt fun q => h ((own_lc0 x y).1.mp q)).2.1
theorem lcY_gt {x y : Int64} (h : y < x) : ifCond.holds .gt (lcmpW x y) = true := (if0 _ _).trans (tlt ((own_lc0 x y).2.1.mpr h)).2.2.1
theorem lcN_gt {x y : Int64} (h : ¬ y < x) : ifCond.holds .gt (lcmpW x y) = false := (if0 _ _).trans (flt fun q => h ((own_lc0 x y).2.1.mp q)).2.2.1
theorem lcN_le {x y : Int64} (h : y < x) : ifCond.holds .le (lcmpW x y) = false := (if0 _ _).trans (tlt ((own_lc0 x y).2.1.mpr h)).2.2.2
theorem lcY_le {x y : Int64} (h : ¬ y < x) : ifCond.holds .le (lcmpW x y) = true := (if0 _ _).trans (flt fun q => h ((own_lc0 x y).2.1.mp q)).2.2.2
theorem lcY_eq {x y : Int64} (h : x = y) : ifCond.holds .eq (lcmpW x y) = true := (if0 _ _).trans (teq ((own_lc0 x y).2.2.mpr h)).1
theorem lcN_eq {x y : Int64} (h : ¬ x = y) : ifCond.holds .eq (lcmpW x y) = false := (if0 _ _).trans (feq fun q => h ((own_lc0 x y).2.2.mp q)).1
theorem lcN_ne {x y : Int64} (h : x = y) : ifCond.holds .ne (lcmpW x y) = false := (if0 _ _).trans (teq ((own_lc0 x y).2.2.mpr h)).2
theorem lcY_ne {x y : Int64} (h : ¬ x = y) : ifCond.holds .ne (lcmpW x y) = true := (if0 _ _).trans (feq fun q => h ((own_lc0 x y).2.2.mp q)).2
def F1 (p0 : Int32) (w_SERIAL_NOTIFY : Addr) (w_SERIAL_QUERY : Addr) (w_RESET_QUERY : Addr) (w_CACHE_RESPONSE : Addr) (w_IPV4_PREFIX : Addr) (w_IPV6_PREFIX : Addr) (w_END_OF_DATA : Addr) (w_CACHE_RESET : Addr) (w_ROUTER_KEY : Addr) (w_ERROR_REPORT : Addr) : Addr :=
  if p0 = (0 : Int32) then w_SERIAL_NOTIFY else if p0 = (1 : Int32) then w_SERIAL_QUERY else if p0 = (2 : Int32) then w_RESET_QUERY else if p0 = (3 : Int32) then w_CACHE_RESPONSE else if p0 = (4 : Int32) then w_IPV4_PREFIX else if p0 = (5 : Int32) then w_IPV6_PREFIX else if p0 = (6 : Int32) then w_END_OF_DATA else if p0 = (7 : Int32) then w_CACHE_RESET else if p0 = (8 : Int32) then w_ROUTER_KEY else w_ERROR_REPORT
theorem d1_0 : decode method_3_code 0 = .ok (.iload_n 0, 1) := by decide +kernel
theorem d1_1 : decode method_3_code 1 = .ok (.ifCond .ne 7, 3) := by decide +kernel
theorem d1_4 : decode method_3_code 4 = .ok (.getstatic 24, 3) := by decide +kernel
theorem d1_7 : decode method_3_code 7 = .ok (.areturn, 1) := by decide +kernel
theorem d1_8 : decode method_3_code 8 = .ok (.iload_n 0, 1) := by decide +kernel
theorem d1_9 : decode method_3_code 9 = .ok (.iconst 1, 1) := by decide +kernel
theorem d1_10 : decode method_3_code 10 = .ok (.if_icmp .ne 7, 3) := by decide +kernel
theorem d1_13 : decode method_3_code 13 = .ok (.getstatic 27, 3) := by decide +kernel
theorem d1_16 : decode method_3_code 16 = .ok (.areturn, 1) := by decide +kernel
theorem d1_17 : decode method_3_code 17 = .ok (.iload_n 0, 1) := by decide +kernel
theorem d1_18 : decode method_3_code 18 = .ok (.iconst 2, 1) := by decide +kernel
theorem d1_19 : decode method_3_code 19 = .ok (.if_icmp .ne 7, 3) := by decide +kernel
theorem d1_22 : decode method_3_code 22 = .ok (.getstatic 30, 3) := by decide +kernel
theorem d1_25 : decode method_3_code 25 = .ok (.areturn, 1) := by decide +kernel
theorem d1_26 : decode method_3_code 26 = .ok (.iload_n 0, 1) := by decide +kernel
theorem d1_27 : decode method_3_code 27 = .ok (.iconst 3, 1) := by decide +kernel
theorem d1_28 : decode method_3_code 28 = .ok (.if_icmp .ne 7, 3) := by decide +kernel
theorem d1_31 : decode method_3_code 31 = .ok (.getstatic 33, 3) := by decide +kernel
theorem d1_34 : decode method_3_code 34 = .ok (.areturn, 1) := by decide +kernel
theorem d1_35 : decode method_3_code 35 = .ok (.iload_n 0, 1) := by decide +kernel
theorem d1_36 : decode method_3_code 36 = .ok (.iconst 4, 1) := by decide +kernel
theorem d1_37 : decode method_3_code 37 = .ok (.if_icmp .ne 7, 3) := by decide +kernel
theorem d1_40 : decode method_3_code 40 = .ok (.getstatic 36, 3) := by decide +kernel
theorem d1_43 : decode method_3_code 43 = .ok (.areturn, 1) := by decide +kernel
theorem d1_44 : decode method_3_code 44 = .ok (.iload_n 0, 1) := by decide +kernel
theorem d1_45 : decode method_3_code 45 = .ok (.iconst 5, 1) := by decide +kernel
theorem d1_46 : decode method_3_code 46 = .ok (.if_icmp .ne 7, 3) := by decide +kernel
theorem d1_49 : decode method_3_code 49 = .ok (.getstatic 39, 3) := by decide +kernel
theorem d1_52 : decode method_3_code 52 = .ok (.areturn, 1) := by decide +kernel
theorem d1_53 : decode method_3_code 53 = .ok (.iload_n 0, 1) := by decide +kernel
theorem d1_54 : decode method_3_code 54 = .ok (.bipush 6, 2) := by decide +kernel
theorem d1_56 : decode method_3_code 56 = .ok (.if_icmp .ne 7, 3) := by decide +kernel
theorem d1_59 : decode method_3_code 59 = .ok (.getstatic 42, 3) := by decide +kernel
theorem d1_62 : decode method_3_code 62 = .ok (.areturn, 1) := by decide +kernel
theorem d1_63 : decode method_3_code 63 = .ok (.iload_n 0, 1) := by decide +kernel
theorem d1_64 : decode method_3_code 64 = .ok (.bipush 7, 2) := by decide +kernel
theorem d1_66 : decode method_3_code 66 = .ok (.if_icmp .ne 7, 3) := by decide +kernel
theorem d1_69 : decode method_3_code 69 = .ok (.getstatic 45, 3) := by decide +kernel
theorem d1_72 : decode method_3_code 72 = .ok (.areturn, 1) := by decide +kernel
theorem d1_73 : decode method_3_code 73 = .ok (.iload_n 0, 1) := by decide +kernel
theorem d1_74 : decode method_3_code 74 = .ok (.bipush 8, 2) := by decide +kernel
theorem d1_76 : decode method_3_code 76 = .ok (.if_icmp .ne 7, 3) := by decide +kernel
theorem d1_79 : decode method_3_code 79 = .ok (.getstatic 14, 3) := by decide +kernel
theorem d1_82 : decode method_3_code 82 = .ok (.areturn, 1) := by decide +kernel
theorem d1_83 : decode method_3_code 83 = .ok (.getstatic 48, 3) := by decide +kernel
theorem d1_86 : decode method_3_code 86 = .ok (.areturn, 1) := by decide +kernel
theorem pn_1 : plainName "com/example/hawser/hawser/rtr/PduTypeIsInPinLaw" = true := by first | (simp [plainName, overriddenIn]; done) | decide +kernel
theorem ef_1 (m : MethodId) (p0 : Int32) : entryFrame m #[(.int p0)] 1 = mkF m 0 #[.val (.int p0)] [] := by first | (simp [entryFrame, mkF, argsToLocals, Value.category]; done) | rfl
def Q1 (Z : State) (p0 : Int32) (w_SERIAL_NOTIFY : Addr) (w_SERIAL_QUERY : Addr) (w_RESET_QUERY : Addr) (w_CACHE_RESPONSE : Addr) (w_IPV4_PREFIX : Addr) (w_IPV6_PREFIX : Addr) (w_END_OF_DATA : Addr) (w_CACHE_RESET : Addr) (w_ROUTER_KEY : Addr) (w_ERROR_REPORT : Addr) (h0 : Heap) (n0 : Nat) (v : Option Value) (h : Heap) (L : List Loc) : Prop := v = some (.ref (F1 p0 w_SERIAL_NOTIFY w_SERIAL_QUERY w_RESET_QUERY w_CACHE_RESPONSE w_IPV4_PREFIX w_IPV6_PREFIX w_END_OF_DATA w_CACHE_RESET w_ROUTER_KEY w_ERROR_REPORT)) ∧ Fr n0 L ∧ h = h0
set_option maxRecDepth 65536 in
set_option maxHeartbeats 40000000 in
theorem rm1 (l : Launch) (Z : State) (a0 : Array Value) (hw : ∀ d ∈ tables_1, d.before a0 Z = true) (ws : List Jvm.Cond) (p0 : Int32) (w_SERIAL_NOTIFY : Addr) (w_SERIAL_QUERY : Addr) (w_RESET_QUERY : Addr) (w_CACHE_RESPONSE : Addr) (w_IPV4_PREFIX : Addr) (w_IPV6_PREFIX : Addr) (w_END_OF_DATA : Addr) (w_CACHE_RESET : Addr) (w_ROUTER_KEY : Addr) (w_ERROR_REPORT : Addr) (h0 : Heap) (n0 : Nat) (Z0 : n0 ≤ h0.size) (S_SERIAL_NOTIFY : Sta Z h0 "com/example/hawser/hawser/rtr/PduType" "SERIAL_NOTIFY" "Lcom/example/hawser/hawser/rtr/PduType;" (.ref w_SERIAL_NOTIFY)) (S_SERIAL_QUERY : Sta Z h0 "com/example/hawser/hawser/rtr/PduType" "SERIAL_QUERY" "Lcom/example/hawser/hawser/rtr/PduType;" (.ref w_SERIAL_QUERY)) (S_RESET_QUERY : Sta Z h0 "com/example/hawser/hawser/rtr/PduType" "RESET_QUERY" "Lcom/example/hawser/hawser/rtr/PduType;" (.ref w_RESET_QUERY)) (S_CACHE_RESPONSE : Sta Z h0 "com/example/hawser/hawser/rtr/PduType" "CACHE_RESPONSE" "Lcom/example/hawser/hawser/rtr/PduType;" (.ref w_CACHE_RESPONSE)) (S_IPV4_PREFIX : Sta Z h0 "com/example/hawser/hawser/rtr/PduType" "IPV4_PREFIX" "Lcom/example/hawser/hawser/rtr/PduType;" (.ref w_IPV4_PREFIX)) (S_IPV6_PREFIX : Sta Z h0 "com/example/hawser/hawser/rtr/PduType" "IPV6_PREFIX" "Lcom/example/hawser/hawser/rtr/PduType;" (.ref w_IPV6_PREFIX)) (S_END_OF_DATA : Sta Z h0 "com/example/hawser/hawser/rtr/PduType" "END_OF_DATA" "Lcom/example/hawser/hawser/rtr/PduType;" (.ref w_END_OF_DATA)) (S_CACHE_RESET : Sta Z h0 "com/example/hawser/hawser/rtr/PduType" "CACHE_RESET" "Lcom/example/hawser/hawser/rtr/PduType;" (.ref w_CACHE_RESET)) (S_ROUTER_KEY : Sta Z h0 "com/example/hawser/hawser/rtr/PduType" "ROUTER_KEY" "Lcom/example/hawser/hawser/rtr/PduType;" (.ref w_ROUTER_KEY)) (S_ERROR_REPORT : Sta Z h0 "com/example/hawser/hawser/rtr/PduType" "ERROR_REPORT" "Lcom/example/hawser/hawser/rtr/PduType;" (.ref w_ERROR_REPORT)) :
    MetFree l (⟨"com/example/hawser/hawser/rtr/PduTypeIsInPinLaw", "pick", "(I)Lcom/example/hawser/hawser/rtr/PduType;"⟩ : MethodName) (head1 (Jvm.Cond.code (⟨"com/example/hawser/hawser/rtr/PduTypeIsInPinLaw", "pick", "(I)Lcom/example/hawser/hawser/rtr/PduType;"⟩ : MethodName) method_3_code 1 (some (.object "com/example/hawser/hawser/rtr/PduType")) :: ws) ({ frames := 0, cells := 0, slots := 0, locals := 0 } : Room)) (fun a U => a = #[(.int p0)] ∧ Z.Warmed39 U.vm ∧ U.heap = h0) (fun _ _ _ _ _ => True) (fun _ U o U' => ∃ v L, o = .returned v ∧ Q1 Z p0 w_SERIAL_NOTIFY w_SERIAL_QUERY w_RESET_QUERY w_CACHE_RESPONSE w_IPV4_PREFIX w_IPV6_PREFIX w_END_OF_DATA w_CACHE_RESET w_ROUTER_KEY w_ERROR_REPORT h0 n0 v U'.heap L ∧ FrameEnd U o U' L ({ frames := 0, cells := 0, slots := 0, locals := 0 } : Room).cells ({ frames := 0, cells := 0, slots := 0, locals := 0 } : Room).slots) := by
  refine MetFree.of_bodySF (plainFor_of_name pn_1) hisR ?_
  intro p e s m args below meth c s₁ Bd hml0 hP hK
  obtain ⟨rfl, hZ, hh⟩ := hP
  have hx := Bd.exec
  have hby := Bd.bytes
  have hml : c.maxLocals = 1 := hml0
  have hown : s.vm.findClass "com/example/hawser/hawser/rtr/PduTypeIsInPinLaw" = some m.cls := findClass_of_methodNamed Bd.named
  have hnm := (name_of_methodNamed Bd.named Bd.method).1
  have X0 : Stand p l e ({ frames := 0, cells := 0, slots := 0, locals := 0 } : Room) s m #[(.int p0)] below meth c s₁ [] 0 0 := Stand.of_body Bd
  have e0 : s₁.heap = h0 := by rw [← hh, Bd.state]; rfl
  have N0 := Fr.nil n0
  have pre0 : ∀ t, Steps p.tables e below (s₁.setTop (mkF m 0 #[.val (.int p0)] [])) t → Steps p.tables e below (s₁.setTop (entryFrame m #[(.int p0)] 1)) t := fun t k => castTop (ef_1 m p0) k
  have pre1 : ∀ t, Steps p.tables e below (s₁.setTop (mkF m 1 #[.val (.int p0)] [(.int p0)])) t → Steps p.tables e below (s₁.setTop (entryFrame m #[(.int p0)] 1)) t := fun t k => by
    refine pre0 t ?_
    show Steps p.tables e below (s₁.setTop (mkF m 0 #[.val (.int p0)] [])) _
    refine XS.iloadN X0.here hx rfl (hb hby d1_0) rfl ?_
    exact k
  by_cases hc1 : p0 = (0 : Int32)
  · obtain ⟨T2, X2, e2, st2⟩ := getS2 X0 hx hZ hown (host := "") (Or.inl (hw _ (List.mem_of_getElem? (i := 5) rfl))) Via.refl e0 S_SERIAL_NOTIFY (g := (mkF m 4 #[.val (.int p0)] [])) rfl (hb hby d1_4)
    obtain ⟨fs, hr, hrun, hended, hW, hsame⟩ := X2.leave (v := some (.ref w_SERIAL_NOTIFY)) (fun h => by rw [Bd.returns] at h; cases h) (BodyLoose.notSynchronized Bd)
    refine ⟨_, _, pre1 _ ?_, hrun, hended, _, _, rfl, ?_, ⟨_, rfl⟩, hW, hsame.mono (by decide) (by decide)⟩
    · show Steps p.tables e below (s₁.setTop (mkF m 1 #[.val (.int p0)] [(.int p0)])) _
      refine XS.ifNo X0.here hx rfl (hb hby d1_1) rfl ((if0 _ _).trans (teq hc1).2) ?_
      show Steps p.tables e below (s₁.setTop (mkF m 4 #[.val (.int p0)] [])) _
      refine st2 _ ?_
      show Steps p.tables e below (T2.setTop (mkF m 7 #[.val (.int p0)] [(.ref w_SERIAL_NOTIFY)])) _
      exact retOut X2 hx Bd.returns rfl (Or.inr (Or.inr (Or.inr (Or.inr ⟨rfl, rfl, rfl⟩)))) (hb hby d1_7) hr
    · show Q1 Z p0 w_SERIAL_NOTIFY w_SERIAL_QUERY w_RESET_QUERY w_CACHE_RESPONSE w_IPV4_PREFIX w_IPV6_PREFIX w_END_OF_DATA w_CACHE_RESET w_ROUTER_KEY w_ERROR_REPORT h0 n0 _ T2.heap _
      rw [e2]
      exact ⟨(by rw [F1, if_pos hc1]), N0, rfl⟩
  · have pre3 : ∀ t, Steps p.tables e below (s₁.setTop (mkF m 10 #[.val (.int p0)] [(.int (1 : Int32)), (.int p0)])) t → Steps p.tables e below (s₁.setTop (entryFrame m #[(.int p0)] 1)) t := fun t k => by
      refine pre1 t ?_
      show Steps p.tables e below (s₁.setTop (mkF m 1 #[.val (.int p0)] [(.int p0)])) _
      refine XS.ifYes X0.here hx rfl (pc0 := 1) (pc' := 8) rfl (hb hby d1_1) rfl ((if0 _ _).trans (feq hc1).2) (by decide) (by decide) ?_
      show Steps p.tables e below (s₁.setTop (mkF m 8 #[.val (.int p0)] [])) _
      refine XS.iloadN X0.here hx rfl (hb hby d1_8) rfl ?_
      show Steps p.tables e below (s₁.setTop (mkF m 9 #[.val (.int p0)] [(.int p0)])) _
      refine XS.iconst X0.here hx rfl (hb hby d1_9) ?_
      exact k
    by_cases hc10 : p0 = (1 : Int32)
    · obtain ⟨T4, X4, e4, st4⟩ := getS2 X0 hx hZ hown (host := "") (Or.inl (hw _ (List.mem_of_getElem? (i := 27) rfl))) Via.refl e0 S_SERIAL_QUERY (g := (mkF m 13 #[.val (.int p0)] [])) rfl (hb hby d1_13)
      obtain ⟨fs, hr, hrun, hended, hW, hsame⟩ := X4.leave (v := some (.ref w_SERIAL_QUERY)) (fun h => by rw [Bd.returns] at h; cases h) (BodyLoose.notSynchronized Bd)
      refine ⟨_, _, pre3 _ ?_, hrun, hended, _, _, rfl, ?_, ⟨_, rfl⟩, hW, hsame.mono (by decide) (by decide)⟩
      · show Steps p.tables e below (s₁.setTop (mkF m 10 #[.val (.int p0)] [(.int (1 : Int32)), (.int p0)])) _
        refine XS.icmpNo X0.here hx rfl (hb hby d1_10) rfl (teq hc10).2 ?_
        show Steps p.tables e below (s₁.setTop (mkF m 13 #[.val (.int p0)] [])) _
        refine st4 _ ?_
        show Steps p.tables e below (T4.setTop (mkF m 16 #[.val (.int p0)] [(.ref w_SERIAL_QUERY)])) _
        exact retOut X4 hx Bd.returns rfl (Or.inr (Or.inr (Or.inr (Or.inr ⟨rfl, rfl, rfl⟩)))) (hb hby d1_16) hr
      · show Q1 Z p0 w_SERIAL_NOTIFY w_SERIAL_QUERY w_RESET_QUERY w_CACHE_RESPONSE w_IPV4_PREFIX w_IPV6_PREFIX w_END_OF_DATA w_CACHE_RESET w_ROUTER_KEY w_ERROR_REPORT h0 n0 _ T4.heap _
        rw [e4]
        exact ⟨(by rw [F1, if_neg hc1, if_pos hc10]), N0, rfl⟩
    · have pre5 : ∀ t, Steps p.tables e below (s₁.setTop (mkF m 19 #[.val (.int p0)] [(.int (2 : Int32)), (.int p0)])) t → Steps p.tables e below (s₁.setTop (entryFrame m #[(.int p0)] 1)) t := fun t k => by
        refine pre3 t ?_
        show Steps p.tables e below (s₁.setTop (mkF m 10 #[.val (.int p0)] [(.int (1 : Int32)), (.int p0)])) _
        refine XS.icmpYes X0.here hx rfl (pc0 := 10) (pc' := 17) rfl (hb hby d1_10) rfl (feq hc10).2 (by decide) (by decide) ?_
        show Steps p.tables e below (s₁.setTop (mkF m 17 #[.val (.int p0)] [])) _
        refine XS.iloadN X0.here hx rfl (hb hby d1_17) rfl ?_
        show Steps p.tables e below (s₁.setTop (mkF m 18 #[.val (.int p0)] [(.int p0)])) _
        refine XS.iconst X0.here hx rfl (hb hby d1_18) ?_
        exact k
      by_cases hc19 : p0 = (2 : Int32)
      · obtain ⟨T6, X6, e6, st6⟩ := getS2 X0 hx hZ hown (host := "") (Or.inl (hw _ (List.mem_of_getElem? (i := 23) rfl))) Via.refl e0 S_RESET_QUERY (g := (mkF m 22 #[.val (.int p0)] [])) rfl (hb hby d1_22)
        obtain ⟨fs, hr, hrun, hended, hW, hsame⟩ := X6.leave (v := some (.ref w_RESET_QUERY)) (fun h => by rw [Bd.returns] at h; cases h) (BodyLoose.notSynchronized Bd)
        refine ⟨_, _, pre5 _ ?_, hrun, hended, _, _, rfl, ?_, ⟨_, rfl⟩, hW, hsame.mono (by decide) (by decide)⟩
        · show Steps p.tables e below (s₁.setTop (mkF m 19 #[.val (.int p0)] [(.int (2 : Int32)), (.int p0)])) _
          refine XS.icmpNo X0.here hx rfl (hb hby d1_19) rfl (teq hc19).2 ?_
          show Steps p.tables e below (s₁.setTop (mkF m 22 #[.val (.int p0)] [])) _
          refine st6 _ ?_
          show Steps p.tables e below (T6.setTop (mkF m 25 #[.val (.int p0)] [(.ref w_RESET_QUERY)])) _
          exact retOut X6 hx Bd.returns rfl (Or.inr (Or.inr (Or.inr (Or.inr ⟨rfl, rfl, rfl⟩)))) (hb hby d1_25) hr
        · show Q1 Z p0 w_SERIAL_NOTIFY w_SERIAL_QUERY w_RESET_QUERY w_CACHE_RESPONSE w_IPV4_PREFIX w_IPV6_PREFIX w_END_OF_DATA w_CACHE_RESET w_ROUTER_KEY w_ERROR_REPORT h0 n0 _ T6.heap _
          rw [e6]
          exact ⟨(by rw [F1, if_neg hc1, if_neg hc10, if_pos hc19]), N0, rfl⟩
      · have pre7 : ∀ t, Steps p.tables e below (s₁.setTop (mkF m 28 #[.val (.int p0)] [(.int (3 : Int32)), (.int p0)])) t → Steps p.tables e below (s₁.setTop (entryFrame m #[(.int p0)] 1)) t := fun t k => by
          refine pre5 t ?_
          show Steps p.tables e below (s₁.setTop (mkF m 19 #[.val (.int p0)] [(.int (2 : Int32)), (.int p0)])) _
          refine XS.icmpYes X0.here hx rfl (pc0 := 19) (pc' := 26) rfl (hb hby d1_19) rfl (feq hc19).2 (by decide) (by decide) ?_
          show Steps p.tables e below (s₁.setTop (mkF m 26 #[.val (.int p0)] [])) _
          refine XS.iloadN X0.here hx rfl (hb hby d1_26) rfl ?_
          show Steps p.tables e below (s₁.setTop (mkF m 27 #[.val (.int p0)] [(.int p0)])) _
          refine XS.iconst X0.here hx rfl (hb hby d1_27) ?_
          exact k
        by_cases hc28 : p0 = (3 : Int32)
        · obtain ⟨T8, X8, e8, st8⟩ := getS2 X0 hx hZ hown (host := "") (Or.inl (hw _ (List.mem_of_getElem? (i := 25) rfl))) Via.refl e0 S_CACHE_RESPONSE (g := (mkF m 31 #[.val (.int p0)] [])) rfl (hb hby d1_31)
          obtain ⟨fs, hr, hrun, hended, hW, hsame⟩ := X8.leave (v := some (.ref w_CACHE_RESPONSE)) (fun h => by rw [Bd.returns] at h; cases h) (BodyLoose.notSynchronized Bd)
          refine ⟨_, _, pre7 _ ?_, hrun, hended, _, _, rfl, ?_, ⟨_, rfl⟩, hW, hsame.mono (by decide) (by decide)⟩
          · show Steps p.tables e below (s₁.setTop (mkF m 28 #[.val (.int p0)] [(.int (3 : Int32)), (.int p0)])) _
            refine XS.icmpNo X0.here hx rfl (hb hby d1_28) rfl (teq hc28).2 ?_
            show Steps p.tables e below (s₁.setTop (mkF m 31 #[.val (.int p0)] [])) _
            refine st8 _ ?_
            show Steps p.tables e below (T8.setTop (mkF m 34 #[.val (.int p0)] [(.ref w_CACHE_RESPONSE)])) _
            exact retOut X8 hx Bd.returns rfl (Or.inr (Or.inr (Or.inr (Or.inr ⟨rfl, rfl, rfl⟩)))) (hb hby d1_34) hr
          · show Q1 Z p0 w_SERIAL_NOTIFY w_SERIAL_QUERY w_RESET_QUERY w_CACHE_RESPONSE w_IPV4_PREFIX w_IPV6_PREFIX w_END_OF_DATA w_CACHE_RESET w_ROUTER_KEY w_ERROR_REPORT h0 n0 _ T8.heap _
            rw [e8]
            exact ⟨(by rw [F1, if_neg hc1, if_neg hc10, if_neg hc19, if_pos hc28]), N0, rfl⟩
        · have pre9 : ∀ t, Steps p.tables e below (s₁.setTop (mkF m 37 #[.val (.int p0)] [(.int (4 : Int32)), (.int p0)])) t → Steps p.tables e below (s₁.setTop (entryFrame m #[(.int p0)] 1)) t := fun t k => by
            refine pre7 t ?_
            show Steps p.tables e below (s₁.setTop (mkF m 28 #[.val (.int p0)] [(.int (3 : Int32)), (.int p0)])) _
            refine XS.icmpYes X0.here hx rfl (pc0 := 28) (pc' := 35) rfl (hb hby d1_28) rfl (feq hc28).2 (by decide) (by decide) ?_
            show Steps p.tables e below (s₁.setTop (mkF m 35 #[.val (.int p0)] [])) _
            refine XS.iloadN X0.here hx rfl (hb hby d1_35) rfl ?_
            show Steps p.tables e below (s₁.setTop (mkF m 36 #[.val (.int p0)] [(.int p0)])) _
            refine XS.iconst X0.here hx rfl (hb hby d1_36) ?_
            exact k
          by_cases hc37 : p0 = (4 : Int32)
          · obtain ⟨T10, X10, e10, st10⟩ := getS2 X0 hx hZ hown (host := "") (Or.inl (hw _ (List.mem_of_getElem? (i := 17) rfl))) Via.refl e0 S_IPV4_PREFIX (g := (mkF m 40 #[.val (.int p0)] [])) rfl (hb hby d1_40)
            obtain ⟨fs, hr, hrun, hended, hW, hsame⟩ := X10.leave (v := some (.ref w_IPV4_PREFIX)) (fun h => by rw [Bd.returns] at h; cases h) (BodyLoose.notSynchronized Bd)
            refine ⟨_, _, pre9 _ ?_, hrun, hended, _, _, rfl, ?_, ⟨_, rfl⟩, hW, hsame.mono (by decide) (by decide)⟩
            · show Steps p.tables e below (s₁.setTop (mkF m 37 #[.val (.int p0)] [(.int (4 : Int32)), (.int p0)])) _
              refine XS.icmpNo X0.here hx rfl (hb hby d1_37) rfl (teq hc37).2 ?_
              show Steps p.tables e below (s₁.setTop (mkF m 40 #[.val (.int p0)] [])) _
              refine st10 _ ?_
              show Steps p.tables e below (T10.setTop (mkF m 43 #[.val (.int p0)] [(.ref w_IPV4_PREFIX)])) _
              exact retOut X10 hx Bd.returns rfl (Or.inr (Or.inr (Or.inr (Or.inr ⟨rfl, rfl, rfl⟩)))) (hb hby d1_43) hr
            · show Q1 Z p0 w_SERIAL_NOTIFY w_SERIAL_QUERY w_RESET_QUERY w_CACHE_RESPONSE w_IPV4_PREFIX w_IPV6_PREFIX w_END_OF_DATA w_CACHE_RESET w_ROUTER_KEY w_ERROR_REPORT h0 n0 _ T10.heap _
              rw [e10]
              exact ⟨(by rw [F1, if_neg hc1, if_neg hc10, if_neg hc19, if_neg hc28, if_pos hc37]), N0, rfl⟩
          · have pre11 : ∀ t, Steps p.tables e below (s₁.setTop (mkF m 46 #[.val (.int p0)] [(.int (5 : Int32)), (.int p0)])) t → Steps p.tables e below (s₁.setTop (entryFrame m #[(.int p0)] 1)) t := fun t k => by
              refine pre9 t ?_
              show Steps p.tables e below (s₁.setTop (mkF m 37 #[.val (.int p0)] [(.int (4 : Int32)), (.int p0)])) _
              refine XS.icmpYes X0.here hx rfl (pc0 := 37) (pc' := 44) rfl (hb hby d1_37) rfl (feq hc37).2 (by decide) (by decide) ?_
              show Steps p.tables e below (s₁.setTop (mkF m 44 #[.val (.int p0)] [])) _
              refine XS.iloadN X0.here hx rfl (hb hby d1_44) rfl ?_
              show Steps p.tables e below (s₁.setTop (mkF m 45 #[.val (.int p0)] [(.int p0)])) _
              refine XS.iconst X0.here hx rfl (hb hby d1_45) ?_
              exact k
            by_cases hc46 : p0 = (5 : Int32)
            · obtain ⟨T12, X12, e12, st12⟩ := getS2 X0 hx hZ hown (host := "") (Or.inl (hw _ (List.mem_of_getElem? (i := 29) rfl))) Via.refl e0 S_IPV6_PREFIX (g := (mkF m 49 #[.val (.int p0)] [])) rfl (hb hby d1_49)
              obtain ⟨fs, hr, hrun, hended, hW, hsame⟩ := X12.leave (v := some (.ref w_IPV6_PREFIX)) (fun h => by rw [Bd.returns] at h; cases h) (BodyLoose.notSynchronized Bd)
              refine ⟨_, _, pre11 _ ?_, hrun, hended, _, _, rfl, ?_, ⟨_, rfl⟩, hW, hsame.mono (by decide) (by decide)⟩
              · show Steps p.tables e below (s₁.setTop (mkF m 46 #[.val (.int p0)] [(.int (5 : Int32)), (.int p0)])) _
                refine XS.icmpNo X0.here hx rfl (hb hby d1_46) rfl (teq hc46).2 ?_
                show Steps p.tables e below (s₁.setTop (mkF m 49 #[.val (.int p0)] [])) _
                refine st12 _ ?_
                show Steps p.tables e below (T12.setTop (mkF m 52 #[.val (.int p0)] [(.ref w_IPV6_PREFIX)])) _
                exact retOut X12 hx Bd.returns rfl (Or.inr (Or.inr (Or.inr (Or.inr ⟨rfl, rfl, rfl⟩)))) (hb hby d1_52) hr
              · show Q1 Z p0 w_SERIAL_NOTIFY w_SERIAL_QUERY w_RESET_QUERY w_CACHE_RESPONSE w_IPV4_PREFIX w_IPV6_PREFIX w_END_OF_DATA w_CACHE_RESET w_ROUTER_KEY w_ERROR_REPORT h0 n0 _ T12.heap _
                rw [e12]
                exact ⟨(by rw [F1, if_neg hc1, if_neg hc10, if_neg hc19, if_neg hc28, if_neg hc37, if_pos hc46]), N0, rfl⟩
            · have pre13 : ∀ t, Steps p.tables e below (s₁.setTop (mkF m 56 #[.val (.int p0)] [(.int (6 : Int32)), (.int p0)])) t → Steps p.tables e below (s₁.setTop (entryFrame m #[(.int p0)] 1)) t := fun t k => by
                refine pre11 t ?_
                show Steps p.tables e below (s₁.setTop (mkF m 46 #[.val (.int p0)] [(.int (5 : Int32)), (.int p0)])) _
                refine XS.icmpYes X0.here hx rfl (pc0 := 46) (pc' := 53) rfl (hb hby d1_46) rfl (feq hc46).2 (by decide) (by decide) ?_
                show Steps p.tables e below (s₁.setTop (mkF m 53 #[.val (.int p0)] [])) _
                refine XS.iloadN X0.here hx rfl (hb hby d1_53) rfl ?_
                show Steps p.tables e below (s₁.setTop (mkF m 54 #[.val (.int p0)] [(.int p0)])) _
                refine XS.bipush X0.here hx rfl (hb hby d1_54) ?_
                exact k
              by_cases hc56 : p0 = (6 : Int32)
              · obtain ⟨T14, X14, e14, st14⟩ := getS2 X0 hx hZ hown (host := "") (Or.inl (hw _ (List.mem_of_getElem? (i := 19) rfl))) Via.refl e0 S_END_OF_DATA (g := (mkF m 59 #[.val (.int p0)] [])) rfl (hb hby d1_59)
                obtain ⟨fs, hr, hrun, hended, hW, hsame⟩ := X14.leave (v := some (.ref w_END_OF_DATA)) (fun h => by rw [Bd.returns] at h; cases h) (BodyLoose.notSynchronized Bd)
                refine ⟨_, _, pre13 _ ?_, hrun, hended, _, _, rfl, ?_, ⟨_, rfl⟩, hW, hsame.mono (by decide) (by decide)⟩
                · show Steps p.tables e below (s₁.setTop (mkF m 56 #[.val (.int p0)] [(.int (6 : Int32)), (.int p0)])) _
                  refine XS.icmpNo X0.here hx rfl (hb hby d1_56) rfl (teq hc56).2 ?_
                  show Steps p.tables e below (s₁.setTop (mkF m 59 #[.val (.int p0)] [])) _
                  refine st14 _ ?_
                  show Steps p.tables e below (T14.setTop (mkF m 62 #[.val (.int p0)] [(.ref w_END_OF_DATA)])) _
                  exact retOut X14 hx Bd.returns rfl (Or.inr (Or.inr (Or.inr (Or.inr ⟨rfl, rfl, rfl⟩)))) (hb hby d1_62) hr
                · show Q1 Z p0 w_SERIAL_NOTIFY w_SERIAL_QUERY w_RESET_QUERY w_CACHE_RESPONSE w_IPV4_PREFIX w_IPV6_PREFIX w_END_OF_DATA w_CACHE_RESET w_ROUTER_KEY w_ERROR_REPORT h0 n0 _ T14.heap _
                  rw [e14]
                  exact ⟨(by rw [F1, if_neg hc1, if_neg hc10, if_neg hc19, if_neg hc28, if_neg hc37, if_neg hc46, if_pos hc56]), N0, rfl⟩
              · have pre15 : ∀ t, Steps p.tables e below (s₁.setTop (mkF m 66 #[.val (.int p0)] [(.int (7 : Int32)), (.int p0)])) t → Steps p.tables e below (s₁.setTop (entryFrame m #[(.int p0)] 1)) t := fun t k => by
                  refine pre13 t ?_
                  show Steps p.tables e below (s₁.setTop (mkF m 56 #[.val (.int p0)] [(.int (6 : Int32)), (.int p0)])) _
                  refine XS.icmpYes X0.here hx rfl (pc0 := 56) (pc' := 63) rfl (hb hby d1_56) rfl (feq hc56).2 (by decide) (by decide) ?_
                  show Steps p.tables e below (s₁.setTop (mkF m 63 #[.val (.int p0)] [])) _
                  refine XS.iloadN X0.here hx rfl (hb hby d1_63) rfl ?_
                  show Steps p.tables e below (s₁.setTop (mkF m 64 #[.val (.int p0)] [(.int p0)])) _
                  refine XS.bipush X0.here hx rfl (hb hby d1_64) ?_
                  exact k
                by_cases hc66 : p0 = (7 : Int32)
                · obtain ⟨T16, X16, e16, st16⟩ := getS2 X0 hx hZ hown (host := "") (Or.inl (hw _ (List.mem_of_getElem? (i := 31) rfl))) Via.refl e0 S_CACHE_RESET (g := (mkF m 69 #[.val (.int p0)] [])) rfl (hb hby d1_69)
                  obtain ⟨fs, hr, hrun, hended, hW, hsame⟩ := X16.leave (v := some (.ref w_CACHE_RESET)) (fun h => by rw [Bd.returns] at h; cases h) (BodyLoose.notSynchronized Bd)
                  refine ⟨_, _, pre15 _ ?_, hrun, hended, _, _, rfl, ?_, ⟨_, rfl⟩, hW, hsame.mono (by decide) (by decide)⟩
                  · show Steps p.tables e below (s₁.setTop (mkF m 66 #[.val (.int p0)] [(.int (7 : Int32)), (.int p0)])) _
                    refine XS.icmpNo X0.here hx rfl (hb hby d1_66) rfl (teq hc66).2 ?_
                    show Steps p.tables e below (s₁.setTop (mkF m 69 #[.val (.int p0)] [])) _
                    refine st16 _ ?_
                    show Steps p.tables e below (T16.setTop (mkF m 72 #[.val (.int p0)] [(.ref w_CACHE_RESET)])) _
                    exact retOut X16 hx Bd.returns rfl (Or.inr (Or.inr (Or.inr (Or.inr ⟨rfl, rfl, rfl⟩)))) (hb hby d1_72) hr
                  · show Q1 Z p0 w_SERIAL_NOTIFY w_SERIAL_QUERY w_RESET_QUERY w_CACHE_RESPONSE w_IPV4_PREFIX w_IPV6_PREFIX w_END_OF_DATA w_CACHE_RESET w_ROUTER_KEY w_ERROR_REPORT h0 n0 _ T16.heap _
                    rw [e16]
                    exact ⟨(by rw [F1, if_neg hc1, if_neg hc10, if_neg hc19, if_neg hc28, if_neg hc37, if_neg hc46, if_neg hc56, if_pos hc66]), N0, rfl⟩
                · have pre17 : ∀ t, Steps p.tables e below (s₁.setTop (mkF m 76 #[.val (.int p0)] [(.int (8 : Int32)), (.int p0)])) t → Steps p.tables e below (s₁.setTop (entryFrame m #[(.int p0)] 1)) t := fun t k => by
                    refine pre15 t ?_
                    show Steps p.tables e below (s₁.setTop (mkF m 66 #[.val (.int p0)] [(.int (7 : Int32)), (.int p0)])) _
                    refine XS.icmpYes X0.here hx rfl (pc0 := 66) (pc' := 73) rfl (hb hby d1_66) rfl (feq hc66).2 (by decide) (by decide) ?_
                    show Steps p.tables e below (s₁.setTop (mkF m 73 #[.val (.int p0)] [])) _
                    refine XS.iloadN X0.here hx rfl (hb hby d1_73) rfl ?_
                    show Steps p.tables e below (s₁.setTop (mkF m 74 #[.val (.int p0)] [(.int p0)])) _
                    refine XS.bipush X0.here hx rfl (hb hby d1_74) ?_
                    exact k
                  by_cases hc76 : p0 = (8 : Int32)
                  · obtain ⟨T18, X18, e18, st18⟩ := getS2 X0 hx hZ hown (host := "") (Or.inl (hw _ (List.mem_of_getElem? (i := 8) rfl))) Via.refl e0 S_ROUTER_KEY (g := (mkF m 79 #[.val (.int p0)] [])) rfl (hb hby d1_79)
                    obtain ⟨fs, hr, hrun, hended, hW, hsame⟩ := X18.leave (v := some (.ref w_ROUTER_KEY)) (fun h => by rw [Bd.returns] at h; cases h) (BodyLoose.notSynchronized Bd)
                    refine ⟨_, _, pre17 _ ?_, hrun, hended, _, _, rfl, ?_, ⟨_, rfl⟩, hW, hsame.mono (by decide) (by decide)⟩
                    · show Steps p.tables e below (s₁.setTop (mkF m 76 #[.val (.int p0)] [(.int (8 : Int32)), (.int p0)])) _
                      refine XS.icmpNo X0.here hx rfl (hb hby d1_76) rfl (teq hc76).2 ?_
                      show Steps p.tables e below (s₁.setTop (mkF m 79 #[.val (.int p0)] [])) _
                      refine st18 _ ?_
                      show Steps p.tables e below (T18.setTop (mkF m 82 #[.val (.int p0)] [(.ref w_ROUTER_KEY)])) _
                      exact retOut X18 hx Bd.returns rfl (Or.inr (Or.inr (Or.inr (Or.inr ⟨rfl, rfl, rfl⟩)))) (hb hby d1_82) hr
                    · show Q1 Z p0 w_SERIAL_NOTIFY w_SERIAL_QUERY w_RESET_QUERY w_CACHE_RESPONSE w_IPV4_PREFIX w_IPV6_PREFIX w_END_OF_DATA w_CACHE_RESET w_ROUTER_KEY w_ERROR_REPORT h0 n0 _ T18.heap _
                      rw [e18]
                      exact ⟨(by rw [F1, if_neg hc1, if_neg hc10, if_neg hc19, if_neg hc28, if_neg hc37, if_neg hc46, if_neg hc56, if_neg hc66, if_pos hc76]), N0, rfl⟩
                  · obtain ⟨T19, X19, e19, st19⟩ := getS2 X0 hx hZ hown (host := "") (Or.inl (hw _ (List.mem_of_getElem? (i := 21) rfl))) Via.refl e0 S_ERROR_REPORT (g := (mkF m 83 #[.val (.int p0)] [])) rfl (hb hby d1_83)
                    obtain ⟨fs, hr, hrun, hended, hW, hsame⟩ := X19.leave (v := some (.ref w_ERROR_REPORT)) (fun h => by rw [Bd.returns] at h; cases h) (BodyLoose.notSynchronized Bd)
                    refine ⟨_, _, pre17 _ ?_, hrun, hended, _, _, rfl, ?_, ⟨_, rfl⟩, hW, hsame.mono (by decide) (by decide)⟩
                    · show Steps p.tables e below (s₁.setTop (mkF m 76 #[.val (.int p0)] [(.int (8 : Int32)), (.int p0)])) _
                      refine XS.icmpYes X0.here hx rfl (pc0 := 76) (pc' := 83) rfl (hb hby d1_76) rfl (feq hc76).2 (by decide) (by decide) ?_
                      show Steps p.tables e below (s₁.setTop (mkF m 83 #[.val (.int p0)] [])) _
                      refine st19 _ ?_
                      show Steps p.tables e below (T19.setTop (mkF m 86 #[.val (.int p0)] [(.ref w_ERROR_REPORT)])) _
                      exact retOut X19 hx Bd.returns rfl (Or.inr (Or.inr (Or.inr (Or.inr ⟨rfl, rfl, rfl⟩)))) (hb hby d1_86) hr
                    · show Q1 Z p0 w_SERIAL_NOTIFY w_SERIAL_QUERY w_RESET_QUERY w_CACHE_RESPONSE w_IPV4_PREFIX w_IPV6_PREFIX w_END_OF_DATA w_CACHE_RESET w_ROUTER_KEY w_ERROR_REPORT h0 n0 _ T19.heap _
                      rw [e19]
                      exact ⟨(by rw [F1, if_neg hc1, if_neg hc10, if_neg hc19, if_neg hc28, if_neg hc37, if_neg hc46, if_neg hc56, if_neg hc66, if_neg hc76]), N0, rfl⟩
theorem pd_0 : parseMethodDescriptor "(I)Lcom/example/hawser/hawser/rtr/PduType;" = some ⟨[.int], some (.object "com/example/hawser/hawser/rtr/PduType")⟩ := by decide +kernel
def F2 (p1 : Int32) (w_ob0_sinceVersion : Int32) : Int32 :=
  if p1 < w_ob0_sinceVersion then (0 : Int32) else (1 : Int32)
theorem d2_0 : decode prog_59_method_6_code 0 = .ok (.aload_n 0, 1) := by decide +kernel
theorem d2_1 : decode prog_59_method_6_code 1 = .ok (.getfield 64, 3) := by decide +kernel
theorem d2_4 : decode prog_59_method_6_code 4 = .ok (.iload_n 1, 1) := by decide +kernel
theorem d2_5 : decode prog_59_method_6_code 5 = .ok (.if_icmp .gt 7, 3) := by decide +kernel
theorem d2_8 : decode prog_59_method_6_code 8 = .ok (.iconst 1, 1) := by decide +kernel
theorem d2_9 : decode prog_59_method_6_code 9 = .ok (.goto 4, 3) := by decide +kernel
theorem d2_12 : decode prog_59_method_6_code 12 = .ok (.iconst 0, 1) := by decide +kernel
theorem d2_13 : decode prog_59_method_6_code 13 = .ok (.ireturn, 1) := by decide +kernel
theorem pn_2 : plainName "com/example/hawser/hawser/rtr/PduType" = true := by first | (simp [plainName, overriddenIn]; done) | decide +kernel
theorem ef_2 (m : MethodId) (ob0 : Addr) (p1 : Int32) : entryFrame m #[(.ref ob0), (.int p1)] 2 = mkF m 0 #[.val (.ref ob0), .val (.int p1)] [] := by first | (simp [entryFrame, mkF, argsToLocals, Value.category]; done) | rfl
def Q2 (Z : State) (ob0 : Addr) (p1 : Int32) (w_ob0_sinceVersion : Int32) (h0 : Heap) (n0 : Nat) (v : Option Value) (h : Heap) (L : List Loc) : Prop := v = some (.int (F2 p1 w_ob0_sinceVersion)) ∧ Fr n0 L ∧ h = h0
set_option maxRecDepth 65536 in
set_option maxHeartbeats 40000000 in
theorem rm2 (l : Launch) (Z : State) (a0 : Array Value) (hw : ∀ d ∈ tables_1, d.before a0 Z = true) (ws : List Jvm.Cond) (ob0 : Addr) (p1 : Int32) (w_ob0_sinceVersion : Int32) (h0 : Heap) (n0 : Nat) (Z0 : n0 ≤ h0.size) (F_sinceVersion_ob0 : Fld Z h0 ob0 "com/example/hawser/hawser/rtr/PduType" "sinceVersion" "I" (.int w_ob0_sinceVersion)) :
    MetFree l (⟨"com/example/hawser/hawser/rtr/PduType", "isIn", "(I)Z"⟩ : MethodName) (head1 (Jvm.Cond.code (⟨"com/example/hawser/hawser/rtr/PduType", "isIn", "(I)Z"⟩ : MethodName) prog_59_method_6_code 2 (some .boolean) :: ws) ({ frames := 0, cells := 0, slots := 0, locals := 0 } : Room)) (fun a U => a = #[(.ref ob0), (.int p1)] ∧ Z.Warmed39 U.vm ∧ U.heap = h0) (fun _ _ _ _ _ => True) (fun _ U o U' => ∃ v L, o = .returned v ∧ Q2 Z ob0 p1 w_ob0_sinceVersion h0 n0 v U'.heap L ∧ FrameEnd U o U' L ({ frames := 0, cells := 0, slots := 0, locals := 0 } : Room).cells ({ frames := 0, cells := 0, slots := 0, locals := 0 } : Room).slots) := by
  refine MetFree.of_bodySF (plainFor_of_name pn_2) hisR ?_
  intro p e s m args below meth c s₁ Bd hml0 hP hK
  obtain ⟨rfl, hZ, hh⟩ := hP
  have hx := Bd.exec
  have hby := Bd.bytes
  have hml : c.maxLocals = 2 := hml0
  have hown : s.vm.findClass "com/example/hawser/hawser/rtr/PduType" = some m.cls := findClass_of_methodNamed Bd.named
  have hnm := (name_of_methodNamed Bd.named Bd.method).1
  have X0 : Stand p l e ({ frames := 0, cells := 0, slots := 0, locals := 0 } : Room) s m #[(.ref ob0), (.int p1)] below meth c s₁ [] 0 0 := Stand.of_body Bd
  have e0 : s₁.heap = h0 := by rw [← hh, Bd.state]; rfl
  have N0 := Fr.nil n0
  have pre0 : ∀ t, Steps p.tables e below (s₁.setTop (mkF m 0 #[.val (.ref ob0), .val (.int p1)] [])) t → Steps p.tables e below (s₁.setTop (entryFrame m #[(.ref ob0), (.int p1)] 2)) t := fun t k => castTop (ef_2 m ob0 p1) k
  obtain ⟨T1, X1, e1, st1⟩ := getF X0 hx hZ hown (host := "") (Or.inl (hw _ (List.mem_of_getElem? (i := 15) rfl))) Via.refl e0 F_sinceVersion_ob0 (g := (mkF m 1 #[.val (.ref ob0), .val (.int p1)] [(.ref ob0)])) rfl rfl (hb hby d2_1)
  have pre2 : ∀ t, Steps p.tables e below (T1.setTop (mkF m 5 #[.val (.ref ob0), .val (.int p1)] [(.int p1), (.int w_ob0_sinceVersion)])) t → Steps p.tables e below (s₁.setTop (entryFrame m #[(.ref ob0), (.int p1)] 2)) t := fun t k => by
    refine pre0 t ?_
    show Steps p.tables e below (s₁.setTop (mkF m 0 #[.val (.ref ob0), .val (.int p1)] [])) _
    refine XS.aloadN X0.here hx rfl (hb hby d2_0) rfl rfl ?_
    show Steps p.tables e below (s₁.setTop (mkF m 1 #[.val (.ref ob0), .val (.int p1)] [(.ref ob0)])) _
    refine st1 _ ?_
    show Steps p.tables e below (T1.setTop (mkF m 4 #[.val (.ref ob0), .val (.int p1)] [(.int w_ob0_sinceVersion)])) _
    refine XS.iloadN X1.here hx rfl (hb hby d2_4) rfl ?_
    exact k
  by_cases hc5 : p1 < w_ob0_sinceVersion
  · obtain ⟨fs, hr, hrun, hended, hW, hsame⟩ := X1.leave (v := some (.int (0 : Int32))) (fun h => by rw [Bd.returns] at h; cases h) (BodyLoose.notSynchronized Bd)
    refine ⟨_, _, pre2 _ ?_, hrun, hended, _, _, rfl, ?_, ⟨_, rfl⟩, hW, hsame.mono (by decide) (by decide)⟩
    · show Steps p.tables e below (T1.setTop (mkF m 5 #[.val (.ref ob0), .val (.int p1)] [(.int p1), (.int w_ob0_sinceVersion)])) _
      refine XS.icmpYes X1.here hx rfl (pc0 := 5) (pc' := 12) rfl (hb hby d2_5) rfl (tlt hc5).2.2.1 (by decide) (by decide) ?_
      show Steps p.tables e below (T1.setTop (mkF m 12 #[.val (.ref ob0), .val (.int p1)] [])) _
      refine XS.iconst X1.here hx rfl (hb hby d2_12) ?_
      show Steps p.tables e below (T1.setTop (mkF m 13 #[.val (.ref ob0), .val (.int p1)] [(.int (0 : Int32))])) _
      exact retN X1 hx (t := .boolean) Bd.returns (by simp) (hb hby d2_13) hr
    · show Q2 Z ob0 p1 w_ob0_sinceVersion h0 n0 _ T1.heap _
      rw [e1]
      exact ⟨(by rw [F2, if_pos hc5]), N0, rfl⟩
  · obtain ⟨fs, hr, hrun, hended, hW, hsame⟩ := X1.leave (v := some (.int (1 : Int32))) (fun h => by rw [Bd.returns] at h; cases h) (BodyLoose.notSynchronized Bd)
    refine ⟨_, _, pre2 _ ?_, hrun, hended, _, _, rfl, ?_, ⟨_, rfl⟩, hW, hsame.mono (by decide) (by decide)⟩
    · show Steps p.tables e below (T1.setTop (mkF m 5 #[.val (.ref ob0), .val (.int p1)] [(.int p1), (.int w_ob0_sinceVersion)])) _
      refine XS.icmpNo X1.here hx rfl (hb hby d2_5) rfl (flt hc5).2.2.1 ?_
      show Steps p.tables e below (T1.setTop (mkF m 8 #[.val (.ref ob0), .val (.int p1)] [])) _
      refine XS.iconst X1.here hx rfl (hb hby d2_8) ?_
      show Steps p.tables e below (T1.setTop (mkF m 9 #[.val (.ref ob0), .val (.int p1)] [(.int (1 : Int32))])) _
      refine XS.goto X1.here hx rfl (pc0 := 9) (pc' := 13) rfl (hb hby d2_9) (by decide) (by decide) ?_
      show Steps p.tables e below (T1.setTop (mkF m 13 #[.val (.ref ob0), .val (.int p1)] [(.int (1 : Int32))])) _
      exact retN X1 hx (t := .boolean) Bd.returns (by simp) (hb hby d2_13) hr
    · show Q2 Z ob0 p1 w_ob0_sinceVersion h0 n0 _ T1.heap _
      rw [e1]
      exact ⟨(by rw [F2, if_neg hc5]), N0, rfl⟩
theorem pd_1 : parseMethodDescriptor "(I)Z" = some ⟨[.int], some .boolean⟩ := by decide +kernel
theorem pn_0 : plainName "com/example/hawser/hawser/rtr/PduTypeIsInPinLaw" = true := by first | (simp [plainName, overriddenIn]; done) | decide +kernel
theorem ef_0 (m : MethodId) (p0 : Int32) (p1 : Int32) : entryFrame m #[(.int p0), (.int p1)] maxLocals = mkF m 0 #[.val (.int p0), .val (.int p1), .unset, .unset, .unset, .unset] [] := by first | (simp [entryFrame, mkF, argsToLocals, Value.category, maxLocals]; done) | rfl
def Q0 (Z : State) (p0 : Int32) (p1 : Int32) (w_SERIAL_NOTIFY : Addr) (w_SERIAL_QUERY : Addr) (w_RESET_QUERY : Addr) (w_CACHE_RESPONSE : Addr) (w_IPV4_PREFIX : Addr) (w_IPV6_PREFIX : Addr) (w_END_OF_DATA : Addr) (w_CACHE_RESET : Addr) (w_ROUTER_KEY : Addr) (w_ERROR_REPORT : Addr) (h0 : Heap) (n0 : Nat) (v : Option Value) (h : Heap) (L : List Loc) : Prop := v = some (.int 1) ∧ Fr n0 L
set_option maxRecDepth 65536 in
set_option maxHeartbeats 40000000 in
theorem rm0 (l : Launch) (Z : State) (a0 : Array Value) (hw : ∀ d ∈ tables_1, d.before a0 Z = true) (ws : List Jvm.Cond) (p0 : Int32) (p1 : Int32) (w_SERIAL_NOTIFY : Addr) (w_SERIAL_QUERY : Addr) (w_RESET_QUERY : Addr) (w_CACHE_RESPONSE : Addr) (w_IPV4_PREFIX : Addr) (w_IPV6_PREFIX : Addr) (w_END_OF_DATA : Addr) (w_CACHE_RESET : Addr) (w_ROUTER_KEY : Addr) (w_ERROR_REPORT : Addr) (h0 : Heap) (n0 : Nat) (Z0 : n0 ≤ h0.size) (S_SERIAL_NOTIFY : Sta Z h0 "com/example/hawser/hawser/rtr/PduType" "SERIAL_NOTIFY" "Lcom/example/hawser/hawser/rtr/PduType;" (.ref w_SERIAL_NOTIFY)) (E_SERIAL_NOTIFY : Exa Z h0 w_SERIAL_NOTIFY "com/example/hawser/hawser/rtr/PduType") (F_sinceVersion_SERIAL_NOTIFY : Fld Z h0 w_SERIAL_NOTIFY "com/example/hawser/hawser/rtr/PduType" "sinceVersion" "I" (.int (0 : Int32))) (S_SERIAL_QUERY : Sta Z h0 "com/example/hawser/hawser/rtr/PduType" "SERIAL_QUERY" "Lcom/example/hawser/hawser/rtr/PduType;" (.ref w_SERIAL_QUERY)) (E_SERIAL_QUERY : Exa Z h0 w_SERIAL_QUERY "com/example/hawser/hawser/rtr/PduType") (F_sinceVersion_SERIAL_QUERY : Fld Z h0 w_SERIAL_QUERY "com/example/hawser/hawser/rtr/PduType" "sinceVersion" "I" (.int (0 : Int32))) (S_RESET_QUERY : Sta Z h0 "com/example/hawser/hawser/rtr/PduType" "RESET_QUERY" "Lcom/example/hawser/hawser/rtr/PduType;" (.ref w_RESET_QUERY)) (E_RESET_QUERY : Exa Z h0 w_RESET_QUERY "com/example/hawser/hawser/rtr/PduType") (F_sinceVersion_RESET_QUERY : Fld Z h0 w_RESET_QUERY "com/example/hawser/hawser/rtr/PduType" "sinceVersion" "I" (.int (0 : Int32))) (S_CACHE_RESPONSE : Sta Z h0 "com/example/hawser/hawser/rtr/PduType" "CACHE_RESPONSE" "Lcom/example/hawser/hawser/rtr/PduType;" (.ref w_CACHE_RESPONSE)) (E_CACHE_RESPONSE : Exa Z h0 w_CACHE_RESPONSE "com/example/hawser/hawser/rtr/PduType") (F_sinceVersion_CACHE_RESPONSE : Fld Z h0 w_CACHE_RESPONSE "com/example/hawser/hawser/rtr/PduType" "sinceVersion" "I" (.int (0 : Int32))) (S_IPV4_PREFIX : Sta Z h0 "com/example/hawser/hawser/rtr/PduType" "IPV4_PREFIX" "Lcom/example/hawser/hawser/rtr/PduType;" (.ref w_IPV4_PREFIX)) (E_IPV4_PREFIX : Exa Z h0 w_IPV4_PREFIX "com/example/hawser/hawser/rtr/PduType") (F_sinceVersion_IPV4_PREFIX : Fld Z h0 w_IPV4_PREFIX "com/example/hawser/hawser/rtr/PduType" "sinceVersion" "I" (.int (0 : Int32))) (S_IPV6_PREFIX : Sta Z h0 "com/example/hawser/hawser/rtr/PduType" "IPV6_PREFIX" "Lcom/example/hawser/hawser/rtr/PduType;" (.ref w_IPV6_PREFIX)) (E_IPV6_PREFIX : Exa Z h0 w_IPV6_PREFIX "com/example/hawser/hawser/rtr/PduType") (F_sinceVersion_IPV6_PREFIX : Fld Z h0 w_IPV6_PREFIX "com/example/hawser/hawser/rtr/PduType" "sinceVersion" "I" (.int (0 : Int32))) (S_END_OF_DATA : Sta Z h0 "com/example/hawser/hawser/rtr/PduType" "END_OF_DATA" "Lcom/example/hawser/hawser/rtr/PduType;" (.ref w_END_OF_DATA)) (E_END_OF_DATA : Exa Z h0 w_END_OF_DATA "com/example/hawser/hawser/rtr/PduType") (F_sinceVersion_END_OF_DATA : Fld Z h0 w_END_OF_DATA "com/example/hawser/hawser/rtr/PduType" "sinceVersion" "I" (.int (0 : Int32))) (S_CACHE_RESET : Sta Z h0 "com/example/hawser/hawser/rtr/PduType" "CACHE_RESET" "Lcom/example/hawser/hawser/rtr/PduType;" (.ref w_CACHE_RESET)) (E_CACHE_RESET : Exa Z h0 w_CACHE_RESET "com/example/hawser/hawser/rtr/PduType") (F_sinceVersion_CACHE_RESET : Fld Z h0 w_CACHE_RESET "com/example/hawser/hawser/rtr/PduType" "sinceVersion" "I" (.int (0 : Int32))) (S_ROUTER_KEY : Sta Z h0 "com/example/hawser/hawser/rtr/PduType" "ROUTER_KEY" "Lcom/example/hawser/hawser/rtr/PduType;" (.ref w_ROUTER_KEY)) (E_ROUTER_KEY : Exa Z h0 w_ROUTER_KEY "com/example/hawser/hawser/rtr/PduType") (F_sinceVersion_ROUTER_KEY : Fld Z h0 w_ROUTER_KEY "com/example/hawser/hawser/rtr/PduType" "sinceVersion" "I" (.int (1 : Int32))) (S_ERROR_REPORT : Sta Z h0 "com/example/hawser/hawser/rtr/PduType" "ERROR_REPORT" "Lcom/example/hawser/hawser/rtr/PduType;" (.ref w_ERROR_REPORT)) (E_ERROR_REPORT : Exa Z h0 w_ERROR_REPORT "com/example/hawser/hawser/rtr/PduType") (F_sinceVersion_ERROR_REPORT : Fld Z h0 w_ERROR_REPORT "com/example/hawser/hawser/rtr/PduType" "sinceVersion" "I" (.int (0 : Int32))) (ne_SERIAL_NOTIFY_ROUTER_KEY : ¬ w_SERIAL_NOTIFY = w_ROUTER_KEY) (ne_SERIAL_QUERY_ROUTER_KEY : ¬ w_SERIAL_QUERY = w_ROUTER_KEY) (ne_RESET_QUERY_ROUTER_KEY : ¬ w_RESET_QUERY = w_ROUTER_KEY) (ne_CACHE_RESPONSE_ROUTER_KEY : ¬ w_CACHE_RESPONSE = w_ROUTER_KEY) (ne_IPV4_PREFIX_ROUTER_KEY : ¬ w_IPV4_PREFIX = w_ROUTER_KEY) (ne_IPV6_PREFIX_ROUTER_KEY : ¬ w_IPV6_PREFIX = w_ROUTER_KEY) (ne_END_OF_DATA_ROUTER_KEY : ¬ w_END_OF_DATA = w_ROUTER_KEY) (ne_CACHE_RESET_ROUTER_KEY : ¬ w_CACHE_RESET = w_ROUTER_KEY) (ne_ERROR_REPORT_ROUTER_KEY : ¬ w_ERROR_REPORT = w_ROUTER_KEY) :
    MetFree l x (head1 (Jvm.Cond.code x code maxLocals ret :: ws) room_1) (fun a U => a = #[(.int p0), (.int p1)] ∧ Z.Warmed39 U.vm ∧ U.heap = h0) (fun _ _ _ _ _ => True) (fun _ U o U' => ∃ v L, o = .returned v ∧ Q0 Z p0 p1 w_SERIAL_NOTIFY w_SERIAL_QUERY w_RESET_QUERY w_CACHE_RESPONSE w_IPV4_PREFIX w_IPV6_PREFIX w_END_OF_DATA w_CACHE_RESET w_ROUTER_KEY w_ERROR_REPORT h0 n0 v U'.heap L ∧ FrameEnd U o U' L room_1.cells room_1.slots) := by
  refine MetFree.of_bodySF (plainFor_of_name pn_0) hisR ?_
  intro p e s m args below meth c s₁ Bd hml0 hP hK
  obtain ⟨rfl, hZ, hh⟩ := hP
  have hx := Bd.exec
  have hby := Bd.bytes
  have hml : c.maxLocals = 6 := hml0
  have hown : s.vm.findClass "com/example/hawser/hawser/rtr/PduTypeIsInPinLaw" = some m.cls := findClass_of_methodNamed Bd.named
  have hnm := (name_of_methodNamed Bd.named Bd.method).1
  have X0 : Stand p l e room_1 s m #[(.int p0), (.int p1)] below meth c s₁ [] 0 0 := Stand.of_body Bd
  have e0 : s₁.heap = h0 := by rw [← hh, Bd.state]; rfl
  have N0 := Fr.nil n0
  have pre0 : ∀ t, Steps p.tables e below (s₁.setTop (mkF m 0 #[.val (.int p0), .val (.int p1), .unset, .unset, .unset, .unset] [])) t → Steps p.tables e below (s₁.setTop (entryFrame m #[(.int p0), (.int p1)] maxLocals)) t := fun t k => castTop (ef_0 m p0 p1) k
  obtain ⟨_, _, ⟨T1, L1, k1, n1⟩, -, X1, ⟨Lc1, hQ1, l1, y1, z1⟩, st1⟩ := Jvm.LawKit.callS X0 hx (y := (⟨"com/example/hawser/hawser/rtr/PduTypeIsInPinLaw", "pick", "(I)Lcom/example/hawser/hawser/rtr/PduType;"⟩ : MethodName)) hown (mvT hZ (hw _ (List.mem_of_getElem? (i := 1) rfl))) (mvT hZ (hw _ (List.mem_of_getElem? (i := 2) rfl))) (mvT hZ (hw _ (List.mem_of_getElem? (i := 3) rfl))) (mvT hZ (hw _ (List.mem_of_getElem? (i := 4) rfl))) (by decide) (backOf (W := 0) (rm1 l Z a0 hw [] ((p0 &&& (2147483647 : Int32)) % (10 : Int32)) w_SERIAL_NOTIFY w_SERIAL_QUERY w_RESET_QUERY w_CACHE_RESPONSE w_IPV4_PREFIX w_IPV6_PREFIX w_END_OF_DATA w_CACHE_RESET w_ROUTER_KEY w_ERROR_REPORT h0 n0 Z0 S_SERIAL_NOTIFY S_SERIAL_QUERY S_RESET_QUERY S_CACHE_RESPONSE S_IPV4_PREFIX S_IPV6_PREFIX S_END_OF_DATA S_CACHE_RESET S_ROUTER_KEY S_ERROR_REPORT) hZ (hw _ (List.mem_of_getElem? (i := 4) rfl)) (hw _ (List.mem_of_getElem? (i := 3) rfl)) (by decide) (by decide)) (g := (mkF m 9 #[.val (.int p0), .val (.int p1), .val (.int ((p0 &&& (2147483647 : Int32)) % (10 : Int32))), .unset, .unset, .unset] [(.int ((p0 &&& (2147483647 : Int32)) % (10 : Int32)))])) rfl (by rw [hml]; rfl) (argsL := [(.int ((p0 &&& (2147483647 : Int32)) % (10 : Int32)))]) (rest := []) (lenOf pd_0 rfl) rfl (by show 2 * 0 + _ ≤ _; exact Nat.le_of_eq rfl) (hb hby at_9) (fun _ _ => ⟨rfl, e0, (by decide : 0 + 0 ≤ _), (by decide : 0 + 0 ≤ _)⟩)
  dsimp only [Pt.U, Pt.locs, Pt.cells, Pt.slots] at X1 l1 y1 z1 st1 hQ1
  subst l1 y1 z1
  obtain ⟨rfl, N1q, e1⟩ := hQ1
  have N1 := Fr.app N0 N1q
  have pre2 : ∀ t, Steps p.tables e below (T1.setTop (mkF m 12 #[.val (.int p0), .val (.int p1), .val (.int ((p0 &&& (2147483647 : Int32)) % (10 : Int32))), .unset, .unset, .unset] [(.ref (F1 ((p0 &&& (2147483647 : Int32)) % (10 : Int32)) w_SERIAL_NOTIFY w_SERIAL_QUERY w_RESET_QUERY w_CACHE_RESPONSE w_IPV4_PREFIX w_IPV6_PREFIX w_END_OF_DATA w_CACHE_RESET w_ROUTER_KEY w_ERROR_REPORT))])) t → Steps p.tables e below (s₁.setTop (entryFrame m #[(.int p0), (.int p1)] maxLocals)) t := fun t k => by
    refine pre0 t ?_
    show Steps p.tables e below (s₁.setTop (mkF m 0 #[.val (.int p0), .val (.int p1), .unset, .unset, .unset, .unset] [])) _
    refine XS.iloadN X0.here hx rfl (hb hby at_0) rfl ?_
    show Steps p.tables e below (s₁.setTop (mkF m 1 #[.val (.int p0), .val (.int p1), .unset, .unset, .unset, .unset] [(.int p0)])) _
    refine X0.ldcInt hx hown (mvT hZ (hw _ (List.mem_of_getElem? (i := 0) rfl))) (g := (mkF m 1 #[.val (.int p0), .val (.int p1), .unset, .unset, .unset, .unset] [(.int p0)])) rfl (hb hby at_1) _ ?_
    show Steps p.tables e below (s₁.setTop (mkF m 3 #[.val (.int p0), .val (.int p1), .unset, .unset, .unset, .unset] [(.int (2147483647 : Int32)), (.int p0)])) _
    refine XS.iand X0.here hx rfl (hb hby at_3) rfl ?_
    show Steps p.tables e below (s₁.setTop (mkF m 4 #[.val (.int p0), .val (.int p1), .unset, .unset, .unset, .unset] [(.int (p0 &&& (2147483647 : Int32)))])) _
    refine XS.bipush X0.here hx rfl (hb hby at_4) ?_
    show Steps p.tables e below (s₁.setTop (mkF m 6 #[.val (.int p0), .val (.int p1), .unset, .unset, .unset, .unset] [(.int (10 : Int32)), (.int (p0 &&& (2147483647 : Int32)))])) _
    refine iremM X0 hx rfl (hb hby at_6) rfl (by decide) ?_
    show Steps p.tables e below (s₁.setTop (mkF m 7 #[.val (.int p0), .val (.int p1), .unset, .unset, .unset, .unset] [(.int ((p0 &&& (2147483647 : Int32)) % (10 : Int32)))])) _
    refine XS.istoreN X0.here hx rfl (hb hby at_7) rfl (l' := #[.val (.int p0), .val (.int p1), .val (.int ((p0 &&& (2147483647 : Int32)) % (10 : Int32))), .unset, .unset, .unset]) rfl ?_
    show Steps p.tables e below (s₁.setTop (mkF m 8 #[.val (.int p0), .val (.int p1), .val (.int ((p0 &&& (2147483647 : Int32)) % (10 : Int32))), .unset, .unset, .unset] [])) _
    refine XS.iloadN X0.here hx rfl (hb hby at_8) rfl ?_
    show Steps p.tables e below (s₁.setTop (mkF m 9 #[.val (.int p0), .val (.int p1), .val (.int ((p0 &&& (2147483647 : Int32)) % (10 : Int32))), .unset, .unset, .unset] [(.int ((p0 &&& (2147483647 : Int32)) % (10 : Int32)))])) _
    refine st1 _ ?_
    exact k
  by_cases hk : ((p0 &&& (2147483647 : Int32)) % (10 : Int32)) = (0 : Int32)
  · rw [show (F1 ((p0 &&& (2147483647 : Int32)) % (10 : Int32)) w_SERIAL_NOTIFY w_SERIAL_QUERY w_RESET_QUERY w_CACHE_RESPONSE w_IPV4_PREFIX w_IPV6_PREFIX w_END_OF_DATA w_CACHE_RESET w_ROUTER_KEY w_ERROR_REPORT) = w_SERIAL_NOTIFY from by rw [F1, if_pos hk]] at pre2
    obtain ⟨T3, X3, e3, st3⟩ := getS2 X1 hx hZ hown (host := "") (Or.inl (hw _ (List.mem_of_getElem? (i := 8) rfl))) Via.refl e1 S_ROUTER_KEY (g := (mkF m 17 #[.val (.int p0), .val (.int p1), .val (.int ((p0 &&& (2147483647 : Int32)) % (10 : Int32))), .val (.ref w_SERIAL_NOTIFY), .val (.int (0 : Int32)), .unset] [(.ref w_SERIAL_NOTIFY)])) rfl (hb hby at_17)
    have ha20 : ¬ (w_SERIAL_NOTIFY = w_ROUTER_KEY) := ne_SERIAL_NOTIFY_ROUTER_KEY
    have pre4 : ∀ t, Steps p.tables e below (T3.setTop (mkF m 29 #[.val (.int p0), .val (.int p1), .val (.int ((p0 &&& (2147483647 : Int32)) % (10 : Int32))), .val (.ref w_SERIAL_NOTIFY), .val (.int (0 : Int32)), .unset] [(.int (0 : Int32)), (.int p1)])) t → Steps p.tables e below (s₁.setTop (entryFrame m #[(.int p0), (.int p1)] maxLocals)) t := fun t k => by
      refine pre2 t ?_
      show Steps p.tables e below (T1.setTop (mkF m 12 #[.val (.int p0), .val (.int p1), .val (.int ((p0 &&& (2147483647 : Int32)) % (10 : Int32))), .unset, .unset, .unset] [(.ref w_SERIAL_NOTIFY)])) _
      refine XS.astoreN X1.here hx rfl (hb hby at_12) rfl rfl (l' := #[.val (.int p0), .val (.int p1), .val (.int ((p0 &&& (2147483647 : Int32)) % (10 : Int32))), .val (.ref w_SERIAL_NOTIFY), .unset, .unset]) rfl ?_
      show Steps p.tables e below (T1.setTop (mkF m 13 #[.val (.int p0), .val (.int p1), .val (.int ((p0 &&& (2147483647 : Int32)) % (10 : Int32))), .val (.ref w_SERIAL_NOTIFY), .unset, .unset] [])) _
      refine XS.iconst X1.here hx rfl (hb hby at_13) ?_
      show Steps p.tables e below (T1.setTop (mkF m 14 #[.val (.int p0), .val (.int p1), .val (.int ((p0 &&& (2147483647 : Int32)) % (10 : Int32))), .val (.ref w_SERIAL_NOTIFY), .unset, .unset] [(.int (0 : Int32))])) _
      refine XS.istore X1.here hx rfl (hb hby at_14) rfl (l' := #[.val (.int p0), .val (.int p1), .val (.int ((p0 &&& (2147483647 : Int32)) % (10 : Int32))), .val (.ref w_SERIAL_NOTIFY), .val (.int (0 : Int32)), .unset]) rfl ?_
      show Steps p.tables e below (T1.setTop (mkF m 16 #[.val (.int p0), .val (.int p1), .val (.int ((p0 &&& (2147483647 : Int32)) % (10 : Int32))), .val (.ref w_SERIAL_NOTIFY), .val (.int (0 : Int32)), .unset] [])) _
      refine XS.aloadN X1.here hx rfl (hb hby at_16) rfl rfl ?_
      show Steps p.tables e below (T1.setTop (mkF m 17 #[.val (.int p0), .val (.int p1), .val (.int ((p0 &&& (2147483647 : Int32)) % (10 : Int32))), .val (.ref w_SERIAL_NOTIFY), .val (.int (0 : Int32)), .unset] [(.ref w_SERIAL_NOTIFY)])) _
      refine st3 _ ?_
      show Steps p.tables e below (T3.setTop (mkF m 20 #[.val (.int p0), .val (.int p1), .val (.int ((p0 &&& (2147483647 : Int32)) % (10 : Int32))), .val (.ref w_SERIAL_NOTIFY), .val (.int (0 : Int32)), .unset] [(.ref w_ROUTER_KEY), (.ref w_SERIAL_NOTIFY)])) _
      refine Jvm.RoadKit.acmp (g := (mkF m 20 #[.val (.int p0), .val (.int p1), .val (.int ((p0 &&& (2147483647 : Int32)) % (10 : Int32))), .val (.ref w_SERIAL_NOTIFY), .val (.int (0 : Int32)), .unset] [(.ref w_ROUTER_KEY), (.ref w_SERIAL_NOTIFY)])) X3 hx rfl rfl rfl (pc0 := 20) (pc' := 26) (same := false) rfl (hb hby at_20) rfl (decide_eq_false fun q => ha20 (Value.ref.inj q)) (by decide) (by decide) ?_
      show Steps p.tables e below (T3.setTop (mkF m 26 #[.val (.int p0), .val (.int p1), .val (.int ((p0 &&& (2147483647 : Int32)) % (10 : Int32))), .val (.ref w_SERIAL_NOTIFY), .val (.int (0 : Int32)), .unset] [])) _
      refine XS.iloadN X3.here hx rfl (hb hby at_26) rfl ?_
      show Steps p.tables e below (T3.setTop (mkF m 27 #[.val (.int p0), .val (.int p1), .val (.int ((p0 &&& (2147483647 : Int32)) % (10 : Int32))), .val (.ref w_SERIAL_NOTIFY), .val (.int (0 : Int32)), .unset] [(.int p1)])) _
      refine XS.iload X3.here hx rfl (hb hby at_27) rfl ?_
      exact k
    by_cases hc29 : p1 < (0 : Int32)
    · obtain ⟨cq5, kq5, q5a, q5b, q5c⟩ := isOf hZ e3 E_SERIAL_NOTIFY
      obtain ⟨_, _, ⟨T5, L5, k5, n5⟩, -, X5, ⟨Lc5, hQ5, l5, y5, z5⟩, st5⟩ := X3.virtualBack hx (y := (⟨"com/example/hawser/hawser/rtr/PduType", "isIn", "(I)Z"⟩ : MethodName)) (z := (⟨"com/example/hawser/hawser/rtr/PduType", "isIn", "(I)Z"⟩ : MethodName)) hown (mvT hZ (hw _ (List.mem_of_getElem? (i := 10) rfl))) (mvT hZ (hw _ (List.mem_of_getElem? (i := 11) rfl))) (notFace_of_selects (args := #[]) (mvT hZ (hw _ (List.mem_of_getElem? (i := 13) rfl)))) (mvT hZ (hw _ (List.mem_of_getElem? (i := 13) rfl))) (mvT hZ (hw _ (List.mem_of_getElem? (i := 12) rfl))) (by decide) (backOf (W := 0) (rm2 l Z a0 hw [] w_SERIAL_NOTIFY p1 (0 : Int32) h0 n0 Z0 F_sinceVersion_SERIAL_NOTIFY) hZ (hw _ (List.mem_of_getElem? (i := 14) rfl)) (hw _ (List.mem_of_getElem? (i := 6) rfl)) (by decide) (by decide)) q5a q5c (g := (mkF m 41 #[.val (.int p0), .val (.int p1), .val (.int ((p0 &&& (2147483647 : Int32)) % (10 : Int32))), .val (.ref w_SERIAL_NOTIFY), .val (.int (0 : Int32)), .val (.int (0 : Int32))] [(.int p1), (.ref w_SERIAL_NOTIFY)])) rfl (by rw [hml]; rfl) (Steps.refl _) (argsL := [(.int p1)]) (rest := []) (lenOf pd_1 rfl) rfl (by show 2 * 0 + _ ≤ _; exact Nat.le_of_eq rfl) (hb hby at_41) (fun _ _ => ⟨rfl, e3, (by decide : 0 + 0 ≤ _), (by decide : 0 + 0 ≤ _)⟩)
      dsimp only [Pt.U, Pt.locs, Pt.cells, Pt.slots] at X5 l5 y5 z5 st5 hQ5
      subst l5 y5 z5
      obtain ⟨rfl, N5q, e5⟩ := hQ5
      have N5 := Fr.app N1 N5q
      have hc46 : (F2 p1 (0 : Int32)) = (0 : Int32) := by rw [F2, if_pos hc29]
      obtain ⟨fs, hr, hrun, hended, hW, hsame⟩ := X5.leave (v := some (.int (1 : Int32))) (fun h => by rw [Bd.returns] at h; cases h) (BodyLoose.notSynchronized Bd)
      refine ⟨_, _, pre4 _ ?_, hrun, hended, _, _, rfl, ?_, ⟨_, rfl⟩, hW, hsame.mono (by decide) (by decide)⟩
      · show Steps p.tables e below (T3.setTop (mkF m 29 #[.val (.int p0), .val (.int p1), .val (.int ((p0 &&& (2147483647 : Int32)) % (10 : Int32))), .val (.ref w_SERIAL_NOTIFY), .val (.int (0 : Int32)), .unset] [(.int (0 : Int32)), (.int p1)])) _
        refine XS.icmpYes X3.here hx rfl (pc0 := 29) (pc' := 36) rfl (hb hby at_29) rfl (tlt hc29).1 (by decide) (by decide) ?_
        show Steps p.tables e below (T3.setTop (mkF m 36 #[.val (.int p0), .val (.int p1), .val (.int ((p0 &&& (2147483647 : Int32)) % (10 : Int32))), .val (.ref w_SERIAL_NOTIFY), .val (.int (0 : Int32)), .unset] [])) _
        refine XS.iconst X3.here hx rfl (hb hby at_36) ?_
        show Steps p.tables e below (T3.setTop (mkF m 37 #[.val (.int p0), .val (.int p1), .val (.int ((p0 &&& (2147483647 : Int32)) % (10 : Int32))), .val (.ref w_SERIAL_NOTIFY), .val (.int (0 : Int32)), .unset] [(.int (0 : Int32))])) _
        refine XS.istore X3.here hx rfl (hb hby at_37) rfl (l' := #[.val (.int p0), .val (.int p1), .val (.int ((p0 &&& (2147483647 : Int32)) % (10 : Int32))), .val (.ref w_SERIAL_NOTIFY), .val (.int (0 : Int32)), .val (.int (0 : Int32))]) rfl ?_
        show Steps p.tables e below (T3.setTop (mkF m 39 #[.val (.int p0), .val (.int p1), .val (.int ((p0 &&& (2147483647 : Int32)) % (10 : Int32))), .val (.ref w_SERIAL_NOTIFY), .val (.int (0 : Int32)), .val (.int (0 : Int32))] [])) _
        refine XS.aloadN X3.here hx rfl (hb hby at_39) rfl rfl ?_
        show Steps p.tables e below (T3.setTop (mkF m 40 #[.val (.int p0), .val (.int p1), .val (.int ((p0 &&& (2147483647 : Int32)) % (10 : Int32))), .val (.ref w_SERIAL_NOTIFY), .val (.int (0 : Int32)), .val (.int (0 : Int32))] [(.ref w_SERIAL_NOTIFY)])) _
        refine XS.iloadN X3.here hx rfl (hb hby at_40) rfl ?_
        show Steps p.tables e below (T3.setTop (mkF m 41 #[.val (.int p0), .val (.int p1), .val (.int ((p0 &&& (2147483647 : Int32)) % (10 : Int32))), .val (.ref w_SERIAL_NOTIFY), .val (.int (0 : Int32)), .val (.int (0 : Int32))] [(.int p1), (.ref w_SERIAL_NOTIFY)])) _
        refine st5.trans ?_
        show Steps p.tables e below (T5.setTop (mkF m 44 #[.val (.int p0), .val (.int p1), .val (.int ((p0 &&& (2147483647 : Int32)) % (10 : Int32))), .val (.ref w_SERIAL_NOTIFY), .val (.int (0 : Int32)), .val (.int (0 : Int32))] [(.int (F2 p1 (0 : Int32)))])) _
        refine XS.iload X5.here hx rfl (hb hby at_44) rfl ?_
        show Steps p.tables e below (T5.setTop (mkF m 46 #[.val (.int p0), .val (.int p1), .val (.int ((p0 &&& (2147483647 : Int32)) % (10 : Int32))), .val (.ref w_SERIAL_NOTIFY), .val (.int (0 : Int32)), .val (.int (0 : Int32))] [(.int (0 : Int32)), (.int (F2 p1 (0 : Int32)))])) _
        refine XS.icmpNo X5.here hx rfl (hb hby at_46) rfl (teq hc46).2 ?_
        show Steps p.tables e below (T5.setTop (mkF m 49 #[.val (.int p0), .val (.int p1), .val (.int ((p0 &&& (2147483647 : Int32)) % (10 : Int32))), .val (.ref w_SERIAL_NOTIFY), .val (.int (0 : Int32)), .val (.int (0 : Int32))] [])) _
        refine XS.iconst X5.here hx rfl (hb hby at_49) ?_
        show Steps p.tables e below (T5.setTop (mkF m 50 #[.val (.int p0), .val (.int p1), .val (.int ((p0 &&& (2147483647 : Int32)) % (10 : Int32))), .val (.ref w_SERIAL_NOTIFY), .val (.int (0 : Int32)), .val (.int (0 : Int32))] [(.int (1 : Int32))])) _
        refine XS.goto X5.here hx rfl (pc0 := 50) (pc' := 54) rfl (hb hby at_50) (by decide) (by decide) ?_
        show Steps p.tables e below (T5.setTop (mkF m 54 #[.val (.int p0), .val (.int p1), .val (.int ((p0 &&& (2147483647 : Int32)) % (10 : Int32))), .val (.ref w_SERIAL_NOTIFY), .val (.int (0 : Int32)), .val (.int (0 : Int32))] [(.int (1 : Int32))])) _
        exact retN X5 hx (t := .boolean) Bd.returns (by simp) (hb hby at_54) hr
      · show Q0 Z p0 p1 w_SERIAL_NOTIFY w_SERIAL_QUERY w_RESET_QUERY w_CACHE_RESPONSE w_IPV4_PREFIX w_IPV6_PREFIX w_END_OF_DATA w_CACHE_RESET w_ROUTER_KEY w_ERROR_REPORT h0 n0 _ T5.heap _
        rw [e5]
        exact ⟨rfl, N5⟩
    · obtain ⟨cq6, kq6, q6a, q6b, q6c⟩ := isOf hZ e3 E_SERIAL_NOTIFY
      obtain ⟨_, _, ⟨T6, L6, k6, n6⟩, -, X6, ⟨Lc6, hQ6, l6, y6, z6⟩, st6⟩ := X3.virtualBack hx (y := (⟨"com/example/hawser/hawser/rtr/PduType", "isIn", "(I)Z"⟩ : MethodName)) (z := (⟨"com/example/hawser/hawser/rtr/PduType", "isIn", "(I)Z"⟩ : MethodName)) hown (mvT hZ (hw _ (List.mem_of_getElem? (i := 10) rfl))) (mvT hZ (hw _ (List.mem_of_getElem? (i := 11) rfl))) (notFace_of_selects (args := #[]) (mvT hZ (hw _ (List.mem_of_getElem? (i := 13) rfl)))) (mvT hZ (hw _ (List.mem_of_getElem? (i := 13) rfl))) (mvT hZ (hw _ (List.mem_of_getElem? (i := 12) rfl))) (by decide) (backOf (W := 0) (rm2 l Z a0 hw [] w_SERIAL_NOTIFY p1 (0 : Int32) h0 n0 Z0 F_sinceVersion_SERIAL_NOTIFY) hZ (hw _ (List.mem_of_getElem? (i := 14) rfl)) (hw _ (List.mem_of_getElem? (i := 6) rfl)) (by decide) (by decide)) q6a q6c (g := (mkF m 41 #[.val (.int p0), .val (.int p1), .val (.int ((p0 &&& (2147483647 : Int32)) % (10 : Int32))), .val (.ref w_SERIAL_NOTIFY), .val (.int (0 : Int32)), .val (.int (1 : Int32))] [(.int p1), (.ref w_SERIAL_NOTIFY)])) rfl (by rw [hml]; rfl) (Steps.refl _) (argsL := [(.int p1)]) (rest := []) (lenOf pd_1 rfl) rfl (by show 2 * 0 + _ ≤ _; exact Nat.le_of_eq rfl) (hb hby at_41) (fun _ _ => ⟨rfl, e3, (by decide : 0 + 0 ≤ _), (by decide : 0 + 0 ≤ _)⟩)
      dsimp only [Pt.U, Pt.locs, Pt.cells, Pt.slots] at X6 l6 y6 z6 st6 hQ6
      subst l6 y6 z6
      obtain ⟨rfl, N6q, e6⟩ := hQ6
      have N6 := Fr.app N1 N6q
      have hc46 : (F2 p1 (0 : Int32)) = (1 : Int32) := by rw [F2, if_neg hc29]
      obtain ⟨fs, hr, hrun, hended, hW, hsame⟩ := X6.leave (v := some (.int (1 : Int32))) (fun h => by rw [Bd.returns] at h; cases h) (BodyLoose.notSynchronized Bd)
      refine ⟨_, _, pre4 _ ?_, hrun, hended, _, _, rfl, ?_, ⟨_, rfl⟩, hW, hsame.mono (by decide) (by decide)⟩
      · show Steps p.tables e below (T3.setTop (mkF m 29 #[.val (.int p0), .val (.int p1), .val (.int ((p0 &&& (2147483647 : Int32)) % (10 : Int32))), .val (.ref w_SERIAL_NOTIFY), .val (.int (0 : Int32)), .unset] [(.int (0 : Int32)), (.int p1)])) _
        refine XS.icmpNo X3.here hx rfl (hb hby at_29) rfl (flt hc29).1 ?_
        show Steps p.tables e below (T3.setTop (mkF m 32 #[.val (.int p0), .val (.int p1), .val (.int ((p0 &&& (2147483647 : Int32)) % (10 : Int32))), .val (.ref w_SERIAL_NOTIFY), .val (.int (0 : Int32)), .unset] [])) _
        refine XS.iconst X3.here hx rfl (hb hby at_32) ?_
        show Steps p.tables e below (T3.setTop (mkF m 33 #[.val (.int p0), .val (.int p1), .val (.int ((p0 &&& (2147483647 : Int32)) % (10 : Int32))), .val (.ref w_SERIAL_NOTIFY), .val (.int (0 : Int32)), .unset] [(.int (1 : Int32))])) _
        refine XS.goto X3.here hx rfl (pc0 := 33) (pc' := 37) rfl (hb hby at_33) (by decide) (by decide) ?_
        show Steps p.tables e below (T3.setTop (mkF m 37 #[.val (.int p0), .val (.int p1), .val (.int ((p0 &&& (2147483647 : Int32)) % (10 : Int32))), .val (.ref w_SERIAL_NOTIFY), .val (.int (0 : Int32)), .unset] [(.int (1 : Int32))])) _
        refine XS.istore X3.here hx rfl (hb hby at_37) rfl (l' := #[.val (.int p0), .val (.int p1), .val (.int ((p0 &&& (2147483647 : Int32)) % (10 : Int32))), .val (.ref w_SERIAL_NOTIFY), .val (.int (0 : Int32)), .val (.int (1 : Int32))]) rfl ?_
        show Steps p.tables e below (T3.setTop (mkF m 39 #[.val (.int p0), .val (.int p1), .val (.int ((p0 &&& (2147483647 : Int32)) % (10 : Int32))), .val (.ref w_SERIAL_NOTIFY), .val (.int (0 : Int32)), .val (.int (1 : Int32))] [])) _
        refine XS.aloadN X3.here hx rfl (hb hby at_39) rfl rfl ?_
        show Steps p.tables e below (T3.setTop (mkF m 40 #[.val (.int p0), .val (.int p1), .val (.int ((p0 &&& (2147483647 : Int32)) % (10 : Int32))), .val (.ref w_SERIAL_NOTIFY), .val (.int (0 : Int32)), .val (.int (1 : Int32))] [(.ref w_SERIAL_NOTIFY)])) _
        refine XS.iloadN X3.here hx rfl (hb hby at_40) rfl ?_
        show Steps p.tables e below (T3.setTop (mkF m 41 #[.val (.int p0), .val (.int p1), .val (.int ((p0 &&& (2147483647 : Int32)) % (10 : Int32))), .val (.ref w_SERIAL_NOTIFY), .val (.int (0 : Int32)), .val (.int (1 : Int32))] [(.int p1), (.ref w_SERIAL_NOTIFY)])) _
        refine st6.trans ?_
        show Steps p.tables e below (T6.setTop (mkF m 44 #[.val (.int p0), .val (.int p1), .val (.int ((p0 &&& (2147483647 : Int32)) % (10 : Int32))), .val (.ref w_SERIAL_NOTIFY), .val (.int (0 : Int32)), .val (.int (1 : Int32))] [(.int (F2 p1 (0 : Int32)))])) _
        refine XS.iload X6.here hx rfl (hb hby at_44) rfl ?_
        show Steps p.tables e below (T6.setTop (mkF m 46 #[.val (.int p0), .val (.int p1), .val (.int ((p0 &&& (2147483647 : Int32)) % (10 : Int32))), .val (.ref w_SERIAL_NOTIFY), .val (.int (0 : Int32)), .val (.int (1 : Int32))] [(.int (1 : Int32)), (.int (F2 p1 (0 : Int32)))])) _
        refine XS.icmpNo X6.here hx rfl (hb hby at_46) rfl (teq hc46).2 ?_
        show Steps p.tables e below (T6.setTop (mkF m 49 #[.val (.int p0), .val (.int p1), .val (.int ((p0 &&& (2147483647 : Int32)) % (10 : Int32))), .val (.ref w_SERIAL_NOTIFY), .val (.int (0 : Int32)), .val (.int (1 : Int32))] [])) _
        refine XS.iconst X6.here hx rfl (hb hby at_49) ?_
        show Steps p.tables e below (T6.setTop (mkF m 50 #[.val (.int p0), .val (.int p1), .val (.int ((p0 &&& (2147483647 : Int32)) % (10 : Int32))), .val (.ref w_SERIAL_NOTIFY), .val (.int (0 : Int32)), .val (.int (1 : Int32))] [(.int (1 : Int32))])) _
        refine XS.goto X6.here hx rfl (pc0 := 50) (pc' := 54) rfl (hb hby at_50) (by decide) (by decide) ?_
        show Steps p.tables e below (T6.setTop (mkF m 54 #[.val (.int p0), .val (.int p1), .val (.int ((p0 &&& (2147483647 : Int32)) % (10 : Int32))), .val (.ref w_SERIAL_NOTIFY), .val (.int (0 : Int32)), .val (.int (1 : Int32))] [(.int (1 : Int32))])) _
        exact retN X6 hx (t := .boolean) Bd.returns (by simp) (hb hby at_54) hr
      · show Q0 Z p0 p1 w_SERIAL_NOTIFY w_SERIAL_QUERY w_RESET_QUERY w_CACHE_RESPONSE w_IPV4_PREFIX w_IPV6_PREFIX w_END_OF_DATA w_CACHE_RESET w_ROUTER_KEY w_ERROR_REPORT h0 n0 _ T6.heap _
        rw [e6]
        exact ⟨rfl, N6⟩
  · by_cases hk_2 : ((p0 &&& (2147483647 : Int32)) % (10 : Int32)) = (1 : Int32)
    · rw [show (F1 ((p0 &&& (2147483647 : Int32)) % (10 : Int32)) w_SERIAL_NOTIFY w_SERIAL_QUERY w_RESET_QUERY w_CACHE_RESPONSE w_IPV4_PREFIX w_IPV6_PREFIX w_END_OF_DATA w_CACHE_RESET w_ROUTER_KEY w_ERROR_REPORT) = w_SERIAL_QUERY from by rw [F1, if_neg hk, if_pos hk_2]] at pre2
      obtain ⟨T7, X7, e7, st7⟩ := getS2 X1 hx hZ hown (host := "") (Or.inl (hw _ (List.mem_of_getElem? (i := 8) rfl))) Via.refl e1 S_ROUTER_KEY (g := (mkF m 17 #[.val (.int p0), .val (.int p1), .val (.int ((p0 &&& (2147483647 : Int32)) % (10 : Int32))), .val (.ref w_SERIAL_QUERY), .val (.int (0 : Int32)), .unset] [(.ref w_SERIAL_QUERY)])) rfl (hb hby at_17)
      have ha20 : ¬ (w_SERIAL_QUERY = w_ROUTER_KEY) := ne_SERIAL_QUERY_ROUTER_KEY
      have pre8 : ∀ t, Steps p.tables e below (T7.setTop (mkF m 29 #[.val (.int p0), .val (.int p1), .val (.int ((p0 &&& (2147483647 : Int32)) % (10 : Int32))), .val (.ref w_SERIAL_QUERY), .val (.int (0 : Int32)), .unset] [(.int (0 : Int32)), (.int p1)])) t → Steps p.tables e below (s₁.setTop (entryFrame m #[(.int p0), (.int p1)] maxLocals)) t := fun t k => by
        refine pre2 t ?_
        show Steps p.tables e below (T1.setTop (mkF m 12 #[.val (.int p0), .val (.int p1), .val (.int ((p0 &&& (2147483647 : Int32)) % (10 : Int32))), .unset, .unset, .unset] [(.ref w_SERIAL_QUERY)])) _
        refine XS.astoreN X1.here hx rfl (hb hby at_12) rfl rfl (l' := #[.val (.int p0), .val (.int p1), .val (.int ((p0 &&& (2147483647 : Int32)) % (10 : Int32))), .val (.ref w_SERIAL_QUERY), .unset, .unset]) rfl ?_
        show Steps p.tables e below (T1.setTop (mkF m 13 #[.val (.int p0), .val (.int p1), .val (.int ((p0 &&& (2147483647 : Int32)) % (10 : Int32))), .val (.ref w_SERIAL_QUERY), .unset, .unset] [])) _
        refine XS.iconst X1.here hx rfl (hb hby at_13) ?_
        show Steps p.tables e below (T1.setTop (mkF m 14 #[.val (.int p0), .val (.int p1), .val (.int ((p0 &&& (2147483647 : Int32)) % (10 : Int32))), .val (.ref w_SERIAL_QUERY), .unset, .unset] [(.int (0 : Int32))])) _
        refine XS.istore X1.here hx rfl (hb hby at_14) rfl (l' := #[.val (.int p0), .val (.int p1), .val (.int ((p0 &&& (2147483647 : Int32)) % (10 : Int32))), .val (.ref w_SERIAL_QUERY), .val (.int (0 : Int32)), .unset]) rfl ?_
        show Steps p.tables e below (T1.setTop (mkF m 16 #[.val (.int p0), .val (.int p1), .val (.int ((p0 &&& (2147483647 : Int32)) % (10 : Int32))), .val (.ref w_SERIAL_QUERY), .val (.int (0 : Int32)), .unset] [])) _
        refine XS.aloadN X1.here hx rfl (hb hby at_16) rfl rfl ?_
        show Steps p.tables e below (T1.setTop (mkF m 17 #[.val (.int p0), .val (.int p1), .val (.int ((p0 &&& (2147483647 : Int32)) % (10 : Int32))), .val (.ref w_SERIAL_QUERY), .val (.int (0 : Int32)), .unset] [(.ref w_SERIAL_QUERY)])) _
        refine st7 _ ?_
        show Steps p.tables e below (T7.setTop (mkF m 20 #[.val (.int p0), .val (.int p1), .val (.int ((p0 &&& (2147483647 : Int32)) % (10 : Int32))), .val (.ref w_SERIAL_QUERY), .val (.int (0 : Int32)), .unset] [(.ref w_ROUTER_KEY), (.ref w_SERIAL_QUERY)])) _
        refine Jvm.RoadKit.acmp (g := (mkF m 20 #[.val (.int p0), .val (.int p1), .val (.int ((p0 &&& (2147483647 : Int32)) % (10 : Int32))), .val (.ref w_SERIAL_QUERY), .val (.int (0 : Int32)), .unset] [(.ref w_ROUTER_KEY), (.ref w_SERIAL_QUERY)])) X7 hx rfl rfl rfl (pc0 := 20) (pc' := 26) (same := false) rfl (hb hby at_20) rfl (decide_eq_false fun q => ha20 (Value.ref.inj q)) (by decide) (by decide) ?_
        show Steps p.tables e below (T7.setTop (mkF m 26 #[.val (.int p0), .val (.int p1), .val (.int ((p0 &&& (2147483647 : Int32)) % (10 : Int32))), .val (.ref w_SERIAL_QUERY), .val (.int (0 : Int32)), .unset] [])) _
        refine XS.iloadN X7.here hx rfl (hb hby at_26) rfl ?_
        show Steps p.tables e below (T7.setTop (mkF m 27 #[.val (.int p0), .val (.int p1), .val (.int ((p0 &&& (2147483647 : Int32)) % (10 : Int32))), .val (.ref w_SERIAL_QUERY), .val (.int (0 : Int32)), .unset] [(.int p1)])) _
        refine XS.iload X7.here hx rfl (hb hby at_27) rfl ?_
        exact k
      by_cases hc29 : p1 < (0 : Int32)
      · obtain ⟨cq9, kq9, q9a, q9b, q9c⟩ := isOf hZ e7 E_SERIAL_QUERY
        obtain ⟨_, _, ⟨T9, L9, k9, n9⟩, -, X9, ⟨Lc9, hQ9, l9, y9, z9⟩, st9⟩ := X7.virtualBack hx (y := (⟨"com/example/hawser/hawser/rtr/PduType", "isIn", "(I)Z"⟩ : MethodName)) (z := (⟨"com/example/hawser/hawser/rtr/PduType", "isIn", "(I)Z"⟩ : MethodName)) hown (mvT hZ (hw _ (List.mem_of_getElem? (i := 10) rfl))) (mvT hZ (hw _ (List.mem_of_getElem? (i := 11) rfl))) (notFace_of_selects (args := #[]) (mvT hZ (hw _ (List.mem_of_getElem? (i := 13) rfl)))) (mvT hZ (hw _ (List.mem_of_getElem? (i := 13) rfl))) (mvT hZ (hw _ (List.mem_of_getElem? (i := 12) rfl))) (by decide) (backOf (W := 0) (rm2 l Z a0 hw [] w_SERIAL_QUERY p1 (0 : Int32) h0 n0 Z0 F_sinceVersion_SERIAL_QUERY) hZ (hw _ (List.mem_of_getElem? (i := 14) rfl)) (hw _ (List.mem_of_getElem? (i := 6) rfl)) (by decide) (by decide)) q9a q9c (g := (mkF m 41 #[.val (.int p0), .val (.int p1), .val (.int ((p0 &&& (2147483647 : Int32)) % (10 : Int32))), .val (.ref w_SERIAL_QUERY), .val (.int (0 : Int32)), .val (.int (0 : Int32))] [(.int p1), (.ref w_SERIAL_QUERY)])) rfl (by rw [hml]; rfl) (Steps.refl _) (argsL := [(.int p1)]) (rest := []) (lenOf pd_1 rfl) rfl (by show 2 * 0 + _ ≤ _; exact Nat.le_of_eq rfl) (hb hby at_41) (fun _ _ => ⟨rfl, e7, (by decide : 0 + 0 ≤ _), (by decide : 0 + 0 ≤ _)⟩)
        dsimp only [Pt.U, Pt.locs, Pt.cells, Pt.slots] at X9 l9 y9 z9 st9 hQ9
        subst l9 y9 z9
        obtain ⟨rfl, N9q, e9⟩ := hQ9
        have N9 := Fr.app N1 N9q
        have hc46 : (F2 p1 (0 : Int32)) = (0 : Int32) := by rw [F2, if_pos hc29]
        obtain ⟨fs, hr, hrun, hended, hW, hsame⟩ := X9.leave (v := some (.int (1 : Int32))) (fun h => by rw [Bd.returns] at h; cases h) (BodyLoose.notSynchronized Bd)
        refine ⟨_, _, pre8 _ ?_, hrun, hended, _, _, rfl, ?_, ⟨_, rfl⟩, hW, hsame.mono (by decide) (by decide)⟩
        · show Steps p.tables e below (T7.setTop (mkF m 29 #[.val (.int p0), .val (.int p1), .val (.int ((p0 &&& (2147483647 : Int32)) % (10 : Int32))), .val (.ref w_SERIAL_QUERY), .val (.int (0 : Int32)), .unset] [(.int (0 : Int32)), (.int p1)])) _
          refine XS.icmpYes X7.here hx rfl (pc0 := 29) (pc' := 36) rfl (hb hby at_29) rfl (tlt hc29).1 (by decide) (by decide) ?_
          show Steps p.tables e below (T7.setTop (mkF m 36 #[.val (.int p0), .val (.int p1), .val (.int ((p0 &&& (2147483647 : Int32)) % (10 : Int32))), .val (.ref w_SERIAL_QUERY), .val (.int (0 : Int32)), .unset] [])) _
          refine XS.iconst X7.here hx rfl (hb hby at_36) ?_
          show Steps p.tables e below (T7.setTop (mkF m 37 #[.val (.int p0), .val (.int p1), .val (.int ((p0 &&& (2147483647 : Int32)) % (10 : Int32))), .val (.ref w_SERIAL_QUERY), .val (.int (0 : Int32)), .unset] [(.int (0 : Int32))])) _
          refine XS.istore X7.here hx rfl (hb hby at_37) rfl (l' := #[.val (.int p0), .val (.int p1), .val (.int ((p0 &&& (2147483647 : Int32)) % (10 : Int32))), .val (.ref w_SERIAL_QUERY), .val (.int (0 : Int32)), .val (.int (0 : Int32))]) rfl ?_
          show Steps p.tables e below (T7.setTop (mkF m 39 #[.val (.int p0), .val (.int p1), .val (.int ((p0 &&& (2147483647 : Int32)) % (10 : Int32))), .val (.ref w_SERIAL_QUERY), .val (.int (0 : Int32)), .val (.int (0 : Int32))] [])) _
          refine XS.aloadN X7.here hx rfl (hb hby at_39) rfl rfl ?_
          show Steps p.tables e below (T7.setTop (mkF m 40 #[.val (.int p0), .val (.int p1), .val (.int ((p0 &&& (2147483647 : Int32)) % (10 : Int32))), .val (.ref w_SERIAL_QUERY), .val (.int (0 : Int32)), .val (.int (0 : Int32))] [(.ref w_SERIAL_QUERY)])) _
          refine XS.iloadN X7.here hx rfl (hb hby at_40) rfl ?_
          show Steps p.tables e below (T7.setTop (mkF m 41 #[.val (.int p0), .val (.int p1), .val (.int ((p0 &&& (2147483647 : Int32)) % (10 : Int32))), .val (.ref w_SERIAL_QUERY), .val (.int (0 : Int32)), .val (.int (0 : Int32))] [(.int p1), (.ref w_SERIAL_QUERY)])) _
          refine st9.trans ?_
          show Steps p.tables e below (T9.setTop (mkF m 44 #[.val (.int p0), .val (.int p1), .val (.int ((p0 &&& (2147483647 : Int32)) % (10 : Int32))), .val (.ref w_SERIAL_QUERY), .val (.int (0 : Int32)), .val (.int (0 : Int32))] [(.int (F2 p1 (0 : Int32)))])) _
          refine XS.iload X9.here hx rfl (hb hby at_44) rfl ?_
          show Steps p.tables e below (T9.setTop (mkF m 46 #[.val (.int p0), .val (.int p1), .val (.int ((p0 &&& (2147483647 : Int32)) % (10 : Int32))), .val (.ref w_SERIAL_QUERY), .val (.int (0 : Int32)), .val (.int (0 : Int32))] [(.int (0 : Int32)), (.int (F2 p1 (0 : Int32)))])) _
          refine XS.icmpNo X9.here hx rfl (hb hby at_46) rfl (teq hc46).2 ?_
          show Steps p.tables e below (T9.setTop (mkF m 49 #[.val (.int p0), .val (.int p1), .val (.int ((p0 &&& (2147483647 : Int32)) % (10 : Int32))), .val (.ref w_SERIAL_QUERY), .val (.int (0 : Int32)), .val (.int (0 : Int32))] [])) _
          refine XS.iconst X9.here hx rfl (hb hby at_49) ?_
          show Steps p.tables e below (T9.setTop (mkF m 50 #[.val (.int p0), .val (.int p1), .val (.int ((p0 &&& (2147483647 : Int32)) % (10 : Int32))), .val (.ref w_SERIAL_QUERY), .val (.int (0 : Int32)), .val (.int (0 : Int32))] [(.int (1 : Int32))])) _
          refine XS.goto X9.here hx rfl (pc0 := 50) (pc' := 54) rfl (hb hby at_50) (by decide) (by decide) ?_
          show Steps p.tables e below (T9.setTop (mkF m 54 #[.val (.int p0), .val (.int p1), .val (.int ((p0 &&& (2147483647 : Int32)) % (10 : Int32))), .val (.ref w_SERIAL_QUERY), .val (.int (0 : Int32)), .val (.int (0 : Int32))] [(.int (1 : Int32))])) _
          exact retN X9 hx (t := .boolean) Bd.returns (by simp) (hb hby at_54) hr
        · show Q0 Z p0 p1 w_SERIAL_NOTIFY w_SERIAL_QUERY w_RESET_QUERY w_CACHE_RESPONSE w_IPV4_PREFIX w_IPV6_PREFIX w_END_OF_DATA w_CACHE_RESET w_ROUTER_KEY w_ERROR_REPORT h0 n0 _ T9.heap _
          rw [e9]
          exact ⟨rfl, N9⟩
      · obtain ⟨cq10, kq10, q10a, q10b, q10c⟩ := isOf hZ e7 E_SERIAL_QUERY
        obtain ⟨_, _, ⟨T10, L10, k10, n10⟩, -, X10, ⟨Lc10, hQ10, l10, y10, z10⟩, st10⟩ := X7.virtualBack hx (y := (⟨"com/example/hawser/hawser/rtr/PduType", "isIn", "(I)Z"⟩ : MethodName)) (z := (⟨"com/example/hawser/hawser/rtr/PduType", "isIn", "(I)Z"⟩ : MethodName)) hown (mvT hZ (hw _ (List.mem_of_getElem? (i := 10) rfl))) (mvT hZ (hw _ (List.mem_of_getElem? (i := 11) rfl))) (notFace_of_selects (args := #[]) (mvT hZ (hw _ (List.mem_of_getElem? (i := 13) rfl)))) (mvT hZ (hw _ (List.mem_of_getElem? (i := 13) rfl))) (mvT hZ (hw _ (List.mem_of_getElem? (i := 12) rfl))) (by decide) (backOf (W := 0) (rm2 l Z a0 hw [] w_SERIAL_QUERY p1 (0 : Int32) h0 n0 Z0 F_sinceVersion_SERIAL_QUERY) hZ (hw _ (List.mem_of_getElem? (i := 14) rfl)) (hw _ (List.mem_of_getElem? (i := 6) rfl)) (by decide) (by decide)) q10a q10c (g := (mkF m 41 #[.val (.int p0), .val (.int p1), .val (.int ((p0 &&& (2147483647 : Int32)) % (10 : Int32))), .val (.ref w_SERIAL_QUERY), .val (.int (0 : Int32)), .val (.int (1 : Int32))] [(.int p1), (.ref w_SERIAL_QUERY)])) rfl (by rw [hml]; rfl) (Steps.refl _) (argsL := [(.int p1)]) (rest := []) (lenOf pd_1 rfl) rfl (by show 2 * 0 + _ ≤ _; exact Nat.le_of_eq rfl) (hb hby at_41) (fun _ _ => ⟨rfl, e7, (by decide : 0 + 0 ≤ _), (by decide : 0 + 0 ≤ _)⟩)
        dsimp only [Pt.U, Pt.locs, Pt.cells, Pt.slots] at X10 l10 y10 z10 st10 hQ10
        subst l10 y10 z10
        obtain ⟨rfl, N10q, e10⟩ := hQ10
        have N10 := Fr.app N1 N10q
        have hc46 : (F2 p1 (0 : Int32)) = (1 : Int32) := by rw [F2, if_neg hc29]
        obtain ⟨fs, hr, hrun, hended, hW, hsame⟩ := X10.leave (v := some (.int (1 : Int32))) (fun h => by rw [Bd.returns] at h; cases h) (BodyLoose.notSynchronized Bd)
        refine ⟨_, _, pre8 _ ?_, hrun, hended, _, _, rfl, ?_, ⟨_, rfl⟩, hW, hsame.mono (by decide) (by decide)⟩
        · show Steps p.tables e below (T7.setTop (mkF m 29 #[.val (.int p0), .val (.int p1), .val (.int ((p0 &&& (2147483647 : Int32)) % (10 : Int32))), .val (.ref w_SERIAL_QUERY), .val (.int (0 : Int32)), .unset] [(.int (0 : Int32)), (.int p1)])) _
          refine XS.icmpNo X7.here hx rfl (hb hby at_29) rfl (flt hc29).1 ?_
          show Steps p.tables e below (T7.setTop (mkF m 32 #[.val (.int p0), .val (.int p1), .val (.int ((p0 &&& (2147483647 : Int32)) % (10 : Int32))), .val (.ref w_SERIAL_QUERY), .val (.int (0 : Int32)), .unset] [])) _
          refine XS.iconst X7.here hx rfl (hb hby at_32) ?_
          show Steps p.tables e below (T7.setTop (mkF m 33 #[.val (.int p0), .val (.int p1), .val (.int ((p0 &&& (2147483647 : Int32)) % (10 : Int32))), .val (.ref w_SERIAL_QUERY), .val (.int (0 : Int32)), .unset] [(.int (1 : Int32))])) _
          refine XS.goto X7.here hx rfl (pc0 := 33) (pc' := 37) rfl (hb hby at_33) (by decide) (by decide) ?_
          show Steps p.tables e below (T7.setTop (mkF m 37 #[.val (.int p0), .val (.int p1), .val (.int ((p0 &&& (2147483647 : Int32)) % (10 : Int32))), .val (.ref w_SERIAL_QUERY), .val (.int (0 : Int32)), .unset] [(.int (1 : Int32))])) _
          refine XS.istore X7.here hx rfl (hb hby at_37) rfl (l' := #[.val (.int p0), .val (.int p1), .val (.int ((p0 &&& (2147483647 : Int32)) % (10 : Int32))), .val (.ref w_SERIAL_QUERY), .val (.int (0 : Int32)), .val (.int (1 : Int32))]) rfl ?_
          show Steps p.tables e below (T7.setTop (mkF m 39 #[.val (.int p0), .val (.int p1), .val (.int ((p0 &&& (2147483647 : Int32)) % (10 : Int32))), .val (.ref w_SERIAL_QUERY), .val (.int (0 : Int32)), .val (.int (1 : Int32))] [])) _
          refine XS.aloadN X7.here hx rfl (hb hby at_39) rfl rfl ?_
          show Steps p.tables e below (T7.setTop (mkF m 40 #[.val (.int p0), .val (.int p1), .val (.int ((p0 &&& (2147483647 : Int32)) % (10 : Int32))), .val (.ref w_SERIAL_QUERY), .val (.int (0 : Int32)), .val (.int (1 : Int32))] [(.ref w_SERIAL_QUERY)])) _
          refine XS.iloadN X7.here hx rfl (hb hby at_40) rfl ?_
          show Steps p.tables e below (T7.setTop (mkF m 41 #[.val (.int p0), .val (.int p1), .val (.int ((p0 &&& (2147483647 : Int32)) % (10 : Int32))), .val (.ref w_SERIAL_QUERY), .val (.int (0 : Int32)), .val (.int (1 : Int32))] [(.int p1), (.ref w_SERIAL_QUERY)])) _
          refine st10.trans ?_
          show Steps p.tables e below (T10.setTop (mkF m 44 #[.val (.int p0), .val (.int p1), .val (.int ((p0 &&& (2147483647 : Int32)) % (10 : Int32))), .val (.ref w_SERIAL_QUERY), .val (.int (0 : Int32)), .val (.int (1 : Int32))] [(.int (F2 p1 (0 : Int32)))])) _
          refine XS.iload X10.here hx rfl (hb hby at_44) rfl ?_
          show Steps p.tables e below (T10.setTop (mkF m 46 #[.val (.int p0), .val (.int p1), .val (.int ((p0 &&& (2147483647 : Int32)) % (10 : Int32))), .val (.ref w_SERIAL_QUERY), .val (.int (0 : Int32)), .val (.int (1 : Int32))] [(.int (1 : Int32)), (.int (F2 p1 (0 : Int32)))])) _
          refine XS.icmpNo X10.here hx rfl (hb hby at_46) rfl (teq hc46).2 ?_
          show Steps p.tables e below (T10.setTop (mkF m 49 #[.val (.int p0), .val (.int p1), .val (.int ((p0 &&& (2147483647 : Int32)) % (10 : Int32))), .val (.ref w_SERIAL_QUERY), .val (.int (0 : Int32)), .val (.int (1 : Int32))] [])) _
          refine XS.iconst X10.here hx rfl (hb hby at_49) ?_
          show Steps p.tables e below (T10.setTop (mkF m 50 #[.val (.int p0), .val (.int p1), .val (.int ((p0 &&& (2147483647 : Int32)) % (10 : Int32))), .val (.ref w_SERIAL_QUERY), .val (.int (0 : Int32)), .val (.int (1 : Int32))] [(.int (1 : Int32))])) _
          refine XS.goto X10.here hx rfl (pc0 := 50) (pc' := 54) rfl (hb hby at_50) (by decide) (by decide) ?_
          show Steps p.tables e below (T10.setTop (mkF m 54 #[.val (.int p0), .val (.int p1), .val (.int ((p0 &&& (2147483647 : Int32)) % (10 : Int32))), .val (.ref w_SERIAL_QUERY), .val (.int (0 : Int32)), .val (.int (1 : Int32))] [(.int (1 : Int32))])) _
          exact retN X10 hx (t := .boolean) Bd.returns (by simp) (hb hby at_54) hr
        · show Q0 Z p0 p1 w_SERIAL_NOTIFY w_SERIAL_QUERY w_RESET_QUERY w_CACHE_RESPONSE w_IPV4_PREFIX w_IPV6_PREFIX w_END_OF_DATA w_CACHE_RESET w_ROUTER_KEY w_ERROR_REPORT h0 n0 _ T10.heap _
          rw [e10]
          exact ⟨rfl, N10⟩
    · by_cases hk_3 : ((p0 &&& (2147483647 : Int32)) % (10 : Int32)) = (2 : Int32)
      · rw [show (F1 ((p0 &&& (2147483647 : Int32)) % (10 : Int32)) w_SERIAL_NOTIFY w_SERIAL_QUERY w_RESET_QUERY w_CACHE_RESPONSE w_IPV4_PREFIX w_IPV6_PREFIX w_END_OF_DATA w_CACHE_RESET w_ROUTER_KEY w_ERROR_REPORT) = w_RESET_QUERY from by rw [F1, if_neg hk, if_neg hk_2, if_pos hk_3]] at pre2
        obtain ⟨T11, X11, e11, st11⟩ := getS2 X1 hx hZ hown (host := "") (Or.inl (hw _ (List.mem_of_getElem? (i := 8) rfl))) Via.refl e1 S_ROUTER_KEY (g := (mkF m 17 #[.val (.int p0), .val (.int p1), .val (.int ((p0 &&& (2147483647 : Int32)) % (10 : Int32))), .val (.ref w_RESET_QUERY), .val (.int (0 : Int32)), .unset] [(.ref w_RESET_QUERY)])) rfl (hb hby at_17)
        have ha20 : ¬ (w_RESET_QUERY = w_ROUTER_KEY) := ne_RESET_QUERY_ROUTER_KEY
        have pre12 : ∀ t, Steps p.tables e below (T11.setTop (mkF m 29 #[.val (.int p0), .val (.int p1), .val (.int ((p0 &&& (2147483647 : Int32)) % (10 : Int32))), .val (.ref w_RESET_QUERY), .val (.int (0 : Int32)), .unset] [(.int (0 : Int32)), (.int p1)])) t → Steps p.tables e below (s₁.setTop (entryFrame m #[(.int p0), (.int p1)] maxLocals)) t := fun t k => by
          refine pre2 t ?_
          show Steps p.tables e below (T1.setTop (mkF m 12 #[.val (.int p0), .val (.int p1), .val (.int ((p0 &&& (2147483647 : Int32)) % (10 : Int32))), .unset, .unset, .unset] [(.ref w_RESET_QUERY)])) _
          refine XS.astoreN X1.here hx rfl (hb hby at_12) rfl rfl (l' := #[.val (.int p0), .val (.int p1), .val (.int ((p0 &&& (2147483647 : Int32)) % (10 : Int32))), .val (.ref w_RESET_QUERY), .unset, .unset]) rfl ?_
          show Steps p.tables e below (T1.setTop (mkF m 13 #[.val (.int p0), .val (.int p1), .val (.int ((p0 &&& (2147483647 : Int32)) % (10 : Int32))), .val (.ref w_RESET_QUERY), .unset, .unset] [])) _
          refine XS.iconst X1.here hx rfl (hb hby at_13) ?_
          show Steps p.tables e below (T1.setTop (mkF m 14 #[.val (.int p0), .val (.int p1), .val (.int ((p0 &&& (2147483647 : Int32)) % (10 : Int32))), .val (.ref w_RESET_QUERY), .unset, .unset] [(.int (0 : Int32))])) _
          refine XS.istore X1.here hx rfl (hb hby at_14) rfl (l' := #[.val (.int p0), .val (.int p1), .val (.int ((p0 &&& (2147483647 : Int32)) % (10 : Int32))), .val (.ref w_RESET_QUERY), .val (.int (0 : Int32)), .unset]) rfl ?_
          show Steps p.tables e below (T1.setTop (mkF m 16 #[.val (.int p0), .val (.int p1), .val (.int ((p0 &&& (2147483647 : Int32)) % (10 : Int32))), .val (.ref w_RESET_QUERY), .val (.int (0 : Int32)), .unset] [])) _
          refine XS.aloadN X1.here hx rfl (hb hby at_16) rfl rfl ?_
          show Steps p.tables e below (T1.setTop (mkF m 17 #[.val (.int p0), .val (.int p1), .val (.int ((p0 &&& (2147483647 : Int32)) % (10 : Int32))), .val (.ref w_RESET_QUERY), .val (.int (0 : Int32)), .unset] [(.ref w_RESET_QUERY)])) _
          refine st11 _ ?_
          show Steps p.tables e below (T11.setTop (mkF m 20 #[.val (.int p0), .val (.int p1), .val (.int ((p0 &&& (2147483647 : Int32)) % (10 : Int32))), .val (.ref w_RESET_QUERY), .val (.int (0 : Int32)), .unset] [(.ref w_ROUTER_KEY), (.ref w_RESET_QUERY)])) _
          refine Jvm.RoadKit.acmp (g := (mkF m 20 #[.val (.int p0), .val (.int p1), .val (.int ((p0 &&& (2147483647 : Int32)) % (10 : Int32))), .val (.ref w_RESET_QUERY), .val (.int (0 : Int32)), .unset] [(.ref w_ROUTER_KEY), (.ref w_RESET_QUERY)])) X11 hx rfl rfl rfl (pc0 := 20) (pc' := 26) (same := false) rfl (hb hby at_20) rfl (decide_eq_false fun q => ha20 (Value.ref.inj q)) (by decide) (by decide) ?_
          show Steps p.tables e below (T11.setTop (mkF m 26 #[.val (.int p0), .val (.int p1), .val (.int ((p0 &&& (2147483647 : Int32)) % (10 : Int32))), .val (.ref w_RESET_QUERY), .val (.int (0 : Int32)), .unset] [])) _
          refine XS.iloadN X11.here hx rfl (hb hby at_26) rfl ?_
          show Steps p.tables e below (T11.setTop (mkF m 27 #[.val (.int p0), .val (.int p1), .val (.int ((p0 &&& (2147483647 : Int32)) % (10 : Int32))), .val (.ref w_RESET_QUERY), .val (.int (0 : Int32)), .unset] [(.int p1)])) _
          refine XS.iload X11.here hx rfl (hb hby at_27) rfl ?_
          exact k
        by_cases hc29 : p1 < (0 : Int32)
        · obtain ⟨cq13, kq13, q13a, q13b, q13c⟩ := isOf hZ e11 E_RESET_QUERY
          obtain ⟨_, _, ⟨T13, L13, k13, n13⟩, -, X13, ⟨Lc13, hQ13, l13, y13, z13⟩, st13⟩ := X11.virtualBack hx (y := (⟨"com/example/hawser/hawser/rtr/PduType", "isIn", "(I)Z"⟩ : MethodName)) (z := (⟨"com/example/hawser/hawser/rtr/PduType", "isIn", "(I)Z"⟩ : MethodName)) hown (mvT hZ (hw _ (List.mem_of_getElem? (i := 10) rfl))) (mvT hZ (hw _ (List.mem_of_getElem? (i := 11) rfl))) (notFace_of_selects (args := #[]) (mvT hZ (hw _ (List.mem_of_getElem? (i := 13) rfl)))) (mvT hZ (hw _ (List.mem_of_getElem? (i := 13) rfl))) (mvT hZ (hw _ (List.mem_of_getElem? (i := 12) rfl))) (by decide) (backOf (W := 0) (rm2 l Z a0 hw [] w_RESET_QUERY p1 (0 : Int32) h0 n0 Z0 F_sinceVersion_RESET_QUERY) hZ (hw _ (List.mem_of_getElem? (i := 14) rfl)) (hw _ (List.mem_of_getElem? (i := 6) rfl)) (by decide) (by decide)) q13a q13c (g := (mkF m 41 #[.val (.int p0), .val (.int p1), .val (.int ((p0 &&& (2147483647 : Int32)) % (10 : Int32))), .val (.ref w_RESET_QUERY), .val (.int (0 : Int32)), .val (.int (0 : Int32))] [(.int p1), (.ref w_RESET_QUERY)])) rfl (by rw [hml]; rfl) (Steps.refl _) (argsL := [(.int p1)]) (rest := []) (lenOf pd_1 rfl) rfl (by show 2 * 0 + _ ≤ _; exact Nat.le_of_eq rfl) (hb hby at_41) (fun _ _ => ⟨rfl, e11, (by decide : 0 + 0 ≤ _), (by decide : 0 + 0 ≤ _)⟩)
          dsimp only [Pt.U, Pt.locs, Pt.cells, Pt.slots] at X13 l13 y13 z13 st13 hQ13
          subst l13 y13 z13
          obtain ⟨rfl, N13q, e13⟩ := hQ13
          have N13 := Fr.app N1 N13q
          have hc46 : (F2 p1 (0 : Int32)) = (0 : Int32) := by rw [F2, if_pos hc29]
          obtain ⟨fs, hr, hrun, hended, hW, hsame⟩ := X13.leave (v := some (.int (1 : Int32))) (fun h => by rw [Bd.returns] at h; cases h) (BodyLoose.notSynchronized Bd)
          refine ⟨_, _, pre12 _ ?_, hrun, hended, _, _, rfl, ?_, ⟨_, rfl⟩, hW, hsame.mono (by decide) (by decide)⟩
          · show Steps p.tables e below (T11.setTop (mkF m 29 #[.val (.int p0), .val (.int p1), .val (.int ((p0 &&& (2147483647 : Int32)) % (10 : Int32))), .val (.ref w_RESET_QUERY), .val (.int (0 : Int32)), .unset] [(.int (0 : Int32)), (.int p1)])) _
            refine XS.icmpYes X11.here hx rfl (pc0 := 29) (pc' := 36) rfl (hb hby at_29) rfl (tlt hc29).1 (by decide) (by decide) ?_
            show Steps p.tables e below (T11.setTop (mkF m 36 #[.val (.int p0), .val (.int p1), .val (.int ((p0 &&& (2147483647 : Int32)) % (10 : Int32))), .val (.ref w_RESET_QUERY), .val (.int (0 : Int32)), .unset] [])) _
            refine XS.iconst X11.here hx rfl (hb hby at_36) ?_
            show Steps p.tables e below (T11.setTop (mkF m 37 #[.val (.int p0), .val (.int p1), .val (.int ((p0 &&& (2147483647 : Int32)) % (10 : Int32))), .val (.ref w_RESET_QUERY), .val (.int (0 : Int32)), .unset] [(.int (0 : Int32))])) _
            refine XS.istore X11.here hx rfl (hb hby at_37) rfl (l' := #[.val (.int p0), .val (.int p1), .val (.int ((p0 &&& (2147483647 : Int32)) % (10 : Int32))), .val (.ref w_RESET_QUERY), .val (.int (0 : Int32)), .val (.int (0 : Int32))]) rfl ?_
            show Steps p.tables e below (T11.setTop (mkF m 39 #[.val (.int p0), .val (.int p1), .val (.int ((p0 &&& (2147483647 : Int32)) % (10 : Int32))), .val (.ref w_RESET_QUERY), .val (.int (0 : Int32)), .val (.int (0 : Int32))] [])) _
            refine XS.aloadN X11.here hx rfl (hb hby at_39) rfl rfl ?_
            show Steps p.tables e below (T11.setTop (mkF m 40 #[.val (.int p0), .val (.int p1), .val (.int ((p0 &&& (2147483647 : Int32)) % (10 : Int32))), .val (.ref w_RESET_QUERY), .val (.int (0 : Int32)), .val (.int (0 : Int32))] [(.ref w_RESET_QUERY)])) _
            refine XS.iloadN X11.here hx rfl (hb hby at_40) rfl ?_
            show Steps p.tables e below (T11.setTop (mkF m 41 #[.val (.int p0), .val (.int p1), .val (.int ((p0 &&& (2147483647 : Int32)) % (10 : Int32))), .val (.ref w_RESET_QUERY), .val (.int (0 : Int32)), .val (.int (0 : Int32))] [(.int p1), (.ref w_RESET_QUERY)])) _
            refine st13.trans ?_
            show Steps p.tables e below (T13.setTop (mkF m 44 #[.val (.int p0), .val (.int p1), .val (.int ((p0 &&& (2147483647 : Int32)) % (10 : Int32))), .val (.ref w_RESET_QUERY), .val (.int (0 : Int32)), .val (.int (0 : Int32))] [(.int (F2 p1 (0 : Int32)))])) _
            refine XS.iload X13.here hx rfl (hb hby at_44) rfl ?_
            show Steps p.tables e below (T13.setTop (mkF m 46 #[.val (.int p0), .val (.int p1), .val (.int ((p0 &&& (2147483647 : Int32)) % (10 : Int32))), .val (.ref w_RESET_QUERY), .val (.int (0 : Int32)), .val (.int (0 : Int32))] [(.int (0 : Int32)), (.int (F2 p1 (0 : Int32)))])) _
            refine XS.icmpNo X13.here hx rfl (hb hby at_46) rfl (teq hc46).2 ?_
            show Steps p.tables e below (T13.setTop (mkF m 49 #[.val (.int p0), .val (.int p1), .val (.int ((p0 &&& (2147483647 : Int32)) % (10 : Int32))), .val (.ref w_RESET_QUERY), .val (.int (0 : Int32)), .val (.int (0 : Int32))] [])) _
            refine XS.iconst X13.here hx rfl (hb hby at_49) ?_
            show Steps p.tables e below (T13.setTop (mkF m 50 #[.val (.int p0), .val (.int p1), .val (.int ((p0 &&& (2147483647 : Int32)) % (10 : Int32))), .val (.ref w_RESET_QUERY), .val (.int (0 : Int32)), .val (.int (0 : Int32))] [(.int (1 : Int32))])) _
            refine XS.goto X13.here hx rfl (pc0 := 50) (pc' := 54) rfl (hb hby at_50) (by decide) (by decide) ?_
            show Steps p.tables e below (T13.setTop (mkF m 54 #[.val (.int p0), .val (.int p1), .val (.int ((p0 &&& (2147483647 : Int32)) % (10 : Int32))), .val (.ref w_RESET_QUERY), .val (.int (0 : Int32)), .val (.int (0 : Int32))] [(.int (1 : Int32))])) _
            exact retN X13 hx (t := .boolean) Bd.returns (by simp) (hb hby at_54) hr
          · show Q0 Z p0 p1 w_SERIAL_NOTIFY w_SERIAL_QUERY w_RESET_QUERY w_CACHE_RESPONSE w_IPV4_PREFIX w_IPV6_PREFIX w_END_OF_DATA w_CACHE_RESET w_ROUTER_KEY w_ERROR_REPORT h0 n0 _ T13.heap _
            rw [e13]
            exact ⟨rfl, N13⟩
        · obtain ⟨cq14, kq14, q14a, q14b, q14c⟩ := isOf hZ e11 E_RESET_QUERY
          obtain ⟨_, _, ⟨T14, L14, k14, n14⟩, -, X14, ⟨Lc14, hQ14, l14, y14, z14⟩, st14⟩ := X11.virtualBack hx (y := (⟨"com/example/hawser/hawser/rtr/PduType", "isIn", "(I)Z"⟩ : MethodName)) (z := (⟨"com/example/hawser/hawser/rtr/PduType", "isIn", "(I)Z"⟩ : MethodName)) hown (mvT hZ (hw _ (List.mem_of_getElem? (i := 10) rfl))) (mvT hZ (hw _ (List.mem_of_getElem? (i := 11) rfl))) (notFace_of_selects (args := #[]) (mvT hZ (hw _ (List.mem_of_getElem? (i := 13) rfl)))) (mvT hZ (hw _ (List.mem_of_getElem? (i := 13) rfl))) (mvT hZ (hw _ (List.mem_of_getElem? (i := 12) rfl))) (by decide) (backOf (W := 0) (rm2 l Z a0 hw [] w_RESET_QUERY p1 (0 : Int32) h0 n0 Z0 F_sinceVersion_RESET_QUERY) hZ (hw _ (List.mem_of_getElem? (i := 14) rfl)) (hw _ (List.mem_of_getElem? (i := 6) rfl)) (by decide) (by decide)) q14a q14c (g := (mkF m 41 #[.val (.int p0), .val (.int p1), .val (.int ((p0 &&& (2147483647 : Int32)) % (10 : Int32))), .val (.ref w_RESET_QUERY), .val (.int (0 : Int32)), .val (.int (1 : Int32))] [(.int p1), (.ref w_RESET_QUERY)])) rfl (by rw [hml]; rfl) (Steps.refl _) (argsL := [(.int p1)]) (rest := []) (lenOf pd_1 rfl) rfl (by show 2 * 0 + _ ≤ _; exact Nat.le_of_eq rfl) (hb hby at_41) (fun _ _ => ⟨rfl, e11, (by decide : 0 + 0 ≤ _), (by decide : 0 + 0 ≤ _)⟩)
          dsimp only [Pt.U, Pt.locs, Pt.cells, Pt.slots] at X14 l14 y14 z14 st14 hQ14
          subst l14 y14 z14
          obtain ⟨rfl, N14q, e14⟩ := hQ14
          have N14 := Fr.app N1 N14q
          have hc46 : (F2 p1 (0 : Int32)) = (1 : Int32) := by rw [F2, if_neg hc29]
          obtain ⟨fs, hr, hrun, hended, hW, hsame⟩ := X14.leave (v := some (.int (1 : Int32))) (fun h => by rw [Bd.returns] at h; cases h) (BodyLoose.notSynchronized Bd)
          refine ⟨_, _, pre12 _ ?_, hrun, hended, _, _, rfl, ?_, ⟨_, rfl⟩, hW, hsame.mono (by decide) (by decide)⟩
          · show Steps p.tables e below (T11.setTop (mkF m 29 #[.val (.int p0), .val (.int p1), .val (.int ((p0 &&& (2147483647 : Int32)) % (10 : Int32))), .val (.ref w_RESET_QUERY), .val (.int (0 : Int32)), .unset] [(.int (0 : Int32)), (.int p1)])) _
            refine XS.icmpNo X11.here hx rfl (hb hby at_29) rfl (flt hc29).1 ?_
            show Steps p.tables e below (T11.setTop (mkF m 32 #[.val (.int p0), .val (.int p1), .val (.int ((p0 &&& (2147483647 : Int32)) % (10 : Int32))), .val (.ref w_RESET_QUERY), .val (.int (0 : Int32)), .unset] [])) _
            refine XS.iconst X11.here hx rfl (hb hby at_32) ?_
            show Steps p.tables e below (T11.setTop (mkF m 33 #[.val (.int p0), .val (.int p1), .val (.int ((p0 &&& (2147483647 : Int32)) % (10 : Int32))), .val (.ref w_RESET_QUERY), .val (.int (0 : Int32)), .unset] [(.int (1 : Int32))])) _
            refine XS.goto X11.here hx rfl (pc0 := 33) (pc' := 37) rfl (hb hby at_33) (by decide) (by decide) ?_
            show Steps p.tables e below (T11.setTop (mkF m 37 #[.val (.int p0), .val (.int p1), .val (.int ((p0 &&& (2147483647 : Int32)) % (10 : Int32))), .val (.ref w_RESET_QUERY), .val (.int (0 : Int32)), .unset] [(.int (1 : Int32))])) _
            refine XS.istore X11.here hx rfl (hb hby at_37) rfl (l' := #[.val (.int p0), .val (.int p1), .val (.int ((p0 &&& (2147483647 : Int32)) % (10 : Int32))), .val (.ref w_RESET_QUERY), .val (.int (0 : Int32)), .val (.int (1 : Int32))]) rfl ?_
            show Steps p.tables e below (T11.setTop (mkF m 39 #[.val (.int p0), .val (.int p1), .val (.int ((p0 &&& (2147483647 : Int32)) % (10 : Int32))), .val (.ref w_RESET_QUERY), .val (.int (0 : Int32)), .val (.int (1 : Int32))] [])) _
            refine XS.aloadN X11.here hx rfl (hb hby at_39) rfl rfl ?_
            show Steps p.tables e below (T11.setTop (mkF m 40 #[.val (.int p0), .val (.int p1), .val (.int ((p0 &&& (2147483647 : Int32)) % (10 : Int32))), .val (.ref w_RESET_QUERY), .val (.int (0 : Int32)), .val (.int (1 : Int32))] [(.ref w_RESET_QUERY)])) _
            refine XS.iloadN X11.here hx rfl (hb hby at_40) rfl ?_
            show Steps p.tables e below (T11.setTop (mkF m 41 #[.val (.int p0), .val (.int p1), .val (.int ((p0 &&& (2147483647 : Int32)) % (10 : Int32))), .val (.ref w_RESET_QUERY), .val (.int (0 : Int32)), .val (.int (1 : Int32))] [(.int p1), (.ref w_RESET_QUERY)])) _
            refine st14.trans ?_
            show Steps p.tables e below (T14.setTop (mkF m 44 #[.val (.int p0), .val (.int p1), .val (.int ((p0 &&& (2147483647 : Int32)) % (10 : Int32))), .val (.ref w_RESET_QUERY), .val (.int (0 : Int32)), .val (.int (1 : Int32))] [(.int (F2 p1 (0 : Int32)))])) _
            refine XS.iload X14.here hx rfl (hb hby at_44) rfl ?_
            show Steps p.tables e below (T14.setTop (mkF m 46 #[.val (.int p0), .val (.int p1), .val (.int ((p0 &&& (2147483647 : Int32)) % (10 : Int32))), .val (.ref w_RESET_QUERY), .val (.int (0 : Int32)), .val (.int (1 : Int32))] [(.int (1 : Int32)), (.int (F2 p1 (0 : Int32)))])) _
            refine XS.icmpNo X14.here hx rfl (hb hby at_46) rfl (teq hc46).2 ?_
            show Steps p.tables e below (T14.setTop (mkF m 49 #[.val (.int p0), .val (.int p1), .val (.int ((p0 &&& (2147483647 : Int32)) % (10 : Int32))), .val (.ref w_RESET_QUERY), .val (.int (0 : Int32)), .val (.int (1 : Int32))] [])) _
            refine XS.iconst X14.here hx rfl (hb hby at_49) ?_
            show Steps p.tables e below (T14.setTop (mkF m 50 #[.val (.int p0), .val (.int p1), .val (.int ((p0 &&& (2147483647 : Int32)) % (10 : Int32))), .val (.ref w_RESET_QUERY), .val (.int (0 : Int32)), .val (.int (1 : Int32))] [(.int (1 : Int32))])) _
            refine XS.goto X14.here hx rfl (pc0 := 50) (pc' := 54) rfl (hb hby at_50) (by decide) (by decide) ?_
            show Steps p.tables e below (T14.setTop (mkF m 54 #[.val (.int p0), .val (.int p1), .val (.int ((p0 &&& (2147483647 : Int32)) % (10 : Int32))), .val (.ref w_RESET_QUERY), .val (.int (0 : Int32)), .val (.int (1 : Int32))] [(.int (1 : Int32))])) _
            exact retN X14 hx (t := .boolean) Bd.returns (by simp) (hb hby at_54) hr
          · show Q0 Z p0 p1 w_SERIAL_NOTIFY w_SERIAL_QUERY w_RESET_QUERY w_CACHE_RESPONSE w_IPV4_PREFIX w_IPV6_PREFIX w_END_OF_DATA w_CACHE_RESET w_ROUTER_KEY w_ERROR_REPORT h0 n0 _ T14.heap _
            rw [e14]
            exact ⟨rfl, N14⟩
      · by_cases hk_4 : ((p0 &&& (2147483647 : Int32)) % (10 : Int32)) = (3 : Int32)
        · rw [show (F1 ((p0 &&& (2147483647 : Int32)) % (10 : Int32)) w_SERIAL_NOTIFY w_SERIAL_QUERY w_RESET_QUERY w_CACHE_RESPONSE w_IPV4_PREFIX w_IPV6_PREFIX w_END_OF_DATA w_CACHE_RESET w_ROUTER_KEY w_ERROR_REPORT) = w_CACHE_RESPONSE from by rw [F1, if_neg hk, if_neg hk_2, if_neg hk_3, if_pos hk_4]] at pre2
          obtain ⟨T15, X15, e15, st15⟩ := getS2 X1 hx hZ hown (host := "") (Or.inl (hw _ (List.mem_of_getElem? (i := 8) rfl))) Via.refl e1 S_ROUTER_KEY (g := (mkF m 17 #[.val (.int p0), .val (.int p1), .val (.int ((p0 &&& (2147483647 : Int32)) % (10 : Int32))), .val (.ref w_CACHE_RESPONSE), .val (.int (0 : Int32)), .unset] [(.ref w_CACHE_RESPONSE)])) rfl (hb hby at_17)
          have ha20 : ¬ (w_CACHE_RESPONSE = w_ROUTER_KEY) := ne_CACHE_RESPONSE_ROUTER_KEY
          have pre16 : ∀ t, Steps p.tables e below (T15.setTop (mkF m 29 #[.val (.int p0), .val (.int p1), .val (.int ((p0 &&& (2147483647 : Int32)) % (10 : Int32))), .val (.ref w_CACHE_RESPONSE), .val (.int (0 : Int32)), .unset] [(.int (0 : Int32)), (.int p1)])) t → Steps p.tables e below (s₁.setTop (entryFrame m #[(.int p0), (.int p1)] maxLocals)) t := fun t k => by
            refine pre2 t ?_
            show Steps p.tables e below (T1.setTop (mkF m 12 #[.val (.int p0), .val (.int p1), .val (.int ((p0 &&& (2147483647 : Int32)) % (10 : Int32))), .unset, .unset, .unset] [(.ref w_CACHE_RESPONSE)])) _
            refine XS.astoreN X1.here hx rfl (hb hby at_12) rfl rfl (l' := #[.val (.int p0), .val (.int p1), .val (.int ((p0 &&& (2147483647 : Int32)) % (10 : Int32))), .val (.ref w_CACHE_RESPONSE), .unset, .unset]) rfl ?_
            show Steps p.tables e below (T1.setTop (mkF m 13 #[.val (.int p0), .val (.int p1), .val (.int ((p0 &&& (2147483647 : Int32)) % (10 : Int32))), .val (.ref w_CACHE_RESPONSE), .unset, .unset] [])) _
            refine XS.iconst X1.here hx rfl (hb hby at_13) ?_
            show Steps p.tables e below (T1.setTop (mkF m 14 #[.val (.int p0), .val (.int p1), .val (.int ((p0 &&& (2147483647 : Int32)) % (10 : Int32))), .val (.ref w_CACHE_RESPONSE), .unset, .unset] [(.int (0 : Int32))])) _
            refine XS.istore X1.here hx rfl (hb hby at_14) rfl (l' := #[.val (.int p0), .val (.int p1), .val (.int ((p0 &&& (2147483647 : Int32)) % (10 : Int32))), .val (.ref w_CACHE_RESPONSE), .val (.int (0 : Int32)), .unset]) rfl ?_
            show Steps p.tables e below (T1.setTop (mkF m 16 #[.val (.int p0), .val (.int p1), .val (.int ((p0 &&& (2147483647 : Int32)) % (10 : Int32))), .val (.ref w_CACHE_RESPONSE), .val (.int (0 : Int32)), .unset] [])) _
            refine XS.aloadN X1.here hx rfl (hb hby at_16) rfl rfl ?_
            show Steps p.tables e below (T1.setTop (mkF m 17 #[.val (.int p0), .val (.int p1), .val (.int ((p0 &&& (2147483647 : Int32)) % (10 : Int32))), .val (.ref w_CACHE_RESPONSE), .val (.int (0 : Int32)), .unset] [(.ref w_CACHE_RESPONSE)])) _
            refine st15 _ ?_
            show Steps p.tables e below (T15.setTop (mkF m 20 #[.val (.int p0), .val (.int p1), .val (.int ((p0 &&& (2147483647 : Int32)) % (10 : Int32))), .val (.ref w_CACHE_RESPONSE), .val (.int (0 : Int32)), .unset] [(.ref w_ROUTER_KEY), (.ref w_CACHE_RESPONSE)])) _
            refine Jvm.RoadKit.acmp (g := (mkF m 20 #[.val (.int p0), .val (.int p1), .val (.int ((p0 &&& (2147483647 : Int32)) % (10 : Int32))), .val (.ref w_CACHE_RESPONSE), .val (.int (0 : Int32)), .unset] [(.ref w_ROUTER_KEY), (.ref w_CACHE_RESPONSE)])) X15 hx rfl rfl rfl (pc0 := 20) (pc' := 26) (same := false) rfl (hb hby at_20) rfl (decide_eq_false fun q => ha20 (Value.ref.inj q)) (by decide) (by decide) ?_
            show Steps p.tables e below (T15.setTop (mkF m 26 #[.val (.int p0), .val (.int p1), .val (.int ((p0 &&& (2147483647 : Int32)) % (10 : Int32))), .val (.ref w_CACHE_RESPONSE), .val (.int (0 : Int32)), .unset] [])) _
            refine XS.iloadN X15.here hx rfl (hb hby at_26) rfl ?_
            show Steps p.tables e below (T15.setTop (mkF m 27 #[.val (.int p0), .val (.int p1), .val (.int ((p0 &&& (2147483647 : Int32)) % (10 : Int32))), .val (.ref w_CACHE_RESPONSE), .val (.int (0 : Int32)), .unset] [(.int p1)])) _
            refine XS.iload X15.here hx rfl (hb hby at_27) rfl ?_
            exact k
          by_cases hc29 : p1 < (0 : Int32)
          · obtain ⟨cq17, kq17, q17a, q17b, q17c⟩ := isOf hZ e15 E_CACHE_RESPONSE
            obtain ⟨_, _, ⟨T17, L17, k17, n17⟩, -, X17, ⟨Lc17, hQ17, l17, y17, z17⟩, st17⟩ := X15.virtualBack hx (y := (⟨"com/example/hawser/hawser/rtr/PduType", "isIn", "(I)Z"⟩ : MethodName)) (z := (⟨"com/example/hawser/hawser/rtr/PduType", "isIn", "(I)Z"⟩ : MethodName)) hown (mvT hZ (hw _ (List.mem_of_getElem? (i := 10) rfl))) (mvT hZ (hw _ (List.mem_of_getElem? (i := 11) rfl))) (notFace_of_selects (args := #[]) (mvT hZ (hw _ (List.mem_of_getElem? (i := 13) rfl)))) (mvT hZ (hw _ (List.mem_of_getElem? (i := 13) rfl))) (mvT hZ (hw _ (List.mem_of_getElem? (i := 12) rfl))) (by decide) (backOf (W := 0) (rm2 l Z a0 hw [] w_CACHE_RESPONSE p1 (0 : Int32) h0 n0 Z0 F_sinceVersion_CACHE_RESPONSE) hZ (hw _ (List.mem_of_getElem? (i := 14) rfl)) (hw _ (List.mem_of_getElem? (i := 6) rfl)) (by decide) (by decide)) q17a q17c (g := (mkF m 41 #[.val (.int p0), .val (.int p1), .val (.int ((p0 &&& (2147483647 : Int32)) % (10 : Int32))), .val (.ref w_CACHE_RESPONSE), .val (.int (0 : Int32)), .val (.int (0 : Int32))] [(.int p1), (.ref w_CACHE_RESPONSE)])) rfl (by rw [hml]; rfl) (Steps.refl _) (argsL := [(.int p1)]) (rest := []) (lenOf pd_1 rfl) rfl (by show 2 * 0 + _ ≤ _; exact Nat.le_of_eq rfl) (hb hby at_41) (fun _ _ => ⟨rfl, e15, (by decide : 0 + 0 ≤ _), (by decide : 0 + 0 ≤ _)⟩)
            dsimp only [Pt.U, Pt.locs, Pt.cells, Pt.slots] at X17 l17 y17 z17 st17 hQ17
            subst l17 y17 z17
            obtain ⟨rfl, N17q, e17⟩ := hQ17
            have N17 := Fr.app N1 N17q
            have hc46 : (F2 p1 (0 : Int32)) = (0 : Int32) := by rw [F2, if_pos hc29]
            obtain ⟨fs, hr, hrun, hended, hW, hsame⟩ := X17.leave (v := some (.int (1 : Int32))) (fun h => by rw [Bd.returns] at h; cases h) (BodyLoose.notSynchronized Bd)
            refine ⟨_, _, pre16 _ ?_, hrun, hended, _, _, rfl, ?_, ⟨_, rfl⟩, hW, hsame.mono (by decide) (by decide)⟩
            · show Steps p.tables e below (T15.setTop (mkF m 29 #[.val (.int p0), .val (.int p1), .val (.int ((p0 &&& (2147483647 : Int32)) % (10 : Int32))), .val (.ref w_CACHE_RESPONSE), .val (.int (0 : Int32)), .unset] [(.int (0 : Int32)), (.int p1)])) _
              refine XS.icmpYes X15.here hx rfl (pc0 := 29) (pc' := 36) rfl (hb hby at_29) rfl (tlt hc29).1 (by decide) (by decide) ?_
              show Steps p.tables e below (T15.setTop (mkF m 36 #[.val (.int p0), .val (.int p1), .val (.int ((p0 &&& (2147483647 : Int32)) % (10 : Int32))), .val (.ref w_CACHE_RESPONSE), .val (.int (0 : Int32)), .unset] [])) _
              refine XS.iconst X15.here hx rfl (hb hby at_36) ?_
              show Steps p.tables e below (T15.setTop (mkF m 37 #[.val (.int p0), .val (.int p1), .val (.int ((p0 &&& (2147483647 : Int32)) % (10 : Int32))), .val (.ref w_CACHE_RESPONSE), .val (.int (0 : Int32)), .unset] [(.int (0 : Int32))])) _
              refine XS.istore X15.here hx rfl (hb hby at_37) rfl (l' := #[.val (.int p0), .val (.int p1), .val (.int ((p0 &&& (2147483647 : Int32)) % (10 : Int32))), .val (.ref w_CACHE_RESPONSE), .val (.int (0 : Int32)), .val (.int (0 : Int32))]) rfl ?_
              show Steps p.tables e below (T15.setTop (mkF m 39 #[.val (.int p0), .val (.int p1), .val (.int ((p0 &&& (2147483647 : Int32)) % (10 : Int32))), .val (.ref w_CACHE_RESPONSE), .val (.int (0 : Int32)), .val (.int (0 : Int32))] [])) _
              refine XS.aloadN X15.here hx rfl (hb hby at_39) rfl rfl ?_
              show Steps p.tables e below (T15.setTop (mkF m 40 #[.val (.int p0), .val (.int p1), .val (.int ((p0 &&& (2147483647 : Int32)) % (10 : Int32))), .val (.ref w_CACHE_RESPONSE), .val (.int (0 : Int32)), .val (.int (0 : Int32))] [(.ref w_CACHE_RESPONSE)])) _
              refine XS.iloadN X15.here hx rfl (hb hby at_40) rfl ?_
              show Steps p.tables e below (T15.setTop (mkF m 41 #[.val (.int p0), .val (.int p1), .val (.int ((p0 &&& (2147483647 : Int32)) % (10 : Int32))), .val (.ref w_CACHE_RESPONSE), .val (.int (0 : Int32)), .val (.int (0 : Int32))] [(.int p1), (.ref w_CACHE_RESPONSE)])) _
              refine st17.trans ?_
              show Steps p.tables e below (T17.setTop (mkF m 44 #[.val (.int p0), .val (.int p1), .val (.int ((p0 &&& (2147483647 : Int32)) % (10 : Int32))), .val (.ref w_CACHE_RESPONSE), .val (.int (0 : Int32)), .val (.int (0 : Int32))] [(.int (F2 p1 (0 : Int32)))])) _
              refine XS.iload X17.here hx rfl (hb hby at_44) rfl ?_
              show Steps p.tables e below (T17.setTop (mkF m 46 #[.val (.int p0), .val (.int p1), .val (.int ((p0 &&& (2147483647 : Int32)) % (10 : Int32))), .val (.ref w_CACHE_RESPONSE), .val (.int (0 : Int32)), .val (.int (0 : Int32))] [(.int (0 : Int32)), (.int (F2 p1 (0 : Int32)))])) _
              refine XS.icmpNo X17.here hx rfl (hb hby at_46) rfl (teq hc46).2 ?_
              show Steps p.tables e below (T17.setTop (mkF m 49 #[.val (.int p0), .val (.int p1), .val (.int ((p0 &&& (2147483647 : Int32)) % (10 : Int32))), .val (.ref w_CACHE_RESPONSE), .val (.int (0 : Int32)), .val (.int (0 : Int32))] [])) _
              refine XS.iconst X17.here hx rfl (hb hby at_49) ?_
              show Steps p.tables e below (T17.setTop (mkF m 50 #[.val (.int p0), .val (.int p1), .val (.int ((p0 &&& (2147483647 : Int32)) % (10 : Int32))), .val (.ref w_CACHE_RESPONSE), .val (.int (0 : Int32)), .val (.int (0 : Int32))] [(.int (1 : Int32))])) _
              refine XS.goto X17.here hx rfl (pc0 := 50) (pc' := 54) rfl (hb hby at_50) (by decide) (by decide) ?_
              show Steps p.tables e below (T17.setTop (mkF m 54 #[.val (.int p0), .val (.int p1), .val (.int ((p0 &&& (2147483647 : Int32)) % (10 : Int32))), .val (.ref w_CACHE_RESPONSE), .val (.int (0 : Int32)), .val (.int (0 : Int32))] [(.int (1 : Int32))])) _
              exact retN X17 hx (t := .boolean) Bd.returns (by simp) (hb hby at_54) hr
            · show Q0 Z p0 p1 w_SERIAL_NOTIFY w_SERIAL_QUERY w_RESET_QUERY w_CACHE_RESPONSE w_IPV4_PREFIX w_IPV6_PREFIX w_END_OF_DATA w_CACHE_RESET w_ROUTER_KEY w_ERROR_REPORT h0 n0 _ T17.heap _
              rw [e17]
              exact ⟨rfl, N17⟩
          · obtain ⟨cq18, kq18, q18a, q18b, q18c⟩ := isOf hZ e15 E_CACHE_RESPONSE
            obtain ⟨_, _, ⟨T18, L18, k18, n18⟩, -, X18, ⟨Lc18, hQ18, l18, y18, z18⟩, st18⟩ := X15.virtualBack hx (y := (⟨"com/example/hawser/hawser/rtr/PduType", "isIn", "(I)Z"⟩ : MethodName)) (z := (⟨"com/example/hawser/hawser/rtr/PduType", "isIn", "(I)Z"⟩ : MethodName)) hown (mvT hZ (hw _ (List.mem_of_getElem? (i := 10) rfl))) (mvT hZ (hw _ (List.mem_of_getElem? (i := 11) rfl))) (notFace_of_selects (args := #[]) (mvT hZ (hw _ (List.mem_of_getElem? (i := 13) rfl)))) (mvT hZ (hw _ (List.mem_of_getElem? (i := 13) rfl))) (mvT hZ (hw _ (List.mem_of_getElem? (i := 12) rfl))) (by decide) (backOf (W := 0) (rm2 l Z a0 hw [] w_CACHE_RESPONSE p1 (0 : Int32) h0 n0 Z0 F_sinceVersion_CACHE_RESPONSE) hZ (hw _ (List.mem_of_getElem? (i := 14) rfl)) (hw _ (List.mem_of_getElem? (i := 6) rfl)) (by decide) (by decide)) q18a q18c (g := (mkF m 41 #[.val (.int p0), .val (.int p1), .val (.int ((p0 &&& (2147483647 : Int32)) % (10 : Int32))), .val (.ref w_CACHE_RESPONSE), .val (.int (0 : Int32)), .val (.int (1 : Int32))] [(.int p1), (.ref w_CACHE_RESPONSE)])) rfl (by rw [hml]; rfl) (Steps.refl _) (argsL := [(.int p1)]) (rest := []) (lenOf pd_1 rfl) rfl (by show 2 * 0 + _ ≤ _; exact Nat.le_of_eq rfl) (hb hby at_41) (fun _ _ => ⟨rfl, e15, (by decide : 0 + 0 ≤ _), (by decide : 0 + 0 ≤ _)⟩)
            dsimp only [Pt.U, Pt.locs, Pt.cells, Pt.slots] at X18 l18 y18 z18 st18 hQ18
            subst l18 y18 z18
            obtain ⟨rfl, N18q, e18⟩ := hQ18
            have N18 := Fr.app N1 N18q
            have hc46 : (F2 p1 (0 : Int32)) = (1 : Int32) := by rw [F2, if_neg hc29]
            obtain ⟨fs, hr, hrun, hended, hW, hsame⟩ := X18.leave (v := some (.int (1 : Int32))) (fun h => by rw [Bd.returns] at h; cases h) (BodyLoose.notSynchronized Bd)
            refine ⟨_, _, pre16 _ ?_, hrun, hended, _, _, rfl, ?_, ⟨_, rfl⟩, hW, hsame.mono (by decide) (by decide)⟩
            · show Steps p.tables e below (T15.setTop (mkF m 29 #[.val (.int p0), .val (.int p1), .val (.int ((p0 &&& (2147483647 : Int32)) % (10 : Int32))), .val (.ref w_CACHE_RESPONSE), .val (.int (0 : Int32)), .unset] [(.int (0 : Int32)), (.int p1)])) _
              refine XS.icmpNo X15.here hx rfl (hb hby at_29) rfl (flt hc29).1 ?_
              show Steps p.tables e below (T15.setTop (mkF m 32 #[.val (.int p0), .val (.int p1), .val (.int ((p0 &&& (2147483647 : Int32)) % (10 : Int32))), .val (.ref w_CACHE_RESPONSE), .val (.int (0 : Int32)), .unset] [])) _
              refine XS.iconst X15.here hx rfl (hb hby at_32) ?_
              show Steps p.tables e below (T15.setTop (mkF m 33 #[.val (.int p0), .val (.int p1), .val (.int ((p0 &&& (2147483647 : Int32)) % (10 : Int32))), .val (.ref w_CACHE_RESPONSE), .val (.int (0 : Int32)), .unset] [(.int (1 : Int32))])) _
              refine XS.goto X15.here hx rfl (pc0 := 33) (pc' := 37) rfl (hb hby at_33) (by decide) (by decide) ?_
              show Steps p.tables e below (T15.setTop (mkF m 37 #[.val (.int p0), .val (.int p1), .val (.int ((p0 &&& (2147483647 : Int32)) % (10 : Int32))), .val (.ref w_CACHE_RESPONSE), .val (.int (0 : Int32)), .unset] [(.int (1 : Int32))])) _
              refine XS.istore X15.here hx rfl (hb hby at_37) rfl (l' := #[.val (.int p0), .val (.int p1), .val (.int ((p0 &&& (2147483647 : Int32)) % (10 : Int32))), .val (.ref w_CACHE_RESPONSE), .val (.int (0 : Int32)), .val (.int (1 : Int32))]) rfl ?_
              show Steps p.tables e below (T15.setTop (mkF m 39 #[.val (.int p0), .val (.int p1), .val (.int ((p0 &&& (2147483647 : Int32)) % (10 : Int32))), .val (.ref w_CACHE_RESPONSE), .val (.int (0 : Int32)), .val (.int (1 : Int32))] [])) _
              refine XS.aloadN X15.here hx rfl (hb hby at_39) rfl rfl ?_
              show Steps p.tables e below (T15.setTop (mkF m 40 #[.val (.int p0), .val (.int p1), .val (.int ((p0 &&& (2147483647 : Int32)) % (10 : Int32))), .val (.ref w_CACHE_RESPONSE), .val (.int (0 : Int32)), .val (.int (1 : Int32))] [(.ref w_CACHE_RESPONSE)])) _
              refine XS.iloadN X15.here hx rfl (hb hby at_40) rfl ?_
              show Steps p.tables e below (T15.setTop (mkF m 41 #[.val (.int p0), .val (.int p1), .val (.int ((p0 &&& (2147483647 : Int32)) % (10 : Int32))), .val (.ref w_CACHE_RESPONSE), .val (.int (0 : Int32)), .val (.int (1 : Int32))] [(.int p1), (.ref w_CACHE_RESPONSE)])) _
              refine st18.trans ?_
              show Steps p.tables e below (T18.setTop (mkF m 44 #[.val (.int p0), .val (.int p1), .val (.int ((p0 &&& (2147483647 : Int32)) % (10 : Int32))), .val (.ref w_CACHE_RESPONSE), .val (.int (0 : Int32)), .val (.int (1 : Int32))] [(.int (F2 p1 (0 : Int32)))])) _
              refine XS.iload X18.here hx rfl (hb hby at_44) rfl ?_
              show Steps p.tables e below (T18.setTop (mkF m 46 #[.val (.int p0), .val (.int p1), .val (.int ((p0 &&& (2147483647 : Int32)) % (10 : Int32))), .val (.ref w_CACHE_RESPONSE), .val (.int (0 : Int32)), .val (.int (1 : Int32))] [(.int (1 : Int32)), (.int (F2 p1 (0 : Int32)))])) _
              refine XS.icmpNo X18.here hx rfl (hb hby at_46) rfl (teq hc46).2 ?_
              show Steps p.tables e below (T18.setTop (mkF m 49 #[.val (.int p0), .val (.int p1), .val (.int ((p0 &&& (2147483647 : Int32)) % (10 : Int32))), .val (.ref w_CACHE_RESPONSE), .val (.int (0 : Int32)), .val (.int (1 : Int32))] [])) _
              refine XS.iconst X18.here hx rfl (hb hby at_49) ?_
              show Steps p.tables e below (T18.setTop (mkF m 50 #[.val (.int p0), .val (.int p1), .val (.int ((p0 &&& (2147483647 : Int32)) % (10 : Int32))), .val (.ref w_CACHE_RESPONSE), .val (.int (0 : Int32)), .val (.int (1 : Int32))] [(.int (1 : Int32))])) _
              refine XS.goto X18.here hx rfl (pc0 := 50) (pc' := 54) rfl (hb hby at_50) (by decide) (by decide) ?_
              show Steps p.tables e below (T18.setTop (mkF m 54 #[.val (.int p0), .val (.int p1), .val (.int ((p0 &&& (2147483647 : Int32)) % (10 : Int32))), .val (.ref w_CACHE_RESPONSE), .val (.int (0 : Int32)), .val (.int (1 : Int32))] [(.int (1 : Int32))])) _
              exact retN X18 hx (t := .boolean) Bd.returns (by simp) (hb hby at_54) hr
            · show Q0 Z p0 p1 w_SERIAL_NOTIFY w_SERIAL_QUERY w_RESET_QUERY w_CACHE_RESPONSE w_IPV4_PREFIX w_IPV6_PREFIX w_END_OF_DATA w_CACHE_RESET w_ROUTER_KEY w_ERROR_REPORT h0 n0 _ T18.heap _
              rw [e18]
              exact ⟨rfl, N18⟩
        · by_cases hk_5 : ((p0 &&& (2147483647 : Int32)) % (10 : Int32)) = (4 : Int32)
          · rw [show (F1 ((p0 &&& (2147483647 : Int32)) % (10 : Int32)) w_SERIAL_NOTIFY w_SERIAL_QUERY w_RESET_QUERY w_CACHE_RESPONSE w_IPV4_PREFIX w_IPV6_PREFIX w_END_OF_DATA w_CACHE_RESET w_ROUTER_KEY w_ERROR_REPORT) = w_IPV4_PREFIX from by rw [F1, if_neg hk, if_neg hk_2, if_neg hk_3, if_neg hk_4, if_pos hk_5]] at pre2
            obtain ⟨T19, X19, e19, st19⟩ := getS2 X1 hx hZ hown (host := "") (Or.inl (hw _ (List.mem_of_getElem? (i := 8) rfl))) Via.refl e1 S_ROUTER_KEY (g := (mkF m 17 #[.val (.int p0), .val (.int p1), .val (.int ((p0 &&& (2147483647 : Int32)) % (10 : Int32))), .val (.ref w_IPV4_PREFIX), .val (.int (0 : Int32)), .unset] [(.ref w_IPV4_PREFIX)])) rfl (hb hby at_17)
            have ha20 : ¬ (w_IPV4_PREFIX = w_ROUTER_KEY) := ne_IPV4_PREFIX_ROUTER_KEY
            have pre20 : ∀ t, Steps p.tables e below (T19.setTop (mkF m 29 #[.val (.int p0), .val (.int p1), .val (.int ((p0 &&& (2147483647 : Int32)) % (10 : Int32))), .val (.ref w_IPV4_PREFIX), .val (.int (0 : Int32)), .unset] [(.int (0 : Int32)), (.int p1)])) t → Steps p.tables e below (s₁.setTop (entryFrame m #[(.int p0), (.int p1)] maxLocals)) t := fun t k => by
              refine pre2 t ?_
              show Steps p.tables e below (T1.setTop (mkF m 12 #[.val (.int p0), .val (.int p1), .val (.int ((p0 &&& (2147483647 : Int32)) % (10 : Int32))), .unset, .unset, .unset] [(.ref w_IPV4_PREFIX)])) _
              refine XS.astoreN X1.here hx rfl (hb hby at_12) rfl rfl (l' := #[.val (.int p0), .val (.int p1), .val (.int ((p0 &&& (2147483647 : Int32)) % (10 : Int32))), .val (.ref w_IPV4_PREFIX), .unset, .unset]) rfl ?_
              show Steps p.tables e below (T1.setTop (mkF m 13 #[.val (.int p0), .val (.int p1), .val (.int ((p0 &&& (2147483647 : Int32)) % (10 : Int32))), .val (.ref w_IPV4_PREFIX), .unset, .unset] [])) _
              refine XS.iconst X1.here hx rfl (hb hby at_13) ?_
              show Steps p.tables e below (T1.setTop (mkF m 14 #[.val (.int p0), .val (.int p1), .val (.int ((p0 &&& (2147483647 : Int32)) % (10 : Int32))), .val (.ref w_IPV4_PREFIX), .unset, .unset] [(.int (0 : Int32))])) _
              refine XS.istore X1.here hx rfl (hb hby at_14) rfl (l' := #[.val (.int p0), .val (.int p1), .val (.int ((p0 &&& (2147483647 : Int32)) % (10 : Int32))), .val (.ref w_IPV4_PREFIX), .val (.int (0 : Int32)), .unset]) rfl ?_
              show Steps p.tables e below (T1.setTop (mkF m 16 #[.val (.int p0), .val (.int p1), .val (.int ((p0 &&& (2147483647 : Int32)) % (10 : Int32))), .val (.ref w_IPV4_PREFIX), .val (.int (0 : Int32)), .unset] [])) _
              refine XS.aloadN X1.here hx rfl (hb hby at_16) rfl rfl ?_
              show Steps p.tables e below (T1.setTop (mkF m 17 #[.val (.int p0), .val (.int p1), .val (.int ((p0 &&& (2147483647 : Int32)) % (10 : Int32))), .val (.ref w_IPV4_PREFIX), .val (.int (0 : Int32)), .unset] [(.ref w_IPV4_PREFIX)])) _
              refine st19 _ ?_
              show Steps p.tables e below (T19.setTop (mkF m 20 #[.val (.int p0), .val (.int p1), .val (.int ((p0 &&& (2147483647 : Int32)) % (10 : Int32))), .val (.ref w_IPV4_PREFIX), .val (.int (0 : Int32)), .unset] [(.ref w_ROUTER_KEY), (.ref w_IPV4_PREFIX)])) _
              refine Jvm.RoadKit.acmp (g := (mkF m 20 #[.val (.int p0), .val (.int p1), .val (.int ((p0 &&& (2147483647 : Int32)) % (10 : Int32))), .val (.ref w_IPV4_PREFIX), .val (.int (0 : Int32)), .unset] [(.ref w_ROUTER_KEY), (.ref w_IPV4_PREFIX)])) X19 hx rfl rfl rfl (pc0 := 20) (pc' := 26) (same := false) rfl (hb hby at_20) rfl (decide_eq_false fun q => ha20 (Value.ref.inj q)) (by decide) (by decide) ?_
              show Steps p.tables e below (T19.setTop (mkF m 26 #[.val (.int p0), .val (.int p1), .val (.int ((p0 &&& (2147483647 : Int32)) % (10 : Int32))), .val (.ref w_IPV4_PREFIX), .val (.int (0 : Int32)), .unset] [])) _
              refine XS.iloadN X19.here hx rfl (hb hby at_26) rfl ?_
              show Steps p.tables e below (T19.setTop (mkF m 27 #[.val (.int p0), .val (.int p1), .val (.int ((p0 &&& (2147483647 : Int32)) % (10 : Int32))), .val (.ref w_IPV4_PREFIX), .val (.int (0 : Int32)), .unset] [(.int p1)])) _
              refine XS.iload X19.here hx rfl (hb hby at_27) rfl ?_
              exact k
            by_cases hc29 : p1 < (0 : Int32)
            · obtain ⟨cq21, kq21, q21a, q21b, q21c⟩ := isOf hZ e19 E_IPV4_PREFIX
              obtain ⟨_, _, ⟨T21, L21, k21, n21⟩, -, X21, ⟨Lc21, hQ21, l21, y21, z21⟩, st21⟩ := X19.virtualBack hx (y := (⟨"com/example/hawser/hawser/rtr/PduType", "isIn", "(I)Z"⟩ : MethodName)) (z := (⟨"com/example/hawser/hawser/rtr/PduType", "isIn", "(I)Z"⟩ : MethodName)) hown (mvT hZ (hw _ (List.mem_of_getElem? (i := 10) rfl))) (mvT hZ (hw _ (List.mem_of_getElem? (i := 11) rfl))) (notFace_of_selects (args := #[]) (mvT hZ (hw _ (List.mem_of_getElem? (i := 13) rfl)))) (mvT hZ (hw _ (List.mem_of_getElem? (i := 13) rfl))) (mvT hZ (hw _ (List.mem_of_getElem? (i := 12) rfl))) (by decide) (backOf (W := 0) (rm2 l Z a0 hw [] w_IPV4_PREFIX p1 (0 : Int32) h0 n0 Z0 F_sinceVersion_IPV4_PREFIX) hZ (hw _ (List.mem_of_getElem? (i := 14) rfl)) (hw _ (List.mem_of_getElem? (i := 6) rfl)) (by decide) (by decide)) q21a q21c (g := (mkF m 41 #[.val (.int p0), .val (.int p1), .val (.int ((p0 &&& (2147483647 : Int32)) % (10 : Int32))), .val (.ref w_IPV4_PREFIX), .val (.int (0 : Int32)), .val (.int (0 : Int32))] [(.int p1), (.ref w_IPV4_PREFIX)])) rfl (by rw [hml]; rfl) (Steps.refl _) (argsL := [(.int p1)]) (rest := []) (lenOf pd_1 rfl) rfl (by show 2 * 0 + _ ≤ _; exact Nat.le_of_eq rfl) (hb hby at_41) (fun _ _ => ⟨rfl, e19, (by decide : 0 + 0 ≤ _), (by decide : 0 + 0 ≤ _)⟩)
              dsimp only [Pt.U, Pt.locs, Pt.cells, Pt.slots] at X21 l21 y21 z21 st21 hQ21
              subst l21 y21 z21
              obtain ⟨rfl, N21q, e21⟩ := hQ21
              have N21 := Fr.app N1 N21q
              have hc46 : (F2 p1 (0 : Int32)) = (0 : Int32) := by rw [F2, if_pos hc29]
              obtain ⟨fs, hr, hrun, hended, hW, hsame⟩ := X21.leave (v := some (.int (1 : Int32))) (fun h => by rw [Bd.returns] at h; cases h) (BodyLoose.notSynchronized Bd)
              refine ⟨_, _, pre20 _ ?_, hrun, hended, _, _, rfl, ?_, ⟨_, rfl⟩, hW, hsame.mono (by decide) (by decide)⟩
              · show Steps p.tables e below (T19.setTop (mkF m 29 #[.val (.int p0), .val (.int p1), .val (.int ((p0 &&& (2147483647 : Int32)) % (10 : Int32))), .val (.ref w_IPV4_PREFIX), .val (.int (0 : Int32)), .unset] [(.int (0 : Int32)), (.int p1)])) _
                refine XS.icmpYes X19.here hx rfl (pc0 := 29) (pc' := 36) rfl (hb hby at_29) rfl (tlt hc29).1 (by decide) (by decide) ?_
                show Steps p.tables e below (T19.setTop (mkF m 36 #[.val (.int p0), .val (.int p1), .val (.int ((p0 &&& (2147483647 : Int32)) % (10 : Int32))), .val (.ref w_IPV4_PREFIX), .val (.int (0 : Int32)), .unset] [])) _
                refine XS.iconst X19.here hx rfl (hb hby at_36) ?_
                show Steps p.tables e below (T19.setTop (mkF m 37 #[.val (.int p0), .val (.int p1), .val (.int ((p0 &&& (2147483647 : Int32)) % (10 : Int32))), .val (.ref w_IPV4_PREFIX), .val (.int (0 : Int32)), .unset] [(.int (0 : Int32))])) _
                refine XS.istore X19.here hx rfl (hb hby at_37) rfl (l' := #[.val (.int p0), .val (.int p1), .val (.int ((p0 &&& (2147483647 : Int32)) % (10 : Int32))), .val (.ref w_IPV4_PREFIX), .val (.int (0 : Int32)), .val (.int (0 : Int32))]) rfl ?_
                show Steps p.tables e below (T19.setTop (mkF m 39 #[.val (.int p0), .val (.int p1), .val (.int ((p0 &&& (2147483647 : Int32)) % (10 : Int32))), .val (.ref w_IPV4_PREFIX), .val (.int (0 : Int32)), .val (.int (0 : Int32))] [])) _
                refine XS.aloadN X19.here hx rfl (hb hby at_39) rfl rfl ?_
                show Steps p.tables e below (T19.setTop (mkF m 40 #[.val (.int p0), .val (.int p1), .val (.int ((p0 &&& (2147483647 : Int32)) % (10 : Int32))), .val (.ref w_IPV4_PREFIX), .val (.int (0 : Int32)), .val (.int (0 : Int32))] [(.ref w_IPV4_PREFIX)])) _
                refine XS.iloadN X19.here hx rfl (hb hby at_40) rfl ?_
                show Steps p.tables e below (T19.setTop (mkF m 41 #[.val (.int p0), .val (.int p1), .val (.int ((p0 &&& (2147483647 : Int32)) % (10 : Int32))), .val (.ref w_IPV4_PREFIX), .val (.int (0 : Int32)), .val (.int (0 : Int32))] [(.int p1), (.ref w_IPV4_PREFIX)])) _
                refine st21.trans ?_
                show Steps p.tables e below (T21.setTop (mkF m 44 #[.val (.int p0), .val (.int p1), .val (.int ((p0 &&& (2147483647 : Int32)) % (10 : Int32))), .val (.ref w_IPV4_PREFIX), .val (.int (0 : Int32)), .val (.int (0 : Int32))] [(.int (F2 p1 (0 : Int32)))])) _
                refine XS.iload X21.here hx rfl (hb hby at_44) rfl ?_
                show Steps p.tables e below (T21.setTop (mkF m 46 #[.val (.int p0), .val (.int p1), .val (.int ((p0 &&& (2147483647 : Int32)) % (10 : Int32))), .val (.ref w_IPV4_PREFIX), .val (.int (0 : Int32)), .val (.int (0 : Int32))] [(.int (0 : Int32)), (.int (F2 p1 (0 : Int32)))])) _
                refine XS.icmpNo X21.here hx rfl (hb hby at_46) rfl (teq hc46).2 ?_
                show Steps p.tables e below (T21.setTop (mkF m 49 #[.val (.int p0), .val (.int p1), .val (.int ((p0 &&& (2147483647 : Int32)) % (10 : Int32))), .val (.ref w_IPV4_PREFIX), .val (.int (0 : Int32)), .val (.int (0 : Int32))] [])) _
                refine XS.iconst X21.here hx rfl (hb hby at_49) ?_
                show Steps p.tables e below (T21.setTop (mkF m 50 #[.val (.int p0), .val (.int p1), .val (.int ((p0 &&& (2147483647 : Int32)) % (10 : Int32))), .val (.ref w_IPV4_PREFIX), .val (.int (0 : Int32)), .val (.int (0 : Int32))] [(.int (1 : Int32))])) _
                refine XS.goto X21.here hx rfl (pc0 := 50) (pc' := 54) rfl (hb hby at_50) (by decide) (by decide) ?_
                show Steps p.tables e below (T21.setTop (mkF m 54 #[.val (.int p0), .val (.int p1), .val (.int ((p0 &&& (2147483647 : Int32)) % (10 : Int32))), .val (.ref w_IPV4_PREFIX), .val (.int (0 : Int32)), .val (.int (0 : Int32))] [(.int (1 : Int32))])) _
                exact retN X21 hx (t := .boolean) Bd.returns (by simp) (hb hby at_54) hr
              · show Q0 Z p0 p1 w_SERIAL_NOTIFY w_SERIAL_QUERY w_RESET_QUERY w_CACHE_RESPONSE w_IPV4_PREFIX w_IPV6_PREFIX w_END_OF_DATA w_CACHE_RESET w_ROUTER_KEY w_ERROR_REPORT h0 n0 _ T21.heap _
                rw [e21]
                exact ⟨rfl, N21⟩
            · obtain ⟨cq22, kq22, q22a, q22b, q22c⟩ := isOf hZ e19 E_IPV4_PREFIX
              obtain ⟨_, _, ⟨T22, L22, k22, n22⟩, -, X22, ⟨Lc22, hQ22, l22, y22, z22⟩, st22⟩ := X19.virtualBack hx (y := (⟨"com/example/hawser/hawser/rtr/PduType", "isIn", "(I)Z"⟩ : MethodName)) (z := (⟨"com/example/hawser/hawser/rtr/PduType", "isIn", "(I)Z"⟩ : MethodName)) hown (mvT hZ (hw _ (List.mem_of_getElem? (i := 10) rfl))) (mvT hZ (hw _ (List.mem_of_getElem? (i := 11) rfl))) (notFace_of_selects (args := #[]) (mvT hZ (hw _ (List.mem_of_getElem? (i := 13) rfl)))) (mvT hZ (hw _ (List.mem_of_getElem? (i := 13) rfl))) (mvT hZ (hw _ (List.mem_of_getElem? (i := 12) rfl))) (by decide) (backOf (W := 0) (rm2 l Z a0 hw [] w_IPV4_PREFIX p1 (0 : Int32) h0 n0 Z0 F_sinceVersion_IPV4_PREFIX) hZ (hw _ (List.mem_of_getElem? (i := 14) rfl)) (hw _ (List.mem_of_getElem? (i := 6) rfl)) (by decide) (by decide)) q22a q22c (g := (mkF m 41 #[.val (.int p0), .val (.int p1), .val (.int ((p0 &&& (2147483647 : Int32)) % (10 : Int32))), .val (.ref w_IPV4_PREFIX), .val (.int (0 : Int32)), .val (.int (1 : Int32))] [(.int p1), (.ref w_IPV4_PREFIX)])) rfl (by rw [hml]; rfl) (Steps.refl _) (argsL := [(.int p1)]) (rest := []) (lenOf pd_1 rfl) rfl (by show 2 * 0 + _ ≤ _; exact Nat.le_of_eq rfl) (hb hby at_41) (fun _ _ => ⟨rfl, e19, (by decide : 0 + 0 ≤ _), (by decide : 0 + 0 ≤ _)⟩)
              dsimp only [Pt.U, Pt.locs, Pt.cells, Pt.slots] at X22 l22 y22 z22 st22 hQ22
              subst l22 y22 z22
              obtain ⟨rfl, N22q, e22⟩ := hQ22
              have N22 := Fr.app N1 N22q
              have hc46 : (F2 p1 (0 : Int32)) = (1 : Int32) := by rw [F2, if_neg hc29]
              obtain ⟨fs, hr, hrun, hended, hW, hsame⟩ := X22.leave (v := some (.int (1 : Int32))) (fun h => by rw [Bd.returns] at h; cases h) (BodyLoose.notSynchronized Bd)
              refine ⟨_, _, pre20 _ ?_, hrun, hended, _, _, rfl, ?_, ⟨_, rfl⟩, hW, hsame.mono (by decide) (by decide)⟩
              · show Steps p.tables e below (T19.setTop (mkF m 29 #[.val (.int p0), .val (.int p1), .val (.int ((p0 &&& (2147483647 : Int32)) % (10 : Int32))), .val (.ref w_IPV4_PREFIX), .val (.int (0 : Int32)), .unset] [(.int (0 : Int32)), (.int p1)])) _
                refine XS.icmpNo X19.here hx rfl (hb hby at_29) rfl (flt hc29).1 ?_
                show Steps p.tables e below (T19.setTop (mkF m 32 #[.val (.int p0), .val (.int p1), .val (.int ((p0 &&& (2147483647 : Int32)) % (10 : Int32))), .val (.ref w_IPV4_PREFIX), .val (.int (0 : Int32)), .unset] [])) _
                refine XS.iconst X19.here hx rfl (hb hby at_32) ?_
                show Steps p.tables e below (T19.setTop (mkF m 33 #[.val (.int p0), .val (.int p1), .val (.int ((p0 &&& (2147483647 : Int32)) % (10 : Int32))), .val (.ref w_IPV4_PREFIX), .val (.int (0 : Int32)), .unset] [(.int (1 : Int32))])) _
                refine XS.goto X19.here hx rfl (pc0 := 33) (pc' := 37) rfl (hb hby at_33) (by decide) (by decide) ?_
                show Steps p.tables e below (T19.setTop (mkF m 37 #[.val (.int p0), .val (.int p1), .val (.int ((p0 &&& (2147483647 : Int32)) % (10 : Int32))), .val (.ref w_IPV4_PREFIX), .val (.int (0 : Int32)), .unset] [(.int (1 : Int32))])) _
                refine XS.istore X19.here hx rfl (hb hby at_37) rfl (l' := #[.val (.int p0), .val (.int p1), .val (.int ((p0 &&& (2147483647 : Int32)) % (10 : Int32))), .val (.ref w_IPV4_PREFIX), .val (.int (0 : Int32)), .val (.int (1 : Int32))]) rfl ?_
                show Steps p.tables e below (T19.setTop (mkF m 39 #[.val (.int p0), .val (.int p1), .val (.int ((p0 &&& (2147483647 : Int32)) % (10 : Int32))), .val (.ref w_IPV4_PREFIX), .val (.int (0 : Int32)), .val (.int (1 : Int32))] [])) _
                refine XS.aloadN X19.here hx rfl (hb hby at_39) rfl rfl ?_
                show Steps p.tables e below (T19.setTop (mkF m 40 #[.val (.int p0), .val (.int p1), .val (.int ((p0 &&& (2147483647 : Int32)) % (10 : Int32))), .val (.ref w_IPV4_PREFIX), .val (.int (0 : Int32)), .val (.int (1 : Int32))] [(.ref w_IPV4_PREFIX)])) _
                refine XS.iloadN X19.here hx rfl (hb hby at_40) rfl ?_
                show Steps p.tables e below (T19.setTop (mkF m 41 #[.val (.int p0), .val (.int p1), .val (.int ((p0 &&& (2147483647 : Int32)) % (10 : Int32))), .val (.ref w_IPV4_PREFIX), .val (.int (0 : Int32)), .val (.int (1 : Int32))] [(.int p1), (.ref w_IPV4_PREFIX)])) _
                refine st22.trans ?_
                show Steps p.tables e below (T22.setTop (mkF m 44 #[.val (.int p0), .val (.int p1), .val (.int ((p0 &&& (2147483647 : Int32)) % (10 : Int32))), .val (.ref w_IPV4_PREFIX), .val (.int (0 : Int32)), .val (.int (1 : Int32))] [(.int (F2 p1 (0 : Int32)))])) _
                refine XS.iload X22.here hx rfl (hb hby at_44) rfl ?_
                show Steps p.tables e below (T22.setTop (mkF m 46 #[.val (.int p0), .val (.int p1), .val (.int ((p0 &&& (2147483647 : Int32)) % (10 : Int32))), .val (.ref w_IPV4_PREFIX), .val (.int (0 : Int32)), .val (.int (1 : Int32))] [(.int (1 : Int32)), (.int (F2 p1 (0 : Int32)))])) _
                refine XS.icmpNo X22.here hx rfl (hb hby at_46) rfl (teq hc46).2 ?_
                show Steps p.tables e below (T22.setTop (mkF m 49 #[.val (.int p0), .val (.int p1), .val (.int ((p0 &&& (2147483647 : Int32)) % (10 : Int32))), .val (.ref w_IPV4_PREFIX), .val (.int (0 : Int32)), .val (.int (1 : Int32))] [])) _
                refine XS.iconst X22.here hx rfl (hb hby at_49) ?_
                show Steps p.tables e below (T22.setTop (mkF m 50 #[.val (.int p0), .val (.int p1), .val (.int ((p0 &&& (2147483647 : Int32)) % (10 : Int32))), .val (.ref w_IPV4_PREFIX), .val (.int (0 : Int32)), .val (.int (1 : Int32))] [(.int (1 : Int32))])) _
                refine XS.goto X22.here hx rfl (pc0 := 50) (pc' := 54) rfl (hb hby at_50) (by decide) (by decide) ?_
                show Steps p.tables e below (T22.setTop (mkF m 54 #[.val (.int p0), .val (.int p1), .val (.int ((p0 &&& (2147483647 : Int32)) % (10 : Int32))), .val (.ref w_IPV4_PREFIX), .val (.int (0 : Int32)), .val (.int (1 : Int32))] [(.int (1 : Int32))])) _
                exact retN X22 hx (t := .boolean) Bd.returns (by simp) (hb hby at_54) hr
              · show Q0 Z p0 p1 w_SERIAL_NOTIFY w_SERIAL_QUERY w_RESET_QUERY w_CACHE_RESPONSE w_IPV4_PREFIX w_IPV6_PREFIX w_END_OF_DATA w_CACHE_RESET w_ROUTER_KEY w_ERROR_REPORT h0 n0 _ T22.heap _
                rw [e22]
                exact ⟨rfl, N22⟩
          · by_cases hk_6 : ((p0 &&& (2147483647 : Int32)) % (10 : Int32)) = (5 : Int32)
            · rw [show (F1 ((p0 &&& (2147483647 : Int32)) % (10 : Int32)) w_SERIAL_NOTIFY w_SERIAL_QUERY w_RESET_QUERY w_CACHE_RESPONSE w_IPV4_PREFIX w_IPV6_PREFIX w_END_OF_DATA w_CACHE_RESET w_ROUTER_KEY w_ERROR_REPORT) = w_IPV6_PREFIX from by rw [F1, if_neg hk, if_neg hk_2, if_neg hk_3, if_neg hk_4, if_neg hk_5, if_pos hk_6]] at pre2
              obtain ⟨T23, X23, e23, st23⟩ := getS2 X1 hx hZ hown (host := "") (Or.inl (hw _ (List.mem_of_getElem? (i := 8) rfl))) Via.refl e1 S_ROUTER_KEY (g := (mkF m 17 #[.val (.int p0), .val (.int p1), .val (.int ((p0 &&& (2147483647 : Int32)) % (10 : Int32))), .val (.ref w_IPV6_PREFIX), .val (.int (0 : Int32)), .unset] [(.ref w_IPV6_PREFIX)])) rfl (hb hby at_17)
              have ha20 : ¬ (w_IPV6_PREFIX = w_ROUTER_KEY) := ne_IPV6_PREFIX_ROUTER_KEY
              have pre24 : ∀ t, Steps p.tables e below (T23.setTop (mkF m 29 #[.val (.int p0), .val (.int p1), .val (.int ((p0 &&& (2147483647 : Int32)) % (10 : Int32))), .val (.ref w_IPV6_PREFIX), .val (.int (0 : Int32)), .unset] [(.int (0 : Int32)), (.int p1)])) t → Steps p.tables e below (s₁.setTop (entryFrame m #[(.int p0), (.int p1)] maxLocals)) t := fun t k => by
                refine pre2 t ?_
                show Steps p.tables e below (T1.setTop (mkF m 12 #[.val (.int p0), .val (.int p1), .val (.int ((p0 &&& (2147483647 : Int32)) % (10 : Int32))), .unset, .unset, .unset] [(.ref w_IPV6_PREFIX)])) _
                refine XS.astoreN X1.here hx rfl (hb hby at_12) rfl rfl (l' := #[.val (.int p0), .val (.int p1), .val (.int ((p0 &&& (2147483647 : Int32)) % (10 : Int32))), .val (.ref w_IPV6_PREFIX), .unset, .unset]) rfl ?_
                show Steps p.tables e below (T1.setTop (mkF m 13 #[.val (.int p0), .val (.int p1), .val (.int ((p0 &&& (2147483647 : Int32)) % (10 : Int32))), .val (.ref w_IPV6_PREFIX), .unset, .unset] [])) _
                refine XS.iconst X1.here hx rfl (hb hby at_13) ?_
                show Steps p.tables e below (T1.setTop (mkF m 14 #[.val (.int p0), .val (.int p1), .val (.int ((p0 &&& (2147483647 : Int32)) % (10 : Int32))), .val (.ref w_IPV6_PREFIX), .unset, .unset] [(.int (0 : Int32))])) _
                refine XS.istore X1.here hx rfl (hb hby at_14) rfl (l' := #[.val (.int p0), .val (.int p1), .val (.int ((p0 &&& (2147483647 : Int32)) % (10 : Int32))), .val (.ref w_IPV6_PREFIX), .val (.int (0 : Int32)), .unset]) rfl ?_
                show Steps p.tables e below (T1.setTop (mkF m 16 #[.val (.int p0), .val (.int p1), .val (.int ((p0 &&& (2147483647 : Int32)) % (10 : Int32))), .val (.ref w_IPV6_PREFIX), .val (.int (0 : Int32)), .unset] [])) _
                refine XS.aloadN X1.here hx rfl (hb hby at_16) rfl rfl ?_
                show Steps p.tables e below (T1.setTop (mkF m 17 #[.val (.int p0), .val (.int p1), .val (.int ((p0 &&& (2147483647 : Int32)) % (10 : Int32))), .val (.ref w_IPV6_PREFIX), .val (.int (0 : Int32)), .unset] [(.ref w_IPV6_PREFIX)])) _
                refine st23 _ ?_
                show Steps p.tables e below (T23.setTop (mkF m 20 #[.val (.int p0), .val (.int p1), .val (.int ((p0 &&& (2147483647 : Int32)) % (10 : Int32))), .val (.ref w_IPV6_PREFIX), .val (.int (0 : Int32)), .unset] [(.ref w_ROUTER_KEY), (.ref w_IPV6_PREFIX)])) _
                refine Jvm.RoadKit.acmp (g := (mkF m 20 #[.val (.int p0), .val (.int p1), .val (.int ((p0 &&& (2147483647 : Int32)) % (10 : Int32))), .val (.ref w_IPV6_PREFIX), .val (.int (0 : Int32)), .unset] [(.ref w_ROUTER_KEY), (.ref w_IPV6_PREFIX)])) X23 hx rfl rfl rfl (pc0 := 20) (pc' := 26) (same := false) rfl (hb hby at_20) rfl (decide_eq_false fun q => ha20 (Value.ref.inj q)) (by decide) (by decide) ?_
                show Steps p.tables e below (T23.setTop (mkF m 26 #[.val (.int p0), .val (.int p1), .val (.int ((p0 &&& (2147483647 : Int32)) % (10 : Int32))), .val (.ref w_IPV6_PREFIX), .val (.int (0 : Int32)), .unset] [])) _
                refine XS.iloadN X23.here hx rfl (hb hby at_26) rfl ?_
                show Steps p.tables e below (T23.setTop (mkF m 27 #[.val (.int p0), .val (.int p1), .val (.int ((p0 &&& (2147483647 : Int32)) % (10 : Int32))), .val (.ref w_IPV6_PREFIX), .val (.int (0 : Int32)), .unset] [(.int p1)])) _
                refine XS.iload X23.here hx rfl (hb hby at_27) rfl ?_
                exact k
              by_cases hc29 : p1 < (0 : Int32)
              · obtain ⟨cq25, kq25, q25a, q25b, q25c⟩ := isOf hZ e23 E_IPV6_PREFIX
                obtain ⟨_, _, ⟨T25, L25, k25, n25⟩, -, X25, ⟨Lc25, hQ25, l25, y25, z25⟩, st25⟩ := X23.virtualBack hx (y := (⟨"com/example/hawser/hawser/rtr/PduType", "isIn", "(I)Z"⟩ : MethodName)) (z := (⟨"com/example/hawser/hawser/rtr/PduType", "isIn", "(I)Z"⟩ : MethodName)) hown (mvT hZ (hw _ (List.mem_of_getElem? (i := 10) rfl))) (mvT hZ (hw _ (List.mem_of_getElem? (i := 11) rfl))) (notFace_of_selects (args := #[]) (mvT hZ (hw _ (List.mem_of_getElem? (i := 13) rfl)))) (mvT hZ (hw _ (List.mem_of_getElem? (i := 13) rfl))) (mvT hZ (hw _ (List.mem_of_getElem? (i := 12) rfl))) (by decide) (backOf (W := 0) (rm2 l Z a0 hw [] w_IPV6_PREFIX p1 (0 : Int32) h0 n0 Z0 F_sinceVersion_IPV6_PREFIX) hZ (hw _ (List.mem_of_getElem? (i := 14) rfl)) (hw _ (List.mem_of_getElem? (i := 6) rfl)) (by decide) (by decide)) q25a q25c (g := (mkF m 41 #[.val (.int p0), .val (.int p1), .val (.int ((p0 &&& (2147483647 : Int32)) % (10 : Int32))), .val (.ref w_IPV6_PREFIX), .val (.int (0 : Int32)), .val (.int (0 : Int32))] [(.int p1), (.ref w_IPV6_PREFIX)])) rfl (by rw [hml]; rfl) (Steps.refl _) (argsL := [(.int p1)]) (rest := []) (lenOf pd_1 rfl) rfl (by show 2 * 0 + _ ≤ _; exact Nat.le_of_eq rfl) (hb hby at_41) (fun _ _ => ⟨rfl, e23, (by decide : 0 + 0 ≤ _), (by decide : 0 + 0 ≤ _)⟩)
                dsimp only [Pt.U, Pt.locs, Pt.cells, Pt.slots] at X25 l25 y25 z25 st25 hQ25
                subst l25 y25 z25
                obtain ⟨rfl, N25q, e25⟩ := hQ25
                have N25 := Fr.app N1 N25q
                have hc46 : (F2 p1 (0 : Int32)) = (0 : Int32) := by rw [F2, if_pos hc29]
                obtain ⟨fs, hr, hrun, hended, hW, hsame⟩ := X25.leave (v := some (.int (1 : Int32))) (fun h => by rw [Bd.returns] at h; cases h) (BodyLoose.notSynchronized Bd)
                refine ⟨_, _, pre24 _ ?_, hrun, hended, _, _, rfl, ?_, ⟨_, rfl⟩, hW, hsame.mono (by decide) (by decide)⟩
                · show Steps p.tables e below (T23.setTop (mkF m 29 #[.val (.int p0), .val (.int p1), .val (.int ((p0 &&& (2147483647 : Int32)) % (10 : Int32))), .val (.ref w_IPV6_PREFIX), .val (.int (0 : Int32)), .unset] [(.int (0 : Int32)), (.int p1)])) _
                  refine XS.icmpYes X23.here hx rfl (pc0 := 29) (pc' := 36) rfl (hb hby at_29) rfl (tlt hc29).1 (by decide) (by decide) ?_
                  show Steps p.tables e below (T23.setTop (mkF m 36 #[.val (.int p0), .val (.int p1), .val (.int ((p0 &&& (2147483647 : Int32)) % (10 : Int32))), .val (.ref w_IPV6_PREFIX), .val (.int (0 : Int32)), .unset] [])) _
                  refine XS.iconst X23.here hx rfl (hb hby at_36) ?_
                  show Steps p.tables e below (T23.setTop (mkF m 37 #[.val (.int p0), .val (.int p1), .val (.int ((p0 &&& (2147483647 : Int32)) % (10 : Int32))), .val (.ref w_IPV6_PREFIX), .val (.int (0 : Int32)), .unset] [(.int (0 : Int32))])) _
                  refine XS.istore X23.here hx rfl (hb hby at_37) rfl (l' := #[.val (.int p0), .val (.int p1), .val (.int ((p0 &&& (2147483647 : Int32)) % (10 : Int32))), .val (.ref w_IPV6_PREFIX), .val (.int (0 : Int32)), .val (.int (0 : Int32))]) rfl ?_
                  show Steps p.tables e below (T23.setTop (mkF m 39 #[.val (.int p0), .val (.int p1), .val (.int ((p0 &&& (2147483647 : Int32)) % (10 : Int32))), .val (.ref w_IPV6_PREFIX), .val (.int (0 : Int32)), .val (.int (0 : Int32))] [])) _
                  refine XS.aloadN X23.here hx rfl (hb hby at_39) rfl rfl ?_
                  show Steps p.tables e below (T23.setTop (mkF m 40 #[.val (.int p0), .val (.int p1), .val (.int ((p0 &&& (2147483647 : Int32)) % (10 : Int32))), .val (.ref w_IPV6_PREFIX), .val (.int (0 : Int32)), .val (.int (0 : Int32))] [(.ref w_IPV6_PREFIX)])) _
                  refine XS.iloadN X23.here hx rfl (hb hby at_40) rfl ?_
                  show Steps p.tables e below (T23.setTop (mkF m 41 #[.val (.int p0), .val (.int p1), .val (.int ((p0 &&& (2147483647 : Int32)) % (10 : Int32))), .val (.ref w_IPV6_PREFIX), .val (.int (0 : Int32)), .val (.int (0 : Int32))] [(.int p1), (.ref w_IPV6_PREFIX)])) _
                  refine st25.trans ?_
                  show Steps p.tables e below (T25.setTop (mkF m 44 #[.val (.int p0), .val (.int p1), .val (.int ((p0 &&& (2147483647 : Int32)) % (10 : Int32))), .val (.ref w_IPV6_PREFIX), .val (.int (0 : Int32)), .val (.int (0 : Int32))] [(.int (F2 p1 (0 : Int32)))])) _
                  refine XS.iload X25.here hx rfl (hb hby at_44) rfl ?_
                  show Steps p.tables e below (T25.setTop (mkF m 46 #[.val (.int p0), .val (.int p1), .val (.int ((p0 &&& (2147483647 : Int32)) % (10 : Int32))), .val (.ref w_IPV6_PREFIX), .val (.int (0 : Int32)), .val (.int (0 : Int32))] [(.int (0 : Int32)), (.int (F2 p1 (0 : Int32)))])) _
                  refine XS.icmpNo X25.here hx rfl (hb hby at_46) rfl (teq hc46).2 ?_
                  show Steps p.tables e below (T25.setTop (mkF m 49 #[.val (.int p0), .val (.int p1), .val (.int ((p0 &&& (2147483647 : Int32)) % (10 : Int32))), .val (.ref w_IPV6_PREFIX), .val (.int (0 : Int32)), .val (.int (0 : Int32))] [])) _
                  refine XS.iconst X25.here hx rfl (hb hby at_49) ?_
                  show Steps p.tables e below (T25.setTop (mkF m 50 #[.val (.int p0), .val (.int p1), .val (.int ((p0 &&& (2147483647 : Int32)) % (10 : Int32))), .val (.ref w_IPV6_PREFIX), .val (.int (0 : Int32)), .val (.int (0 : Int32))] [(.int (1 : Int32))])) _
                  refine XS.goto X25.here hx rfl (pc0 := 50) (pc' := 54) rfl (hb hby at_50) (by decide) (by decide) ?_
                  show Steps p.tables e below (T25.setTop (mkF m 54 #[.val (.int p0), .val (.int p1), .val (.int ((p0 &&& (2147483647 : Int32)) % (10 : Int32))), .val (.ref w_IPV6_PREFIX), .val (.int (0 : Int32)), .val (.int (0 : Int32))] [(.int (1 : Int32))])) _
                  exact retN X25 hx (t := .boolean) Bd.returns (by simp) (hb hby at_54) hr
                · show Q0 Z p0 p1 w_SERIAL_NOTIFY w_SERIAL_QUERY w_RESET_QUERY w_CACHE_RESPONSE w_IPV4_PREFIX w_IPV6_PREFIX w_END_OF_DATA w_CACHE_RESET w_ROUTER_KEY w_ERROR_REPORT h0 n0 _ T25.heap _
                  rw [e25]
                  exact ⟨rfl, N25⟩
              · obtain ⟨cq26, kq26, q26a, q26b, q26c⟩ := isOf hZ e23 E_IPV6_PREFIX
                obtain ⟨_, _, ⟨T26, L26, k26, n26⟩, -, X26, ⟨Lc26, hQ26, l26, y26, z26⟩, st26⟩ := X23.virtualBack hx (y := (⟨"com/example/hawser/hawser/rtr/PduType", "isIn", "(I)Z"⟩ : MethodName)) (z := (⟨"com/example/hawser/hawser/rtr/PduType", "isIn", "(I)Z"⟩ : MethodName)) hown (mvT hZ (hw _ (List.mem_of_getElem? (i := 10) rfl))) (mvT hZ (hw _ (List.mem_of_getElem? (i := 11) rfl))) (notFace_of_selects (args := #[]) (mvT hZ (hw _ (List.mem_of_getElem? (i := 13) rfl)))) (mvT hZ (hw _ (List.mem_of_getElem? (i := 13) rfl))) (mvT hZ (hw _ (List.mem_of_getElem? (i := 12) rfl))) (by decide) (backOf (W := 0) (rm2 l Z a0 hw [] w_IPV6_PREFIX p1 (0 : Int32) h0 n0 Z0 F_sinceVersion_IPV6_PREFIX) hZ (hw _ (List.mem_of_getElem? (i := 14) rfl)) (hw _ (List.mem_of_getElem? (i := 6) rfl)) (by decide) (by decide)) q26a q26c (g := (mkF m 41 #[.val (.int p0), .val (.int p1), .val (.int ((p0 &&& (2147483647 : Int32)) % (10 : Int32))), .val (.ref w_IPV6_PREFIX), .val (.int (0 : Int32)), .val (.int (1 : Int32))] [(.int p1), (.ref w_IPV6_PREFIX)])) rfl (by rw [hml]; rfl) (Steps.refl _) (argsL := [(.int p1)]) (rest := []) (lenOf pd_1 rfl) rfl (by show 2 * 0 + _ ≤ _; exact Nat.le_of_eq rfl) (hb hby at_41) (fun _ _ => ⟨rfl, e23, (by decide : 0 + 0 ≤ _), (by decide : 0 + 0 ≤ _)⟩)
                dsimp only [Pt.U, Pt.locs, Pt.cells, Pt.slots] at X26 l26 y26 z26 st26 hQ26
                subst l26 y26 z26
                obtain ⟨rfl, N26q, e26⟩ := hQ26
                have N26 := Fr.app N1 N26q
                have hc46 : (F2 p1 (0 : Int32)) = (1 : Int32) := by rw [F2, if_neg hc29]
                obtain ⟨fs, hr, hrun, hended, hW, hsame⟩ := X26.leave (v := some (.int (1 : Int32))) (fun h => by rw [Bd.returns] at h; cases h) (BodyLoose.notSynchronized Bd)
                refine ⟨_, _, pre24 _ ?_, hrun, hended, _, _, rfl, ?_, ⟨_, rfl⟩, hW, hsame.mono (by decide) (by decide)⟩
                · show Steps p.tables e below (T23.setTop (mkF m 29 #[.val (.int p0), .val (.int p1), .val (.int ((p0 &&& (2147483647 : Int32)) % (10 : Int32))), .val (.ref w_IPV6_PREFIX), .val (.int (0 : Int32)), .unset] [(.int (0 : Int32)), (.int p1)])) _
                  refine XS.icmpNo X23.here hx rfl (hb hby at_29) rfl (flt hc29).1 ?_
                  show Steps p.tables e below (T23.setTop (mkF m 32 #[.val (.int p0), .val (.int p1), .val (.int ((p0 &&& (2147483647 : Int32)) % (10 : Int32))), .val (.ref w_IPV6_PREFIX), .val (.int (0 : Int32)), .unset] [])) _
                  refine XS.iconst X23.here hx rfl (hb hby at_32) ?_
                  show Steps p.tables e below (T23.setTop (mkF m 33 #[.val (.int p0), .val (.int p1), .val (.int ((p0 &&& (2147483647 : Int32)) % (10 : Int32))), .val (.ref w_IPV6_PREFIX), .val (.int (0 : Int32)), .unset] [(.int (1 : Int32))])) _
                  refine XS.goto X23.here hx rfl (pc0 := 33) (pc' := 37) rfl (hb hby at_33) (by decide) (by decide) ?_
                  show Steps p.tables e below (T23.setTop (mkF m 37 #[.val (.int p0), .val (.int p1), .val (.int ((p0 &&& (2147483647 : Int32)) % (10 : Int32))), .val (.ref w_IPV6_PREFIX), .val (.int (0 : Int32)), .unset] [(.int (1 : Int32))])) _
                  refine XS.istore X23.here hx rfl (hb hby at_37) rfl (l' := #[.val (.int p0), .val (.int p1), .val (.int ((p0 &&& (2147483647 : Int32)) % (10 : Int32))), .val (.ref w_IPV6_PREFIX), .val (.int (0 : Int32)), .val (.int (1 : Int32))]) rfl ?_
                  show Steps p.tables e below (T23.setTop (mkF m 39 #[.val (.int p0), .val (.int p1), .val (.int ((p0 &&& (2147483647 : Int32)) % (10 : Int32))), .val (.ref w_IPV6_PREFIX), .val (.int (0 : Int32)), .val (.int (1 : Int32))] [])) _
                  refine XS.aloadN X23.here hx rfl (hb hby at_39) rfl rfl ?_
                  show Steps p.tables e below (T23.setTop (mkF m 40 #[.val (.int p0), .val (.int p1), .val (.int ((p0 &&& (2147483647 : Int32)) % (10 : Int32))), .val (.ref w_IPV6_PREFIX), .val (.int (0 : Int32)), .val (.int (1 : Int32))] [(.ref w_IPV6_PREFIX)])) _
                  refine XS.iloadN X23.here hx rfl (hb hby at_40) rfl ?_
                  show Steps p.tables e below (T23.setTop (mkF m 41 #[.val (.int p0), .val (.int p1), .val (.int ((p0 &&& (2147483647 : Int32)) % (10 : Int32))), .val (.ref w_IPV6_PREFIX), .val (.int (0 : Int32)), .val (.int (1 : Int32))] [(.int p1), (.ref w_IPV6_PREFIX)])) _
                  refine st26.trans ?_
                  show Steps p.tables e below (T26.setTop (mkF m 44 #[.val (.int p0), .val (.int p1), .val (.int ((p0 &&& (2147483647 : Int32)) % (10 : Int32))), .val (.ref w_IPV6_PREFIX), .val (.int (0 : Int32)), .val (.int (1 : Int32))] [(.int (F2 p1 (0 : Int32)))])) _
                  refine XS.iload X26.here hx rfl (hb hby at_44) rfl ?_
                  show Steps p.tables e below (T26.setTop (mkF m 46 #[.val (.int p0), .val (.int p1), .val (.int ((p0 &&& (2147483647 : Int32)) % (10 : Int32))), .val (.ref w_IPV6_PREFIX), .val (.int (0 : Int32)), .val (.int (1 : Int32))] [(.int (1 : Int32)), (.int (F2 p1 (0 : Int32)))])) _
                  refine XS.icmpNo X26.here hx rfl (hb hby at_46) rfl (teq hc46).2 ?_
                  show Steps p.tables e below (T26.setTop (mkF m 49 #[.val (.int p0), .val (.int p1), .val (.int ((p0 &&& (2147483647 : Int32)) % (10 : Int32))), .val (.ref w_IPV6_PREFIX), .val (.int (0 : Int32)), .val (.int (1 : Int32))] [])) _
                  refine XS.iconst X26.here hx rfl (hb hby at_49) ?_
                  show Steps p.tables e below (T26.setTop (mkF m 50 #[.val (.int p0), .val (.int p1), .val (.int ((p0 &&& (2147483647 : Int32)) % (10 : Int32))), .val (.ref w_IPV6_PREFIX), .val (.int (0 : Int32)), .val (.int (1 : Int32))] [(.int (1 : Int32))])) _
                  refine XS.goto X26.here hx rfl (pc0 := 50) (pc' := 54) rfl (hb hby at_50) (by decide) (by decide) ?_
                  show Steps p.tables e below (T26.setTop (mkF m 54 #[.val (.int p0), .val (.int p1), .val (.int ((p0 &&& (2147483647 : Int32)) % (10 : Int32))), .val (.ref w_IPV6_PREFIX), .val (.int (0 : Int32)), .val (.int (1 : Int32))] [(.int (1 : Int32))])) _
                  exact retN X26 hx (t := .boolean) Bd.returns (by simp) (hb hby at_54) hr
                · show Q0 Z p0 p1 w_SERIAL_NOTIFY w_SERIAL_QUERY w_RESET_QUERY w_CACHE_RESPONSE w_IPV4_PREFIX w_IPV6_PREFIX w_END_OF_DATA w_CACHE_RESET w_ROUTER_KEY w_ERROR_REPORT h0 n0 _ T26.heap _
                  rw [e26]
                  exact ⟨rfl, N26⟩
            · by_cases hk_7 : ((p0 &&& (2147483647 : Int32)) % (10 : Int32)) = (6 : Int32)
              · rw [show (F1 ((p0 &&& (2147483647 : Int32)) % (10 : Int32)) w_SERIAL_NOTIFY w_SERIAL_QUERY w_RESET_QUERY w_CACHE_RESPONSE w_IPV4_PREFIX w_IPV6_PREFIX w_END_OF_DATA w_CACHE_RESET w_ROUTER_KEY w_ERROR_REPORT) = w_END_OF_DATA from by rw [F1, if_neg hk, if_neg hk_2, if_neg hk_3, if_neg hk_4, if_neg hk_5, if_neg hk_6, if_pos hk_7]] at pre2
                obtain ⟨T27, X27, e27, st27⟩ := getS2 X1 hx hZ hown (host := "") (Or.inl (hw _ (List.mem_of_getElem? (i := 8) rfl))) Via.refl e1 S_ROUTER_KEY (g := (mkF m 17 #[.val (.int p0), .val (.int p1), .val (.int ((p0 &&& (2147483647 : Int32)) % (10 : Int32))), .val (.ref w_END_OF_DATA), .val (.int (0 : Int32)), .unset] [(.ref w_END_OF_DATA)])) rfl (hb hby at_17)
                have ha20 : ¬ (w_END_OF_DATA = w_ROUTER_KEY) := ne_END_OF_DATA_ROUTER_KEY
                have pre28 : ∀ t, Steps p.tables e below (T27.setTop (mkF m 29 #[.val (.int p0), .val (.int p1), .val (.int ((p0 &&& (2147483647 : Int32)) % (10 : Int32))), .val (.ref w_END_OF_DATA), .val (.int (0 : Int32)), .unset] [(.int (0 : Int32)), (.int p1)])) t → Steps p.tables e below (s₁.setTop (entryFrame m #[(.int p0), (.int p1)] maxLocals)) t := fun t k => by
                  refine pre2 t ?_
                  show Steps p.tables e below (T1.setTop (mkF m 12 #[.val (.int p0), .val (.int p1), .val (.int ((p0 &&& (2147483647 : Int32)) % (10 : Int32))), .unset, .unset, .unset] [(.ref w_END_OF_DATA)])) _
                  refine XS.astoreN X1.here hx rfl (hb hby at_12) rfl rfl (l' := #[.val (.int p0), .val (.int p1), .val (.int ((p0 &&& (2147483647 : Int32)) % (10 : Int32))), .val (.ref w_END_OF_DATA), .unset, .unset]) rfl ?_
                  show Steps p.tables e below (T1.setTop (mkF m 13 #[.val (.int p0), .val (.int p1), .val (.int ((p0 &&& (2147483647 : Int32)) % (10 : Int32))), .val (.ref w_END_OF_DATA), .unset, .unset] [])) _
                  refine XS.iconst X1.here hx rfl (hb hby at_13) ?_
                  show Steps p.tables e below (T1.setTop (mkF m 14 #[.val (.int p0), .val (.int p1), .val (.int ((p0 &&& (2147483647 : Int32)) % (10 : Int32))), .val (.ref w_END_OF_DATA), .unset, .unset] [(.int (0 : Int32))])) _
                  refine XS.istore X1.here hx rfl (hb hby at_14) rfl (l' := #[.val (.int p0), .val (.int p1), .val (.int ((p0 &&& (2147483647 : Int32)) % (10 : Int32))), .val (.ref w_END_OF_DATA), .val (.int (0 : Int32)), .unset]) rfl ?_
                  show Steps p.tables e below (T1.setTop (mkF m 16 #[.val (.int p0), .val (.int p1), .val (.int ((p0 &&& (2147483647 : Int32)) % (10 : Int32))), .val (.ref w_END_OF_DATA), .val (.int (0 : Int32)), .unset] [])) _
                  refine XS.aloadN X1.here hx rfl (hb hby at_16) rfl rfl ?_
                  show Steps p.tables e below (T1.setTop (mkF m 17 #[.val (.int p0), .val (.int p1), .val (.int ((p0 &&& (2147483647 : Int32)) % (10 : Int32))), .val (.ref w_END_OF_DATA), .val (.int (0 : Int32)), .unset] [(.ref w_END_OF_DATA)])) _
                  refine st27 _ ?_
                  show Steps p.tables e below (T27.setTop (mkF m 20 #[.val (.int p0), .val (.int p1), .val (.int ((p0 &&& (2147483647 : Int32)) % (10 : Int32))), .val (.ref w_END_OF_DATA), .val (.int (0 : Int32)), .unset] [(.ref w_ROUTER_KEY), (.ref w_END_OF_DATA)])) _
                  refine Jvm.RoadKit.acmp (g := (mkF m 20 #[.val (.int p0), .val (.int p1), .val (.int ((p0 &&& (2147483647 : Int32)) % (10 : Int32))), .val (.ref w_END_OF_DATA), .val (.int (0 : Int32)), .unset] [(.ref w_ROUTER_KEY), (.ref w_END_OF_DATA)])) X27 hx rfl rfl rfl (pc0 := 20) (pc' := 26) (same := false) rfl (hb hby at_20) rfl (decide_eq_false fun q => ha20 (Value.ref.inj q)) (by decide) (by decide) ?_
                  show Steps p.tables e below (T27.setTop (mkF m 26 #[.val (.int p0), .val (.int p1), .val (.int ((p0 &&& (2147483647 : Int32)) % (10 : Int32))), .val (.ref w_END_OF_DATA), .val (.int (0 : Int32)), .unset] [])) _
                  refine XS.iloadN X27.here hx rfl (hb hby at_26) rfl ?_
                  show Steps p.tables e below (T27.setTop (mkF m 27 #[.val (.int p0), .val (.int p1), .val (.int ((p0 &&& (2147483647 : Int32)) % (10 : Int32))), .val (.ref w_END_OF_DATA), .val (.int (0 : Int32)), .unset] [(.int p1)])) _
                  refine XS.iload X27.here hx rfl (hb hby at_27) rfl ?_
                  exact k
                by_cases hc29 : p1 < (0 : Int32)
                · obtain ⟨cq29, kq29, q29a, q29b, q29c⟩ := isOf hZ e27 E_END_OF_DATA
                  obtain ⟨_, _, ⟨T29, L29, k29, n29⟩, -, X29, ⟨Lc29, hQ29, l29, y29, z29⟩, st29⟩ := X27.virtualBack hx (y := (⟨"com/example/hawser/hawser/rtr/PduType", "isIn", "(I)Z"⟩ : MethodName)) (z := (⟨"com/example/hawser/hawser/rtr/PduType", "isIn", "(I)Z"⟩ : MethodName)) hown (mvT hZ (hw _ (List.mem_of_getElem? (i := 10) rfl))) (mvT hZ (hw _ (List.mem_of_getElem? (i := 11) rfl))) (notFace_of_selects (args := #[]) (mvT hZ (hw _ (List.mem_of_getElem? (i := 13) rfl)))) (mvT hZ (hw _ (List.mem_of_getElem? (i := 13) rfl))) (mvT hZ (hw _ (List.mem_of_getElem? (i := 12) rfl))) (by decide) (backOf (W := 0) (rm2 l Z a0 hw [] w_END_OF_DATA p1 (0 : Int32) h0 n0 Z0 F_sinceVersion_END_OF_DATA) hZ (hw _ (List.mem_of_getElem? (i := 14) rfl)) (hw _ (List.mem_of_getElem? (i := 6) rfl)) (by decide) (by decide)) q29a q29c (g := (mkF m 41 #[.val (.int p0), .val (.int p1), .val (.int ((p0 &&& (2147483647 : Int32)) % (10 : Int32))), .val (.ref w_END_OF_DATA), .val (.int (0 : Int32)), .val (.int (0 : Int32))] [(.int p1), (.ref w_END_OF_DATA)])) rfl (by rw [hml]; rfl) (Steps.refl _) (argsL := [(.int p1)]) (rest := []) (lenOf pd_1 rfl) rfl (by show 2 * 0 + _ ≤ _; exact Nat.le_of_eq rfl) (hb hby at_41) (fun _ _ => ⟨rfl, e27, (by decide : 0 + 0 ≤ _), (by decide : 0 + 0 ≤ _)⟩)
                  dsimp only [Pt.U, Pt.locs, Pt.cells, Pt.slots] at X29 l29 y29 z29 st29 hQ29
                  subst l29 y29 z29
                  obtain ⟨rfl, N29q, e29⟩ := hQ29
                  have N29 := Fr.app N1 N29q
                  have hc46 : (F2 p1 (0 : Int32)) = (0 : Int32) := by rw [F2, if_pos hc29]
                  obtain ⟨fs, hr, hrun, hended, hW, hsame⟩ := X29.leave (v := some (.int (1 : Int32))) (fun h => by rw [Bd.returns] at h; cases h) (BodyLoose.notSynchronized Bd)
                  refine ⟨_, _, pre28 _ ?_, hrun, hended, _, _, rfl, ?_, ⟨_, rfl⟩, hW, hsame.mono (by decide) (by decide)⟩
                  · show Steps p.tables e below (T27.setTop (mkF m 29 #[.val (.int p0), .val (.int p1), .val (.int ((p0 &&& (2147483647 : Int32)) % (10 : Int32))), .val (.ref w_END_OF_DATA), .val (.int (0 : Int32)), .unset] [(.int (0 : Int32)), (.int p1)])) _
                    refine XS.icmpYes X27.here hx rfl (pc0 := 29) (pc' := 36) rfl (hb hby at_29) rfl (tlt hc29).1 (by decide) (by decide) ?_
                    show Steps p.tables e below (T27.setTop (mkF m 36 #[.val (.int p0), .val (.int p1), .val (.int ((p0 &&& (2147483647 : Int32)) % (10 : Int32))), .val (.ref w_END_OF_DATA), .val (.int (0 : Int32)), .unset] [])) _
                    refine XS.iconst X27.here hx rfl (hb hby at_36) ?_
                    show Steps p.tables e below (T27.setTop (mkF m 37 #[.val (.int p0), .val (.int p1), .val (.int ((p0 &&& (2147483647 : Int32)) % (10 : Int32))), .val (.ref w_END_OF_DATA), .val (.int (0 : Int32)), .unset] [(.int (0 : Int32))])) _
                    refine XS.istore X27.here hx rfl (hb hby at_37) rfl (l' := #[.val (.int p0), .val (.int p1), .val (.int ((p0 &&& (2147483647 : Int32)) % (10 : Int32))), .val (.ref w_END_OF_DATA), .val (.int (0 : Int32)), .val (.int (0 : Int32))]) rfl ?_
                    show Steps p.tables e below (T27.setTop (mkF m 39 #[.val (.int p0), .val (.int p1), .val (.int ((p0 &&& (2147483647 : Int32)) % (10 : Int32))), .val (.ref w_END_OF_DATA), .val (.int (0 : Int32)), .val (.int (0 : Int32))] [])) _
                    refine XS.aloadN X27.here hx rfl (hb hby at_39) rfl rfl ?_
                    show Steps p.tables e below (T27.setTop (mkF m 40 #[.val (.int p0), .val (.int p1), .val (.int ((p0 &&& (2147483647 : Int32)) % (10 : Int32))), .val (.ref w_END_OF_DATA), .val (.int (0 : Int32)), .val (.int (0 : Int32))] [(.ref w_END_OF_DATA)])) _
                    refine XS.iloadN X27.here hx rfl (hb hby at_40) rfl ?_
                    show Steps p.tables e below (T27.setTop (mkF m 41 #[.val (.int p0), .val (.int p1), .val (.int ((p0 &&& (2147483647 : Int32)) % (10 : Int32))), .val (.ref w_END_OF_DATA), .val (.int (0 : Int32)), .val (.int (0 : Int32))] [(.int p1), (.ref w_END_OF_DATA)])) _
                    refine st29.trans ?_
                    show Steps p.tables e below (T29.setTop (mkF m 44 #[.val (.int p0), .val (.int p1), .val (.int ((p0 &&& (2147483647 : Int32)) % (10 : Int32))), .val (.ref w_END_OF_DATA), .val (.int (0 : Int32)), .val (.int (0 : Int32))] [(.int (F2 p1 (0 : Int32)))])) _
                    refine XS.iload X29.here hx rfl (hb hby at_44) rfl ?_
                    show Steps p.tables e below (T29.setTop (mkF m 46 #[.val (.int p0), .val (.int p1), .val (.int ((p0 &&& (2147483647 : Int32)) % (10 : Int32))), .val (.ref w_END_OF_DATA), .val (.int (0 : Int32)), .val (.int (0 : Int32))] [(.int (0 : Int32)), (.int (F2 p1 (0 : Int32)))])) _
                    refine XS.icmpNo X29.here hx rfl (hb hby at_46) rfl (teq hc46).2 ?_
                    show Steps p.tables e below (T29.setTop (mkF m 49 #[.val (.int p0), .val (.int p1), .val (.int ((p0 &&& (2147483647 : Int32)) % (10 : Int32))), .val (.ref w_END_OF_DATA), .val (.int (0 : Int32)), .val (.int (0 : Int32))] [])) _
                    refine XS.iconst X29.here hx rfl (hb hby at_49) ?_
                    show Steps p.tables e below (T29.setTop (mkF m 50 #[.val (.int p0), .val (.int p1), .val (.int ((p0 &&& (2147483647 : Int32)) % (10 : Int32))), .val (.ref w_END_OF_DATA), .val (.int (0 : Int32)), .val (.int (0 : Int32))] [(.int (1 : Int32))])) _
                    refine XS.goto X29.here hx rfl (pc0 := 50) (pc' := 54) rfl (hb hby at_50) (by decide) (by decide) ?_
                    show Steps p.tables e below (T29.setTop (mkF m 54 #[.val (.int p0), .val (.int p1), .val (.int ((p0 &&& (2147483647 : Int32)) % (10 : Int32))), .val (.ref w_END_OF_DATA), .val (.int (0 : Int32)), .val (.int (0 : Int32))] [(.int (1 : Int32))])) _
                    exact retN X29 hx (t := .boolean) Bd.returns (by simp) (hb hby at_54) hr
                  · show Q0 Z p0 p1 w_SERIAL_NOTIFY w_SERIAL_QUERY w_RESET_QUERY w_CACHE_RESPONSE w_IPV4_PREFIX w_IPV6_PREFIX w_END_OF_DATA w_CACHE_RESET w_ROUTER_KEY w_ERROR_REPORT h0 n0 _ T29.heap _
                    rw [e29]
                    exact ⟨rfl, N29⟩
                · obtain ⟨cq30, kq30, q30a, q30b, q30c⟩ := isOf hZ e27 E_END_OF_DATA
                  obtain ⟨_, _, ⟨T30, L30, k30, n30⟩, -, X30, ⟨Lc30, hQ30, l30, y30, z30⟩, st30⟩ := X27.virtualBack hx (y := (⟨"com/example/hawser/hawser/rtr/PduType", "isIn", "(I)Z"⟩ : MethodName)) (z := (⟨"com/example/hawser/hawser/rtr/PduType", "isIn", "(I)Z"⟩ : MethodName)) hown (mvT hZ (hw _ (List.mem_of_getElem? (i := 10) rfl))) (mvT hZ (hw _ (List.mem_of_getElem? (i := 11) rfl))) (notFace_of_selects (args := #[]) (mvT hZ (hw _ (List.mem_of_getElem? (i := 13) rfl)))) (mvT hZ (hw _ (List.mem_of_getElem? (i := 13) rfl))) (mvT hZ (hw _ (List.mem_of_getElem? (i := 12) rfl))) (by decide) (backOf (W := 0) (rm2 l Z a0 hw [] w_END_OF_DATA p1 (0 : Int32) h0 n0 Z0 F_sinceVersion_END_OF_DATA) hZ (hw _ (List.mem_of_getElem? (i := 14) rfl)) (hw _ (List.mem_of_getElem? (i := 6) rfl)) (by decide) (by decide)) q30a q30c (g := (mkF m 41 #[.val (.int p0), .val (.int p1), .val (.int ((p0 &&& (2147483647 : Int32)) % (10 : Int32))), .val (.ref w_END_OF_DATA), .val (.int (0 : Int32)), .val (.int (1 : Int32))] [(.int p1), (.ref w_END_OF_DATA)])) rfl (by rw [hml]; rfl) (Steps.refl _) (argsL := [(.int p1)]) (rest := []) (lenOf pd_1 rfl) rfl (by show 2 * 0 + _ ≤ _; exact Nat.le_of_eq rfl) (hb hby at_41) (fun _ _ => ⟨rfl, e27, (by decide : 0 + 0 ≤ _), (by decide : 0 + 0 ≤ _)⟩)
                  dsimp only [Pt.U, Pt.locs, Pt.cells, Pt.slots] at X30 l30 y30 z30 st30 hQ30
                  subst l30 y30 z30
                  obtain ⟨rfl, N30q, e30⟩ := hQ30
                  have N30 := Fr.app N1 N30q
                  have hc46 : (F2 p1 (0 : Int32)) = (1 : Int32) := by rw [F2, if_neg hc29]
                  obtain ⟨fs, hr, hrun, hended, hW, hsame⟩ := X30.leave (v := some (.int (1 : Int32))) (fun h => by rw [Bd.returns] at h; cases h) (BodyLoose.notSynchronized Bd)
                  refine ⟨_, _, pre28 _ ?_, hrun, hended, _, _, rfl, ?_, ⟨_, rfl⟩, hW, hsame.mono (by decide) (by decide)⟩
                  · show Steps p.tables e below (T27.setTop (mkF m 29 #[.val (.int p0), .val (.int p1), .val (.int ((p0 &&& (2147483647 : Int32)) % (10 : Int32))), .val (.ref w_END_OF_DATA), .val (.int (0 : Int32)), .unset] [(.int (0 : Int32)), (.int p1)])) _
                    refine XS.icmpNo X27.here hx rfl (hb hby at_29) rfl (flt hc29).1 ?_
                    show Steps p.tables e below (T27.setTop (mkF m 32 #[.val (.int p0), .val (.int p1), .val (.int ((p0 &&& (2147483647 : Int32)) % (10 : Int32))), .val (.ref w_END_OF_DATA), .val (.int (0 : Int32)), .unset] [])) _
                    refine XS.iconst X27.here hx rfl (hb hby at_32) ?_
                    show Steps p.tables e below (T27.setTop (mkF m 33 #[.val (.int p0), .val (.int p1), .val (.int ((p0 &&& (2147483647 : Int32)) % (10 : Int32))), .val (.ref w_END_OF_DATA), .val (.int (0 : Int32)), .unset] [(.int (1 : Int32))])) _
                    refine XS.goto X27.here hx rfl (pc0 := 33) (pc' := 37) rfl (hb hby at_33) (by decide) (by decide) ?_
                    show Steps p.tables e below (T27.setTop (mkF m 37 #[.val (.int p0), .val (.int p1), .val (.int ((p0 &&& (2147483647 : Int32)) % (10 : Int32))), .val (.ref w_END_OF_DATA), .val (.int (0 : Int32)), .unset] [(.int (1 : Int32))])) _
                    refine XS.istore X27.here hx rfl (hb hby at_37) rfl (l' := #[.val (.int p0), .val (.int p1), .val (.int ((p0 &&& (2147483647 : Int32)) % (10 : Int32))), .val (.ref w_END_OF_DATA), .val (.int (0 : Int32)), .val (.int (1 : Int32))]) rfl ?_
                    show Steps p.tables e below (T27.setTop (mkF m 39 #[.val (.int p0), .val (.int p1), .val (.int ((p0 &&& (2147483647 : Int32)) % (10 : Int32))), .val (.ref w_END_OF_DATA), .val (.int (0 : Int32)), .val (.int (1 : Int32))] [])) _
                    refine XS.aloadN X27.here hx rfl (hb hby at_39) rfl rfl ?_
                    show Steps p.tables e below (T27.setTop (mkF m 40 #[.val (.int p0), .val (.int p1), .val (.int ((p0 &&& (2147483647 : Int32)) % (10 : Int32))), .val (.ref w_END_OF_DATA), .val (.int (0 : Int32)), .val (.int (1 : Int32))] [(.ref w_END_OF_DATA)])) _
                    refine XS.iloadN X27.here hx rfl (hb hby at_40) rfl ?_
                    show Steps p.tables e below (T27.setTop (mkF m 41 #[.val (.int p0), .val (.int p1), .val (.int ((p0 &&& (2147483647 : Int32)) % (10 : Int32))), .val (.ref w_END_OF_DATA), .val (.int (0 : Int32)), .val (.int (1 : Int32))] [(.int p1), (.ref w_END_OF_DATA)])) _
                    refine st30.trans ?_
                    show Steps p.tables e below (T30.setTop (mkF m 44 #[.val (.int p0), .val (.int p1), .val (.int ((p0 &&& (2147483647 : Int32)) % (10 : Int32))), .val (.ref w_END_OF_DATA), .val (.int (0 : Int32)), .val (.int (1 : Int32))] [(.int (F2 p1 (0 : Int32)))])) _
                    refine XS.iload X30.here hx rfl (hb hby at_44) rfl ?_
                    show Steps p.tables e below (T30.setTop (mkF m 46 #[.val (.int p0), .val (.int p1), .val (.int ((p0 &&& (2147483647 : Int32)) % (10 : Int32))), .val (.ref w_END_OF_DATA), .val (.int (0 : Int32)), .val (.int (1 : Int32))] [(.int (1 : Int32)), (.int (F2 p1 (0 : Int32)))])) _
                    refine XS.icmpNo X30.here hx rfl (hb hby at_46) rfl (teq hc46).2 ?_
                    show Steps p.tables e below (T30.setTop (mkF m 49 #[.val (.int p0), .val (.int p1), .val (.int ((p0 &&& (2147483647 : Int32)) % (10 : Int32))), .val (.ref w_END_OF_DATA), .val (.int (0 : Int32)), .val (.int (1 : Int32))] [])) _
                    refine XS.iconst X30.here hx rfl (hb hby at_49) ?_
                    show Steps p.tables e below (T30.setTop (mkF m 50 #[.val (.int p0), .val (.int p1), .val (.int ((p0 &&& (2147483647 : Int32)) % (10 : Int32))), .val (.ref w_END_OF_DATA), .val (.int (0 : Int32)), .val (.int (1 : Int32))] [(.int (1 : Int32))])) _
                    refine XS.goto X30.here hx rfl (pc0 := 50) (pc' := 54) rfl (hb hby at_50) (by decide) (by decide) ?_
                    show Steps p.tables e below (T30.setTop (mkF m 54 #[.val (.int p0), .val (.int p1), .val (.int ((p0 &&& (2147483647 : Int32)) % (10 : Int32))), .val (.ref w_END_OF_DATA), .val (.int (0 : Int32)), .val (.int (1 : Int32))] [(.int (1 : Int32))])) _
                    exact retN X30 hx (t := .boolean) Bd.returns (by simp) (hb hby at_54) hr
                  · show Q0 Z p0 p1 w_SERIAL_NOTIFY w_SERIAL_QUERY w_RESET_QUERY w_CACHE_RESPONSE w_IPV4_PREFIX w_IPV6_PREFIX w_END_OF_DATA w_CACHE_RESET w_ROUTER_KEY w_ERROR_REPORT h0 n0 _ T30.heap _
                    rw [e30]
                    exact ⟨rfl, N30⟩
              · by_cases hk_8 : ((p0 &&& (2147483647 : Int32)) % (10 : Int32)) = (7 : Int32)
                · rw [show (F1 ((p0 &&& (2147483647 : Int32)) % (10 : Int32)) w_SERIAL_NOTIFY w_SERIAL_QUERY w_RESET_QUERY w_CACHE_RESPONSE w_IPV4_PREFIX w_IPV6_PREFIX w_END_OF_DATA w_CACHE_RESET w_ROUTER_KEY w_ERROR_REPORT) = w_CACHE_RESET from by rw [F1, if_neg hk, if_neg hk_2, if_neg hk_3, if_neg hk_4, if_neg hk_5, if_neg hk_6, if_neg hk_7, if_pos hk_8]] at pre2
                  obtain ⟨T31, X31, e31, st31⟩ := getS2 X1 hx hZ hown (host := "") (Or.inl (hw _ (List.mem_of_getElem? (i := 8) rfl))) Via.refl e1 S_ROUTER_KEY (g := (mkF m 17 #[.val (.int p0), .val (.int p1), .val (.int ((p0 &&& (2147483647 : Int32)) % (10 : Int32))), .val (.ref w_CACHE_RESET), .val (.int (0 : Int32)), .unset] [(.ref w_CACHE_RESET)])) rfl (hb hby at_17)
                  have ha20 : ¬ (w_CACHE_RESET = w_ROUTER_KEY) := ne_CACHE_RESET_ROUTER_KEY
                  have pre32 : ∀ t, Steps p.tables e below (T31.setTop (mkF m 29 #[.val (.int p0), .val (.int p1), .val (.int ((p0 &&& (2147483647 : Int32)) % (10 : Int32))), .val (.ref w_CACHE_RESET), .val (.int (0 : Int32)), .unset] [(.int (0 : Int32)), (.int p1)])) t → Steps p.tables e below (s₁.setTop (entryFrame m #[(.int p0), (.int p1)] maxLocals)) t := fun t k => by
                    refine pre2 t ?_
                    show Steps p.tables e below (T1.setTop (mkF m 12 #[.val (.int p0), .val (.int p1), .val (.int ((p0 &&& (2147483647 : Int32)) % (10 : Int32))), .unset, .unset, .unset] [(.ref w_CACHE_RESET)])) _
                    refine XS.astoreN X1.here hx rfl (hb hby at_12) rfl rfl (l' := #[.val (.int p0), .val (.int p1), .val (.int ((p0 &&& (2147483647 : Int32)) % (10 : Int32))), .val (.ref w_CACHE_RESET), .unset, .unset]) rfl ?_
                    show Steps p.tables e below (T1.setTop (mkF m 13 #[.val (.int p0), .val (.int p1), .val (.int ((p0 &&& (2147483647 : Int32)) % (10 : Int32))), .val (.ref w_CACHE_RESET), .unset, .unset] [])) _
                    refine XS.iconst X1.here hx rfl (hb hby at_13) ?_
                    show Steps p.tables e below (T1.setTop (mkF m 14 #[.val (.int p0), .val (.int p1), .val (.int ((p0 &&& (2147483647 : Int32)) % (10 : Int32))), .val (.ref w_CACHE_RESET), .unset, .unset] [(.int (0 : Int32))])) _
                    refine XS.istore X1.here hx rfl (hb hby at_14) rfl (l' := #[.val (.int p0), .val (.int p1), .val (.int ((p0 &&& (2147483647 : Int32)) % (10 : Int32))), .val (.ref w_CACHE_RESET), .val (.int (0 : Int32)), .unset]) rfl ?_
                    show Steps p.tables e below (T1.setTop (mkF m 16 #[.val (.int p0), .val (.int p1), .val (.int ((p0 &&& (2147483647 : Int32)) % (10 : Int32))), .val (.ref w_CACHE_RESET), .val (.int (0 : Int32)), .unset] [])) _
                    refine XS.aloadN X1.here hx rfl (hb hby at_16) rfl rfl ?_
                    show Steps p.tables e below (T1.setTop (mkF m 17 #[.val (.int p0), .val (.int p1), .val (.int ((p0 &&& (2147483647 : Int32)) % (10 : Int32))), .val (.ref w_CACHE_RESET), .val (.int (0 : Int32)), .unset] [(.ref w_CACHE_RESET)])) _
                    refine st31 _ ?_
                    show Steps p.tables e below (T31.setTop (mkF m 20 #[.val (.int p0), .val (.int p1), .val (.int ((p0 &&& (2147483647 : Int32)) % (10 : Int32))), .val (.ref w_CACHE_RESET), .val (.int (0 : Int32)), .unset] [(.ref w_ROUTER_KEY), (.ref w_CACHE_RESET)])) _
                    refine Jvm.RoadKit.acmp (g := (mkF m 20 #[.val (.int p0), .val (.int p1), .val (.int ((p0 &&& (2147483647 : Int32)) % (10 : Int32))), .val (.ref w_CACHE_RESET), .val (.int (0 : Int32)), .unset] [(.ref w_ROUTER_KEY), (.ref w_CACHE_RESET)])) X31 hx rfl rfl rfl (pc0 := 20) (pc' := 26) (same := false) rfl (hb hby at_20) rfl (decide_eq_false fun q => ha20 (Value.ref.inj q)) (by decide) (by decide) ?_
                    show Steps p.tables e below (T31.setTop (mkF m 26 #[.val (.int p0), .val (.int p1), .val (.int ((p0 &&& (2147483647 : Int32)) % (10 : Int32))), .val (.ref w_CACHE_RESET), .val (.int (0 : Int32)), .unset] [])) _
                    refine XS.iloadN X31.here hx rfl (hb hby at_26) rfl ?_
                    show Steps p.tables e below (T31.setTop (mkF m 27 #[.val (.int p0), .val (.int p1), .val (.int ((p0 &&& (2147483647 : Int32)) % (10 : Int32))), .val (.ref w_CACHE_RESET), .val (.int (0 : Int32)), .unset] [(.int p1)])) _
                    refine XS.iload X31.here hx rfl (hb hby at_27) rfl ?_
                    exact k
                  by_cases hc29 : p1 < (0 : Int32)
                  · obtain ⟨cq33, kq33, q33a, q33b, q33c⟩ := isOf hZ e31 E_CACHE_RESET
                    obtain ⟨_, _, ⟨T33, L33, k33, n33⟩, -, X33, ⟨Lc33, hQ33, l33, y33, z33⟩, st33⟩ := X31.virtualBack hx (y := (⟨"com/example/hawser/hawser/rtr/PduType", "isIn", "(I)Z"⟩ : MethodName)) (z := (⟨"com/example/hawser/hawser/rtr/PduType", "isIn", "(I)Z"⟩ : MethodName)) hown (mvT hZ (hw _ (List.mem_of_getElem? (i := 10) rfl))) (mvT hZ (hw _ (List.mem_of_getElem? (i := 11) rfl))) (notFace_of_selects (args := #[]) (mvT hZ (hw _ (List.mem_of_getElem? (i := 13) rfl)))) (mvT hZ (hw _ (List.mem_of_getElem? (i := 13) rfl))) (mvT hZ (hw _ (List.mem_of_getElem? (i := 12) rfl))) (by decide) (backOf (W := 0) (rm2 l Z a0 hw [] w_CACHE_RESET p1 (0 : Int32) h0 n0 Z0 F_sinceVersion_CACHE_RESET) hZ (hw _ (List.mem_of_getElem? (i := 14) rfl)) (hw _ (List.mem_of_getElem? (i := 6) rfl)) (by decide) (by decide)) q33a q33c (g := (mkF m 41 #[.val (.int p0), .val (.int p1), .val (.int ((p0 &&& (2147483647 : Int32)) % (10 : Int32))), .val (.ref w_CACHE_RESET), .val (.int (0 : Int32)), .val (.int (0 : Int32))] [(.int p1), (.ref w_CACHE_RESET)])) rfl (by rw [hml]; rfl) (Steps.refl _) (argsL := [(.int p1)]) (rest := []) (lenOf pd_1 rfl) rfl (by show 2 * 0 + _ ≤ _; exact Nat.le_of_eq rfl) (hb hby at_41) (fun _ _ => ⟨rfl, e31, (by decide : 0 + 0 ≤ _), (by decide : 0 + 0 ≤ _)⟩)
                    dsimp only [Pt.U, Pt.locs, Pt.cells, Pt.slots] at X33 l33 y33 z33 st33 hQ33
                    subst l33 y33 z33
                    obtain ⟨rfl, N33q, e33⟩ := hQ33
                    have N33 := Fr.app N1 N33q
                    have hc46 : (F2 p1 (0 : Int32)) = (0 : Int32) := by rw [F2, if_pos hc29]
                    obtain ⟨fs, hr, hrun, hended, hW, hsame⟩ := X33.leave (v := some (.int (1 : Int32))) (fun h => by rw [Bd.returns] at h; cases h) (BodyLoose.notSynchronized Bd)
                    refine ⟨_, _, pre32 _ ?_, hrun, hended, _, _, rfl, ?_, ⟨_, rfl⟩, hW, hsame.mono (by decide) (by decide)⟩
                    · show Steps p.tables e below (T31.setTop (mkF m 29 #[.val (.int p0), .val (.int p1), .val (.int ((p0 &&& (2147483647 : Int32)) % (10 : Int32))), .val (.ref w_CACHE_RESET), .val (.int (0 : Int32)), .unset] [(.int (0 : Int32)), (.int p1)])) _
                      refine XS.icmpYes X31.here hx rfl (pc0 := 29) (pc' := 36) rfl (hb hby at_29) rfl (tlt hc29).1 (by decide) (by decide) ?_
                      show Steps p.tables e below (T31.setTop (mkF m 36 #[.val (.int p0), .val (.int p1), .val (.int ((p0 &&& (2147483647 : Int32)) % (10 : Int32))), .val (.ref w_CACHE_RESET), .val (.int (0 : Int32)), .unset] [])) _
                      refine XS.iconst X31.here hx rfl (hb hby at_36) ?_
                      show Steps p.tables e below (T31.setTop (mkF m 37 #[.val (.int p0), .val (.int p1), .val (.int ((p0 &&& (2147483647 : Int32)) % (10 : Int32))), .val (.ref w_CACHE_RESET), .val (.int (0 : Int32)), .unset] [(.int (0 : Int32))])) _
                      refine XS.istore X31.here hx rfl (hb hby at_37) rfl (l' := #[.val (.int p0), .val (.int p1), .val (.int ((p0 &&& (2147483647 : Int32)) % (10 : Int32))), .val (.ref w_CACHE_RESET), .val (.int (0 : Int32)), .val (.int (0 : Int32))]) rfl ?_
                      show Steps p.tables e below (T31.setTop (mkF m 39 #[.val (.int p0), .val (.int p1), .val (.int ((p0 &&& (2147483647 : Int32)) % (10 : Int32))), .val (.ref w_CACHE_RESET), .val (.int (0 : Int32)), .val (.int (0 : Int32))] [])) _
                      refine XS.aloadN X31.here hx rfl (hb hby at_39) rfl rfl ?_
                      show Steps p.tables e below (T31.setTop (mkF m 40 #[.val (.int p0), .val (.int p1), .val (.int ((p0 &&& (2147483647 : Int32)) % (10 : Int32))), .val (.ref w_CACHE_RESET), .val (.int (0 : Int32)), .val (.int (0 : Int32))] [(.ref w_CACHE_RESET)])) _
                      refine XS.iloadN X31.here hx rfl (hb hby at_40) rfl ?_
                      show Steps p.tables e below (T31.setTop (mkF m 41 #[.val (.int p0), .val (.int p1), .val (.int ((p0 &&& (2147483647 : Int32)) % (10 : Int32))), .val (.ref w_CACHE_RESET), .val (.int (0 : Int32)), .val (.int (0 : Int32))] [(.int p1), (.ref w_CACHE_RESET)])) _
                      refine st33.trans ?_
                      show Steps p.tables e below (T33.setTop (mkF m 44 #[.val (.int p0), .val (.int p1), .val (.int ((p0 &&& (2147483647 : Int32)) % (10 : Int32))), .val (.ref w_CACHE_RESET), .val (.int (0 : Int32)), .val (.int (0 : Int32))] [(.int (F2 p1 (0 : Int32)))])) _
                      refine XS.iload X33.here hx rfl (hb hby at_44) rfl ?_
                      show Steps p.tables e below (T33.setTop (mkF m 46 #[.val (.int p0), .val (.int p1), .val (.int ((p0 &&& (2147483647 : Int32)) % (10 : Int32))), .val (.ref w_CACHE_RESET), .val (.int (0 : Int32)), .val (.int (0 : Int32))] [(.int (0 : Int32)), (.int (F2 p1 (0 : Int32)))])) _
                      refine XS.icmpNo X33.here hx rfl (hb hby at_46) rfl (teq hc46).2 ?_
                      show Steps p.tables e below (T33.setTop (mkF m 49 #[.val (.int p0), .val (.int p1), .val (.int ((p0 &&& (2147483647 : Int32)) % (10 : Int32))), .val (.ref w_CACHE_RESET), .val (.int (0 : Int32)), .val (.int (0 : Int32))] [])) _
                      refine XS.iconst X33.here hx rfl (hb hby at_49) ?_
                      show Steps p.tables e below (T33.setTop (mkF m 50 #[.val (.int p0), .val (.int p1), .val (.int ((p0 &&& (2147483647 : Int32)) % (10 : Int32))), .val (.ref w_CACHE_RESET), .val (.int (0 : Int32)), .val (.int (0 : Int32))] [(.int (1 : Int32))])) _
                      refine XS.goto X33.here hx rfl (pc0 := 50) (pc' := 54) rfl (hb hby at_50) (by decide) (by decide) ?_
                      show Steps p.tables e below (T33.setTop (mkF m 54 #[.val (.int p0), .val (.int p1), .val (.int ((p0 &&& (2147483647 : Int32)) % (10 : Int32))), .val (.ref w_CACHE_RESET), .val (.int (0 : Int32)), .val (.int (0 : Int32))] [(.int (1 : Int32))])) _
                      exact retN X33 hx (t := .boolean) Bd.returns (by simp) (hb hby at_54) hr
                    · show Q0 Z p0 p1 w_SERIAL_NOTIFY w_SERIAL_QUERY w_RESET_QUERY w_CACHE_RESPONSE w_IPV4_PREFIX w_IPV6_PREFIX w_END_OF_DATA w_CACHE_RESET w_ROUTER_KEY w_ERROR_REPORT h0 n0 _ T33.heap _
                      rw [e33]
                      exact ⟨rfl, N33⟩
                  · obtain ⟨cq34, kq34, q34a, q34b, q34c⟩ := isOf hZ e31 E_CACHE_RESET
                    obtain ⟨_, _, ⟨T34, L34, k34, n34⟩, -, X34, ⟨Lc34, hQ34, l34, y34, z34⟩, st34⟩ := X31.virtualBack hx (y := (⟨"com/example/hawser/hawser/rtr/PduType", "isIn", "(I)Z"⟩ : MethodName)) (z := (⟨"com/example/hawser/hawser/rtr/PduType", "isIn", "(I)Z"⟩ : MethodName)) hown (mvT hZ (hw _ (List.mem_of_getElem? (i := 10) rfl))) (mvT hZ (hw _ (List.mem_of_getElem? (i := 11) rfl))) (notFace_of_selects (args := #[]) (mvT hZ (hw _ (List.mem_of_getElem? (i := 13) rfl)))) (mvT hZ (hw _ (List.mem_of_getElem? (i := 13) rfl))) (mvT hZ (hw _ (List.mem_of_getElem? (i := 12) rfl))) (by decide) (backOf (W := 0) (rm2 l Z a0 hw [] w_CACHE_RESET p1 (0 : Int32) h0 n0 Z0 F_sinceVersion_CACHE_RESET) hZ (hw _ (List.mem_of_getElem? (i := 14) rfl)) (hw _ (List.mem_of_getElem? (i := 6) rfl)) (by decide) (by decide)) q34a q34c (g := (mkF m 41 #[.val (.int p0), .val (.int p1), .val (.int ((p0 &&& (2147483647 : Int32)) % (10 : Int32))), .val (.ref w_CACHE_RESET), .val (.int (0 : Int32)), .val (.int (1 : Int32))] [(.int p1), (.ref w_CACHE_RESET)])) rfl (by rw [hml]; rfl) (Steps.refl _) (argsL := [(.int p1)]) (rest := []) (lenOf pd_1 rfl) rfl (by show 2 * 0 + _ ≤ _; exact Nat.le_of_eq rfl) (hb hby at_41) (fun _ _ => ⟨rfl, e31, (by decide : 0 + 0 ≤ _), (by decide : 0 + 0 ≤ _)⟩)
                    dsimp only [Pt.U, Pt.locs, Pt.cells, Pt.slots] at X34 l34 y34 z34 st34 hQ34
                    subst l34 y34 z34
                    obtain ⟨rfl, N34q, e34⟩ := hQ34
                    have N34 := Fr.app N1 N34q
                    have hc46 : (F2 p1 (0 : Int32)) = (1 : Int32) := by rw [F2, if_neg hc29]
                    obtain ⟨fs, hr, hrun, hended, hW, hsame⟩ := X34.leave (v := some (.int (1 : Int32))) (fun h => by rw [Bd.returns] at h; cases h) (BodyLoose.notSynchronized Bd)
                    refine ⟨_, _, pre32 _ ?_, hrun, hended, _, _, rfl, ?_, ⟨_, rfl⟩, hW, hsame.mono (by decide) (by decide)⟩
                    · show Steps p.tables e below (T31.setTop (mkF m 29 #[.val (.int p0), .val (.int p1), .val (.int ((p0 &&& (2147483647 : Int32)) % (10 : Int32))), .val (.ref w_CACHE_RESET), .val (.int (0 : Int32)), .unset] [(.int (0 : Int32)), (.int p1)])) _
                      refine XS.icmpNo X31.here hx rfl (hb hby at_29) rfl (flt hc29).1 ?_
                      show Steps p.tables e below (T31.setTop (mkF m 32 #[.val (.int p0), .val (.int p1), .val (.int ((p0 &&& (2147483647 : Int32)) % (10 : Int32))), .val (.ref w_CACHE_RESET), .val (.int (0 : Int32)), .unset] [])) _
                      refine XS.iconst X31.here hx rfl (hb hby at_32) ?_
                      show Steps p.tables e below (T31.setTop (mkF m 33 #[.val (.int p0), .val (.int p1), .val (.int ((p0 &&& (2147483647 : Int32)) % (10 : Int32))), .val (.ref w_CACHE_RESET), .val (.int (0 : Int32)), .unset] [(.int (1 : Int32))])) _
                      refine XS.goto X31.here hx rfl (pc0 := 33) (pc' := 37) rfl (hb hby at_33) (by decide) (by decide) ?_
                      show Steps p.tables e below (T31.setTop (mkF m 37 #[.val (.int p0), .val (.int p1), .val (.int ((p0 &&& (2147483647 : Int32)) % (10 : Int32))), .val (.ref w_CACHE_RESET), .val (.int (0 : Int32)), .unset] [(.int (1 : Int32))])) _
                      refine XS.istore X31.here hx rfl (hb hby at_37) rfl (l' := #[.val (.int p0), .val (.int p1), .val (.int ((p0 &&& (2147483647 : Int32)) % (10 : Int32))), .val (.ref w_CACHE_RESET), .val (.int (0 : Int32)), .val (.int (1 : Int32))]) rfl ?_
                      show Steps p.tables e below (T31.setTop (mkF m 39 #[.val (.int p0), .val (.int p1), .val (.int ((p0 &&& (2147483647 : Int32)) % (10 : Int32))), .val (.ref w_CACHE_RESET), .val (.int (0 : Int32)), .val (.int (1 : Int32))] [])) _
                      refine XS.aloadN X31.here hx rfl (hb hby at_39) rfl rfl ?_
                      show Steps p.tables e below (T31.setTop (mkF m 40 #[.val (.int p0), .val (.int p1), .val (.int ((p0 &&& (2147483647 : Int32)) % (10 : Int32))), .val (.ref w_CACHE_RESET), .val (.int (0 : Int32)), .val (.int (1 : Int32))] [(.ref w_CACHE_RESET)])) _
                      refine XS.iloadN X31.here hx rfl (hb hby at_40) rfl ?_
                      show Steps p.tables e below (T31.setTop (mkF m 41 #[.val (.int p0), .val (.int p1), .val (.int ((p0 &&& (2147483647 : Int32)) % (10 : Int32))), .val (.ref w_CACHE_RESET), .val (.int (0 : Int32)), .val (.int (1 : Int32))] [(.int p1), (.ref w_CACHE_RESET)])) _
                      refine st34.trans ?_
                      show Steps p.tables e below (T34.setTop (mkF m 44 #[.val (.int p0), .val (.int p1), .val (.int ((p0 &&& (2147483647 : Int32)) % (10 : Int32))), .val (.ref w_CACHE_RESET), .val (.int (0 : Int32)), .val (.int (1 : Int32))] [(.int (F2 p1 (0 : Int32)))])) _
                      refine XS.iload X34.here hx rfl (hb hby at_44) rfl ?_
                      show Steps p.tables e below (T34.setTop (mkF m 46 #[.val (.int p0), .val (.int p1), .val (.int ((p0 &&& (2147483647 : Int32)) % (10 : Int32))), .val (.ref w_CACHE_RESET), .val (.int (0 : Int32)), .val (.int (1 : Int32))] [(.int (1 : Int32)), (.int (F2 p1 (0 : Int32)))])) _
                      refine XS.icmpNo X34.here hx rfl (hb hby at_46) rfl (teq hc46).2 ?_
                      show Steps p.tables e below (T34.setTop (mkF m 49 #[.val (.int p0), .val (.int p1), .val (.int ((p0 &&& (2147483647 : Int32)) % (10 : Int32))), .val (.ref w_CACHE_RESET), .val (.int (0 : Int32)), .val (.int (1 : Int32))] [])) _
                      refine XS.iconst X34.here hx rfl (hb hby at_49) ?_
                      show Steps p.tables e below (T34.setTop (mkF m 50 #[.val (.int p0), .val (.int p1), .val (.int ((p0 &&& (2147483647 : Int32)) % (10 : Int32))), .val (.ref w_CACHE_RESET), .val (.int (0 : Int32)), .val (.int (1 : Int32))] [(.int (1 : Int32))])) _
                      refine XS.goto X34.here hx rfl (pc0 := 50) (pc' := 54) rfl (hb hby at_50) (by decide) (by decide) ?_
                      show Steps p.tables e below (T34.setTop (mkF m 54 #[.val (.int p0), .val (.int p1), .val (.int ((p0 &&& (2147483647 : Int32)) % (10 : Int32))), .val (.ref w_CACHE_RESET), .val (.int (0 : Int32)), .val (.int (1 : Int32))] [(.int (1 : Int32))])) _
                      exact retN X34 hx (t := .boolean) Bd.returns (by simp) (hb hby at_54) hr
                    · show Q0 Z p0 p1 w_SERIAL_NOTIFY w_SERIAL_QUERY w_RESET_QUERY w_CACHE_RESPONSE w_IPV4_PREFIX w_IPV6_PREFIX w_END_OF_DATA w_CACHE_RESET w_ROUTER_KEY w_ERROR_REPORT h0 n0 _ T34.heap _
                      rw [e34]
                      exact ⟨rfl, N34⟩
                · by_cases hk_9 : ((p0 &&& (2147483647 : Int32)) % (10 : Int32)) = (8 : Int32)
                  · rw [show (F1 ((p0 &&& (2147483647 : Int32)) % (10 : Int32)) w_SERIAL_NOTIFY w_SERIAL_QUERY w_RESET_QUERY w_CACHE_RESPONSE w_IPV4_PREFIX w_IPV6_PREFIX w_END_OF_DATA w_CACHE_RESET w_ROUTER_KEY w_ERROR_REPORT) = w_ROUTER_KEY from by rw [F1, if_neg hk, if_neg hk_2, if_neg hk_3, if_neg hk_4, if_neg hk_5, if_neg hk_6, if_neg hk_7, if_neg hk_8, if_pos hk_9]] at pre2
                    obtain ⟨T35, X35, e35, st35⟩ := getS2 X1 hx hZ hown (host := "") (Or.inl (hw _ (List.mem_of_getElem? (i := 8) rfl))) Via.refl e1 S_ROUTER_KEY (g := (mkF m 17 #[.val (.int p0), .val (.int p1), .val (.int ((p0 &&& (2147483647 : Int32)) % (10 : Int32))), .val (.ref w_ROUTER_KEY), .val (.int (0 : Int32)), .unset] [(.ref w_ROUTER_KEY)])) rfl (hb hby at_17)
                    have pre36 : ∀ t, Steps p.tables e below (T35.setTop (mkF m 29 #[.val (.int p0), .val (.int p1), .val (.int ((p0 &&& (2147483647 : Int32)) % (10 : Int32))), .val (.ref w_ROUTER_KEY), .val (.int (1 : Int32)), .unset] [(.int (1 : Int32)), (.int p1)])) t → Steps p.tables e below (s₁.setTop (entryFrame m #[(.int p0), (.int p1)] maxLocals)) t := fun t k => by
                      refine pre2 t ?_
                      show Steps p.tables e below (T1.setTop (mkF m 12 #[.val (.int p0), .val (.int p1), .val (.int ((p0 &&& (2147483647 : Int32)) % (10 : Int32))), .unset, .unset, .unset] [(.ref w_ROUTER_KEY)])) _
                      refine XS.astoreN X1.here hx rfl (hb hby at_12) rfl rfl (l' := #[.val (.int p0), .val (.int p1), .val (.int ((p0 &&& (2147483647 : Int32)) % (10 : Int32))), .val (.ref w_ROUTER_KEY), .unset, .unset]) rfl ?_
                      show Steps p.tables e below (T1.setTop (mkF m 13 #[.val (.int p0), .val (.int p1), .val (.int ((p0 &&& (2147483647 : Int32)) % (10 : Int32))), .val (.ref w_ROUTER_KEY), .unset, .unset] [])) _
                      refine XS.iconst X1.here hx rfl (hb hby at_13) ?_
                      show Steps p.tables e below (T1.setTop (mkF m 14 #[.val (.int p0), .val (.int p1), .val (.int ((p0 &&& (2147483647 : Int32)) % (10 : Int32))), .val (.ref w_ROUTER_KEY), .unset, .unset] [(.int (0 : Int32))])) _
                      refine XS.istore X1.here hx rfl (hb hby at_14) rfl (l' := #[.val (.int p0), .val (.int p1), .val (.int ((p0 &&& (2147483647 : Int32)) % (10 : Int32))), .val (.ref w_ROUTER_KEY), .val (.int (0 : Int32)), .unset]) rfl ?_
                      show Steps p.tables e below (T1.setTop (mkF m 16 #[.val (.int p0), .val (.int p1), .val (.int ((p0 &&& (2147483647 : Int32)) % (10 : Int32))), .val (.ref w_ROUTER_KEY), .val (.int (0 : Int32)), .unset] [])) _
                      refine XS.aloadN X1.here hx rfl (hb hby at_16) rfl rfl ?_
                      show Steps p.tables e below (T1.setTop (mkF m 17 #[.val (.int p0), .val (.int p1), .val (.int ((p0 &&& (2147483647 : Int32)) % (10 : Int32))), .val (.ref w_ROUTER_KEY), .val (.int (0 : Int32)), .unset] [(.ref w_ROUTER_KEY)])) _
                      refine st35 _ ?_
                      show Steps p.tables e below (T35.setTop (mkF m 20 #[.val (.int p0), .val (.int p1), .val (.int ((p0 &&& (2147483647 : Int32)) % (10 : Int32))), .val (.ref w_ROUTER_KEY), .val (.int (0 : Int32)), .unset] [(.ref w_ROUTER_KEY), (.ref w_ROUTER_KEY)])) _
                      refine Jvm.RoadKit.acmp (g := (mkF m 20 #[.val (.int p0), .val (.int p1), .val (.int ((p0 &&& (2147483647 : Int32)) % (10 : Int32))), .val (.ref w_ROUTER_KEY), .val (.int (0 : Int32)), .unset] [(.ref w_ROUTER_KEY), (.ref w_ROUTER_KEY)])) X35 hx rfl rfl rfl (pc0 := 20) (pc' := 23) (same := true) rfl (hb hby at_20) rfl (decide_eq_true rfl) (by decide) (by decide) ?_
                      show Steps p.tables e below (T35.setTop (mkF m 23 #[.val (.int p0), .val (.int p1), .val (.int ((p0 &&& (2147483647 : Int32)) % (10 : Int32))), .val (.ref w_ROUTER_KEY), .val (.int (0 : Int32)), .unset] [])) _
                      refine XS.iconst X35.here hx rfl (hb hby at_23) ?_
                      show Steps p.tables e below (T35.setTop (mkF m 24 #[.val (.int p0), .val (.int p1), .val (.int ((p0 &&& (2147483647 : Int32)) % (10 : Int32))), .val (.ref w_ROUTER_KEY), .val (.int (0 : Int32)), .unset] [(.int (1 : Int32))])) _
                      refine XS.istore X35.here hx rfl (hb hby at_24) rfl (l' := #[.val (.int p0), .val (.int p1), .val (.int ((p0 &&& (2147483647 : Int32)) % (10 : Int32))), .val (.ref w_ROUTER_KEY), .val (.int (1 : Int32)), .unset]) rfl ?_
                      show Steps p.tables e below (T35.setTop (mkF m 26 #[.val (.int p0), .val (.int p1), .val (.int ((p0 &&& (2147483647 : Int32)) % (10 : Int32))), .val (.ref w_ROUTER_KEY), .val (.int (1 : Int32)), .unset] [])) _
                      refine XS.iloadN X35.here hx rfl (hb hby at_26) rfl ?_
                      show Steps p.tables e below (T35.setTop (mkF m 27 #[.val (.int p0), .val (.int p1), .val (.int ((p0 &&& (2147483647 : Int32)) % (10 : Int32))), .val (.ref w_ROUTER_KEY), .val (.int (1 : Int32)), .unset] [(.int p1)])) _
                      refine XS.iload X35.here hx rfl (hb hby at_27) rfl ?_
                      exact k
                    by_cases hc29 : p1 < (1 : Int32)
                    · obtain ⟨cq37, kq37, q37a, q37b, q37c⟩ := isOf hZ e35 E_ROUTER_KEY
                      obtain ⟨_, _, ⟨T37, L37, k37, n37⟩, -, X37, ⟨Lc37, hQ37, l37, y37, z37⟩, st37⟩ := X35.virtualBack hx (y := (⟨"com/example/hawser/hawser/rtr/PduType", "isIn", "(I)Z"⟩ : MethodName)) (z := (⟨"com/example/hawser/hawser/rtr/PduType", "isIn", "(I)Z"⟩ : MethodName)) hown (mvT hZ (hw _ (List.mem_of_getElem? (i := 10) rfl))) (mvT hZ (hw _ (List.mem_of_getElem? (i := 11) rfl))) (notFace_of_selects (args := #[]) (mvT hZ (hw _ (List.mem_of_getElem? (i := 13) rfl)))) (mvT hZ (hw _ (List.mem_of_getElem? (i := 13) rfl))) (mvT hZ (hw _ (List.mem_of_getElem? (i := 12) rfl))) (by decide) (backOf (W := 0) (rm2 l Z a0 hw [] w_ROUTER_KEY p1 (1 : Int32) h0 n0 Z0 F_sinceVersion_ROUTER_KEY) hZ (hw _ (List.mem_of_getElem? (i := 14) rfl)) (hw _ (List.mem_of_getElem? (i := 6) rfl)) (by decide) (by decide)) q37a q37c (g := (mkF m 41 #[.val (.int p0), .val (.int p1), .val (.int ((p0 &&& (2147483647 : Int32)) % (10 : Int32))), .val (.ref w_ROUTER_KEY), .val (.int (1 : Int32)), .val (.int (0 : Int32))] [(.int p1), (.ref w_ROUTER_KEY)])) rfl (by rw [hml]; rfl) (Steps.refl _) (argsL := [(.int p1)]) (rest := []) (lenOf pd_1 rfl) rfl (by show 2 * 0 + _ ≤ _; exact Nat.le_of_eq rfl) (hb hby at_41) (fun _ _ => ⟨rfl, e35, (by decide : 0 + 0 ≤ _), (by decide : 0 + 0 ≤ _)⟩)
                      dsimp only [Pt.U, Pt.locs, Pt.cells, Pt.slots] at X37 l37 y37 z37 st37 hQ37
                      subst l37 y37 z37
                      obtain ⟨rfl, N37q, e37⟩ := hQ37
                      have N37 := Fr.app N1 N37q
                      have hc46 : (F2 p1 (1 : Int32)) = (0 : Int32) := by rw [F2, if_pos hc29]
                      obtain ⟨fs, hr, hrun, hended, hW, hsame⟩ := X37.leave (v := some (.int (1 : Int32))) (fun h => by rw [Bd.returns] at h; cases h) (BodyLoose.notSynchronized Bd)
                      refine ⟨_, _, pre36 _ ?_, hrun, hended, _, _, rfl, ?_, ⟨_, rfl⟩, hW, hsame.mono (by decide) (by decide)⟩
                      · show Steps p.tables e below (T35.setTop (mkF m 29 #[.val (.int p0), .val (.int p1), .val (.int ((p0 &&& (2147483647 : Int32)) % (10 : Int32))), .val (.ref w_ROUTER_KEY), .val (.int (1 : Int32)), .unset] [(.int (1 : Int32)), (.int p1)])) _
                        refine XS.icmpYes X35.here hx rfl (pc0 := 29) (pc' := 36) rfl (hb hby at_29) rfl (tlt hc29).1 (by decide) (by decide) ?_
                        show Steps p.tables e below (T35.setTop (mkF m 36 #[.val (.int p0), .val (.int p1), .val (.int ((p0 &&& (2147483647 : Int32)) % (10 : Int32))), .val (.ref w_ROUTER_KEY), .val (.int (1 : Int32)), .unset] [])) _
                        refine XS.iconst X35.here hx rfl (hb hby at_36) ?_
                        show Steps p.tables e below (T35.setTop (mkF m 37 #[.val (.int p0), .val (.int p1), .val (.int ((p0 &&& (2147483647 : Int32)) % (10 : Int32))), .val (.ref w_ROUTER_KEY), .val (.int (1 : Int32)), .unset] [(.int (0 : Int32))])) _
                        refine XS.istore X35.here hx rfl (hb hby at_37) rfl (l' := #[.val (.int p0), .val (.int p1), .val (.int ((p0 &&& (2147483647 : Int32)) % (10 : Int32))), .val (.ref w_ROUTER_KEY), .val (.int (1 : Int32)), .val (.int (0 : Int32))]) rfl ?_
                        show Steps p.tables e below (T35.setTop (mkF m 39 #[.val (.int p0), .val (.int p1), .val (.int ((p0 &&& (2147483647 : Int32)) % (10 : Int32))), .val (.ref w_ROUTER_KEY), .val (.int (1 : Int32)), .val (.int (0 : Int32))] [])) _
                        refine XS.aloadN X35.here hx rfl (hb hby at_39) rfl rfl ?_
                        show Steps p.tables e below (T35.setTop (mkF m 40 #[.val (.int p0), .val (.int p1), .val (.int ((p0 &&& (2147483647 : Int32)) % (10 : Int32))), .val (.ref w_ROUTER_KEY), .val (.int (1 : Int32)), .val (.int (0 : Int32))] [(.ref w_ROUTER_KEY)])) _
                        refine XS.iloadN X35.here hx rfl (hb hby at_40) rfl ?_
                        show Steps p.tables e below (T35.setTop (mkF m 41 #[.val (.int p0), .val (.int p1), .val (.int ((p0 &&& (2147483647 : Int32)) % (10 : Int32))), .val (.ref w_ROUTER_KEY), .val (.int (1 : Int32)), .val (.int (0 : Int32))] [(.int p1), (.ref w_ROUTER_KEY)])) _
                        refine st37.trans ?_
                        show Steps p.tables e below (T37.setTop (mkF m 44 #[.val (.int p0), .val (.int p1), .val (.int ((p0 &&& (2147483647 : Int32)) % (10 : Int32))), .val (.ref w_ROUTER_KEY), .val (.int (1 : Int32)), .val (.int (0 : Int32))] [(.int (F2 p1 (1 : Int32)))])) _
                        refine XS.iload X37.here hx rfl (hb hby at_44) rfl ?_
                        show Steps p.tables e below (T37.setTop (mkF m 46 #[.val (.int p0), .val (.int p1), .val (.int ((p0 &&& (2147483647 : Int32)) % (10 : Int32))), .val (.ref w_ROUTER_KEY), .val (.int (1 : Int32)), .val (.int (0 : Int32))] [(.int (0 : Int32)), (.int (F2 p1 (1 : Int32)))])) _
                        refine XS.icmpNo X37.here hx rfl (hb hby at_46) rfl (teq hc46).2 ?_
                        show Steps p.tables e below (T37.setTop (mkF m 49 #[.val (.int p0), .val (.int p1), .val (.int ((p0 &&& (2147483647 : Int32)) % (10 : Int32))), .val (.ref w_ROUTER_KEY), .val (.int (1 : Int32)), .val (.int (0 : Int32))] [])) _
                        refine XS.iconst X37.here hx rfl (hb hby at_49) ?_
                        show Steps p.tables e below (T37.setTop (mkF m 50 #[.val (.int p0), .val (.int p1), .val (.int ((p0 &&& (2147483647 : Int32)) % (10 : Int32))), .val (.ref w_ROUTER_KEY), .val (.int (1 : Int32)), .val (.int (0 : Int32))] [(.int (1 : Int32))])) _
                        refine XS.goto X37.here hx rfl (pc0 := 50) (pc' := 54) rfl (hb hby at_50) (by decide) (by decide) ?_
                        show Steps p.tables e below (T37.setTop (mkF m 54 #[.val (.int p0), .val (.int p1), .val (.int ((p0 &&& (2147483647 : Int32)) % (10 : Int32))), .val (.ref w_ROUTER_KEY), .val (.int (1 : Int32)), .val (.int (0 : Int32))] [(.int (1 : Int32))])) _
                        exact retN X37 hx (t := .boolean) Bd.returns (by simp) (hb hby at_54) hr
                      · show Q0 Z p0 p1 w_SERIAL_NOTIFY w_SERIAL_QUERY w_RESET_QUERY w_CACHE_RESPONSE w_IPV4_PREFIX w_IPV6_PREFIX w_END_OF_DATA w_CACHE_RESET w_ROUTER_KEY w_ERROR_REPORT h0 n0 _ T37.heap _
                        rw [e37]
                        exact ⟨rfl, N37⟩
                    · obtain ⟨cq38, kq38, q38a, q38b, q38c⟩ := isOf hZ e35 E_ROUTER_KEY
                      obtain ⟨_, _, ⟨T38, L38, k38, n38⟩, -, X38, ⟨Lc38, hQ38, l38, y38, z38⟩, st38⟩ := X35.virtualBack hx (y := (⟨"com/example/hawser/hawser/rtr/PduType", "isIn", "(I)Z"⟩ : MethodName)) (z := (⟨"com/example/hawser/hawser/rtr/PduType", "isIn", "(I)Z"⟩ : MethodName)) hown (mvT hZ (hw _ (List.mem_of_getElem? (i := 10) rfl))) (mvT hZ (hw _ (List.mem_of_getElem? (i := 11) rfl))) (notFace_of_selects (args := #[]) (mvT hZ (hw _ (List.mem_of_getElem? (i := 13) rfl)))) (mvT hZ (hw _ (List.mem_of_getElem? (i := 13) rfl))) (mvT hZ (hw _ (List.mem_of_getElem? (i := 12) rfl))) (by decide) (backOf (W := 0) (rm2 l Z a0 hw [] w_ROUTER_KEY p1 (1 : Int32) h0 n0 Z0 F_sinceVersion_ROUTER_KEY) hZ (hw _ (List.mem_of_getElem? (i := 14) rfl)) (hw _ (List.mem_of_getElem? (i := 6) rfl)) (by decide) (by decide)) q38a q38c (g := (mkF m 41 #[.val (.int p0), .val (.int p1), .val (.int ((p0 &&& (2147483647 : Int32)) % (10 : Int32))), .val (.ref w_ROUTER_KEY), .val (.int (1 : Int32)), .val (.int (1 : Int32))] [(.int p1), (.ref w_ROUTER_KEY)])) rfl (by rw [hml]; rfl) (Steps.refl _) (argsL := [(.int p1)]) (rest := []) (lenOf pd_1 rfl) rfl (by show 2 * 0 + _ ≤ _; exact Nat.le_of_eq rfl) (hb hby at_41) (fun _ _ => ⟨rfl, e35, (by decide : 0 + 0 ≤ _), (by decide : 0 + 0 ≤ _)⟩)
                      dsimp only [Pt.U, Pt.locs, Pt.cells, Pt.slots] at X38 l38 y38 z38 st38 hQ38
                      subst l38 y38 z38
                      obtain ⟨rfl, N38q, e38⟩ := hQ38
                      have N38 := Fr.app N1 N38q
                      have hc46 : (F2 p1 (1 : Int32)) = (1 : Int32) := by rw [F2, if_neg hc29]
                      obtain ⟨fs, hr, hrun, hended, hW, hsame⟩ := X38.leave (v := some (.int (1 : Int32))) (fun h => by rw [Bd.returns] at h; cases h) (BodyLoose.notSynchronized Bd)
                      refine ⟨_, _, pre36 _ ?_, hrun, hended, _, _, rfl, ?_, ⟨_, rfl⟩, hW, hsame.mono (by decide) (by decide)⟩
                      · show Steps p.tables e below (T35.setTop (mkF m 29 #[.val (.int p0), .val (.int p1), .val (.int ((p0 &&& (2147483647 : Int32)) % (10 : Int32))), .val (.ref w_ROUTER_KEY), .val (.int (1 : Int32)), .unset] [(.int (1 : Int32)), (.int p1)])) _
                        refine XS.icmpNo X35.here hx rfl (hb hby at_29) rfl (flt hc29).1 ?_
                        show Steps p.tables e below (T35.setTop (mkF m 32 #[.val (.int p0), .val (.int p1), .val (.int ((p0 &&& (2147483647 : Int32)) % (10 : Int32))), .val (.ref w_ROUTER_KEY), .val (.int (1 : Int32)), .unset] [])) _
                        refine XS.iconst X35.here hx rfl (hb hby at_32) ?_
                        show Steps p.tables e below (T35.setTop (mkF m 33 #[.val (.int p0), .val (.int p1), .val (.int ((p0 &&& (2147483647 : Int32)) % (10 : Int32))), .val (.ref w_ROUTER_KEY), .val (.int (1 : Int32)), .unset] [(.int (1 : Int32))])) _
                        refine XS.goto X35.here hx rfl (pc0 := 33) (pc' := 37) rfl (hb hby at_33) (by decide) (by decide) ?_
                        show Steps p.tables e below (T35.setTop (mkF m 37 #[.val (.int p0), .val (.int p1), .val (.int ((p0 &&& (2147483647 : Int32)) % (10 : Int32))), .val (.ref w_ROUTER_KEY), .val (.int (1 : Int32)), .unset] [(.int (1 : Int32))])) _
                        refine XS.istore X35.here hx rfl (hb hby at_37) rfl (l' := #[.val (.int p0), .val (.int p1), .val (.int ((p0 &&& (2147483647 : Int32)) % (10 : Int32))), .val (.ref w_ROUTER_KEY), .val (.int (1 : Int32)), .val (.int (1 : Int32))]) rfl ?_
                        show Steps p.tables e below (T35.setTop (mkF m 39 #[.val (.int p0), .val (.int p1), .val (.int ((p0 &&& (2147483647 : Int32)) % (10 : Int32))), .val (.ref w_ROUTER_KEY), .val (.int (1 : Int32)), .val (.int (1 : Int32))] [])) _
                        refine XS.aloadN X35.here hx rfl (hb hby at_39) rfl rfl ?_
                        show Steps p.tables e below (T35.setTop (mkF m 40 #[.val (.int p0), .val (.int p1), .val (.int ((p0 &&& (2147483647 : Int32)) % (10 : Int32))), .val (.ref w_ROUTER_KEY), .val (.int (1 : Int32)), .val (.int (1 : Int32))] [(.ref w_ROUTER_KEY)])) _
                        refine XS.iloadN X35.here hx rfl (hb hby at_40) rfl ?_
                        show Steps p.tables e below (T35.setTop (mkF m 41 #[.val (.int p0), .val (.int p1), .val (.int ((p0 &&& (2147483647 : Int32)) % (10 : Int32))), .val (.ref w_ROUTER_KEY), .val (.int (1 : Int32)), .val (.int (1 : Int32))] [(.int p1), (.ref w_ROUTER_KEY)])) _
                        refine st38.trans ?_
                        show Steps p.tables e below (T38.setTop (mkF m 44 #[.val (.int p0), .val (.int p1), .val (.int ((p0 &&& (2147483647 : Int32)) % (10 : Int32))), .val (.ref w_ROUTER_KEY), .val (.int (1 : Int32)), .val (.int (1 : Int32))] [(.int (F2 p1 (1 : Int32)))])) _
                        refine XS.iload X38.here hx rfl (hb hby at_44) rfl ?_
                        show Steps p.tables e below (T38.setTop (mkF m 46 #[.val (.int p0), .val (.int p1), .val (.int ((p0 &&& (2147483647 : Int32)) % (10 : Int32))), .val (.ref w_ROUTER_KEY), .val (.int (1 : Int32)), .val (.int (1 : Int32))] [(.int (1 : Int32)), (.int (F2 p1 (1 : Int32)))])) _
                        refine XS.icmpNo X38.here hx rfl (hb hby at_46) rfl (teq hc46).2 ?_
                        show Steps p.tables e below (T38.setTop (mkF m 49 #[.val (.int p0), .val (.int p1), .val (.int ((p0 &&& (2147483647 : Int32)) % (10 : Int32))), .val (.ref w_ROUTER_KEY), .val (.int (1 : Int32)), .val (.int (1 : Int32))] [])) _
                        refine XS.iconst X38.here hx rfl (hb hby at_49) ?_
                        show Steps p.tables e below (T38.setTop (mkF m 50 #[.val (.int p0), .val (.int p1), .val (.int ((p0 &&& (2147483647 : Int32)) % (10 : Int32))), .val (.ref w_ROUTER_KEY), .val (.int (1 : Int32)), .val (.int (1 : Int32))] [(.int (1 : Int32))])) _
                        refine XS.goto X38.here hx rfl (pc0 := 50) (pc' := 54) rfl (hb hby at_50) (by decide) (by decide) ?_
                        show Steps p.tables e below (T38.setTop (mkF m 54 #[.val (.int p0), .val (.int p1), .val (.int ((p0 &&& (2147483647 : Int32)) % (10 : Int32))), .val (.ref w_ROUTER_KEY), .val (.int (1 : Int32)), .val (.int (1 : Int32))] [(.int (1 : Int32))])) _
                        exact retN X38 hx (t := .boolean) Bd.returns (by simp) (hb hby at_54) hr
                      · show Q0 Z p0 p1 w_SERIAL_NOTIFY w_SERIAL_QUERY w_RESET_QUERY w_CACHE_RESPONSE w_IPV4_PREFIX w_IPV6_PREFIX w_END_OF_DATA w_CACHE_RESET w_ROUTER_KEY w_ERROR_REPORT h0 n0 _ T38.heap _
                        rw [e38]
                        exact ⟨rfl, N38⟩
                  · rw [show (F1 ((p0 &&& (2147483647 : Int32)) % (10 : Int32)) w_SERIAL_NOTIFY w_SERIAL_QUERY w_RESET_QUERY w_CACHE_RESPONSE w_IPV4_PREFIX w_IPV6_PREFIX w_END_OF_DATA w_CACHE_RESET w_ROUTER_KEY w_ERROR_REPORT) = w_ERROR_REPORT from by rw [F1, if_neg hk, if_neg hk_2, if_neg hk_3, if_neg hk_4, if_neg hk_5, if_neg hk_6, if_neg hk_7, if_neg hk_8, if_neg hk_9]] at pre2
                    obtain ⟨T39, X39, e39, st39⟩ := getS2 X1 hx hZ hown (host := "") (Or.inl (hw _ (List.mem_of_getElem? (i := 8) rfl))) Via.refl e1 S_ROUTER_KEY (g := (mkF m 17 #[.val (.int p0), .val (.int p1), .val (.int ((p0 &&& (2147483647 : Int32)) % (10 : Int32))), .val (.ref w_ERROR_REPORT), .val (.int (0 : Int32)), .unset] [(.ref w_ERROR_REPORT)])) rfl (hb hby at_17)
                    have ha20 : ¬ (w_ERROR_REPORT = w_ROUTER_KEY) := ne_ERROR_REPORT_ROUTER_KEY
                    have pre40 : ∀ t, Steps p.tables e below (T39.setTop (mkF m 29 #[.val (.int p0), .val (.int p1), .val (.int ((p0 &&& (2147483647 : Int32)) % (10 : Int32))), .val (.ref w_ERROR_REPORT), .val (.int (0 : Int32)), .unset] [(.int (0 : Int32)), (.int p1)])) t → Steps p.tables e below (s₁.setTop (entryFrame m #[(.int p0), (.int p1)] maxLocals)) t := fun t k => by
                      refine pre2 t ?_
                      show Steps p.tables e below (T1.setTop (mkF m 12 #[.val (.int p0), .val (.int p1), .val (.int ((p0 &&& (2147483647 : Int32)) % (10 : Int32))), .unset, .unset, .unset] [(.ref w_ERROR_REPORT)])) _
                      refine XS.astoreN X1.here hx rfl (hb hby at_12) rfl rfl (l' := #[.val (.int p0), .val (.int p1), .val (.int ((p0 &&& (2147483647 : Int32)) % (10 : Int32))), .val (.ref w_ERROR_REPORT), .unset, .unset]) rfl ?_
                      show Steps p.tables e below (T1.setTop (mkF m 13 #[.val (.int p0), .val (.int p1), .val (.int ((p0 &&& (2147483647 : Int32)) % (10 : Int32))), .val (.ref w_ERROR_REPORT), .unset, .unset] [])) _
                      refine XS.iconst X1.here hx rfl (hb hby at_13) ?_
                      show Steps p.tables e below (T1.setTop (mkF m 14 #[.val (.int p0), .val (.int p1), .val (.int ((p0 &&& (2147483647 : Int32)) % (10 : Int32))), .val (.ref w_ERROR_REPORT), .unset, .unset] [(.int (0 : Int32))])) _
                      refine XS.istore X1.here hx rfl (hb hby at_14) rfl (l' := #[.val (.int p0), .val (.int p1), .val (.int ((p0 &&& (2147483647 : Int32)) % (10 : Int32))), .val (.ref w_ERROR_REPORT), .val (.int (0 : Int32)), .unset]) rfl ?_
                      show Steps p.tables e below (T1.setTop (mkF m 16 #[.val (.int p0), .val (.int p1), .val (.int ((p0 &&& (2147483647 : Int32)) % (10 : Int32))), .val (.ref w_ERROR_REPORT), .val (.int (0 : Int32)), .unset] [])) _
                      refine XS.aloadN X1.here hx rfl (hb hby at_16) rfl rfl ?_
                      show Steps p.tables e below (T1.setTop (mkF m 17 #[.val (.int p0), .val (.int p1), .val (.int ((p0 &&& (2147483647 : Int32)) % (10 : Int32))), .val (.ref w_ERROR_REPORT), .val (.int (0 : Int32)), .unset] [(.ref w_ERROR_REPORT)])) _
                      refine st39 _ ?_
                      show Steps p.tables e below (T39.setTop (mkF m 20 #[.val (.int p0), .val (.int p1), .val (.int ((p0 &&& (2147483647 : Int32)) % (10 : Int32))), .val (.ref w_ERROR_REPORT), .val (.int (0 : Int32)), .unset] [(.ref w_ROUTER_KEY), (.ref w_ERROR_REPORT)])) _
                      refine Jvm.RoadKit.acmp (g := (mkF m 20 #[.val (.int p0), .val (.int p1), .val (.int ((p0 &&& (2147483647 : Int32)) % (10 : Int32))), .val (.ref w_ERROR_REPORT), .val (.int (0 : Int32)), .unset] [(.ref w_ROUTER_KEY), (.ref w_ERROR_REPORT)])) X39 hx rfl rfl rfl (pc0 := 20) (pc' := 26) (same := false) rfl (hb hby at_20) rfl (decide_eq_false fun q => ha20 (Value.ref.inj q)) (by decide) (by decide) ?_
                      show Steps p.tables e below (T39.setTop (mkF m 26 #[.val (.int p0), .val (.int p1), .val (.int ((p0 &&& (2147483647 : Int32)) % (10 : Int32))), .val (.ref w_ERROR_REPORT), .val (.int (0 : Int32)), .unset] [])) _
                      refine XS.iloadN X39.here hx rfl (hb hby at_26) rfl ?_
                      show Steps p.tables e below (T39.setTop (mkF m 27 #[.val (.int p0), .val (.int p1), .val (.int ((p0 &&& (2147483647 : Int32)) % (10 : Int32))), .val (.ref w_ERROR_REPORT), .val (.int (0 : Int32)), .unset] [(.int p1)])) _
                      refine XS.iload X39.here hx rfl (hb hby at_27) rfl ?_
                      exact k
                    by_cases hc29 : p1 < (0 : Int32)
                    · obtain ⟨cq41, kq41, q41a, q41b, q41c⟩ := isOf hZ e39 E_ERROR_REPORT
                      obtain ⟨_, _, ⟨T41, L41, k41, n41⟩, -, X41, ⟨Lc41, hQ41, l41, y41, z41⟩, st41⟩ := X39.virtualBack hx (y := (⟨"com/example/hawser/hawser/rtr/PduType", "isIn", "(I)Z"⟩ : MethodName)) (z := (⟨"com/example/hawser/hawser/rtr/PduType", "isIn", "(I)Z"⟩ : MethodName)) hown (mvT hZ (hw _ (List.mem_of_getElem? (i := 10) rfl))) (mvT hZ (hw _ (List.mem_of_getElem? (i := 11) rfl))) (notFace_of_selects (args := #[]) (mvT hZ (hw _ (List.mem_of_getElem? (i := 13) rfl)))) (mvT hZ (hw _ (List.mem_of_getElem? (i := 13) rfl))) (mvT hZ (hw _ (List.mem_of_getElem? (i := 12) rfl))) (by decide) (backOf (W := 0) (rm2 l Z a0 hw [] w_ERROR_REPORT p1 (0 : Int32) h0 n0 Z0 F_sinceVersion_ERROR_REPORT) hZ (hw _ (List.mem_of_getElem? (i := 14) rfl)) (hw _ (List.mem_of_getElem? (i := 6) rfl)) (by decide) (by decide)) q41a q41c (g := (mkF m 41 #[.val (.int p0), .val (.int p1), .val (.int ((p0 &&& (2147483647 : Int32)) % (10 : Int32))), .val (.ref w_ERROR_REPORT), .val (.int (0 : Int32)), .val (.int (0 : Int32))] [(.int p1), (.ref w_ERROR_REPORT)])) rfl (by rw [hml]; rfl) (Steps.refl _) (argsL := [(.int p1)]) (rest := []) (lenOf pd_1 rfl) rfl (by show 2 * 0 + _ ≤ _; exact Nat.le_of_eq rfl) (hb hby at_41) (fun _ _ => ⟨rfl, e39, (by decide : 0 + 0 ≤ _), (by decide : 0 + 0 ≤ _)⟩)
                      dsimp only [Pt.U, Pt.locs, Pt.cells, Pt.slots] at X41 l41 y41 z41 st41 hQ41
                      subst l41 y41 z41
                      obtain ⟨rfl, N41q, e41⟩ := hQ41
                      have N41 := Fr.app N1 N41q
                      have hc46 : (F2 p1 (0 : Int32)) = (0 : Int32) := by rw [F2, if_pos hc29]
                      obtain ⟨fs, hr, hrun, hended, hW, hsame⟩ := X41.leave (v := some (.int (1 : Int32))) (fun h => by rw [Bd.returns] at h; cases h) (BodyLoose.notSynchronized Bd)
                      refine ⟨_, _, pre40 _ ?_, hrun, hended, _, _, rfl, ?_, ⟨_, rfl⟩, hW, hsame.mono (by decide) (by decide)⟩
                      · show Steps p.tables e below (T39.setTop (mkF m 29 #[.val (.int p0), .val (.int p1), .val (.int ((p0 &&& (2147483647 : Int32)) % (10 : Int32))), .val (.ref w_ERROR_REPORT), .val (.int (0 : Int32)), .unset] [(.int (0 : Int32)), (.int p1)])) _
                        refine XS.icmpYes X39.here hx rfl (pc0 := 29) (pc' := 36) rfl (hb hby at_29) rfl (tlt hc29).1 (by decide) (by decide) ?_
                        show Steps p.tables e below (T39.setTop (mkF m 36 #[.val (.int p0), .val (.int p1), .val (.int ((p0 &&& (2147483647 : Int32)) % (10 : Int32))), .val (.ref w_ERROR_REPORT), .val (.int (0 : Int32)), .unset] [])) _
                        refine XS.iconst X39.here hx rfl (hb hby at_36) ?_
                        show Steps p.tables e below (T39.setTop (mkF m 37 #[.val (.int p0), .val (.int p1), .val (.int ((p0 &&& (2147483647 : Int32)) % (10 : Int32))), .val (.ref w_ERROR_REPORT), .val (.int (0 : Int32)), .unset] [(.int (0 : Int32))])) _
                        refine XS.istore X39.here hx rfl (hb hby at_37) rfl (l' := #[.val (.int p0), .val (.int p1), .val (.int ((p0 &&& (2147483647 : Int32)) % (10 : Int32))), .val (.ref w_ERROR_REPORT), .val (.int (0 : Int32)), .val (.int (0 : Int32))]) rfl ?_
                        show Steps p.tables e below (T39.setTop (mkF m 39 #[.val (.int p0), .val (.int p1), .val (.int ((p0 &&& (2147483647 : Int32)) % (10 : Int32))), .val (.ref w_ERROR_REPORT), .val (.int (0 : Int32)), .val (.int (0 : Int32))] [])) _
                        refine XS.aloadN X39.here hx rfl (hb hby at_39) rfl rfl ?_
                        show Steps p.tables e below (T39.setTop (mkF m 40 #[.val (.int p0), .val (.int p1), .val (.int ((p0 &&& (2147483647 : Int32)) % (10 : Int32))), .val (.ref w_ERROR_REPORT), .val (.int (0 : Int32)), .val (.int (0 : Int32))] [(.ref w_ERROR_REPORT)])) _
                        refine XS.iloadN X39.here hx rfl (hb hby at_40) rfl ?_
                        show Steps p.tables e below (T39.setTop (mkF m 41 #[.val (.int p0), .val (.int p1), .val (.int ((p0 &&& (2147483647 : Int32)) % (10 : Int32))), .val (.ref w_ERROR_REPORT), .val (.int (0 : Int32)), .val (.int (0 : Int32))] [(.int p1), (.ref w_ERROR_REPORT)])) _
                        refine st41.trans ?_
                        show Steps p.tables e below (T41.setTop (mkF m 44 #[.val (.int p0), .val (.int p1), .val (.int ((p0 &&& (2147483647 : Int32)) % (10 : Int32))), .val (.ref w_ERROR_REPORT), .val (.int (0 : Int32)), .val (.int (0 : Int32))] [(.int (F2 p1 (0 : Int32)))])) _
                        refine XS.iload X41.here hx rfl (hb hby at_44) rfl ?_
                        show Steps p.tables e below (T41.setTop (mkF m 46 #[.val (.int p0), .val (.int p1), .val (.int ((p0 &&& (2147483647 : Int32)) % (10 : Int32))), .val (.ref w_ERROR_REPORT), .val (.int (0 : Int32)), .val (.int (0 : Int32))] [(.int (0 : Int32)), (.int (F2 p1 (0 : Int32)))])) _
                        refine XS.icmpNo X41.here hx rfl (hb hby at_46) rfl (teq hc46).2 ?_
                        show Steps p.tables e below (T41.setTop (mkF m 49 #[.val (.int p0), .val (.int p1), .val (.int ((p0 &&& (2147483647 : Int32)) % (10 : Int32))), .val (.ref w_ERROR_REPORT), .val (.int (0 : Int32)), .val (.int (0 : Int32))] [])) _
                        refine XS.iconst X41.here hx rfl (hb hby at_49) ?_
                        show Steps p.tables e below (T41.setTop (mkF m 50 #[.val (.int p0), .val (.int p1), .val (.int ((p0 &&& (2147483647 : Int32)) % (10 : Int32))), .val (.ref w_ERROR_REPORT), .val (.int (0 : Int32)), .val (.int (0 : Int32))] [(.int (1 : Int32))])) _
                        refine XS.goto X41.here hx rfl (pc0 := 50) (pc' := 54) rfl (hb hby at_50) (by decide) (by decide) ?_
                        show Steps p.tables e below (T41.setTop (mkF m 54 #[.val (.int p0), .val (.int p1), .val (.int ((p0 &&& (2147483647 : Int32)) % (10 : Int32))), .val (.ref w_ERROR_REPORT), .val (.int (0 : Int32)), .val (.int (0 : Int32))] [(.int (1 : Int32))])) _
                        exact retN X41 hx (t := .boolean) Bd.returns (by simp) (hb hby at_54) hr
                      · show Q0 Z p0 p1 w_SERIAL_NOTIFY w_SERIAL_QUERY w_RESET_QUERY w_CACHE_RESPONSE w_IPV4_PREFIX w_IPV6_PREFIX w_END_OF_DATA w_CACHE_RESET w_ROUTER_KEY w_ERROR_REPORT h0 n0 _ T41.heap _
                        rw [e41]
                        exact ⟨rfl, N41⟩
                    · obtain ⟨cq42, kq42, q42a, q42b, q42c⟩ := isOf hZ e39 E_ERROR_REPORT
                      obtain ⟨_, _, ⟨T42, L42, k42, n42⟩, -, X42, ⟨Lc42, hQ42, l42, y42, z42⟩, st42⟩ := X39.virtualBack hx (y := (⟨"com/example/hawser/hawser/rtr/PduType", "isIn", "(I)Z"⟩ : MethodName)) (z := (⟨"com/example/hawser/hawser/rtr/PduType", "isIn", "(I)Z"⟩ : MethodName)) hown (mvT hZ (hw _ (List.mem_of_getElem? (i := 10) rfl))) (mvT hZ (hw _ (List.mem_of_getElem? (i := 11) rfl))) (notFace_of_selects (args := #[]) (mvT hZ (hw _ (List.mem_of_getElem? (i := 13) rfl)))) (mvT hZ (hw _ (List.mem_of_getElem? (i := 13) rfl))) (mvT hZ (hw _ (List.mem_of_getElem? (i := 12) rfl))) (by decide) (backOf (W := 0) (rm2 l Z a0 hw [] w_ERROR_REPORT p1 (0 : Int32) h0 n0 Z0 F_sinceVersion_ERROR_REPORT) hZ (hw _ (List.mem_of_getElem? (i := 14) rfl)) (hw _ (List.mem_of_getElem? (i := 6) rfl)) (by decide) (by decide)) q42a q42c (g := (mkF m 41 #[.val (.int p0), .val (.int p1), .val (.int ((p0 &&& (2147483647 : Int32)) % (10 : Int32))), .val (.ref w_ERROR_REPORT), .val (.int (0 : Int32)), .val (.int (1 : Int32))] [(.int p1), (.ref w_ERROR_REPORT)])) rfl (by rw [hml]; rfl) (Steps.refl _) (argsL := [(.int p1)]) (rest := []) (lenOf pd_1 rfl) rfl (by show 2 * 0 + _ ≤ _; exact Nat.le_of_eq rfl) (hb hby at_41) (fun _ _ => ⟨rfl, e39, (by decide : 0 + 0 ≤ _), (by decide : 0 + 0 ≤ _)⟩)
                      dsimp only [Pt.U, Pt.locs, Pt.cells, Pt.slots] at X42 l42 y42 z42 st42 hQ42
                      subst l42 y42 z42
                      obtain ⟨rfl, N42q, e42⟩ := hQ42
                      have N42 := Fr.app N1 N42q
                      have hc46 : (F2 p1 (0 : Int32)) = (1 : Int32) := by rw [F2, if_neg hc29]
                      obtain ⟨fs, hr, hrun, hended, hW, hsame⟩ := X42.leave (v := some (.int (1 : Int32))) (fun h => by rw [Bd.returns] at h; cases h) (BodyLoose.notSynchronized Bd)
                      refine ⟨_, _, pre40 _ ?_, hrun, hended, _, _, rfl, ?_, ⟨_, rfl⟩, hW, hsame.mono (by decide) (by decide)⟩
                      · show Steps p.tables e below (T39.setTop (mkF m 29 #[.val (.int p0), .val (.int p1), .val (.int ((p0 &&& (2147483647 : Int32)) % (10 : Int32))), .val (.ref w_ERROR_REPORT), .val (.int (0 : Int32)), .unset] [(.int (0 : Int32)), (.int p1)])) _
                        refine XS.icmpNo X39.here hx rfl (hb hby at_29) rfl (flt hc29).1 ?_
                        show Steps p.tables e below (T39.setTop (mkF m 32 #[.val (.int p0), .val (.int p1), .val (.int ((p0 &&& (2147483647 : Int32)) % (10 : Int32))), .val (.ref w_ERROR_REPORT), .val (.int (0 : Int32)), .unset] [])) _
                        refine XS.iconst X39.here hx rfl (hb hby at_32) ?_
                        show Steps p.tables e below (T39.setTop (mkF m 33 #[.val (.int p0), .val (.int p1), .val (.int ((p0 &&& (2147483647 : Int32)) % (10 : Int32))), .val (.ref w_ERROR_REPORT), .val (.int (0 : Int32)), .unset] [(.int (1 : Int32))])) _
                        refine XS.goto X39.here hx rfl (pc0 := 33) (pc' := 37) rfl (hb hby at_33) (by decide) (by decide) ?_
                        show Steps p.tables e below (T39.setTop (mkF m 37 #[.val (.int p0), .val (.int p1), .val (.int ((p0 &&& (2147483647 : Int32)) % (10 : Int32))), .val (.ref w_ERROR_REPORT), .val (.int (0 : Int32)), .unset] [(.int (1 : Int32))])) _
                        refine XS.istore X39.here hx rfl (hb hby at_37) rfl (l' := #[.val (.int p0), .val (.int p1), .val (.int ((p0 &&& (2147483647 : Int32)) % (10 : Int32))), .val (.ref w_ERROR_REPORT), .val (.int (0 : Int32)), .val (.int (1 : Int32))]) rfl ?_
                        show Steps p.tables e below (T39.setTop (mkF m 39 #[.val (.int p0), .val (.int p1), .val (.int ((p0 &&& (2147483647 : Int32)) % (10 : Int32))), .val (.ref w_ERROR_REPORT), .val (.int (0 : Int32)), .val (.int (1 : Int32))] [])) _
                        refine XS.aloadN X39.here hx rfl (hb hby at_39) rfl rfl ?_
                        show Steps p.tables e below (T39.setTop (mkF m 40 #[.val (.int p0), .val (.int p1), .val (.int ((p0 &&& (2147483647 : Int32)) % (10 : Int32))), .val (.ref w_ERROR_REPORT), .val (.int (0 : Int32)), .val (.int (1 : Int32))] [(.ref w_ERROR_REPORT)])) _
                        refine XS.iloadN X39.here hx rfl (hb hby at_40) rfl ?_
                        show Steps p.tables e below (T39.setTop (mkF m 41 #[.val (.int p0), .val (.int p1), .val (.int ((p0 &&& (2147483647 : Int32)) % (10 : Int32))), .val (.ref w_ERROR_REPORT), .val (.int (0 : Int32)), .val (.int (1 : Int32))] [(.int p1), (.ref w_ERROR_REPORT)])) _
                        refine st42.trans ?_
                        show Steps p.tables e below (T42.setTop (mkF m 44 #[.val (.int p0), .val (.int p1), .val (.int ((p0 &&& (2147483647 : Int32)) % (10 : Int32))), .val (.ref w_ERROR_REPORT), .val (.int (0 : Int32)), .val (.int (1 : Int32))] [(.int (F2 p1 (0 : Int32)))])) _
                        refine XS.iload X42.here hx rfl (hb hby at_44) rfl ?_
                        show Steps p.tables e below (T42.setTop (mkF m 46 #[.val (.int p0), .val (.int p1), .val (.int ((p0 &&& (2147483647 : Int32)) % (10 : Int32))), .val (.ref w_ERROR_REPORT), .val (.int (0 : Int32)), .val (.int (1 : Int32))] [(.int (1 : Int32)), (.int (F2 p1 (0 : Int32)))])) _
                        refine XS.icmpNo X42.here hx rfl (hb hby at_46) rfl (teq hc46).2 ?_
                        show Steps p.tables e below (T42.setTop (mkF m 49 #[.val (.int p0), .val (.int p1), .val (.int ((p0 &&& (2147483647 : Int32)) % (10 : Int32))), .val (.ref w_ERROR_REPORT), .val (.int (0 : Int32)), .val (.int (1 : Int32))] [])) _
                        refine XS.iconst X42.here hx rfl (hb hby at_49) ?_
                        show Steps p.tables e below (T42.setTop (mkF m 50 #[.val (.int p0), .val (.int p1), .val (.int ((p0 &&& (2147483647 : Int32)) % (10 : Int32))), .val (.ref w_ERROR_REPORT), .val (.int (0 : Int32)), .val (.int (1 : Int32))] [(.int (1 : Int32))])) _
                        refine XS.goto X42.here hx rfl (pc0 := 50) (pc' := 54) rfl (hb hby at_50) (by decide) (by decide) ?_
                        show Steps p.tables e below (T42.setTop (mkF m 54 #[.val (.int p0), .val (.int p1), .val (.int ((p0 &&& (2147483647 : Int32)) % (10 : Int32))), .val (.ref w_ERROR_REPORT), .val (.int (0 : Int32)), .val (.int (1 : Int32))] [(.int (1 : Int32))])) _
                        exact retN X42 hx (t := .boolean) Bd.returns (by simp) (hb hby at_54) hr
                      · show Q0 Z p0 p1 w_SERIAL_NOTIFY w_SERIAL_QUERY w_RESET_QUERY w_CACHE_RESPONSE w_IPV4_PREFIX w_IPV6_PREFIX w_END_OF_DATA w_CACHE_RESET w_ROUTER_KEY w_ERROR_REPORT h0 n0 _ T42.heap _
                        rw [e42]
                        exact ⟨rfl, N42⟩
set_option maxRecDepth 65536 in
set_option maxHeartbeats 40000000 in
theorem comes_1 {Post : Tables → Env → Array Value → State → Outcome → State → Prop} (hpost : ∀ tb e args s v u, (limb_1_1.after args s (.returned v) u = true ∧ limb_1_2.after args s (.returned v) u = true ∧ True) → FrameEnd s (.returned v) u (Jvm.fieldLocs frame_1_writes args s ++ Jvm.arrayLocs frame_1_arrays args s ++ Jvm.staticLocs frame_1_statics s) 0 0 → Post tb e args s (.returned v) u) :
    ArmFor flags0 classFile x code maxLocals ret World_1 tables_1 room_1 Calls_1 rest_1 Pre_1 Post := by
  intro l hfl _ _ p e ha hc hk s m args below hf hA hF happ hP
  obtain ⟨hcalls, hrest, hpre⟩ := hP
  obtain ⟨-, -, -, hnamed, -, -, -, hat⟩ := (Spec.applies_iff hf).mp happ
  obtain ⟨hg, hn⟩ := and_e (Cond.before_iff.mp (show (Jvm.Cond.and given_1 narrow_1).before args s = true from hpre))
  obtain ⟨g1, g2⟩ := and_e hg
  obtain ⟨g3, g4⟩ := and_e g2
  obtain ⟨w0, w1, rfl⟩ : ∃ w0 w1 : Value, args = #[w0, w1] := by
    have hs : args.size = 2 := by simpa [Cond.value, given_1] using g1
    obtain ⟨L⟩ := args
    match L, hs with
    | [w0, w1], _ => exact ⟨w0, w1, rfl⟩
  have hw := fun d (hd : d ∈ tables_1) => atoms_spec (ws := Jvm.Cond.code x code maxLocals ret :: tables_1) hat d (List.mem_cons_of_mem _ hd)
  obtain ⟨i0, ei0⟩ := is_v g3
  obtain rfl : w0 = (.int i0) := Option.some.inj ei0
  obtain ⟨i1, ei1⟩ := is_v g4
  obtain rfl : w1 = (.int i1) := Option.some.inj ei1
  obtain ⟨nl1, nr1⟩ := and_e hn
  obtain ⟨nl2, nr2⟩ := and_e nr1
  obtain ⟨nl3, nr3⟩ := and_e nr2
  obtain ⟨nl4, nr4⟩ := and_e nr3
  obtain ⟨nl5, nr5⟩ := and_e nr4
  obtain ⟨nl6, nr6⟩ := and_e nr5
  obtain ⟨nl7, nr7⟩ := and_e nr6
  obtain ⟨nl8, nr8⟩ := and_e nr7
  obtain ⟨nl9, nr9⟩ := and_e nr8
  obtain ⟨nl10, nr10⟩ := and_e nr9
  obtain ⟨nl11, nr11⟩ := and_e nr10
  obtain ⟨nl12, nr12⟩ := and_e nr11
  obtain ⟨nl13, nr13⟩ := and_e nr12
  obtain ⟨nl14, nr14⟩ := and_e nr13
  obtain ⟨nl15, nr15⟩ := and_e nr14
  obtain ⟨nl16, nr16⟩ := and_e nr15
  obtain ⟨nl17, nr17⟩ := and_e nr16
  obtain ⟨nl18, nr18⟩ := and_e nr17
  obtain ⟨nl19, nr19⟩ := and_e nr18
  obtain ⟨nl20, nr20⟩ := and_e nr19
  obtain ⟨nl21, nr21⟩ := and_e nr20
  obtain ⟨nl22, nr22⟩ := and_e nr21
  obtain ⟨nl23, nr23⟩ := and_e nr22
  obtain ⟨nl24, nr24⟩ := and_e nr23
  obtain ⟨nl25, nr25⟩ := and_e nr24
  obtain ⟨nl26, nr26⟩ := and_e nr25
  obtain ⟨nl27, nr27⟩ := and_e nr26
  obtain ⟨nl28, nr28⟩ := and_e nr27
  obtain ⟨nl29, nr29⟩ := and_e nr28
  obtain ⟨w_SERIAL_NOTIFY, ev_SERIAL_NOTIFY⟩ := exa_v nl1
  have E_SERIAL_NOTIFY := Exa.start ev_SERIAL_NOTIFY nl1
  have S_SERIAL_NOTIFY := Sta.start ev_SERIAL_NOTIFY (Or.inr ⟨(hw _ (List.mem_of_getElem? (i := 6) rfl)), (hw _ (List.mem_of_getElem? (i := 7) rfl))⟩)
  have F_sinceVersion_SERIAL_NOTIFY := own_fint ev_SERIAL_NOTIFY nl5
  obtain ⟨w_SERIAL_QUERY, ev_SERIAL_QUERY⟩ := exa_v nl22
  have E_SERIAL_QUERY := Exa.start ev_SERIAL_QUERY nl22
  have S_SERIAL_QUERY := Sta.start ev_SERIAL_QUERY (Or.inr ⟨(hw _ (List.mem_of_getElem? (i := 6) rfl)), (hw _ (List.mem_of_getElem? (i := 28) rfl))⟩)
  have F_sinceVersion_SERIAL_QUERY := own_fint ev_SERIAL_QUERY nl24
  obtain ⟨w_RESET_QUERY, ev_RESET_QUERY⟩ := exa_v nl16
  have E_RESET_QUERY := Exa.start ev_RESET_QUERY nl16
  have S_RESET_QUERY := Sta.start ev_RESET_QUERY (Or.inr ⟨(hw _ (List.mem_of_getElem? (i := 6) rfl)), (hw _ (List.mem_of_getElem? (i := 24) rfl))⟩)
  have F_sinceVersion_RESET_QUERY := own_fint ev_RESET_QUERY nl18
  obtain ⟨w_CACHE_RESPONSE, ev_CACHE_RESPONSE⟩ := exa_v nl19
  have E_CACHE_RESPONSE := Exa.start ev_CACHE_RESPONSE nl19
  have S_CACHE_RESPONSE := Sta.start ev_CACHE_RESPONSE (Or.inr ⟨(hw _ (List.mem_of_getElem? (i := 6) rfl)), (hw _ (List.mem_of_getElem? (i := 26) rfl))⟩)
  have F_sinceVersion_CACHE_RESPONSE := own_fint ev_CACHE_RESPONSE nl21
  obtain ⟨w_IPV4_PREFIX, ev_IPV4_PREFIX⟩ := exa_v nl6
  have E_IPV4_PREFIX := Exa.start ev_IPV4_PREFIX nl6
  have S_IPV4_PREFIX := Sta.start ev_IPV4_PREFIX (Or.inr ⟨(hw _ (List.mem_of_getElem? (i := 6) rfl)), (hw _ (List.mem_of_getElem? (i := 18) rfl))⟩)
  have F_sinceVersion_IPV4_PREFIX := own_fint ev_IPV4_PREFIX nl8
  obtain ⟨w_IPV6_PREFIX, ev_IPV6_PREFIX⟩ := exa_v nl25
  have E_IPV6_PREFIX := Exa.start ev_IPV6_PREFIX nl25
  have S_IPV6_PREFIX := Sta.start ev_IPV6_PREFIX (Or.inr ⟨(hw _ (List.mem_of_getElem? (i := 6) rfl)), (hw _ (List.mem_of_getElem? (i := 30) rfl))⟩)
  have F_sinceVersion_IPV6_PREFIX := own_fint ev_IPV6_PREFIX nl27
  obtain ⟨w_END_OF_DATA, ev_END_OF_DATA⟩ := exa_v nl10
  have E_END_OF_DATA := Exa.start ev_END_OF_DATA nl10
  have S_END_OF_DATA := Sta.start ev_END_OF_DATA (Or.inr ⟨(hw _ (List.mem_of_getElem? (i := 6) rfl)), (hw _ (List.mem_of_getElem? (i := 20) rfl))⟩)
  have F_sinceVersion_END_OF_DATA := own_fint ev_END_OF_DATA nl12
  obtain ⟨w_CACHE_RESET, ev_CACHE_RESET⟩ := exa_v nl28
  have E_CACHE_RESET := Exa.start ev_CACHE_RESET nl28
  have S_CACHE_RESET := Sta.start ev_CACHE_RESET (Or.inr ⟨(hw _ (List.mem_of_getElem? (i := 6) rfl)), (hw _ (List.mem_of_getElem? (i := 32) rfl))⟩)
  have F_sinceVersion_CACHE_RESET := own_fint ev_CACHE_RESET nr29
  obtain ⟨w_ROUTER_KEY, ev_ROUTER_KEY⟩ := exa_v nl2
  have E_ROUTER_KEY := Exa.start ev_ROUTER_KEY nl2
  have S_ROUTER_KEY := Sta.start ev_ROUTER_KEY (Or.inr ⟨(hw _ (List.mem_of_getElem? (i := 6) rfl)), (hw _ (List.mem_of_getElem? (i := 9) rfl))⟩)
  have F_sinceVersion_ROUTER_KEY := own_fint ev_ROUTER_KEY nl9
  obtain ⟨w_ERROR_REPORT, ev_ERROR_REPORT⟩ := exa_v nl13
  have E_ERROR_REPORT := Exa.start ev_ERROR_REPORT nl13
  have S_ERROR_REPORT := Sta.start ev_ERROR_REPORT (Or.inr ⟨(hw _ (List.mem_of_getElem? (i := 6) rfl)), (hw _ (List.mem_of_getElem? (i := 22) rfl))⟩)
  have F_sinceVersion_ERROR_REPORT := own_fint ev_ERROR_REPORT nl15
  have ne_SERIAL_NOTIFY_ROUTER_KEY : ¬ w_SERIAL_NOTIFY = w_ROUTER_KEY := Fld.ne (own_fint ev_SERIAL_NOTIFY nl3) (own_fint ev_ROUTER_KEY nl4) (by decide)
  have ne_SERIAL_QUERY_ROUTER_KEY : ¬ w_SERIAL_QUERY = w_ROUTER_KEY := Fld.ne (own_fint ev_SERIAL_QUERY nl23) (own_fint ev_ROUTER_KEY nl4) (by decide)
  have ne_RESET_QUERY_ROUTER_KEY : ¬ w_RESET_QUERY = w_ROUTER_KEY := Fld.ne (own_fint ev_RESET_QUERY nl17) (own_fint ev_ROUTER_KEY nl4) (by decide)
  have ne_CACHE_RESPONSE_ROUTER_KEY : ¬ w_CACHE_RESPONSE = w_ROUTER_KEY := Fld.ne (own_fint ev_CACHE_RESPONSE nl20) (own_fint ev_ROUTER_KEY nl4) (by decide)
  have ne_IPV4_PREFIX_ROUTER_KEY : ¬ w_IPV4_PREFIX = w_ROUTER_KEY := Fld.ne (own_fint ev_IPV4_PREFIX nl7) (own_fint ev_ROUTER_KEY nl4) (by decide)
  have ne_IPV6_PREFIX_ROUTER_KEY : ¬ w_IPV6_PREFIX = w_ROUTER_KEY := Fld.ne (own_fint ev_IPV6_PREFIX nl26) (own_fint ev_ROUTER_KEY nl4) (by decide)
  have ne_END_OF_DATA_ROUTER_KEY : ¬ w_END_OF_DATA = w_ROUTER_KEY := Fld.ne (own_fint ev_END_OF_DATA nl11) (own_fint ev_ROUTER_KEY nl4) (by decide)
  have ne_CACHE_RESET_ROUTER_KEY : ¬ w_CACHE_RESET = w_ROUTER_KEY := Fld.ne (own_fint ev_CACHE_RESET nl29) (own_fint ev_ROUTER_KEY nl4) (by decide)
  have ne_ERROR_REPORT_ROUTER_KEY : ¬ w_ERROR_REPORT = w_ROUTER_KEY := Fld.ne (own_fint ev_ERROR_REPORT nl14) (own_fint ev_ROUTER_KEY nl4) (by decide)
  obtain ⟨n, o, h1, h2, h3, _, L, rfl, ⟨rfl, N⟩, hq⟩ := rm0 l s _ hw tables_1 i0 i1 w_SERIAL_NOTIFY w_SERIAL_QUERY w_RESET_QUERY w_CACHE_RESPONSE w_IPV4_PREFIX w_IPV6_PREFIX w_END_OF_DATA w_CACHE_RESET w_ROUTER_KEY w_ERROR_REPORT s.heap s.heap.size (Nat.le_refl _) S_SERIAL_NOTIFY E_SERIAL_NOTIFY F_sinceVersion_SERIAL_NOTIFY S_SERIAL_QUERY E_SERIAL_QUERY F_sinceVersion_SERIAL_QUERY S_RESET_QUERY E_RESET_QUERY F_sinceVersion_RESET_QUERY S_CACHE_RESPONSE E_CACHE_RESPONSE F_sinceVersion_CACHE_RESPONSE S_IPV4_PREFIX E_IPV4_PREFIX F_sinceVersion_IPV4_PREFIX S_IPV6_PREFIX E_IPV6_PREFIX F_sinceVersion_IPV6_PREFIX S_END_OF_DATA E_END_OF_DATA F_sinceVersion_END_OF_DATA S_CACHE_RESET E_CACHE_RESET F_sinceVersion_CACHE_RESET S_ROUTER_KEY E_ROUTER_KEY F_sinceVersion_ROUTER_KEY S_ERROR_REPORT E_ERROR_REPORT F_sinceVersion_ERROR_REPORT ne_SERIAL_NOTIFY_ROUTER_KEY ne_SERIAL_QUERY_ROUTER_KEY ne_RESET_QUERY_ROUTER_KEY ne_CACHE_RESPONSE_ROUTER_KEY ne_IPV4_PREFIX_ROUTER_KEY ne_IPV6_PREFIX_ROUTER_KEY ne_END_OF_DATA_ROUTER_KEY ne_CACHE_RESET_ROUTER_KEY ne_ERROR_REPORT_ROUTER_KEY p e ha hc hk s m _ below hf ((Spec.applies_iff_loose hf).mp happ).1 ⟨rfl, State.Warmed39.refl s, rfl⟩ trivial
  refine ⟨n, _, h1, h2, h3, hpost _ _ _ _ _ _ ⟨Cond.after_iff.mpr rfl, Cond.after_iff.mpr (eq_i res_at (Term.int_eval (1)) rfl), trivial⟩ ⟨hq.1, hq.2.1, (hq.2.2.sift fun y hy => Or.inr (N y hy)).mono (by decide) (by decide)⟩⟩
theorem main_1_1 : Claimed_1_1 := comes_1 fun _ _ _ _ _ _ h hF => ⟨h.1, hF⟩
theorem main_1_2 : Claimed_1_2 := comes_1 fun _ _ _ _ _ _ h hF => ⟨h.2.1, hF⟩
end Jvm.Pilot.@@N@@
namespace Jvm.Pilot.@@N@@
open Jvm Jvm.ClassFile Sem Op Lib Jvm.Free Jvm.Stand Jvm.Pilot.@@N@@.Jvm.D
/-! MADE BY PROGRAM (witnessworld.py) out of the Statement's table words and the real class files: 12 classes; the members and pool entries that the words name. The judged class is class 1, her method 1. -/
namespace start1
open Jvm.ClassFile
def u (s : String) : CpInfo := .utf8 (stringToUtf16 s)
/-- a pool by its gaps: so many unusable entries, then the entry; so many at the end -/
def gap : Nat → List CpInfo → List CpInfo
  | 0, r => r
  | n + 1, r => .unusable :: gap n r
def poolList (es : List (Nat × CpInfo)) (last : Nat) : List CpInfo := es.foldr (fun e r => gap e.1 (e.2 :: r)) (gap last [])
def pool (es : List (Nat × CpInfo)) (last : Nat) : Array CpInfo := ⟨poolList es last⟩
def fileOf (pool : Array CpInfo) (this : Nat) (attrs : Array Attribute := #[]) (ms : Array MethodInfo := #[]) (fl : Nat := 33) (sup : Nat := 0) (ifs : Array Nat := #[]) (fds : Array FieldInfo := #[]) : ClassFile where
  minorVersion := 0
  majorVersion := 65
  constantPool := pool
  accessFlags := fl
  thisClass := this
  superClass := sup
  interfaces := ifs
  fields := fds
  methods := ms
  attributes := attrs
def plain (name : String) (sup : Option ClassId) : Class where
  name := name
  kind := .ordinary
  loader := none
  accessFlags := 33
  super := sup
  interfaces := #[]
  cf := none
  fields := #[]
  methods := #[]
  instanceTypes := #[]
  staticTypes := #[]
  resolved := #[]
  callSites := []
  init := .initialized
  statics := none
  mirror := none

def pool0 : Array CpInfo := pool [(5, u "<init>"), (0, u "()V"), (1, .class_ 10), (1, u "java/lang/Object")] 113

def k0m0 : Method := { name := "<init>", desc := "()V", sig := { parameters := [], returnType := none }, accessFlags := 1, code := none }
/-- java/lang/Object -/
def k0 : Class := { plain "java/lang/Object" none with
  accessFlags := 33
  interfaces := #[]
  cf := some (fileOf pool0 8 #[] #[{ accessFlags := 1, nameIndex := 5, descriptorIndex := 6, attributes := #[] }] 33 0 #[] #[])
  fields := #[]
  methods := #[k0m0]
  instanceTypes := #[]
  staticTypes := #[]
  resolved := Array.replicate 124 none
  statics := none }

def pool1 : Array CpInfo := pool [(2, .class_ 4), (1, u "java/lang/Object"), (0, u "<init>"), (0, u "()V"), (0, .integer 2147483647), (0, .methodref 9 10), (0, .class_ 11), (0, .nameAndType 12 13), (0, u "com/example/hawser/hawser/rtr/PduTypeIsInPinLaw"), (0, u "pick"), (0, u "(I)Lcom/example/hawser/hawser/rtr/PduType;"), (0, .fieldref 15 16), (0, .class_ 17), (0, .nameAndType 18 19), (0, u "com/example/hawser/hawser/rtr/PduType"), (0, u "ROUTER_KEY"), (0, u "Lcom/example/hawser/hawser/rtr/PduType;"), (0, .methodref 15 21), (0, .nameAndType 22 23), (0, u "isIn"), (0, u "(I)Z"), (0, .fieldref 15 25), (0, .nameAndType 26 19), (0, u "SERIAL_NOTIFY"), (0, .fieldref 15 28), (0, .nameAndType 29 19), (0, u "SERIAL_QUERY"), (0, .fieldref 15 31), (0, .nameAndType 32 19), (0, u "RESET_QUERY"), (0, .fieldref 15 34), (0, .nameAndType 35 19), (0, u "CACHE_RESPONSE"), (0, .fieldref 15 37), (0, .nameAndType 38 19), (0, u "IPV4_PREFIX"), (0, .fieldref 15 40), (0, .nameAndType 41 19), (0, u "IPV6_PREFIX"), (0, .fieldref 15 43), (0, .nameAndType 44 19), (0, u "END_OF_DATA"), (0, .fieldref 15 46), (0, .nameAndType 47 19), (0, u "CACHE_RESET"), (0, .fieldref 15 49), (0, .nameAndType 50 19), (0, u "ERROR_REPORT"), (2, u "law"), (0, u "(II)Z")] 3

def k1m0 : Method := { name := "<init>", desc := "()V", sig := { parameters := [], returnType := none }, accessFlags := 2, code := none }
def k1c1 : Code := { maxStack := 2, maxLocals := 6, code := code, exceptionTable := #[], attributes := #[] }
def k1m1 : Method := { name := "law", desc := "(II)Z", sig := { parameters := [.int, .int], returnType := some .boolean }, accessFlags := 9, code := some k1c1 }
def k1c2 : Code := { maxStack := 2, maxLocals := 1, code := method_3_code, exceptionTable := #[], attributes := #[] }
def k1m2 : Method := { name := "pick", desc := "(I)Lcom/example/hawser/hawser/rtr/PduType;", sig := { parameters := [.int], returnType := some (.object "com/example/hawser/hawser/rtr/PduType") }, accessFlags := 10, code := some k1c2 }
/-- com/example/hawser/hawser/rtr/PduTypeIsInPinLaw -/
def k1 : Class := { plain "com/example/hawser/hawser/rtr/PduTypeIsInPinLaw" (some 0) with
  accessFlags := 49
  interfaces := #[]
  cf := some (fileOf pool1 9 #[] #[{ accessFlags := 2, nameIndex := 5, descriptorIndex := 6, attributes := #[] }, { accessFlags := 9, nameIndex := 53, descriptorIndex := 54, attributes := #[] }, { accessFlags := 10, nameIndex := 12, descriptorIndex := 13, attributes := #[] }] 49 2 #[] #[])
  fields := #[]
  methods := #[k1m0, k1m1, k1m2]
  instanceTypes := #[]
  staticTypes := #[]
  resolved := Array.replicate 58 none
  statics := none }

def pool2 : Array CpInfo := pool [(1, .class_ 2), (0, u "java/lang/constant/Constable"), (0, .class_ 4), (0, u "java/lang/Object")] 6

/-- java/lang/constant/Constable -/
def k2 : Class := { plain "java/lang/constant/Constable" (some 0) with
  accessFlags := 1537
  interfaces := #[]
  cf := some (fileOf pool2 1 #[] #[] 1537 3 #[] #[])
  fields := #[]
  methods := #[]
  instanceTypes := #[]
  staticTypes := #[]
  resolved := Array.replicate 11 none
  statics := none }

def pool3 : Array CpInfo := pool [(1, .class_ 2), (0, u "java/lang/Comparable"), (0, .class_ 4), (0, u "java/lang/Object")] 7

/-- java/lang/Comparable -/
def k3 : Class := { plain "java/lang/Comparable" (some 0) with
  accessFlags := 1537
  interfaces := #[]
  cf := some (fileOf pool3 1 #[] #[] 1537 3 #[] #[])
  fields := #[]
  methods := #[]
  instanceTypes := #[]
  staticTypes := #[]
  resolved := Array.replicate 12 none
  statics := none }

def pool4 : Array CpInfo := pool [(1, .class_ 2), (0, u "java/io/Serializable"), (0, .class_ 4), (0, u "java/lang/Object")] 2

/-- java/io/Serializable -/
def k4 : Class := { plain "java/io/Serializable" (some 0) with
  accessFlags := 1537
  interfaces := #[]
  cf := some (fileOf pool4 1 #[] #[] 1537 3 #[] #[])
  fields := #[]
  methods := #[]
  instanceTypes := #[]
  staticTypes := #[]
  resolved := Array.replicate 7 none
  statics := none }

def pool5 : Array CpInfo := pool [(2, .class_ 4), (1, u "java/lang/Enum"), (0, u "name"), (0, u "Ljava/lang/String;"), (2, u "ordinal"), (0, u "I"), (1, .class_ 14), (1, u "java/lang/Object"), (4, u "hash"), (86, .class_ 108), (1, u "java/lang/Enum$EnumDesc"), (2, .class_ 112), (0, u "java/lang/constant/Constable"), (0, .class_ 114), (0, u "java/lang/Comparable"), (0, .class_ 116), (0, u "java/io/Serializable")] 87

/-- java/lang/Enum -/
def k5 : Class := { plain "java/lang/Enum" (some 0) with
  accessFlags := 1057
  interfaces := #[2, 3, 4]
  cf := some (fileOf pool5 2 #[.nestMembers #[106]] #[] 1057 12 #[111, 113, 115] #[{ accessFlags := 18, nameIndex := 5, descriptorIndex := 6, attributes := #[] }, { accessFlags := 18, nameIndex := 9, descriptorIndex := 10, attributes := #[] }, { accessFlags := 2, nameIndex := 19, descriptorIndex := 10, attributes := #[] }])
  fields := #[{ name := "name", type := (.object "java/lang/String"), accessFlags := 18, slot := 0, constantValue := 0 }, { name := "ordinal", type := .int, accessFlags := 18, slot := 1, constantValue := 0 }, { name := "hash", type := .int, accessFlags := 2, slot := 2, constantValue := 0 }]
  methods := #[]
  instanceTypes := #[(.object "java/lang/String"), .int, .int]
  staticTypes := #[]
  resolved := Array.replicate 204 none
  statics := none }

def pool6 : Array CpInfo := pool [(1, .class_ 2), (0, u "com/example/hawser/hawser/rtr/PduType"), (2, u "SERIAL_NOTIFY"), (0, u "Lcom/example/hawser/hawser/rtr/PduType;"), (2, u "SERIAL_QUERY"), (2, u "RESET_QUERY"), (2, u "CACHE_RESPONSE"), (2, u "IPV4_PREFIX"), (2, u "IPV6_PREFIX"), (2, u "END_OF_DATA"), (2, u "CACHE_RESET"), (2, u "ROUTER_KEY"), (2, u "ERROR_REPORT"), (2, u "$VALUES"), (0, u "[Lcom/example/hawser/hawser/rtr/PduType;"), (6, .class_ 46), (1, u "java/lang/Enum"), (11, u "code"), (0, u "I"), (2, u "label"), (0, u "Ljava/lang/String;"), (0, .fieldref 1 65), (0, .nameAndType 66 59), (0, u "sinceVersion"), (2, u "minLength"), (2, u "maxLength"), (6, u "isIn"), (0, u "(I)Z")] 56

def k6c0 : Code := { maxStack := 2, maxLocals := 2, code := prog_59_method_6_code, exceptionTable := #[], attributes := #[] }
def k6m0 : Method := { name := "isIn", desc := "(I)Z", sig := { parameters := [.int], returnType := some .boolean }, accessFlags := 0, code := some k6c0 }
/-- com/example/hawser/hawser/rtr/PduType -/
def k6 : Class := { plain "com/example/hawser/hawser/rtr/PduType" (some 5) with
  accessFlags := 16432
  interfaces := #[]
  cf := some (fileOf pool6 1 #[] #[{ accessFlags := 0, nameIndex := 79, descriptorIndex := 80, attributes := #[] }] 16432 44 #[] #[{ accessFlags := 16409, nameIndex := 5, descriptorIndex := 6, attributes := #[] }, { accessFlags := 16409, nameIndex := 9, descriptorIndex := 6, attributes := #[] }, { accessFlags := 16409, nameIndex := 12, descriptorIndex := 6, attributes := #[] }, { accessFlags := 16409, nameIndex := 15, descriptorIndex := 6, attributes := #[] }, { accessFlags := 16409, nameIndex := 18, descriptorIndex := 6, attributes := #[] }, { accessFlags := 16409, nameIndex := 21, descriptorIndex := 6, attributes := #[] }, { accessFlags := 16409, nameIndex := 24, descriptorIndex := 6, attributes := #[] }, { accessFlags := 16409, nameIndex := 27, descriptorIndex := 6, attributes := #[] }, { accessFlags := 16409, nameIndex := 30, descriptorIndex := 6, attributes := #[] }, { accessFlags := 16409, nameIndex := 33, descriptorIndex := 6, attributes := #[] }, { accessFlags := 16, nameIndex := 58, descriptorIndex := 59, attributes := #[] }, { accessFlags := 16, nameIndex := 62, descriptorIndex := 63, attributes := #[] }, { accessFlags := 18, nameIndex := 66, descriptorIndex := 59, attributes := #[] }, { accessFlags := 16, nameIndex := 69, descriptorIndex := 59, attributes := #[] }, { accessFlags := 16, nameIndex := 72, descriptorIndex := 59, attributes := #[] }, { accessFlags := 4122, nameIndex := 36, descriptorIndex := 37, attributes := #[] }])
  fields := #[{ name := "SERIAL_NOTIFY", type := (.object "com/example/hawser/hawser/rtr/PduType"), accessFlags := 16409, slot := 0, constantValue := 0 }, { name := "SERIAL_QUERY", type := (.object "com/example/hawser/hawser/rtr/PduType"), accessFlags := 16409, slot := 1, constantValue := 0 }, { name := "RESET_QUERY", type := (.object "com/example/hawser/hawser/rtr/PduType"), accessFlags := 16409, slot := 2, constantValue := 0 }, { name := "CACHE_RESPONSE", type := (.object "com/example/hawser/hawser/rtr/PduType"), accessFlags := 16409, slot := 3, constantValue := 0 }, { name := "IPV4_PREFIX", type := (.object "com/example/hawser/hawser/rtr/PduType"), accessFlags := 16409, slot := 4, constantValue := 0 }, { name := "IPV6_PREFIX", type := (.object "com/example/hawser/hawser/rtr/PduType"), accessFlags := 16409, slot := 5, constantValue := 0 }, { name := "END_OF_DATA", type := (.object "com/example/hawser/hawser/rtr/PduType"), accessFlags := 16409, slot := 6, constantValue := 0 }, { name := "CACHE_RESET", type := (.object "com/example/hawser/hawser/rtr/PduType"), accessFlags := 16409, slot := 7, constantValue := 0 }, { name := "ROUTER_KEY", type := (.object "com/example/hawser/hawser/rtr/PduType"), accessFlags := 16409, slot := 8, constantValue := 0 }, { name := "ERROR_REPORT", type := (.object "com/example/hawser/hawser/rtr/PduType"), accessFlags := 16409, slot := 9, constantValue := 0 }, { name := "code", type := .int, accessFlags := 16, slot := 3, constantValue := 0 }, { name := "label", type := (.object "java/lang/String"), accessFlags := 16, slot := 4, constantValue := 0 }, { name := "sinceVersion", type := .int, accessFlags := 18, slot := 5, constantValue := 0 }, { name := "minLength", type := .int, accessFlags := 16, slot := 6, constantValue := 0 }, { name := "maxLength", type := .int, accessFlags := 16, slot := 7, constantValue := 0 }, { name := "$VALUES", type := (.array (.object "com/example/hawser/hawser/rtr/PduType")), accessFlags := 4122, slot := 10, constantValue := 0 }]
  methods := #[k6m0]
  instanceTypes := #[(.object "java/lang/String"), .int, .int, .int, (.object "java/lang/String"), .int, .int, .int]
  staticTypes := #[(.object "com/example/hawser/hawser/rtr/PduType"), (.object "com/example/hawser/hawser/rtr/PduType"), (.object "com/example/hawser/hawser/rtr/PduType"), (.object "com/example/hawser/hawser/rtr/PduType"), (.object "com/example/hawser/hawser/rtr/PduType"), (.object "com/example/hawser/hawser/rtr/PduType"), (.object "com/example/hawser/hawser/rtr/PduType"), (.object "com/example/hawser/hawser/rtr/PduType"), (.object "com/example/hawser/hawser/rtr/PduType"), (.object "com/example/hawser/hawser/rtr/PduType"), (.array (.object "com/example/hawser/hawser/rtr/PduType"))]
  resolved := Array.replicate 137 none
  statics := some 0 }

def pool7 : Array CpInfo := pool [(1, u "java/lang/Cloneable"), (0, .class_ 1), (0, u "java/lang/Object"), (0, .class_ 3)] 3

/-- java/lang/Cloneable -/
def k7 : Class := { plain "java/lang/Cloneable" (some 0) with
  accessFlags := 1537
  interfaces := #[]
  cf := some (fileOf pool7 2 #[] #[] 1537 4 #[] #[])
  fields := #[]
  methods := #[]
  instanceTypes := #[]
  staticTypes := #[]
  resolved := Array.replicate 8 none
  statics := none }

/-- the primitive byte -/
def k8 : Class := { plain "byte" none with kind := .primitive 'B', accessFlags := 0x411 }
/-- [B -/
def k9 : Class := { plain "[B" (some 0) with kind := .array 8 .byte, interfaces := #[7, 4], accessFlags := 1041 }

/-- the primitive int -/
def k10 : Class := { plain "int" none with kind := .primitive 'I', accessFlags := 0x411 }
/-- [I -/
def k11 : Class := { plain "[I" (some 0) with kind := .array 10 .int, interfaces := #[7, 4], accessFlags := 1041 }

def heap : Heap := #[{ cls := 6, slots := #[.ref 1, .ref 2, .ref 3, .ref 4, .ref 5, .ref 6, .ref 7, .ref 8, .ref 9, .ref 10, .null], vm := .statics 6 },
  { cls := 6, slots := #[.null, .int 0, .int 0, .int 0, .null, .int 0, .int 0, .int 0], vm := .none },
  { cls := 6, slots := #[.null, .int 1, .int 0, .int 0, .null, .int 0, .int 0, .int 0], vm := .none },
  { cls := 6, slots := #[.null, .int 2, .int 0, .int 0, .null, .int 0, .int 0, .int 0], vm := .none },
  { cls := 6, slots := #[.null, .int 3, .int 0, .int 0, .null, .int 0, .int 0, .int 0], vm := .none },
  { cls := 6, slots := #[.null, .int 4, .int 0, .int 0, .null, .int 0, .int 0, .int 0], vm := .none },
  { cls := 6, slots := #[.null, .int 5, .int 0, .int 0, .null, .int 0, .int 0, .int 0], vm := .none },
  { cls := 6, slots := #[.null, .int 6, .int 0, .int 0, .null, .int 0, .int 0, .int 0], vm := .none },
  { cls := 6, slots := #[.null, .int 7, .int 0, .int 0, .null, .int 0, .int 0, .int 0], vm := .none },
  { cls := 6, slots := #[.null, .int 8, .int 0, .int 0, .null, .int 1, .int 0, .int 0], vm := .none },
  { cls := 6, slots := #[.null, .int 9, .int 0, .int 0, .null, .int 0, .int 0, .int 0], vm := .none }]
def classes : Array Class := #[k0, k1, k2, k3, k4, k5, k6, k7, k8, k9, k10, k11]
def interned : List (Array UInt16 × Addr) := []
def slotsUsed : Nat := 91
def theMethod : MethodId := ⟨1, 1⟩
def args0 : Array Value := #[.int 5, .int 1]
def aboutOver (below : List Frame) : State where
  vm := { classes := classes, interned := interned.toArray }
  heap := heap
  slotsUsed := slotsUsed
  threads := #[{ frames := .invoking theMethod args0 :: below }]
def below0 : List Frame := [.native { method := ⟨0, 0⟩, args := #[] }]
def about1 : State := aboutOver below0
def p0 : Program := .bare "" "" ""
def e0 : Env := launch0.env 0 0 0
theorem w_frames : about1.frames = Frame.invoking theMethod args0 :: below0 := rfl
set_option maxRecDepth 65536 in
theorem w_args : argsFit about1.vm theMethod args0 = true := by decide +kernel
set_option maxRecDepth 65536 in
theorem w_heap : heapFits about1 = true := by decide +kernel
set_option maxRecDepth 65536 in
theorem w_runnable : about1.curStatus? = some .runnable := by decide +kernel
set_option maxRecDepth 65536 in
theorem w_alone : about1.alone = true := by decide +kernel
set_option maxRecDepth 65536 in
theorem w_named : about1.methodNamed? x = some theMethod := by decide +kernel
set_option maxRecDepth 65536 in
theorem w_hears : about1.hears theMethod below0 = true := by decide +kernel
set_option maxRecDepth 65536 in
theorem w_ripe : about1.ripe theMethod args0 below0 = true := by decide +kernel
theorem w_running : about1.status = .running := rfl
set_option maxRecDepth 65536 in
theorem w_room : about1.hasRoom e0.platform room_1 = true :=
  launch0.hasRoom_least _ room_1 (by decide +kernel) (by decide +kernel) (by decide +kernel) (by decide +kernel) (by decide +kernel) (by decide +kernel)
theorem allAtoms_all (ts : List Jvm.Cond) (a : Array Jvm.Value) (st : Jvm.State) : (allAtoms ts).before a st = ts.all (fun c => c.before a st) := by
  induction ts with
  | nil => rfl
  | cons c t ih =>
    show (Jvm.Cond.and c (allAtoms t)).before a st = _
    rw [Jvm.Cond.before_and, ih, List.all_cons]
def words1 : List Jvm.Cond := Jvm.Cond.code x code maxLocals ret :: tables_1
/-- a 'code' word, met by the world's own term for the bytes: nothing is compared byte by byte -/
theorem code_word {y : MethodName} {bytes : ByteArray} {mx : Nat} {rt : Option FieldType} {a : Array Value} {s : State} {m : MethodId} {meth : Method} {c : Code} (h1 : s.methodNamed? y = some m) (h2 : s.vm.method? m = some meth) (h3 : meth.code = some c) (h4 : c.code = bytes)
    (h5 : (c.maxLocals == mx && c.exceptionTable.isEmpty && decide (c.maxStack ≤ mostOperands) && decide (meth.sig.returnType = rt) && !meth.locks && decide (parseMethodDescriptor y.desc = some meth.sig)) = true) : (Jvm.Cond.code y bytes mx rt).before a s = true := by
  simp only [Bool.and_eq_true, beq_iff_eq, Bool.not_eq_true', decide_eq_true_eq] at h5
  obtain ⟨⟨⟨⟨⟨g1, g2⟩, g3⟩, g4⟩, g5⟩, g6⟩ := h5
  simp [Cond.before, Cond.holds, Cond.value, h1, h2, h3, h4, g1, g2, g3, g4, g5, g6]
def isCode : Jvm.Cond → Bool
  | .code _ _ _ _ => true
  | _ => false
theorem all_split {L : List Jvm.Cond} {P : Jvm.Cond → Bool} (h1 : L.all (fun c => isCode c || P c) = true) (h2 : ∀ c ∈ L.filter isCode, P c = true) : L.all P = true := by
  refine List.all_eq_true.mpr fun c hc => ?_
  have h := List.all_eq_true.mp h1 c hc
  rcases Bool.eq_false_or_eq_true (isCode c) with hi | hi
  · exact h2 c (List.mem_filter.mpr ⟨hc, hi⟩)
  · simpa [hi] using h
set_option maxRecDepth 65536 in
theorem w_c0 : (Jvm.Cond.code x code maxLocals ret).before args0 about1 = true := code_word (m := ⟨1, 1⟩) (meth := k1m1) (c := k1c1) (by decide +kernel) rfl rfl rfl (by decide +kernel)
set_option maxRecDepth 65536 in
theorem w_c1 : (Jvm.Cond.code ({ cls := "com/example/hawser/hawser/rtr/PduTypeIsInPinLaw", name := "pick", desc := "(I)Lcom/example/hawser/hawser/rtr/PduType;" } : Jvm.MethodName) method_3_code (1 : Nat) (Option.some (Jvm.ClassFile.FieldType.object "com/example/hawser/hawser/rtr/PduType"))).before args0 about1 = true := code_word (m := ⟨1, 2⟩) (meth := k1m2) (c := k1c2) (by decide +kernel) rfl rfl rfl (by decide +kernel)
set_option maxRecDepth 65536 in
theorem w_c2 : (Jvm.Cond.code ({ cls := "com/example/hawser/hawser/rtr/PduType", name := "isIn", desc := "(I)Z" } : Jvm.MethodName) prog_59_method_6_code (2 : Nat) (Option.some Jvm.ClassFile.FieldType.boolean)).before args0 about1 = true := code_word (m := ⟨6, 0⟩) (meth := k6m0) (c := k6c0) (by decide +kernel) rfl rfl rfl (by decide +kernel)
def codes1 : List Jvm.Cond := [Jvm.Cond.code x code maxLocals ret, Jvm.Cond.code ({ cls := "com/example/hawser/hawser/rtr/PduTypeIsInPinLaw", name := "pick", desc := "(I)Lcom/example/hawser/hawser/rtr/PduType;" } : Jvm.MethodName) method_3_code (1 : Nat) (Option.some (Jvm.ClassFile.FieldType.object "com/example/hawser/hawser/rtr/PduType")), Jvm.Cond.code ({ cls := "com/example/hawser/hawser/rtr/PduType", name := "isIn", desc := "(I)Z" } : Jvm.MethodName) prog_59_method_6_code (2 : Nat) (Option.some Jvm.ClassFile.FieldType.boolean)]
set_option maxRecDepth 65536 in
theorem codes_eq : words1.filter isCode = codes1 := rfl
theorem w_codes : ∀ c ∈ words1.filter isCode, c.before args0 about1 = true := by
  rw [codes_eq]
  intro c hc
  simp only [codes1, List.mem_cons, List.not_mem_nil, or_false] at hc
  rcases hc with rfl | rfl | rfl
  · exact w_c0
  · exact w_c1
  · exact w_c2
set_option maxRecDepth 65536 in
theorem w_t1 : (words1.take 24).all (fun c => isCode c || c.before args0 about1) = true := by decide +kernel
set_option maxRecDepth 65536 in
theorem w_t2 : (words1.drop 24).all (fun c => isCode c || c.before args0 about1) = true := by decide +kernel
theorem w_tables : (allAtoms (Jvm.Cond.code x code maxLocals ret :: tables_1)).before args0 about1 = true := by
  rw [allAtoms_all]
  show words1.all (fun c => c.before args0 about1) = true
  refine all_split ?_ w_codes
  rw [← List.take_append_drop 24 words1, List.all_append, w_t1, w_t2]
  rfl
set_option maxRecDepth 65536 in
theorem w_case : (Jvm.Cond.and given_1 narrow_1).before args0 about1 = true := by decide +kernel
theorem w_applies : (headSpec (Jvm.Cond.code x code maxLocals ret :: tables_1) room_1).applies x e0.platform about1 = true :=
  (Spec.applies_iff w_frames).mpr ⟨w_running, w_runnable, w_alone, w_named, w_hears, w_ripe, w_room, w_tables⟩
theorem atStart : AtStart classFile x code maxLocals ret World_1 tables_1 room_1 Calls_1 rest_1 Pre_1 launch0 p0 e0 about1 theMethod args0 below0 :=
  ⟨lists_1, trivial, launch0.admits_env _ _ _, launch0.least_env, fairChoices_fair.cas, fairChoices_fair.clock, w_frames, w_args, w_heap, w_applies, trivial, trivial, w_case⟩
end start1
theorem witness_1 : WitnessClaimed_1 := ⟨start1.p0, start1.e0, start1.about1, start1.theMethod, start1.args0, start1.below0, start1.atStart⟩
end Jvm.Pilot.@@N@@
