-- Laid by a program of this session's own, after the kit's print (two functions given by hand). Lean checks it.
import Derived.Test.YtfahabnjplnbmaaGreatDoorMQx0
import Derived.Test.YtfahabnjplnbmaaGreatDoorMQx1
namespace Go.Proofs.YtfahabnjplnbmaaGreatDoor.Q
open Go.RowKit Go.Proofs.YtfahabnjplnbmaaGreatDoorW.PrintWords Go.Proofs.YtfahabnjplnbmaaGreatDoorW.PrintLast Go.Proofs.YtfahabnjplnbmaaGreatDoorW.PrintMore
attribute [local go_sem] max2_int min2_int max_two min_two max_three min_three max_four min_four   -- for this text's walks alone
set_option linter.unusedVariables false
set_option linter.unusedSimpArgs false

/-! ### fiberpath_findNextParamPosition: function 34 -/
mutual
def fiberpath_findNextParamPosition.j0 : Nat → ByteArray → Int → Bool → Option (Int)
  | 0, _, _, _ => none
  | k + 1, x0, x3, x21 => if x21 = true then (if 0 ≤ (wrap64 (x3 + 1)) then (if (wrap64 (x3 + 1)) ≤ (x0.size : Int) then ((fiberpath_parameterStartChars.f).bind fun t112 => ((fiberpath_findNextNonEscapedCharsetPosition.f k (x0.extract ((wrap64 (x3 + 1)) : Int).toNat x0.size) t112).bind fun t115 => (fiberpath_findNextParamPosition.l0 k x0 x3 t115))) else (none)) else (none)) else (some x3)
def fiberpath_findNextParamPosition.l0 : Nat → ByteArray → Int → Int → Option (Int)
  | 0, _, _, _ => none
  | k + 1, x0, x3, x4 => if x4 = 0 then (if (x0.size : Int) > (wrap64 (x3 + 1)) then (some (wrap64 (x3 + 1))) else (fiberpath_findNextParamPosition.l0 k x0 (wrap64 (x3 + 1)) x4)) else (some x3)
end
def fiberpath_findNextParamPosition.f (k : Nat) (a0 : ByteArray) : Option (Int) := (fiberpath_parameterStartChars.f).bind fun t108 => ((fiberpath_findNextNonEscapedCharsetPosition.f k a0 t108).bind fun t111 => (if t111 = (-1) then (fiberpath_findNextParamPosition.j0 k a0 t111 false) else (if (a0.size : Int) > t111 then (if 0 ≤ t111 then (if t111 < (a0.size : Int) then (fiberpath_findNextParamPosition.j0 k a0 t111 ((bt a0 t111) != 42)) else (none)) else (none)) else (fiberpath_findNextParamPosition.j0 k a0 t111 false))))
theorem fiberpath_findNextParamPosition.mono_l : ∀ k, (∀ y0 y1 y2, LeO (fiberpath_findNextParamPosition.j0 k y0 y1 y2) (fiberpath_findNextParamPosition.j0 (k + 1) y0 y1 y2)) ∧ (∀ y0 y1 y2, LeO (fiberpath_findNextParamPosition.l0 k y0 y1 y2) (fiberpath_findNextParamPosition.l0 (k + 1) y0 y1 y2))
  | 0 => ⟨fun _ _ _ r h => by simp [fiberpath_findNextParamPosition.j0] at h, fun _ _ _ r h => by simp [fiberpath_findNextParamPosition.l0] at h⟩
  | k + 1 => by
    obtain ⟨ih0, ih1⟩ := fiberpath_findNextParamPosition.mono_l k
    refine ⟨?_, ?_⟩
    · intro y0 y1 y2
      unfold fiberpath_findNextParamPosition.j0
      repeat' first
      | (with_reducible exact ih0 _ _ _)
      | (with_reducible exact ih1 _ _ _)
      | (with_reducible exact fiberpath_findNextNonEscapedCharsetPosition.mono _ _ _)
      | (with_reducible exact LeO.refl _)
      | (with_reducible exact LeO.none _)
      | (with_reducible refine LeO.ite ?_ ?_)
      | (with_reducible refine LeO.bind ?_ (fun _ => ?_))
      | exact ih0 _ _ _
      | exact ih1 _ _ _
      | exact fiberpath_findNextNonEscapedCharsetPosition.mono _ _ _
      | exact LeO.none _
      | refine LeO.ite ?_ ?_
      | refine LeO.bind ?_ (fun _ => ?_)
    · intro y0 y1 y2
      unfold fiberpath_findNextParamPosition.l0
      repeat' first
      | (with_reducible exact ih0 _ _ _)
      | (with_reducible exact ih1 _ _ _)
      | (with_reducible exact fiberpath_findNextNonEscapedCharsetPosition.mono _ _ _)
      | (with_reducible exact LeO.refl _)
      | (with_reducible exact LeO.none _)
      | (with_reducible refine LeO.ite ?_ ?_)
      | (with_reducible refine LeO.bind ?_ (fun _ => ?_))
      | exact ih0 _ _ _
      | exact ih1 _ _ _
      | exact fiberpath_findNextNonEscapedCharsetPosition.mono _ _ _
      | exact LeO.none _
      | refine LeO.ite ?_ ?_
      | refine LeO.bind ?_ (fun _ => ?_)
theorem fiberpath_findNextParamPosition.mono : ∀ a0 k, LeO (fiberpath_findNextParamPosition.f k a0) (fiberpath_findNextParamPosition.f (k + 1) a0) := by
  intro a0 k
  obtain ⟨ih0, ih1⟩ := fiberpath_findNextParamPosition.mono_l k
  unfold fiberpath_findNextParamPosition.f
  repeat' first
      | (with_reducible exact ih0 _ _ _)
      | (with_reducible exact ih1 _ _ _)
      | (with_reducible exact fiberpath_findNextNonEscapedCharsetPosition.mono _ _ _)
      | (with_reducible exact LeO.refl _)
      | (with_reducible exact LeO.none _)
      | (with_reducible refine LeO.ite ?_ ?_)
      | (with_reducible refine LeO.bind ?_ (fun _ => ?_))
      | exact ih0 _ _ _
      | exact ih1 _ _ _
      | exact fiberpath_findNextNonEscapedCharsetPosition.mono _ _ _
      | exact LeO.none _
      | refine LeO.ite ?_ ?_
      | refine LeO.bind ?_ (fun _ => ?_)
set_option maxHeartbeats 8000000 in
set_option maxRecDepth 100000 in
theorem fiberpath_findNextParamPosition.calls (k : Nat) (a0 : ByteArray) (r : Int) (w : World) (h : fiberpath_findNextParamPosition.f k a0 = some r) :
    Calls Tryz.prog 34 #[.string a0] w fun e w' => e = .returned (.int .i64 r) ∧ Below w.heap.size w w' := by
  have HB := Aside0.mk (Below.refl w.heap.size w)
  have H : ((fiberpath_parameterStartChars.f).bind fun t108 => ((fiberpath_findNextNonEscapedCharsetPosition.f k a0 t108).bind fun t111 => (if t111 = (-1) then (fiberpath_findNextParamPosition.j0 k a0 t111 false) else (if (a0.size : Int) > t111 then (if 0 ≤ t111 then (if t111 < (a0.size : Int) then (fiberpath_findNextParamPosition.j0 k a0 t111 ((bt a0 t111) != 42)) else (none)) else (none)) else (fiberpath_findNextParamPosition.j0 k a0 t111 false))))) = some r := h
  clear h
  replace H := Option.bind_eq_some_iff.mp H
  obtain ⟨t108, A20, H⟩ := H
  replace H : ((fiberpath_findNextNonEscapedCharsetPosition.f k a0 t108).bind fun t111 => (if t111 = (-1) then (fiberpath_findNextParamPosition.j0 k a0 t111 false) else (if (a0.size : Int) > t111 then (if 0 ≤ t111 then (if t111 < (a0.size : Int) then (fiberpath_findNextParamPosition.j0 k a0 t111 ((bt a0 t111) != 42)) else (none)) else (none)) else (fiberpath_findNextParamPosition.j0 k a0 t111 false)))) = some r := H
  have A2 := Aside0.mk A20
  clear A20
  replace H := Option.bind_eq_some_iff.mp H
  obtain ⟨t111, A30, H⟩ := H
  replace H : (if t111 = (-1) then (fiberpath_findNextParamPosition.j0 k a0 t111 false) else (if (a0.size : Int) > t111 then (if 0 ≤ t111 then (if t111 < (a0.size : Int) then (fiberpath_findNextParamPosition.j0 k a0 t111 ((bt a0 t111) != 42)) else (none)) else (none)) else (fiberpath_findNextParamPosition.j0 k a0 t111 false))) = some r := H
  have A3 := Aside0.mk A30
  clear A30
  have HC4 := Aside0.mk H
  clear H
  go_enter Tryz.func34, Tryz.ntmps34
  go_upto_region 2 with (first | ((with_reducible refine gate_callee (f := 49) rfl ?_); refine goesL_ (some 6) rfl rfl Tryz.func49 (by kernel_rfl) rfl #[] rfl (by (try simp only [List.map_toArray, List.map_cons, List.map_nil]); first | done | rfl | (simp only [List.length_drop, List.length_take]; rfl)) ?_; (with_reducible refine (fiberpath_parameterStartChars.calls  t108 _ A2.out).mono ?_); rintro e w5 ⟨v109, rfl, ho0, hb⟩; refine ⟨_, rfl, ?_⟩; have n0_ := Aside0.mk (Kd.R_lower ho0 (below_size (by repeat (first | (with_reducible first | exact HB.out | apply below_alloc | apply pw_below_drewN | apply below_drew1) | exact HB.out)))); have n1_ := Aside0.mk (below_step (by repeat (first | (with_reducible first | exact HB.out | apply below_alloc | apply pw_below_drewN | apply below_drew1) | exact HB.out)) hb); clear HB; have HO110 := n0_; have HB := n1_; clear n0_ n1_; (try clear hb); (try clear hb2); (try clear hk); (try clear hi); (try clear ho0); obtain ⟨Ao6, co6, eo6⟩ := Kd.R_slice HO110.out; subst eo6) | ((with_reducible refine gate_callee (f := 48) rfl ?_); refine goesL_ (some 7) rfl rfl Tryz.func48 (by kernel_rfl) rfl #[.string a0, .slice Ao6 t108.length co6] rfl (by (try simp only [List.map_toArray, List.map_cons, List.map_nil]); first | done | rfl | (simp only [List.length_drop, List.length_take]; rfl)) ?_; (with_reducible refine (fiberpath_findNextNonEscapedCharsetPosition.calls k a0 _ _ t108 t111 _ ?side1 ?side2 A3.out).mono ?_); (case side1 => repeat (first | exact (Kd.R_reads' HO110.out).2.2 | (with_reducible refine Kd.C_alloc ?_ _) | (with_reducible refine Kd.C_drewN ?_ _) | (with_reducible refine Kd.C_drew ?_))); (case side2 => exact (Kd.R_reads' HO110.out).2.1); rintro e w' ⟨rfl, ⟨nd, rfl⟩⟩; refine ⟨_, rfl, ?_⟩))
  (try simp only [Act.put, List.setIfInBounds_toArray, List.set_cons_zero, List.set_cons_succ])
  go_cut [21] (fun v21 wc => ∃ (kq : Nat) (x21_3 : Bool), v21 = .bool x21_3 ∧ Aside0 (fiberpath_findNextParamPosition.j0 kq a0 t111 x21_3 = some r) ∧ Aside0 (kq ≤ k) ∧ Aside0 (Below w.heap.size w wc))
  case first =>
    have H := HC4.out
    clear HC4
    by_cases c7 : t111 = (-1)
    · rw [if_pos c7] at H
      have c7b0 : (t111 == (-1)) = true := beq_iff_eq.mpr c7
      have c7b1 : (t111 != (-1)) = false := bne_eq_false_iff_eq.mpr c7
      clear c7
      (first | rw [c7b0] | (simp only [i64_w, i32_w]; rw [c7b0]) | skip)
      have H' := Aside0.mk H
      clear H
      go_wp2
      go_meet
      case rel => exact ⟨_, (false), (by first | rfl | (simp; done) | (simp [*]; done)), H', ⟨by first | omega | exact Nat.le_refl _⟩, ⟨by repeat (first | (with_reducible first | exact HB.out | apply below_alloc | apply pw_below_drewN | apply below_drew1) | exact HB.out)⟩⟩
    · rw [if_neg c7] at H
      have c7b0 : (t111 == (-1)) = false := beq_eq_false_iff_ne.mpr c7
      have c7b1 : (t111 != (-1)) = true := bne_iff_ne.mpr c7
      (first | rw [c7b0] | (simp only [i64_w, i32_w]; rw [c7b0]) | skip)
      by_cases c8 : (a0.size : Int) > t111
      · rw [if_pos c8] at H
        have c8b0 : decide (t111 < (a0.size : Int)) = true := decide_eq_true c8
        clear c8
        by_cases c9 : 0 ≤ t111
        · rw [if_pos c9] at H
          have c9b0 : decide (0 ≤ t111) = true := decide_eq_true c9
          clear c9
          by_cases c10 : t111 < (a0.size : Int)
          · rw [if_pos c10] at H
            have c10b0 : decide (t111 < (a0.size : Int)) = true := decide_eq_true c10
            clear c10
            have H' := Aside0.mk H
            clear H
            have p11 : 0 ≤ (t111 : Int) := of_decide_eq_true (by first | (with_reducible assumption) | assumption)
            have q11 : t111 < (a0.size : Int) := of_decide_eq_true (by first | (with_reducible assumption) | assumption)
            have hx11 := bt_at a0 t111
            replace p11 := eq_true p11
            replace q11 := eq_true q11
            go_wp2
            go_meet
            case rel => exact ⟨_, (((bt a0 t111) != 42)), (by first | rfl | (simp; done) | (simp [*]; done)), H', ⟨by first | omega | exact Nat.le_refl _⟩, ⟨by repeat (first | (with_reducible first | exact HB.out | apply below_alloc | apply pw_below_drewN | apply below_drew1) | exact HB.out)⟩⟩
          · rw [if_neg c10] at H
            exact absurd H (by simp)
        · rw [if_neg c9] at H
          exact absurd H (by simp)
      · rw [if_neg c8] at H
        have c8b0 : decide (t111 < (a0.size : Int)) = false := decide_eq_false c8
        clear c8
        have H' := Aside0.mk H
        clear H
        go_wp2
        go_meet
        case rel => exact ⟨_, (false), (by first | rfl | (simp; done) | (simp [*]; done)), H', ⟨by first | omega | exact Nat.le_refl _⟩, ⟨by repeat (first | (with_reducible first | exact HB.out | apply below_alloc | apply pw_below_drewN | apply below_drew1) | exact HB.out)⟩⟩
  case rest =>
    clear HC4
    try clear c1
    try clear p1
    try clear q1
    try clear hx1
    try clear p2
    try clear c3
    try clear c4
    try clear c7
    try clear c7b0
    try clear c7b1
    try clear c8
    try clear c8b0
    try clear c9
    try clear c9b0
    try clear c10
    try clear c10b0
    try clear p11
    try clear q11
    try clear hx11
    try clear p11
    try clear q11
    obtain ⟨kq, x21_3, rfl, HA, HJ3, HB⟩ := hcut
    cases kq with
    | zero => exact absurd HA.out (by simp [fiberpath_findNextParamPosition.j0])
    | succ kj3 =>
      have H := HA.out
      clear HA
      simp only [fiberpath_findNextParamPosition.j0] at H
      by_cases c12 : x21_3 = true
      · subst c12
        have H1 : (if 0 ≤ (wrap64 (t111 + 1)) then (if (wrap64 (t111 + 1)) ≤ (a0.size : Int) then ((fiberpath_parameterStartChars.f).bind fun t112 => ((fiberpath_findNextNonEscapedCharsetPosition.f kj3 (a0.extract ((wrap64 (t111 + 1)) : Int).toNat a0.size) t112).bind fun t115 => (fiberpath_findNextParamPosition.l0 kj3 a0 t111 t115))) else (none)) else (none)) = some r := by rw [if_pos rfl] at H; exact H
        clear H
        have H := H1
        clear H1
        obtain ⟨ji13, hji13⟩ : ∃ j_ : Int, (wrap64 (t111 + 1)) = j_ := ⟨_, rfl⟩
        replace H : (if 0 ≤ (ji13) then (if (ji13) ≤ (a0.size : Int) then ((fiberpath_parameterStartChars.f).bind fun t112 => ((fiberpath_findNextNonEscapedCharsetPosition.f kj3 (a0.extract ((ji13) : Int).toNat a0.size) t112).bind fun t115 => (fiberpath_findNextParamPosition.l0 kj3 a0 t111 t115))) else (none)) else (none)) = some r := by first | (rw [hji13] at H; exact H) | (simp only [hji13] at H ⊢; exact H)
        have hji13w : (IntKind.i64.wrap (t111 + 1)) = ji13 := (i64_w _).trans hji13
        by_cases c14 : 0 ≤ (ji13)
        · rw [if_pos c14] at H
          have c14b0 := eq_true c14
          have c14b1 : decide (0 ≤ (ji13)) = true := decide_eq_true c14
          clear c14
          by_cases c15 : (ji13) ≤ (a0.size : Int)
          · rw [if_pos c15] at H
            have c15b0 := eq_true c15
            have c15b1 : decide ((ji13) ≤ (a0.size : Int)) = true := decide_eq_true c15
            clear c15
            replace H := Option.bind_eq_some_iff.mp H
            obtain ⟨t112, A160, H⟩ := H
            replace H : ((fiberpath_findNextNonEscapedCharsetPosition.f kj3 (a0.extract ((ji13) : Int).toNat a0.size) t112).bind fun t115 => (fiberpath_findNextParamPosition.l0 kj3 a0 t111 t115)) = some r := H
            have A16 := Aside0.mk A160
            clear A160
            replace H := Option.bind_eq_some_iff.mp H
            obtain ⟨t115, A170, H⟩ := H
            replace H : (fiberpath_findNextParamPosition.l0 kj3 a0 t111 t115) = some r := H
            have A17 := Aside0.mk A170
            clear A170
            have H' := Aside0.mk H
            clear H
            try go_wp2
            have n0_ := Aside0.mk (below_drew1 HB.out)
            clear HB
            have HB := n0_
            clear n0_
            refine start_ (n := 7) (S := fun w' => True) (ds := []) #[false, false, false, false, false, false, false] (by kernel_rfl) rfl rfl trivial (fun hHeld => ?_)
            generalize wc.drew = w18 at HB hHeld ⊢
            refine pure_ (i := 0) (N := some 22) (v := ?_) (a' := ?_) #[true, false, false, false, false, false, false] rfl rfl (by kernel_rfl) (fun _ _ _ h => h) (Or.inl ⟨by rfl, ?_⟩) ?_ ?_
            rotate_left
            · intro w'
              go_simp
              with_reducible rfl
            rotate_left
            · simp only [Act.put, List.setIfInBounds_toArray, List.set_cons_zero, List.set_cons_succ, i64_w, i32_w]
              rfl
            refine pure_ (i := 1) (N := some 23) (v := ?_) (a' := ?_) #[true, true, false, false, false, false, false] rfl rfl (by kernel_rfl) (fun _ _ _ h => h) (Or.inl ⟨by rfl, ?_⟩) ?_ ?_
            rotate_left
            · intro w'
              go_simp
              with_reducible rfl
            rotate_left
            · simp only [Act.put, List.setIfInBounds_toArray, List.set_cons_zero, List.set_cons_succ, i64_w, i32_w]
              rfl
            refine pure_ (i := 2) (N := some 24) (v := ?_) (a' := ?_) #[true, true, true, false, false, false, false] rfl rfl (by kernel_rfl) (fun _ _ _ h => h) (Or.inl ⟨by rfl, ?_⟩) ?_ ?_
            rotate_left
            · intro w'
              go_simp
              with_reducible rfl
            rotate_left
            · simp only [Act.put, List.setIfInBounds_toArray, List.set_cons_zero, List.set_cons_succ, i64_w, i32_w]
              rfl
            refine pure_ (i := 3) (N := some 25) (v := ?_) (a' := ?_) #[true, true, true, true, false, false, false] rfl rfl (by kernel_rfl) (fun _ _ _ h => h) (Or.inl ⟨by rfl, ?_⟩) ?_ ?_
            rotate_left
            · intro w'
              go_simp
              with_reducible rfl
            rotate_left
            · simp only [Act.put, List.setIfInBounds_toArray, List.set_cons_zero, List.set_cons_succ, i64_w, i32_w]
              rfl
            refine one_ (i := 4) (N := some 26) #[true, true, true, true, true, false, false] rfl rfl (by kernel_rfl) (by decide) (fun K hK => ?_)
            refine goes_ Tryz.func49 (by kernel_rfl) rfl #[] (by rfl) rfl rfl (by (try simp only [List.map_toArray, List.map_cons, List.map_nil]); first | done | rfl | (simp only [List.length_drop, List.length_take]; rfl)) ?_
            with_reducible refine (fiberpath_parameterStartChars.calls  t112 _ A16.out).mono ?_
            rintro e w19 ⟨v113, rfl, ho0, hb⟩
            refine ⟨_, rfl, ?_⟩
            have n0_ := Aside0.mk (Kd.R_lower ho0 (below_size (by repeat (first | (with_reducible first | exact HB.out | apply below_alloc | apply pw_below_drewN | apply below_drew1) | exact HB.out))))
            have n1_ := Aside0.mk (below_step (by repeat (first | (with_reducible first | exact HB.out | apply below_alloc | apply pw_below_drewN | apply below_drew1) | exact HB.out)) hb)
            clear HB
            have HO114 := n0_
            have HB := n1_
            clear n0_ n1_
            (try clear hb)
            (try clear hb2)
            (try clear hk)
            (try clear hi)
            (try clear ho0)
            obtain ⟨Ao20, co20, eo20⟩ := Kd.R_slice HO114.out
            (first | subst eo20 | (injection eo20 with f1_ f2_ f3_; have f4_ := f1_.symm; have f5_ := f3_.symm; clear f1_ f2_ f3_; subst f4_; subst f5_))
            refine hK.out _ _ trivial (fun hHeld => ?_)
            clear hK K
            refine norm_ (a' := ?_) ?_ ?_
            rotate_left
            · show Act.put _ (some 26) _ = _
              simp only [Act.put, List.setIfInBounds_toArray, List.set_cons_zero, List.set_cons_succ, i64_w, i32_w]
              rfl
            refine one_ (i := 5) (N := some 27) #[true, true, true, true, true, true, false] rfl rfl (by kernel_rfl) (by decide) (fun K hK => ?_)
            refine goes_ Tryz.func48 (by kernel_rfl) rfl #[.string (a0.extract ((ji13) : Int).toNat a0.size), .slice Ao20 t112.length co20] (by rfl) rfl rfl (by (try simp only [List.map_toArray, List.map_cons, List.map_nil]); first | done | (simp only [hji13]; rfl) | rfl | (simp only [List.length_drop, List.length_take]; rfl)) ?_
            with_reducible refine (fiberpath_findNextNonEscapedCharsetPosition.calls kj3 (a0.extract ((ji13) : Int).toNat a0.size) _ _ t112 t115 _ ?side1 ?side2 A17.out).mono ?_
            (case side1 => repeat (first | exact (Kd.R_reads' HO114.out).2.2 | (with_reducible refine Kd.C_alloc ?_ _) | (with_reducible refine Kd.C_drewN ?_ _) | (with_reducible refine Kd.C_drew ?_)))
            (case side2 => exact (Kd.R_reads' HO114.out).2.1)
            rintro e w' ⟨rfl, ⟨nd, rfl⟩⟩
            refine ⟨_, rfl, ?_⟩
            refine hK.out _ _ trivial (fun hHeld => ?_)
            clear hK K
            refine norm_ (a' := ?_) ?_ ?_
            rotate_left
            · show Act.put _ (some 27) _ = _
              simp only [Act.put, List.setIfInBounds_toArray, List.set_cons_zero, List.set_cons_succ, i64_w, i32_w]
              rfl
            refine pure_ (i := 6) (N := some 4) (v := ?_) (a' := ?_) #[true, true, true, true, true, true, true] rfl rfl (by kernel_rfl) (fun _ _ _ h => h) (Or.inl ⟨by rfl, ?_⟩) ?_ ?_
            rotate_left
            · intro w'
              go_simp
              with_reducible rfl
            rotate_left
            · simp only [Act.put, List.setIfInBounds_toArray, List.set_cons_zero, List.set_cons_succ, i64_w, i32_w]
              rfl
            refine done_ (by kernel_rfl) ?_
            try go_wp2
            go_loopg [3] kj3 (fun kq v3 w' => ∃ (x3_2 : Int), v3 = .int .i64 x3_2 ∧ Aside0 (fiberpath_findNextParamPosition.l0 kq a0 x3_2 t115 = some r) ∧ Aside0 (kq ≤ kj3) ∧ Aside0 (Below w.heap.size w w'))
            case atStart => exact ⟨(t111), (by first | rfl | (simp; done) | (simp [*]; done)), H', ⟨Nat.le_refl _⟩, ⟨by repeat (first | (with_reducible first | exact HB.out | apply below_alloc | apply pw_below_drewN | apply below_drew1) | exact HB.out)⟩⟩
            case round =>
              clear H'
              try clear c1
              try clear p1
              try clear q1
              try clear hx1
              try clear p2
              try clear c3
              try clear c4
              try clear p6
              try clear c7
              try clear c7b0
              try clear c7b1
              try clear c8
              try clear c8b0
              try clear c9
              try clear c9b0
              try clear c10
              try clear c10b0
              try clear p11
              try clear q11
              try clear hx11
              try clear c12
              try clear c14
              try clear c14b0
              try clear c14b1
              try clear c15
              try clear c15b0
              try clear c15b1
              try clear p1
              try clear p11
              try clear p2
              try clear q1
              try clear q11
              obtain ⟨x3_2, rfl, HA, HK2, HB⟩ := hrel
              cases gk with
              | zero => exact absurd HA.out (by simp [fiberpath_findNextParamPosition.l0])
              | succ k2 =>
                have H := HA.out
                clear HA
                simp only [fiberpath_findNextParamPosition.l0] at H
                by_cases c21 : t115 = 0
                · rw [if_pos c21] at H
                  have c21b0 : (t115 == 0) = true := beq_iff_eq.mpr c21
                  have c21b1 : (t115 != 0) = false := bne_eq_false_iff_eq.mpr c21
                  clear c21
                  by_cases c22 : (a0.size : Int) > (wrap64 (x3_2 + 1))
                  · rw [if_pos c22] at H
                    have c22b0 : decide ((wrap64 (x3_2 + 1)) < (a0.size : Int)) = true := decide_eq_true c22
                    clear c22
                    obtain rfl := Option.some.inj H
                    go_wp2
                    go_ret
                    exact ⟨by first | rfl | (simp [errW_none, errW_some] <;> rfl) | (simp only [← hji13]; first | rfl | (simp [errW_none, errW_some] <;> rfl)) | (simp [*, errW_none, errW_some] <;> rfl), by repeat (first | (with_reducible first | exact HB.out | apply below_alloc | apply pw_below_drewN | apply below_drew1) | exact HB.out)⟩
                  · rw [if_neg c22] at H
                    have c22b0 : decide ((wrap64 (x3_2 + 1)) < (a0.size : Int)) = false := decide_eq_false c22
                    clear c22
                    have H' := Aside0.mk H
                    clear H
                    go_wp2
                    go_roundg k2
                    case measure => have := HJ3.out; have := HK2.out; omega
                    case rel => exact ⟨(wrap64 (x3_2 + 1)), (by first | rfl | (simp; done) | (simp [*]; done)), H', ⟨by have := HJ3.out; have := HK2.out; omega⟩, ⟨by repeat (first | (with_reducible first | exact HB.out | apply below_alloc | apply pw_below_drewN | apply below_drew1) | exact HB.out)⟩⟩
                · rw [if_neg c21] at H
                  have c21b0 : (t115 == 0) = false := beq_eq_false_iff_ne.mpr c21
                  have c21b1 : (t115 != 0) = true := bne_iff_ne.mpr c21
                  obtain rfl := Option.some.inj H
                  go_wp2
                  go_ret
                  exact ⟨by first | rfl | (simp [errW_none, errW_some] <;> rfl) | (simp only [← hji13]; first | rfl | (simp [errW_none, errW_some] <;> rfl)) | (simp [*, errW_none, errW_some] <;> rfl), by repeat (first | (with_reducible first | exact HB.out | apply below_alloc | apply pw_below_drewN | apply below_drew1) | exact HB.out)⟩
          · rw [if_neg c15] at H
            exact absurd H (by simp)
        · rw [if_neg c14] at H
          exact absurd H (by simp)
      · replace c12 := Bool.eq_false_iff.mpr c12
        subst c12
        have H1 : (some t111) = some r := by rw [if_neg (show ¬ (false = true) by decide)] at H; exact H
        clear H
        have H := H1
        clear H1
        obtain rfl := Option.some.inj H
        go_wp2
        go_ret
        exact ⟨by first | rfl | (simp [errW_none, errW_some] <;> rfl) | (simp [*, errW_none, errW_some] <;> rfl), by repeat (first | (with_reducible first | exact HB.out | apply below_alloc | apply pw_below_drewN | apply below_drew1) | exact HB.out)⟩

/-! ### fiberpath_zzWithout: function 41 -/
def fiberpath_zzWithout.l0 : Nat → ByteArray → Int → List Int → Int → Option (ByteArray)
  | 0, _, _, _, _ => none
  | k + 1, x0, x1, x5, x6 => if x6 < (x0.size : Int) then (if 0 ≤ x6 then (if (bt x0 x6) = x1 then (fiberpath_zzWithout.l0 k x0 x1 x5 (wrap64 (x6 + 1))) else (if x5.length < 140737488355328 then (fiberpath_zzWithout.l0 k x0 x1 (x5 ++ [bt x0 x6]) (wrap64 (x6 + 1))) else (none))) else (none)) else (some (strOfNums x5))
def fiberpath_zzWithout.f (k : Nat) (a0 : ByteArray) (a1 : Int) : Option (ByteArray) := fiberpath_zzWithout.l0 k a0 a1 ([] : List Int) 0
theorem fiberpath_zzWithout.mono_l : ∀ k, (∀ y0 y1 y2 y3, LeO (fiberpath_zzWithout.l0 k y0 y1 y2 y3) (fiberpath_zzWithout.l0 (k + 1) y0 y1 y2 y3))
  | 0 => fun _ _ _ _ r h => by simp [fiberpath_zzWithout.l0] at h
  | k + 1 => by
    have ih0 := fiberpath_zzWithout.mono_l k
    · intro y0 y1 y2 y3
      unfold fiberpath_zzWithout.l0
      repeat' first
      | (with_reducible exact ih0 _ _ _ _)
      | (with_reducible exact LeO.refl _)
      | (with_reducible exact LeO.none _)
      | (with_reducible refine LeO.ite ?_ ?_)
      | (with_reducible refine LeO.bind ?_ (fun _ => ?_))
      | exact ih0 _ _ _ _
      | exact LeO.none _
      | refine LeO.ite ?_ ?_
      | refine LeO.bind ?_ (fun _ => ?_)
theorem fiberpath_zzWithout.mono : ∀ a0 a1 k, LeO (fiberpath_zzWithout.f k a0 a1) (fiberpath_zzWithout.f (k + 1) a0 a1) := by
  intro a0 a1 k
  have ih0 := fiberpath_zzWithout.mono_l k
  unfold fiberpath_zzWithout.f
  repeat' first
      | (with_reducible exact ih0 _ _ _ _)
      | (with_reducible exact LeO.refl _)
      | (with_reducible exact LeO.none _)
      | (with_reducible refine LeO.ite ?_ ?_)
      | (with_reducible refine LeO.bind ?_ (fun _ => ?_))
      | exact ih0 _ _ _ _
      | exact LeO.none _
      | refine LeO.ite ?_ ?_
      | refine LeO.bind ?_ (fun _ => ?_)
set_option maxHeartbeats 8000000 in
set_option maxRecDepth 100000 in
theorem fiberpath_zzWithout.calls (k : Nat) (a0 : ByteArray) (a1 : Int) (r : ByteArray) (w : World) (h : fiberpath_zzWithout.f k a0 a1 = some r) :
    Calls Tryz.prog 41 #[.string a0, .int .u8 a1] w fun e w' => e = .returned (.string r) ∧ Below w.heap.size w w' := by
  have HB := Aside0.mk (Below.refl w.heap.size w)
  have H : (fiberpath_zzWithout.l0 k a0 a1 ([] : List Int) 0) = some r := h
  clear h
  have H' := Aside0.mk H
  clear H
  go_enter Tryz.func41, Tryz.ntmps41
  go_wp2
  go_loopg [5, 6] k (fun kq v5 v6 w' => ∃ (x5_1 : List Int) (x6_1 : Int), v6 = .int .i64 x6_1 ∧ Aside0 (fiberpath_zzWithout.l0 kq a0 a1 x5_1 x6_1 = some r) ∧ Aside0 (kq ≤ k) ∧ Aside0 (Kd.R (Kd.int .u8) 5 w' w.heap.size (fun _ => True) v5 x5_1) ∧ Aside0 (Below w.heap.size w w'))
  case atStart => exact ⟨(([] : List Int)), (0), (by first | rfl | (simp; done) | (simp [*]; done)), H', ⟨Nat.le_refl _⟩, ⟨by first | exact Kd.R_nil _ _ _ _ _ | exact Kd.N_nil _ _ _ _ _ | exact Kd.V_nil _ _ _ _ _ | exact Kd.Q_nil _ _ _ _ _ | exact Kd.S_nil _ _ _ _ _⟩, ⟨by repeat (first | (with_reducible first | exact HB.out | apply below_alloc | apply pw_below_drewN | apply below_drew1) | exact HB.out)⟩⟩
  case round =>
    clear H'
    try clear p2
    obtain ⟨x5_1, x6_1, rfl, HA, HK1, HO_5, HB⟩ := hrel
    cases gk with
    | zero => exact absurd HA.out (by simp [fiberpath_zzWithout.l0])
    | succ k1 =>
      have H := HA.out
      clear HA
      simp only [fiberpath_zzWithout.l0] at H
      by_cases c3 : x6_1 < (a0.size : Int)
      · rw [if_pos c3] at H
        have c3b0 : decide (x6_1 < (a0.size : Int)) = true := decide_eq_true c3
        clear c3
        by_cases c4 : 0 ≤ x6_1
        · rw [if_pos c4] at H
          have c4b0 : decide (0 ≤ x6_1) = true := decide_eq_true c4
          clear c4
          by_cases c6 : (bt a0 x6_1) = a1
          · rw [if_pos c6] at H
            have c6b0 : ((bt a0 x6_1) == a1) = true := beq_iff_eq.mpr c6
            have c6b1 : ((bt a0 x6_1) != a1) = false := bne_eq_false_iff_eq.mpr c6
            clear c6
            have H' := Aside0.mk H
            clear H
            have p5 : 0 ≤ (x6_1 : Int) := of_decide_eq_true (by first | (with_reducible assumption) | assumption)
            have q5 : x6_1 < (a0.size : Int) := of_decide_eq_true (by first | (with_reducible assumption) | assumption)
            have hx5 := bt_at a0 x6_1
            replace p5 := eq_true p5
            replace q5 := eq_true q5
            go_wp2
            go_roundg k1
            case measure => have := HK1.out; omega
            case rel => exact ⟨(x5_1), (wrap64 (x6_1 + 1)), (by first | rfl | (simp; done) | (simp [*]; done)), H', ⟨by have := HK1.out; omega⟩, ⟨by (with_reducible repeat (first | apply Kd.R_alloc | apply Kd.R_drewN | apply Kd.R_drew)); exact HO_5.out⟩, ⟨by repeat (first | (with_reducible first | exact HB.out | apply below_alloc | apply pw_below_drewN | apply below_drew1) | exact HB.out)⟩⟩
          · rw [if_neg c6] at H
            have c6b0 : ((bt a0 x6_1) == a1) = false := beq_eq_false_iff_ne.mpr c6
            have c6b1 : ((bt a0 x6_1) != a1) = true := bne_iff_ne.mpr c6
            by_cases c8 : x5_1.length < 140737488355328
            · rw [if_pos c8] at H
              have LMc8 := Aside0.mk c8
              clear c8
              obtain ⟨y116, hy116⟩ : ∃ y_ : List Int, y_ = (x5_1 ++ [bt a0 x6_1]) := ⟨_, rfl⟩
              replace H : (fiberpath_zzWithout.l0 k1 a0 a1 y116 (wrap64 (x6_1 + 1))) = some r := by first | (rw [hy116]; with_reducible exact H) | (have H2_ := (Option.bind_some _ _).symm.trans H; rw [hy116]; with_reducible exact H2_) | (have H2_ := (Option.bind_some _ _).symm.trans H; with_reducible exact H2_) | with_reducible exact H | (rw [hy116]; exact H) | exact H
              have Ny116 := Aside0.mk hy116
              clear hy116
              have H' := Aside0.mk H
              clear H
              have p5 : 0 ≤ (x6_1 : Int) := of_decide_eq_true (by first | (with_reducible assumption) | assumption)
              have q5 : x6_1 < (a0.size : Int) := of_decide_eq_true (by first | (with_reducible assumption) | assumption)
              have hx5 := bt_at a0 x6_1
              replace p5 := eq_true p5
              replace q5 := eq_true q5
              have p7 : 0 ≤ (x6_1 : Int) := of_decide_eq_true (by first | (with_reducible assumption) | assumption)
              have q7 : x6_1 < (a0.size : Int) := of_decide_eq_true (by first | (with_reducible assumption) | assumption)
              have hx7 := bt_at a0 x6_1
              replace p7 := eq_true p7
              replace q7 := eq_true q7
              go_wp2_with (first | ((with_reducible refine gate_builtin (b := .append) (xs := #[.tmp 18, .tmp 22]) rfl ?_); at_builtin; refine Kd.R_append (Kd.int .u8) (w0 := w) w.heap.size rfl (.tmp 18) (.tmp 22) 63 5 (.int .u8 0) 1 rfl Tryz.underlying63 info5 rfl (by decide) (by omega) u5 x5_1 (bt a0 x6_1) [.int .u8 (bt a0 x6_1)] (fun _ => True) (fun _ => False) rfl rfl ?aP (fun _ hk => hk.elim) ?aF ?aO ?aB ?aS ?aL ?_; (case aP => exact rfl); (case aB => exact (by repeat (first | (with_reducible first | exact HB.out | apply below_alloc | apply pw_below_drewN | apply below_drew1) | exact HB.out))); (case aF => exact (fun _ _ => trivial)); (case aO => exact (by (with_reducible repeat (first | apply Kd.R_alloc | apply Kd.R_drewN | apply Kd.R_drew)); exact HO_5.out)); (case aS => exact (below_size (by repeat (first | (with_reducible first | exact HB.out | apply below_alloc | apply pw_below_drewN | apply below_drew1) | exact HB.out)))); (case aL => have := LMc8.out; omega); intro v117 w9 ho hb hg hat; rw [← Ny116.out] at ho; have n0_ := Aside0.mk (hb); have n1_ := Aside0.mk (ho); clear HB; clear HO_5; have HB := n0_; have HO118 := n1_; clear n0_ n1_; clear ho hb hg hat))
              go_roundg k1
              case measure => have := HK1.out; omega
              case rel => exact ⟨(y116), (wrap64 (x6_1 + 1)), (by first | rfl | (simp; done) | (simp [*]; done)), H', ⟨by have := HK1.out; omega⟩, ⟨by (with_reducible repeat (first | apply Kd.R_alloc | apply Kd.R_drewN | apply Kd.R_drew)); exact HO118.out⟩, ⟨by repeat (first | (with_reducible first | exact HB.out | apply below_alloc | apply pw_below_drewN | apply below_drew1) | exact HB.out)⟩⟩
            · rw [if_neg c8] at H
              exact absurd H (by simp)
        · rw [if_neg c4] at H
          exact absurd H (by simp)
      · rw [if_neg c3] at H
        have c3b0 : decide (x6_1 < (a0.size : Int)) = false := decide_eq_false c3
        clear c3
        obtain rfl := Option.some.inj H
        have hcv10 := own_string (P := Tryz.prog) Tryz.underlying63 Tryz.underlying5 Tryz.underlying9 (Kd.own_of_R HO_5.out)
        go_wp2
        go_ret
        exact ⟨by first | rfl | (simp [errW_none, errW_some] <;> rfl) | (simp [*, errW_none, errW_some] <;> rfl), by repeat (first | (with_reducible first | exact HB.out | apply below_alloc | apply pw_below_drewN | apply below_drew1) | exact HB.out)⟩

/-! ### fiberpath_RemoveEscapeChar: function 31 -/
def fiberpath_RemoveEscapeChar.f (k : Nat) (a0 : ByteArray) : Option (ByteArray) := (strings_IndexByte.f a0 92).bind fun t119 => (if t119 = (-1) then (some a0) else ((fiberpath_zzWithout.f k a0 92).bind fun t120 => (some t120)))
theorem fiberpath_RemoveEscapeChar.mono : ∀ a0 k, LeO (fiberpath_RemoveEscapeChar.f k a0) (fiberpath_RemoveEscapeChar.f (k + 1) a0) := by
  intro a0 k
  unfold fiberpath_RemoveEscapeChar.f
  repeat' first
      | (with_reducible exact fiberpath_zzWithout.mono _ _ _)
      | (with_reducible exact LeO.refl _)
      | (with_reducible exact LeO.none _)
      | (with_reducible refine LeO.ite ?_ ?_)
      | (with_reducible refine LeO.bind ?_ (fun _ => ?_))
      | exact fiberpath_zzWithout.mono _ _ _
      | exact LeO.none _
      | refine LeO.ite ?_ ?_
      | refine LeO.bind ?_ (fun _ => ?_)
set_option maxHeartbeats 8000000 in
set_option maxRecDepth 100000 in
theorem fiberpath_RemoveEscapeChar.calls (k : Nat) (a0 : ByteArray) (r : ByteArray) (w : World) (h : fiberpath_RemoveEscapeChar.f k a0 = some r) :
    Calls Tryz.prog 31 #[.string a0] w fun e w' => e = .returned (.string r) ∧ Below w.heap.size w w' := by
  have HB := Aside0.mk (Below.refl w.heap.size w)
  have H : ((strings_IndexByte.f a0 92).bind fun t119 => (if t119 = (-1) then (some a0) else ((fiberpath_zzWithout.f k a0 92).bind fun t120 => (some t120)))) = some r := h
  clear h
  replace H := Option.bind_eq_some_iff.mp H
  obtain ⟨t119, A20, H⟩ := H
  replace H : (if t119 = (-1) then (some a0) else ((fiberpath_zzWithout.f k a0 92).bind fun t120 => (some t120))) = some r := H
  have A2 := Aside0.mk A20
  clear A20
  by_cases c3 : t119 = (-1)
  · rw [if_pos c3] at H
    have c3b0 : (t119 == (-1)) = true := beq_iff_eq.mpr c3
    have c3b1 : (t119 != (-1)) = false := bne_eq_false_iff_eq.mpr c3
    clear c3
    obtain rfl := Option.some.inj H
    go_enter Tryz.func31, Tryz.ntmps31
    go_wp2_with (first | ((with_reducible refine gate_callee (f := 40) rfl ?_); refine goesL_ (some 4) rfl rfl Tryz.func40 (by kernel_rfl) rfl #[.string a0, .int .u8 92] rfl (by (try simp only [List.map_toArray, List.map_cons, List.map_nil]); first | done | rfl | (simp only [List.length_drop, List.length_take]; rfl)) ?_; (with_reducible refine (strings_IndexByte.calls a0 92 t119 _ A2.out).mono ?_); rintro e w' ⟨rfl, ⟨nd, rfl⟩⟩; refine ⟨_, rfl, ?_⟩))
    go_ret
    exact ⟨by first | rfl | (simp [errW_none, errW_some] <;> rfl) | (simp [*, errW_none, errW_some] <;> rfl), by repeat (first | (with_reducible first | exact HB.out | apply below_alloc | apply pw_below_drewN | apply below_drew1) | exact HB.out)⟩
  · rw [if_neg c3] at H
    have c3b0 : (t119 == (-1)) = false := beq_eq_false_iff_ne.mpr c3
    have c3b1 : (t119 != (-1)) = true := bne_iff_ne.mpr c3
    replace H := Option.bind_eq_some_iff.mp H
    obtain ⟨t120, A40, H⟩ := H
    replace H : (some t120) = some r := H
    have A4 := Aside0.mk A40
    clear A40
    obtain rfl := Option.some.inj H
    go_enter Tryz.func31, Tryz.ntmps31
    go_wp2_with (first | ((with_reducible refine gate_callee (f := 40) rfl ?_); refine goesL_ (some 4) rfl rfl Tryz.func40 (by kernel_rfl) rfl #[.string a0, .int .u8 92] rfl (by (try simp only [List.map_toArray, List.map_cons, List.map_nil]); first | done | rfl | (simp only [List.length_drop, List.length_take]; rfl)) ?_; (with_reducible refine (strings_IndexByte.calls a0 92 t119 _ A2.out).mono ?_); rintro e w' ⟨rfl, ⟨nd, rfl⟩⟩; refine ⟨_, rfl, ?_⟩) | ((with_reducible refine gate_callee (f := 41) rfl ?_); refine goesL_ (some 7) rfl rfl Tryz.func41 (by kernel_rfl) rfl #[.string a0, .int .u8 92] rfl (by (try simp only [List.map_toArray, List.map_cons, List.map_nil]); first | done | rfl | (simp only [List.length_drop, List.length_take]; rfl)) ?_; (with_reducible refine (fiberpath_zzWithout.calls k a0 92 t120 _ A4.out).mono ?_); rintro e w5 ⟨rfl, hb⟩; refine ⟨_, rfl, ?_⟩; have n0_ := Aside0.mk (below_step (by repeat (first | (with_reducible first | exact HB.out | apply below_alloc | apply pw_below_drewN | apply below_drew1) | exact HB.out)) hb); clear HB; have HB := n0_; clear n0_; (try clear hb); (try clear hb2); (try clear hk); (try clear hi)))
    go_ret
    exact ⟨by first | rfl | (simp [errW_none, errW_some] <;> rfl) | (simp [*, errW_none, errW_some] <;> rfl), by repeat (first | (with_reducible first | exact HB.out | apply below_alloc | apply pw_below_drewN | apply below_drew1) | exact HB.out)⟩

/-! ### fiberpath_parameterConstraintStartChars: function 55 -/
def fiberpath_parameterConstraintStartChars.f  : Option (List Int) := some (([60] : List Int))
set_option maxHeartbeats 8000000 in
set_option maxRecDepth 100000 in
theorem fiberpath_parameterConstraintStartChars.calls  (r : List Int) (w : World) (h : fiberpath_parameterConstraintStartChars.f  = some r) :
    Calls Tryz.prog 55 #[] w fun e w' => ∃ v0_ : Value, e = .returned (v0_) ∧ Kd.R (Kd.int .u8) 5 w' w.heap.size (fun _ => True) v0_ r ∧ Below w.heap.size w w' := by
  have HB := Aside0.mk (Below.refl w.heap.size w)
  have H : (some (([60] : List Int))) = some r := h
  clear h
  obtain ⟨y121, hy121⟩ : ∃ y_ : List Int, y_ = (([60] : List Int)) := ⟨_, rfl⟩
  replace H : (some y121) = some r := by first | (rw [hy121]; with_reducible exact H) | (have H2_ := (Option.bind_some _ _).symm.trans H; rw [hy121]; with_reducible exact H2_) | (have H2_ := (Option.bind_some _ _).symm.trans H; with_reducible exact H2_) | with_reducible exact H | (rw [hy121]; exact H) | exact H
  have Ny121 := Aside0.mk hy121
  clear hy121
  obtain rfl := Option.some.inj H
  go_enter Tryz.func55, Tryz.ntmps55
  go_wp2_with (first | ((with_reducible refine gate_dst (N := 1) rfl ?_); refine Kd.R_lit (Kd.int .u8) _ 5 ?hg (N := 1) ?hd (xs := ([60] : List Int)) (inner := [.int .u8 60]) (ok := fun _ => True) (okp := fun _ => True) ?hr ?hp (fun _ hk => hk) trivial (Below.refl _ _) (Nat.le_refl _) (by simp) ?_; (case hd => rfl); (case hg => rfl); (case hr => first | (go_simp; done) | (go_simp; rfl)); (case hp => exact (Reps.one (show Kd.M (Kd.int .u8) _ _ _ 60 [.int .u8 60] from rfl) (Reps.none _ _))); intro v122 w1 ho2 hb hg_ hnew_; clear hg_ hnew_; (first | rw [← Ny121.out] at ho2 | (simp only [Int.reduceToNat] at ho2; rw [← Ny121.out] at ho2)); have n0_ := Aside0.mk (Kd.R_lower ho2 (below_size (by repeat (first | (with_reducible first | exact HB.out | apply below_alloc | apply pw_below_drewN | apply below_drew1) | exact HB.out)))); have n1_ := Aside0.mk (below_step (by repeat (first | (with_reducible first | exact HB.out | apply below_alloc | apply pw_below_drewN | apply below_drew1) | exact HB.out)) hb); clear HB; have HO123 := n0_; have HB := n1_; clear n0_ n1_; clear hb ho2))
  go_ret
  exact ⟨_, by first | rfl | (simp [errW_none, errW_some] <;> rfl) | (simp [*, errW_none, errW_some] <;> rfl), by (with_reducible repeat (first | apply Kd.R_alloc | apply Kd.R_drewN | apply Kd.R_drew)); exact HO123.out, by repeat (first | (with_reducible first | exact HB.out | apply below_alloc | apply pw_below_drewN | apply below_drew1) | exact HB.out)⟩

/-! ### fiberpath_parameterConstraintEndChars: function 57 -/
def fiberpath_parameterConstraintEndChars.f  : Option (List Int) := some (([62] : List Int))
set_option maxHeartbeats 8000000 in
set_option maxRecDepth 100000 in
theorem fiberpath_parameterConstraintEndChars.calls  (r : List Int) (w : World) (h : fiberpath_parameterConstraintEndChars.f  = some r) :
    Calls Tryz.prog 57 #[] w fun e w' => ∃ v0_ : Value, e = .returned (v0_) ∧ Kd.R (Kd.int .u8) 5 w' w.heap.size (fun _ => True) v0_ r ∧ Below w.heap.size w w' := by
  have HB := Aside0.mk (Below.refl w.heap.size w)
  have H : (some (([62] : List Int))) = some r := h
  clear h
  obtain ⟨y124, hy124⟩ : ∃ y_ : List Int, y_ = (([62] : List Int)) := ⟨_, rfl⟩
  replace H : (some y124) = some r := by first | (rw [hy124]; with_reducible exact H) | (have H2_ := (Option.bind_some _ _).symm.trans H; rw [hy124]; with_reducible exact H2_) | (have H2_ := (Option.bind_some _ _).symm.trans H; with_reducible exact H2_) | with_reducible exact H | (rw [hy124]; exact H) | exact H
  have Ny124 := Aside0.mk hy124
  clear hy124
  obtain rfl := Option.some.inj H
  go_enter Tryz.func57, Tryz.ntmps57
  go_wp2_with (first | ((with_reducible refine gate_dst (N := 1) rfl ?_); refine Kd.R_lit (Kd.int .u8) _ 5 ?hg (N := 1) ?hd (xs := ([62] : List Int)) (inner := [.int .u8 62]) (ok := fun _ => True) (okp := fun _ => True) ?hr ?hp (fun _ hk => hk) trivial (Below.refl _ _) (Nat.le_refl _) (by simp) ?_; (case hd => rfl); (case hg => rfl); (case hr => first | (go_simp; done) | (go_simp; rfl)); (case hp => exact (Reps.one (show Kd.M (Kd.int .u8) _ _ _ 62 [.int .u8 62] from rfl) (Reps.none _ _))); intro v125 w1 ho2 hb hg_ hnew_; clear hg_ hnew_; (first | rw [← Ny124.out] at ho2 | (simp only [Int.reduceToNat] at ho2; rw [← Ny124.out] at ho2)); have n0_ := Aside0.mk (Kd.R_lower ho2 (below_size (by repeat (first | (with_reducible first | exact HB.out | apply below_alloc | apply pw_below_drewN | apply below_drew1) | exact HB.out)))); have n1_ := Aside0.mk (below_step (by repeat (first | (with_reducible first | exact HB.out | apply below_alloc | apply pw_below_drewN | apply below_drew1) | exact HB.out)) hb); clear HB; have HO126 := n0_; have HB := n1_; clear n0_ n1_; clear hb ho2))
  go_ret
  exact ⟨_, by first | rfl | (simp [errW_none, errW_some] <;> rfl) | (simp [*, errW_none, errW_some] <;> rfl), by (with_reducible repeat (first | apply Kd.R_alloc | apply Kd.R_drewN | apply Kd.R_drew)); exact HO126.out, by repeat (first | (with_reducible first | exact HB.out | apply below_alloc | apply pw_below_drewN | apply below_drew1) | exact HB.out)⟩

/-! ### fiberpath_routeDelimiter: function 78 -/
def fiberpath_routeDelimiter.f  : Option (List Int) := some (([47, 45, 46] : List Int))
set_option maxHeartbeats 8000000 in
set_option maxRecDepth 100000 in
theorem fiberpath_routeDelimiter.calls  (r : List Int) (w : World) (h : fiberpath_routeDelimiter.f  = some r) :
    Calls Tryz.prog 78 #[] w fun e w' => ∃ v0_ : Value, e = .returned (v0_) ∧ Kd.R (Kd.int .u8) 5 w' w.heap.size (fun _ => True) v0_ r ∧ Below w.heap.size w w' := by
  have HB := Aside0.mk (Below.refl w.heap.size w)
  have H : (some (([47, 45, 46] : List Int))) = some r := h
  clear h
  obtain ⟨y127, hy127⟩ : ∃ y_ : List Int, y_ = (([47, 45, 46] : List Int)) := ⟨_, rfl⟩
  replace H : (some y127) = some r := by first | (rw [hy127]; with_reducible exact H) | (have H2_ := (Option.bind_some _ _).symm.trans H; rw [hy127]; with_reducible exact H2_) | (have H2_ := (Option.bind_some _ _).symm.trans H; with_reducible exact H2_) | with_reducible exact H | (rw [hy127]; exact H) | exact H
  have Ny127 := Aside0.mk hy127
  clear hy127
  obtain rfl := Option.some.inj H
  go_enter Tryz.func78, Tryz.ntmps78
  go_wp2_with (first | ((with_reducible refine gate_dst (N := 1) rfl ?_); refine Kd.R_lit (Kd.int .u8) _ 5 ?hg (N := 1) ?hd (xs := ([47, 45, 46] : List Int)) (inner := [.int .u8 47, .int .u8 45, .int .u8 46]) (ok := fun _ => True) (okp := fun _ => True) ?hr ?hp (fun _ hk => hk) trivial (Below.refl _ _) (Nat.le_refl _) (by simp) ?_; (case hd => rfl); (case hg => rfl); (case hr => first | (go_simp; done) | (go_simp; rfl)); (case hp => exact (Reps.one (show Kd.M (Kd.int .u8) _ _ _ 47 [.int .u8 47] from rfl) (Reps.one (show Kd.M (Kd.int .u8) _ _ _ 45 [.int .u8 45] from rfl) (Reps.one (show Kd.M (Kd.int .u8) _ _ _ 46 [.int .u8 46] from rfl) (Reps.none _ _))))); intro v128 w1 ho2 hb hg_ hnew_; clear hg_ hnew_; (first | rw [← Ny127.out] at ho2 | (simp only [Int.reduceToNat] at ho2; rw [← Ny127.out] at ho2)); have n0_ := Aside0.mk (Kd.R_lower ho2 (below_size (by repeat (first | (with_reducible first | exact HB.out | apply below_alloc | apply pw_below_drewN | apply below_drew1) | exact HB.out)))); have n1_ := Aside0.mk (below_step (by repeat (first | (with_reducible first | exact HB.out | apply below_alloc | apply pw_below_drewN | apply below_drew1) | exact HB.out)) hb); clear HB; have HO129 := n0_; have HB := n1_; clear n0_ n1_; clear hb ho2))
  go_ret
  exact ⟨_, by first | rfl | (simp [errW_none, errW_some] <;> rfl) | (simp [*, errW_none, errW_some] <;> rfl), by (with_reducible repeat (first | apply Kd.R_alloc | apply Kd.R_drewN | apply Kd.R_drew)); exact HO129.out, by repeat (first | (with_reducible first | exact HB.out | apply below_alloc | apply pw_below_drewN | apply below_drew1) | exact HB.out)⟩

/-! ### fiberpath_parameterDelimiterChars: function 54 -/
def fiberpath_parameterDelimiterChars.f  : Option (List Int) := (some (([58, 92] : List Int) : List Int)).bind fun y130 => ((fiberpath_routeDelimiter.f).bind fun t133 => (if y130.length + t133.length < 140737488355328 then (some (y130 ++ t133)) else (none)))
set_option maxHeartbeats 8000000 in
set_option maxRecDepth 100000 in
theorem fiberpath_parameterDelimiterChars.calls  (r : List Int) (w : World) (h : fiberpath_parameterDelimiterChars.f  = some r) :
    Calls Tryz.prog 54 #[] w fun e w' => ∃ v0_ : Value, e = .returned (v0_) ∧ Kd.R (Kd.int .u8) 5 w' w.heap.size (fun _ => True) v0_ r ∧ Below w.heap.size w w' := by
  have HB := Aside0.mk (Below.refl w.heap.size w)
  have H : ((some (([58, 92] : List Int) : List Int)).bind fun y130 => ((fiberpath_routeDelimiter.f).bind fun t133 => (if y130.length + t133.length < 140737488355328 then (some (y130 ++ t133)) else (none)))) = some r := h
  clear h
  obtain ⟨y130, hy130⟩ : ∃ y_ : List Int, y_ = (([58, 92] : List Int)) := ⟨_, rfl⟩
  replace H : ((fiberpath_routeDelimiter.f).bind fun t133 => (if y130.length + t133.length < 140737488355328 then (some (y130 ++ t133)) else (none))) = some r := by first | (rw [hy130]; with_reducible exact H) | (have H2_ := (Option.bind_some _ _).symm.trans H; rw [hy130]; with_reducible exact H2_) | (have H2_ := (Option.bind_some _ _).symm.trans H; with_reducible exact H2_) | with_reducible exact H | (rw [hy130]; exact H) | exact H
  have Ny130 := Aside0.mk hy130
  clear hy130
  replace H := Option.bind_eq_some_iff.mp H
  obtain ⟨t133, A10, H⟩ := H
  replace H : (if y130.length + t133.length < 140737488355328 then (some (y130 ++ t133)) else (none)) = some r := H
  have A1 := Aside0.mk A10
  clear A10
  by_cases c2 : y130.length + t133.length < 140737488355328
  · rw [if_pos c2] at H
    have LMc2 := Aside0.mk c2
    clear c2
    obtain ⟨y136, hy136⟩ : ∃ y_ : List Int, y_ = (y130 ++ t133) := ⟨_, rfl⟩
    replace H : (some y136) = some r := by first | (rw [hy136]; with_reducible exact H) | (have H2_ := (Option.bind_some _ _).symm.trans H; rw [hy136]; with_reducible exact H2_) | (have H2_ := (Option.bind_some _ _).symm.trans H; with_reducible exact H2_) | with_reducible exact H | (rw [hy136]; exact H) | exact H
    have Ny136 := Aside0.mk hy136
    clear hy136
    obtain rfl := Option.some.inj H
    go_enter Tryz.func54, Tryz.ntmps54
    go_wp2_with (first | ((with_reducible refine gate_dst (N := 1) rfl ?_); refine Kd.R_lit (Kd.int .u8) _ 5 ?hg (N := 1) ?hd (xs := ([58, 92] : List Int)) (inner := [.int .u8 58, .int .u8 92]) (ok := fun _ => True) (okp := fun _ => True) ?hr ?hp (fun _ hk => hk) trivial (Below.refl _ _) (Nat.le_refl _) (by simp) ?_; (case hd => rfl); (case hg => rfl); (case hr => first | (go_simp; done) | (go_simp; rfl)); (case hp => exact (Reps.one (show Kd.M (Kd.int .u8) _ _ _ 58 [.int .u8 58] from rfl) (Reps.one (show Kd.M (Kd.int .u8) _ _ _ 92 [.int .u8 92] from rfl) (Reps.none _ _)))); intro v131 w3 ho4 hb hg_ hnew_; clear hg_ hnew_; (first | rw [← Ny130.out] at ho4 | (simp only [Int.reduceToNat] at ho4; rw [← Ny130.out] at ho4)); have n0_ := Aside0.mk (Kd.R_lower ho4 (below_size (by repeat (first | (with_reducible first | exact HB.out | apply below_alloc | apply pw_below_drewN | apply below_drew1) | exact HB.out)))); have n1_ := Aside0.mk (below_step (by repeat (first | (with_reducible first | exact HB.out | apply below_alloc | apply pw_below_drewN | apply below_drew1) | exact HB.out)) hb); clear HB; have HO132 := n0_; have HB := n1_; clear n0_ n1_; clear hb ho4) | ((with_reducible refine gate_callee (f := 78) rfl ?_); refine goesL_ (some 2) rfl rfl Tryz.func78 (by kernel_rfl) rfl #[] rfl (by (try simp only [List.map_toArray, List.map_cons, List.map_nil]); first | done | rfl | (simp only [List.length_drop, List.length_take]; rfl)) ?_; (with_reducible refine (fiberpath_routeDelimiter.calls  t133 _ A1.out).mono ?_); rintro e w5 ⟨v134, rfl, ho0, hb⟩; refine ⟨_, rfl, ?_⟩; have n0_ := Aside0.mk (Kd.R_elder' (by (with_reducible repeat (first | apply Kd.R_alloc | apply Kd.R_drewN | apply Kd.R_drew)); exact HO132.out) (Kd.R_base ho0) hb); have n1_ := Aside0.mk (Kd.R_lower (Kd.R_new' ho0 (Kd.R_lt (by (with_reducible repeat (first | apply Kd.R_alloc | apply Kd.R_drewN | apply Kd.R_drew)); exact HO132.out))) (below_size (by repeat (first | (with_reducible first | exact HB.out | apply below_alloc | apply pw_below_drewN | apply below_drew1) | exact HB.out)))); have n2_ := Aside0.mk (below_step (by repeat (first | (with_reducible first | exact HB.out | apply below_alloc | apply pw_below_drewN | apply below_drew1) | exact HB.out)) hb); clear HO132; clear HB; have HO132 := n0_; have HO135 := n1_; have HB := n2_; clear n0_ n1_ n2_; (try clear hb); (try clear hb2); (try clear hk); (try clear hi); (try clear ho0); obtain ⟨Ao7, co7, eo7⟩ := Kd.R_slice HO135.out; subst eo7) | ((with_reducible refine gate_builtin (b := .append) (xs := #[.tmp 1, .tmp 2]) rfl ?_); at_builtin; refine Kd.R_append_rows (Kd.int .u8) (w0 := w) w.heap.size rfl (.tmp 1) (.tmp 2) 63 5 (.int .u8 0) 1 rfl Tryz.underlying63 info5 rfl (by decide) (by omega) v131 y130 t133 _ _ _ (fun k_ => some k_ ≠ (.slice Ao7 t133.length co7 : Value).ownBlock) (fun _ => False) rfl rfl ?aO ?aR (fun _ _ h => h) (fun _ h => h.elim) ?aF ?aB ?aS ?aL ?_; (case aR => repeat (first | exact (Kd.R_reads' HO135.out).2.2 | (with_reducible refine Kd.C_alloc ?_ _) | (with_reducible refine Kd.C_drewN ?_ _) | (with_reducible refine Kd.C_drew ?_))); (case aB => exact (by repeat (first | (with_reducible first | exact HB.out | apply below_alloc | apply pw_below_drewN | apply below_drew1) | exact HB.out))); (case aF => exact (fun k_ hk => Kd.fresh' (Kd.R_lt (by (with_reducible repeat (first | apply Kd.R_alloc | apply Kd.R_drewN | apply Kd.R_drew)); exact HO135.out)) k_ hk)); (case aO => exact (by (with_reducible repeat (first | apply Kd.R_alloc | apply Kd.R_drewN | apply Kd.R_drew)); exact Kd.R_mono HO132.out (fun _ hk => hk.2))); (case aS => exact (below_size (by repeat (first | (with_reducible first | exact HB.out | apply below_alloc | apply pw_below_drewN | apply below_drew1) | exact HB.out)))); (case aL => have := LMc2.out; omega); intro v137 w6 ho hb hg hat; rw [← Ny136.out] at ho; have n0_ := Aside0.mk (Kd.R_after (ok := (fun _ => True)) (by (with_reducible repeat (first | apply Kd.R_alloc | apply Kd.R_drewN | apply Kd.R_drew)); exact HO135.out) hg hat); have n1_ := Aside0.mk (hb); have n2_ := Aside0.mk (ho); clear HO135; clear HB; clear HO132; have HO135 := n0_; have HB := n1_; have HO138 := n2_; clear n0_ n1_ n2_; clear ho hb hg hat))
    go_ret
    exact ⟨_, by first | rfl | (simp [errW_none, errW_some] <;> rfl) | (simp [*, errW_none, errW_some] <;> rfl), by (with_reducible repeat (first | apply Kd.R_alloc | apply Kd.R_drewN | apply Kd.R_drew)); exact Kd.R_mono HO138.out (fun _ hk => trivial), by repeat (first | (with_reducible first | exact HB.out | apply below_alloc | apply pw_below_drewN | apply below_drew1) | exact HB.out)⟩
  · rw [if_neg c2] at H
    exact absurd H (by simp)

/-! ### fiberpath_parameterEndChars: function 52 -/
def fiberpath_parameterEndChars.f  : Option (List Int) := (some (([63] : List Int) : List Int)).bind fun y139 => ((fiberpath_parameterDelimiterChars.f).bind fun t142 => (if y139.length + t142.length < 140737488355328 then (some (y139 ++ t142)) else (none)))
set_option maxHeartbeats 8000000 in
set_option maxRecDepth 100000 in
theorem fiberpath_parameterEndChars.calls  (r : List Int) (w : World) (h : fiberpath_parameterEndChars.f  = some r) :
    Calls Tryz.prog 52 #[] w fun e w' => ∃ v0_ : Value, e = .returned (v0_) ∧ Kd.R (Kd.int .u8) 5 w' w.heap.size (fun _ => True) v0_ r ∧ Below w.heap.size w w' := by
  have HB := Aside0.mk (Below.refl w.heap.size w)
  have H : ((some (([63] : List Int) : List Int)).bind fun y139 => ((fiberpath_parameterDelimiterChars.f).bind fun t142 => (if y139.length + t142.length < 140737488355328 then (some (y139 ++ t142)) else (none)))) = some r := h
  clear h
  obtain ⟨y139, hy139⟩ : ∃ y_ : List Int, y_ = (([63] : List Int)) := ⟨_, rfl⟩
  replace H : ((fiberpath_parameterDelimiterChars.f).bind fun t142 => (if y139.length + t142.length < 140737488355328 then (some (y139 ++ t142)) else (none))) = some r := by first | (rw [hy139]; with_reducible exact H) | (have H2_ := (Option.bind_some _ _).symm.trans H; rw [hy139]; with_reducible exact H2_) | (have H2_ := (Option.bind_some _ _).symm.trans H; with_reducible exact H2_) | with_reducible exact H | (rw [hy139]; exact H) | exact H
  have Ny139 := Aside0.mk hy139
  clear hy139
  replace H := Option.bind_eq_some_iff.mp H
  obtain ⟨t142, A10, H⟩ := H
  replace H : (if y139.length + t142.length < 140737488355328 then (some (y139 ++ t142)) else (none)) = some r := H
  have A1 := Aside0.mk A10
  clear A10
  by_cases c2 : y139.length + t142.length < 140737488355328
  · rw [if_pos c2] at H
    have LMc2 := Aside0.mk c2
    clear c2
    obtain ⟨y145, hy145⟩ : ∃ y_ : List Int, y_ = (y139 ++ t142) := ⟨_, rfl⟩
    replace H : (some y145) = some r := by first | (rw [hy145]; with_reducible exact H) | (have H2_ := (Option.bind_some _ _).symm.trans H; rw [hy145]; with_reducible exact H2_) | (have H2_ := (Option.bind_some _ _).symm.trans H; with_reducible exact H2_) | with_reducible exact H | (rw [hy145]; exact H) | exact H
    have Ny145 := Aside0.mk hy145
    clear hy145
    obtain rfl := Option.some.inj H
    go_enter Tryz.func52, Tryz.ntmps52
    go_wp2_with (first | ((with_reducible refine gate_dst (N := 1) rfl ?_); refine Kd.R_lit (Kd.int .u8) _ 5 ?hg (N := 1) ?hd (xs := ([63] : List Int)) (inner := [.int .u8 63]) (ok := fun _ => True) (okp := fun _ => True) ?hr ?hp (fun _ hk => hk) trivial (Below.refl _ _) (Nat.le_refl _) (by simp) ?_; (case hd => rfl); (case hg => rfl); (case hr => first | (go_simp; done) | (go_simp; rfl)); (case hp => exact (Reps.one (show Kd.M (Kd.int .u8) _ _ _ 63 [.int .u8 63] from rfl) (Reps.none _ _))); intro v140 w3 ho4 hb hg_ hnew_; clear hg_ hnew_; (first | rw [← Ny139.out] at ho4 | (simp only [Int.reduceToNat] at ho4; rw [← Ny139.out] at ho4)); have n0_ := Aside0.mk (Kd.R_lower ho4 (below_size (by repeat (first | (with_reducible first | exact HB.out | apply below_alloc | apply pw_below_drewN | apply below_drew1) | exact HB.out)))); have n1_ := Aside0.mk (below_step (by repeat (first | (with_reducible first | exact HB.out | apply below_alloc | apply pw_below_drewN | apply below_drew1) | exact HB.out)) hb); clear HB; have HO141 := n0_; have HB := n1_; clear n0_ n1_; clear hb ho4) | ((with_reducible refine gate_callee (f := 54) rfl ?_); refine goesL_ (some 2) rfl rfl Tryz.func54 (by kernel_rfl) rfl #[] rfl (by (try simp only [List.map_toArray, List.map_cons, List.map_nil]); first | done | rfl | (simp only [List.length_drop, List.length_take]; rfl)) ?_; (with_reducible refine (fiberpath_parameterDelimiterChars.calls  t142 _ A1.out).mono ?_); rintro e w5 ⟨v143, rfl, ho0, hb⟩; refine ⟨_, rfl, ?_⟩; have n0_ := Aside0.mk (Kd.R_elder' (by (with_reducible repeat (first | apply Kd.R_alloc | apply Kd.R_drewN | apply Kd.R_drew)); exact HO141.out) (Kd.R_base ho0) hb); have n1_ := Aside0.mk (Kd.R_lower (Kd.R_new' ho0 (Kd.R_lt (by (with_reducible repeat (first | apply Kd.R_alloc | apply Kd.R_drewN | apply Kd.R_drew)); exact HO141.out))) (below_size (by repeat (first | (with_reducible first | exact HB.out | apply below_alloc | apply pw_below_drewN | apply below_drew1) | exact HB.out)))); have n2_ := Aside0.mk (below_step (by repeat (first | (with_reducible first | exact HB.out | apply below_alloc | apply pw_below_drewN | apply below_drew1) | exact HB.out)) hb); clear HO141; clear HB; have HO141 := n0_; have HO144 := n1_; have HB := n2_; clear n0_ n1_ n2_; (try clear hb); (try clear hb2); (try clear hk); (try clear hi); (try clear ho0); obtain ⟨Ao7, co7, eo7⟩ := Kd.R_slice HO144.out; subst eo7) | ((with_reducible refine gate_builtin (b := .append) (xs := #[.tmp 1, .tmp 2]) rfl ?_); at_builtin; refine Kd.R_append_rows (Kd.int .u8) (w0 := w) w.heap.size rfl (.tmp 1) (.tmp 2) 63 5 (.int .u8 0) 1 rfl Tryz.underlying63 info5 rfl (by decide) (by omega) v140 y139 t142 _ _ _ (fun k_ => some k_ ≠ (.slice Ao7 t142.length co7 : Value).ownBlock) (fun _ => False) rfl rfl ?aO ?aR (fun _ _ h => h) (fun _ h => h.elim) ?aF ?aB ?aS ?aL ?_; (case aR => repeat (first | exact (Kd.R_reads' HO144.out).2.2 | (with_reducible refine Kd.C_alloc ?_ _) | (with_reducible refine Kd.C_drewN ?_ _) | (with_reducible refine Kd.C_drew ?_))); (case aB => exact (by repeat (first | (with_reducible first | exact HB.out | apply below_alloc | apply pw_below_drewN | apply below_drew1) | exact HB.out))); (case aF => exact (fun k_ hk => Kd.fresh' (Kd.R_lt (by (with_reducible repeat (first | apply Kd.R_alloc | apply Kd.R_drewN | apply Kd.R_drew)); exact HO144.out)) k_ hk)); (case aO => exact (by (with_reducible repeat (first | apply Kd.R_alloc | apply Kd.R_drewN | apply Kd.R_drew)); exact Kd.R_mono HO141.out (fun _ hk => hk.2))); (case aS => exact (below_size (by repeat (first | (with_reducible first | exact HB.out | apply below_alloc | apply pw_below_drewN | apply below_drew1) | exact HB.out)))); (case aL => have := LMc2.out; omega); intro v146 w6 ho hb hg hat; rw [← Ny145.out] at ho; have n0_ := Aside0.mk (Kd.R_after (ok := (fun _ => True)) (by (with_reducible repeat (first | apply Kd.R_alloc | apply Kd.R_drewN | apply Kd.R_drew)); exact HO144.out) hg hat); have n1_ := Aside0.mk (hb); have n2_ := Aside0.mk (ho); clear HO144; clear HB; clear HO141; have HO144 := n0_; have HB := n1_; have HO147 := n2_; clear n0_ n1_ n2_; clear ho hb hg hat))
    go_ret
    exact ⟨_, by first | rfl | (simp [errW_none, errW_some] <;> rfl) | (simp [*, errW_none, errW_some] <;> rfl), by (with_reducible repeat (first | apply Kd.R_alloc | apply Kd.R_drewN | apply Kd.R_drew)); exact Kd.R_mono HO147.out (fun _ hk => trivial), by repeat (first | (with_reducible first | exact HB.out | apply below_alloc | apply pw_below_drewN | apply below_drew1) | exact HB.out)⟩
  · rw [if_neg c2] at H
    exact absurd H (by simp)

/-! ### fiberpath_isInCharset: function 53 -/
def fiberpath_isInCharset.l0 : Nat → Int → List Int → Int → Int → Option (Bool)
  | 0, _, _, _, _ => none
  | k + 1, x0, x7, x8, x9 => if x9 < x8 then (if 0 ≤ x9 then (if x9 < (x7.length : Int) then (if (rd x7 x9) = x0 then (some true) else (fiberpath_isInCharset.l0 k x0 x7 x8 (wrap64 (x9 + 1)))) else (none)) else (none)) else (some false)
def fiberpath_isInCharset.f (k : Nat) (a0 : Int) (l1 : List Int) : Option (Bool) := fiberpath_isInCharset.l0 k a0 l1 (l1.length : Int) 0
theorem fiberpath_isInCharset.mono_l : ∀ k, (∀ y0 y1 y2 y3, LeO (fiberpath_isInCharset.l0 k y0 y1 y2 y3) (fiberpath_isInCharset.l0 (k + 1) y0 y1 y2 y3))
  | 0 => fun _ _ _ _ r h => by simp [fiberpath_isInCharset.l0] at h
  | k + 1 => by
    have ih0 := fiberpath_isInCharset.mono_l k
    · intro y0 y1 y2 y3
      unfold fiberpath_isInCharset.l0
      repeat' first
      | (with_reducible exact ih0 _ _ _ _)
      | (with_reducible exact LeO.refl _)
      | (with_reducible exact LeO.none _)
      | (with_reducible refine LeO.ite ?_ ?_)
      | (with_reducible refine LeO.bind ?_ (fun _ => ?_))
      | exact ih0 _ _ _ _
      | exact LeO.none _
      | refine LeO.ite ?_ ?_
      | refine LeO.bind ?_ (fun _ => ?_)
theorem fiberpath_isInCharset.mono : ∀ a0 a1 k, LeO (fiberpath_isInCharset.f k a0 a1) (fiberpath_isInCharset.f (k + 1) a0 a1) := by
  intro a0 a1 k
  have ih0 := fiberpath_isInCharset.mono_l k
  unfold fiberpath_isInCharset.f
  repeat' first
      | (with_reducible exact ih0 _ _ _ _)
      | (with_reducible exact LeO.refl _)
      | (with_reducible exact LeO.none _)
      | (with_reducible refine LeO.ite ?_ ?_)
      | (with_reducible refine LeO.bind ?_ (fun _ => ?_))
      | exact ih0 _ _ _ _
      | exact LeO.none _
      | refine LeO.ite ?_ ?_
      | refine LeO.bind ?_ (fun _ => ?_)
set_option maxHeartbeats 8000000 in
set_option maxRecDepth 100000 in
theorem fiberpath_isInCharset.calls (k : Nat) (a0 : Int) (A1 : Option Addr) (c1 : Nat) (l1 : List Int) (r : Bool) (w : World) (hr1 : Kd.C (Kd.int .u8) w A1 l1.length l1) (hc1 : l1.length ≤ c1) (h : fiberpath_isInCharset.f k a0 l1 = some r) :
    Calls Tryz.prog 53 #[.int .u8 a0, .slice A1 l1.length c1] w fun e w' => e = .returned (.bool r) ∧ Drawn0 w w' := by
  have HR1 := Aside0.mk hr1
  have HC1 := Aside0.mk hc1
  clear hr1 hc1
  have H : (fiberpath_isInCharset.l0 k a0 l1 (l1.length : Int) 0) = some r := h
  clear h
  have H' := Aside0.mk H
  clear H
  go_enter Tryz.func53, Tryz.ntmps53
  go_wp2
  go_loopg [9] k (fun kq v9 w' => ∃ (x9_1 : Int), v9 = .int .i64 x9_1 ∧ Aside0 (fiberpath_isInCharset.l0 kq a0 l1 (l1.length : Int) x9_1 = some r) ∧ Aside0 (kq ≤ k) ∧ Drawn0 w w')
  case atStart => exact ⟨(0), (by first | rfl | (simp; done) | (simp [*]; done)), H', ⟨Nat.le_refl _⟩, by repeat (first | exact Drawn0.refl _ | apply Drawn0.step)⟩
  case round =>
    clear H'
    try clear c1
    try clear p2
    obtain ⟨x9_1, rfl, HA, HK1, ⟨m1, rfl⟩⟩ := hrel
    cases gk with
    | zero => exact absurd HA.out (by simp [fiberpath_isInCharset.l0])
    | succ k1 =>
      have H := HA.out
      clear HA
      simp only [fiberpath_isInCharset.l0] at H
      by_cases c3 : x9_1 < (l1.length : Int)
      · rw [if_pos c3] at H
        have c3b0 : decide (x9_1 < (l1.length : Int)) = true := decide_eq_true c3
        clear c3
        by_cases c4 : 0 ≤ x9_1
        · rw [if_pos c4] at H
          have c4b0 : decide (0 ≤ x9_1) = true := decide_eq_true c4
          clear c4
          by_cases c5 : x9_1 < (l1.length : Int)
          · rw [if_pos c5] at H
            have c5b0 : decide (x9_1 < (l1.length : Int)) = true := decide_eq_true c5
            clear c5
            by_cases c6 : (rd l1 x9_1) = a0
            · rw [if_pos c6] at H
              have c6b0 : ((rd l1 x9_1) == a0) = true := beq_iff_eq.mpr c6
              have c6b1 : ((rd l1 x9_1) != a0) = false := bne_eq_false_iff_eq.mpr c6
              clear c6
              obtain rfl := Option.some.inj H
              have p148 : 0 ≤ (x9_1 : Int) := of_decide_eq_true (by first | (with_reducible assumption) | assumption)
              have q148 : x9_1 < (l1.length : Int) := of_decide_eq_true (by first | (with_reducible assumption) | assumption)
              obtain ⟨ad148, e148, hx148_0⟩ := Kd.at_int HR1.out x9_1 p148 q148
              cases e148
              replace p148 := eq_true p148
              replace q148 := eq_true q148
              go_wp2
              go_ret
              exact ⟨by first | rfl | (simp; done) | (simp [*]; done), by repeat (first | exact Drawn0.refl _ | apply Drawn0.step)⟩
            · rw [if_neg c6] at H
              have c6b0 : ((rd l1 x9_1) == a0) = false := beq_eq_false_iff_ne.mpr c6
              have c6b1 : ((rd l1 x9_1) != a0) = true := bne_iff_ne.mpr c6
              have H' := Aside0.mk H
              clear H
              have p148 : 0 ≤ (x9_1 : Int) := of_decide_eq_true (by first | (with_reducible assumption) | assumption)
              have q148 : x9_1 < (l1.length : Int) := of_decide_eq_true (by first | (with_reducible assumption) | assumption)
              obtain ⟨ad148, e148, hx148_0⟩ := Kd.at_int HR1.out x9_1 p148 q148
              cases e148
              replace p148 := eq_true p148
              replace q148 := eq_true q148
              go_wp2
              go_roundg k1
              case measure => have := HK1.out; omega
              case rel => exact ⟨(wrap64 (x9_1 + 1)), (by first | rfl | (simp; done) | (simp [*]; done)), H', ⟨by have := HK1.out; omega⟩, by repeat (first | exact Drawn0.refl _ | apply Drawn0.step)⟩
          · rw [if_neg c5] at H
            exact absurd H (by simp)
        · rw [if_neg c4] at H
          exact absurd H (by simp)
      · rw [if_neg c3] at H
        have c3b0 : decide (x9_1 < (l1.length : Int)) = false := decide_eq_false c3
        clear c3
        obtain rfl := Option.some.inj H
        go_wp2
        go_ret
        exact ⟨by first | rfl | (simp; done) | (simp [*]; done), by repeat (first | exact Drawn0.refl _ | apply Drawn0.step)⟩

/-! ### bytealg_LastIndexByteString: function 88 -/
def bytealg_LastIndexByteString.l0 : Nat → ByteArray → Int → Int → Option (Int)
  | 0, _, _, _ => none
  | k + 1, x0, x1, x5 => if x5 ≥ 0 then (if 0 ≤ x5 then (if x5 < (x0.size : Int) then (if (bt x0 x5) = x1 then (some x5) else (bytealg_LastIndexByteString.l0 k x0 x1 (wrap64 (x5 - 1)))) else (none)) else (none)) else (some (-1))
def bytealg_LastIndexByteString.f (k : Nat) (a0 : ByteArray) (a1 : Int) : Option (Int) := bytealg_LastIndexByteString.l0 k a0 a1 (wrap64 ((a0.size : Int) - 1))
theorem bytealg_LastIndexByteString.mono_l : ∀ k, (∀ y0 y1 y2, LeO (bytealg_LastIndexByteString.l0 k y0 y1 y2) (bytealg_LastIndexByteString.l0 (k + 1) y0 y1 y2))
  | 0 => fun _ _ _ r h => by simp [bytealg_LastIndexByteString.l0] at h
  | k + 1 => by
    have ih0 := bytealg_LastIndexByteString.mono_l k
    · intro y0 y1 y2
      unfold bytealg_LastIndexByteString.l0
      repeat' first
      | (with_reducible exact ih0 _ _ _)
      | (with_reducible exact LeO.refl _)
      | (with_reducible exact LeO.none _)
      | (with_reducible refine LeO.ite ?_ ?_)
      | (with_reducible refine LeO.bind ?_ (fun _ => ?_))
      | exact ih0 _ _ _
      | exact LeO.none _
      | refine LeO.ite ?_ ?_
      | refine LeO.bind ?_ (fun _ => ?_)
theorem bytealg_LastIndexByteString.mono : ∀ a0 a1 k, LeO (bytealg_LastIndexByteString.f k a0 a1) (bytealg_LastIndexByteString.f (k + 1) a0 a1) := by
  intro a0 a1 k
  have ih0 := bytealg_LastIndexByteString.mono_l k
  unfold bytealg_LastIndexByteString.f
  repeat' first
      | (with_reducible exact ih0 _ _ _)
      | (with_reducible exact LeO.refl _)
      | (with_reducible exact LeO.none _)
      | (with_reducible refine LeO.ite ?_ ?_)
      | (with_reducible refine LeO.bind ?_ (fun _ => ?_))
      | exact ih0 _ _ _
      | exact LeO.none _
      | refine LeO.ite ?_ ?_
      | refine LeO.bind ?_ (fun _ => ?_)
set_option maxHeartbeats 8000000 in
set_option maxRecDepth 100000 in
theorem bytealg_LastIndexByteString.calls (k : Nat) (a0 : ByteArray) (a1 : Int) (r : Int) (w : World) (h : bytealg_LastIndexByteString.f k a0 a1 = some r) :
    Calls Tryz.prog 88 #[.string a0, .int .u8 a1] w fun e w' => e = .returned (.int .i64 r) ∧ Drawn0 w w' := by
  have H : (bytealg_LastIndexByteString.l0 k a0 a1 (wrap64 ((a0.size : Int) - 1))) = some r := h
  clear h
  have H' := Aside0.mk H
  clear H
  go_enter Tryz.func88, Tryz.ntmps88
  go_wp2
  go_loopg [5] k (fun kq v5 w' => ∃ (x5_1 : Int), v5 = .int .i64 x5_1 ∧ Aside0 (bytealg_LastIndexByteString.l0 kq a0 a1 x5_1 = some r) ∧ Aside0 (kq ≤ k) ∧ Drawn0 w w')
  case atStart => exact ⟨(wrap64 ((a0.size : Int) - 1)), (by first | rfl | (simp; done) | (simp [*]; done)), H', ⟨Nat.le_refl _⟩, by repeat (first | exact Drawn0.refl _ | apply Drawn0.step)⟩
  case round =>
    clear H'
    try clear p2
    obtain ⟨x5_1, rfl, HA, HK1, ⟨m1, rfl⟩⟩ := hrel
    cases gk with
    | zero => exact absurd HA.out (by simp [bytealg_LastIndexByteString.l0])
    | succ k1 =>
      have H := HA.out
      clear HA
      simp only [bytealg_LastIndexByteString.l0] at H
      by_cases c3 : x5_1 ≥ 0
      · rw [if_pos c3] at H
        have c3b0 : decide (0 ≤ x5_1) = true := decide_eq_true c3
        clear c3
        by_cases c4 : 0 ≤ x5_1
        · rw [if_pos c4] at H
          have c4b0 : decide (0 ≤ x5_1) = true := decide_eq_true c4
          clear c4
          by_cases c5 : x5_1 < (a0.size : Int)
          · rw [if_pos c5] at H
            have c5b0 : decide (x5_1 < (a0.size : Int)) = true := decide_eq_true c5
            clear c5
            by_cases c7 : (bt a0 x5_1) = a1
            · rw [if_pos c7] at H
              have c7b0 : ((bt a0 x5_1) == a1) = true := beq_iff_eq.mpr c7
              have c7b1 : ((bt a0 x5_1) != a1) = false := bne_eq_false_iff_eq.mpr c7
              clear c7
              obtain rfl := Option.some.inj H
              have p6 : 0 ≤ (x5_1 : Int) := of_decide_eq_true (by first | (with_reducible assumption) | assumption)
              have q6 : x5_1 < (a0.size : Int) := of_decide_eq_true (by first | (with_reducible assumption) | assumption)
              have hx6 := bt_at a0 x5_1
              replace p6 := eq_true p6
              replace q6 := eq_true q6
              go_wp2
              go_ret
              exact ⟨by first | rfl | (simp; done) | (simp [*]; done), by repeat (first | exact Drawn0.refl _ | apply Drawn0.step)⟩
            · rw [if_neg c7] at H
              have c7b0 : ((bt a0 x5_1) == a1) = false := beq_eq_false_iff_ne.mpr c7
              have c7b1 : ((bt a0 x5_1) != a1) = true := bne_iff_ne.mpr c7
              have H' := Aside0.mk H
              clear H
              have p6 : 0 ≤ (x5_1 : Int) := of_decide_eq_true (by first | (with_reducible assumption) | assumption)
              have q6 : x5_1 < (a0.size : Int) := of_decide_eq_true (by first | (with_reducible assumption) | assumption)
              have hx6 := bt_at a0 x5_1
              replace p6 := eq_true p6
              replace q6 := eq_true q6
              go_wp2
              go_roundg k1
              case measure => have := HK1.out; omega
              case rel => exact ⟨(wrap64 (x5_1 - 1)), (by first | rfl | (simp; done) | (simp [*]; done)), H', ⟨by have := HK1.out; omega⟩, by repeat (first | exact Drawn0.refl _ | apply Drawn0.step)⟩
          · rw [if_neg c5] at H
            exact absurd H (by simp)
        · rw [if_neg c4] at H
          exact absurd H (by simp)
      · rw [if_neg c3] at H
        have c3b0 : decide (0 ≤ x5_1) = false := decide_eq_false c3
        clear c3
        obtain rfl := Option.some.inj H
        go_wp2
        go_ret
        exact ⟨by first | rfl | (simp; done) | (simp [*]; done), by repeat (first | exact Drawn0.refl _ | apply Drawn0.step)⟩

end Go.Proofs.YtfahabnjplnbmaaGreatDoor.Q
