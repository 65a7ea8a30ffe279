-- Laid by a program of this session's own, after the kit's print (two functions given by hand). Lean checks it.
import Derived.Test.YtfahabnjplnbmaaGreatDoorMQx0
import Derived.Test.YtfahabnjplnbmaaGreatDoorMQx4
import Derived.Test.YtfahabnjplnbmaaGreatDoorMQx5
import Derived.Test.YtfahabnjplnbmaaGreatDoorMQx6
import Derived.Test.YtfahabnjplnbmaaGreatDoorMQx8
import Derived.Test.YtfahabnjplnbmaaGreatDoorMLow
namespace Go.Proofs.YtfahabnjplnbmaaGreatDoor.Q
open Go.RowKit Go.Proofs.YtfahabnjplnbmaaGreatDoorW.PrintWords Go.Proofs.YtfahabnjplnbmaaGreatDoorW.PrintLast Go.Proofs.YtfahabnjplnbmaaGreatDoorW.PrintMore
attribute [local go_sem] max2_int min2_int max_two min_two max_three min_three max_four min_four   -- for this text's walks alone
set_option linter.unusedVariables false
set_option linter.unusedSimpArgs false

/-! ### spec_Matches: function 8 -/
mutual
def spec_Matches.j0 : Nat → ByteArray → ByteArray → Bool → Bool → Bool → Option (Int)
  | 0, _, _, _, _, _ => none
  | k + 1, x0, x1, x2, x3, x27 => if x27 = true then (some 2) else (if x2 = true then (spec_Matches.j1 k x0 x1 x3) else ((spec_lower.f x0).bind fun t202 => ((spec_lower.f x1).bind fun t203 => (spec_Matches.j1 k t202 t203 x3))))
def spec_Matches.j1 : Nat → ByteArray → ByteArray → Bool → Option (Int)
  | 0, _, _, _ => none
  | k + 1, x0, x1, x3 => if x3 = true then (spec_Matches.j4 k x0 x1 x3) else (if (x0.size : Int) > 1 then (if 0 ≤ (wrap64 ((x0.size : Int) - 1)) then (if (wrap64 ((x0.size : Int) - 1)) < (x0.size : Int) then (spec_Matches.j2 k x0 x1 x3 ((bt x0 (wrap64 ((x0.size : Int) - 1))) == 47)) else (none)) else (none)) else (spec_Matches.j2 k x0 x1 x3 false))
def spec_Matches.j4 : Nat → ByteArray → ByteArray → Bool → Option (Int)
  | 0, _, _, _ => none
  | k + 1, x0, x1, x3 => (spec_Parts.f k x1).bind fun bt204 => (if bt204.2 = 1 then (if (bt204.1.length : Int) = 1 then (if 0 < (bt204.1.length : Int) then (spec_Matches.j5 k x0 x1 x3 bt204.1 (!((rd_T42 bt204.1 0).f2))) else (none)) else (spec_Matches.j5 k x0 x1 x3 bt204.1 false)) else (some 2))
def spec_Matches.j5 : Nat → ByteArray → ByteArray → Bool → List (S42) → Bool → Option (Int)
  | 0, _, _, _, _, _ => none
  | k + 1, x0, x1, x3, x9, x79 => if x79 = true then (if x0.toList = x1.toList then (some 1) else (some 0)) else (if x3 = true then (if 0 ≤ (wrap64 ((x1.size : Int) - 1)) then (if (wrap64 ((x1.size : Int) - 1)) < (x1.size : Int) then (if (bt x1 (wrap64 ((x1.size : Int) - 1))) = 47 then (some 2) else ((spec_Could.f k x9 x0 false).bind fun t209 => (some t209))) else (none)) else (none)) else ((spec_Could.f k x9 x0 false).bind fun t210 => (some t210)))
def spec_Matches.j2 : Nat → ByteArray → ByteArray → Bool → Bool → Option (Int)
  | 0, _, _, _, _ => none
  | k + 1, x0, x1, x3, x46 => if x46 = true then (some 2) else (spec_Matches.l0 k x0 x1 x3)
def spec_Matches.l0 : Nat → ByteArray → ByteArray → Bool → Option (Int)
  | 0, _, _, _ => none
  | k + 1, x0, x1, x3 => if (x1.size : Int) > 1 then (if 0 ≤ (wrap64 ((x1.size : Int) - 1)) then (if (wrap64 ((x1.size : Int) - 1)) < (x1.size : Int) then (if (bt x1 (wrap64 ((x1.size : Int) - 1))) = 47 then (if (wrap64 ((x1.size : Int) - 1)) ≤ (x1.size : Int) then (spec_Matches.l0 k x0 (x1.extract 0 ((wrap64 ((x1.size : Int) - 1)) : Int).toNat) x3) else (none)) else (spec_Matches.j4 k x0 x1 x3)) else (none)) else (none)) else (spec_Matches.j4 k x0 x1 x3)
end
def spec_Matches.f (k : Nat) (a0 : ByteArray) (a1 : ByteArray) (a2 : Bool) (a3 : Bool) : Option (Int) := (spec_begins.f a0 (⟨#[47]⟩ : ByteArray)).bind fun t199 => (if t199 = true then ((spec_begins.f a1 (⟨#[47]⟩ : ByteArray)).bind fun t200 => (if t200 = true then (if (a1.size : Int) > 1 then ((spec_short.f k a1).bind fun t201 => (spec_Matches.j0 k a0 a1 a2 a3 t201)) else (spec_Matches.j0 k a0 a1 a2 a3 false)) else (spec_Matches.j0 k a0 a1 a2 a3 true))) else (spec_Matches.j0 k a0 a1 a2 a3 true))
theorem spec_Matches.mono_l : ∀ k, (∀ y0 y1 y2 y3 y4, LeO (spec_Matches.j0 k y0 y1 y2 y3 y4) (spec_Matches.j0 (k + 1) y0 y1 y2 y3 y4)) ∧ (∀ y0 y1 y2, LeO (spec_Matches.j1 k y0 y1 y2) (spec_Matches.j1 (k + 1) y0 y1 y2)) ∧ (∀ y0 y1 y2, LeO (spec_Matches.j4 k y0 y1 y2) (spec_Matches.j4 (k + 1) y0 y1 y2)) ∧ (∀ y0 y1 y2 y3 y4, LeO (spec_Matches.j5 k y0 y1 y2 y3 y4) (spec_Matches.j5 (k + 1) y0 y1 y2 y3 y4)) ∧ (∀ y0 y1 y2 y3, LeO (spec_Matches.j2 k y0 y1 y2 y3) (spec_Matches.j2 (k + 1) y0 y1 y2 y3)) ∧ (∀ y0 y1 y2, LeO (spec_Matches.l0 k y0 y1 y2) (spec_Matches.l0 (k + 1) y0 y1 y2))
  | 0 => ⟨fun _ _ _ _ _ r h => by simp [spec_Matches.j0] at h, fun _ _ _ r h => by simp [spec_Matches.j1] at h, fun _ _ _ r h => by simp [spec_Matches.j4] at h, fun _ _ _ _ _ r h => by simp [spec_Matches.j5] at h, fun _ _ _ _ r h => by simp [spec_Matches.j2] at h, fun _ _ _ r h => by simp [spec_Matches.l0] at h⟩
  | k + 1 => by
    obtain ⟨ih0, ih1, ih2, ih3, ih4, ih5⟩ := spec_Matches.mono_l k
    refine ⟨?_, ?_, ?_, ?_, ?_, ?_⟩
    · intro y0 y1 y2 y3 y4
      unfold spec_Matches.j0
      repeat' first
      | (with_reducible exact ih0 _ _ _ _ _)
      | (with_reducible exact ih1 _ _ _)
      | (with_reducible exact ih2 _ _ _)
      | (with_reducible exact ih3 _ _ _ _ _)
      | (with_reducible exact ih4 _ _ _ _)
      | (with_reducible exact ih5 _ _ _)
      | (with_reducible exact spec_Could.mono _ _ _ _)
      | (with_reducible exact spec_Parts.mono _ _)
      | (with_reducible exact spec_short.mono _ _)
      | (with_reducible exact LeO.refl _)
      | (with_reducible exact LeO.none _)
      | (with_reducible refine LeO.ite ?_ ?_)
      | (with_reducible refine LeO.bind ?_ (fun _ => ?_))
      | exact ih0 _ _ _ _ _
      | exact ih1 _ _ _
      | exact ih2 _ _ _
      | exact ih3 _ _ _ _ _
      | exact ih4 _ _ _ _
      | exact ih5 _ _ _
      | exact spec_Could.mono _ _ _ _
      | exact spec_Parts.mono _ _
      | exact spec_short.mono _ _
      | exact LeO.none _
      | refine LeO.ite ?_ ?_
      | refine LeO.bind ?_ (fun _ => ?_)
    · intro y0 y1 y2
      unfold spec_Matches.j1
      repeat' first
      | (with_reducible exact ih0 _ _ _ _ _)
      | (with_reducible exact ih1 _ _ _)
      | (with_reducible exact ih2 _ _ _)
      | (with_reducible exact ih3 _ _ _ _ _)
      | (with_reducible exact ih4 _ _ _ _)
      | (with_reducible exact ih5 _ _ _)
      | (with_reducible exact spec_Could.mono _ _ _ _)
      | (with_reducible exact spec_Parts.mono _ _)
      | (with_reducible exact spec_short.mono _ _)
      | (with_reducible exact LeO.refl _)
      | (with_reducible exact LeO.none _)
      | (with_reducible refine LeO.ite ?_ ?_)
      | (with_reducible refine LeO.bind ?_ (fun _ => ?_))
      | exact ih0 _ _ _ _ _
      | exact ih1 _ _ _
      | exact ih2 _ _ _
      | exact ih3 _ _ _ _ _
      | exact ih4 _ _ _ _
      | exact ih5 _ _ _
      | exact spec_Could.mono _ _ _ _
      | exact spec_Parts.mono _ _
      | exact spec_short.mono _ _
      | exact LeO.none _
      | refine LeO.ite ?_ ?_
      | refine LeO.bind ?_ (fun _ => ?_)
    · intro y0 y1 y2
      unfold spec_Matches.j4
      repeat' first
      | (with_reducible exact ih0 _ _ _ _ _)
      | (with_reducible exact ih1 _ _ _)
      | (with_reducible exact ih2 _ _ _)
      | (with_reducible exact ih3 _ _ _ _ _)
      | (with_reducible exact ih4 _ _ _ _)
      | (with_reducible exact ih5 _ _ _)
      | (with_reducible exact spec_Could.mono _ _ _ _)
      | (with_reducible exact spec_Parts.mono _ _)
      | (with_reducible exact spec_short.mono _ _)
      | (with_reducible exact LeO.refl _)
      | (with_reducible exact LeO.none _)
      | (with_reducible refine LeO.ite ?_ ?_)
      | (with_reducible refine LeO.bind ?_ (fun _ => ?_))
      | exact ih0 _ _ _ _ _
      | exact ih1 _ _ _
      | exact ih2 _ _ _
      | exact ih3 _ _ _ _ _
      | exact ih4 _ _ _ _
      | exact ih5 _ _ _
      | exact spec_Could.mono _ _ _ _
      | exact spec_Parts.mono _ _
      | exact spec_short.mono _ _
      | exact LeO.none _
      | refine LeO.ite ?_ ?_
      | refine LeO.bind ?_ (fun _ => ?_)
    · intro y0 y1 y2 y3 y4
      unfold spec_Matches.j5
      repeat' first
      | (with_reducible exact ih0 _ _ _ _ _)
      | (with_reducible exact ih1 _ _ _)
      | (with_reducible exact ih2 _ _ _)
      | (with_reducible exact ih3 _ _ _ _ _)
      | (with_reducible exact ih4 _ _ _ _)
      | (with_reducible exact ih5 _ _ _)
      | (with_reducible exact spec_Could.mono _ _ _ _)
      | (with_reducible exact spec_Parts.mono _ _)
      | (with_reducible exact spec_short.mono _ _)
      | (with_reducible exact LeO.refl _)
      | (with_reducible exact LeO.none _)
      | (with_reducible refine LeO.ite ?_ ?_)
      | (with_reducible refine LeO.bind ?_ (fun _ => ?_))
      | exact ih0 _ _ _ _ _
      | exact ih1 _ _ _
      | exact ih2 _ _ _
      | exact ih3 _ _ _ _ _
      | exact ih4 _ _ _ _
      | exact ih5 _ _ _
      | exact spec_Could.mono _ _ _ _
      | exact spec_Parts.mono _ _
      | exact spec_short.mono _ _
      | exact LeO.none _
      | refine LeO.ite ?_ ?_
      | refine LeO.bind ?_ (fun _ => ?_)
    · intro y0 y1 y2 y3
      unfold spec_Matches.j2
      repeat' first
      | (with_reducible exact ih0 _ _ _ _ _)
      | (with_reducible exact ih1 _ _ _)
      | (with_reducible exact ih2 _ _ _)
      | (with_reducible exact ih3 _ _ _ _ _)
      | (with_reducible exact ih4 _ _ _ _)
      | (with_reducible exact ih5 _ _ _)
      | (with_reducible exact spec_Could.mono _ _ _ _)
      | (with_reducible exact spec_Parts.mono _ _)
      | (with_reducible exact spec_short.mono _ _)
      | (with_reducible exact LeO.refl _)
      | (with_reducible exact LeO.none _)
      | (with_reducible refine LeO.ite ?_ ?_)
      | (with_reducible refine LeO.bind ?_ (fun _ => ?_))
      | exact ih0 _ _ _ _ _
      | exact ih1 _ _ _
      | exact ih2 _ _ _
      | exact ih3 _ _ _ _ _
      | exact ih4 _ _ _ _
      | exact ih5 _ _ _
      | exact spec_Could.mono _ _ _ _
      | exact spec_Parts.mono _ _
      | exact spec_short.mono _ _
      | exact LeO.none _
      | refine LeO.ite ?_ ?_
      | refine LeO.bind ?_ (fun _ => ?_)
    · intro y0 y1 y2
      unfold spec_Matches.l0
      repeat' first
      | (with_reducible exact ih0 _ _ _ _ _)
      | (with_reducible exact ih1 _ _ _)
      | (with_reducible exact ih2 _ _ _)
      | (with_reducible exact ih3 _ _ _ _ _)
      | (with_reducible exact ih4 _ _ _ _)
      | (with_reducible exact ih5 _ _ _)
      | (with_reducible exact spec_Could.mono _ _ _ _)
      | (with_reducible exact spec_Parts.mono _ _)
      | (with_reducible exact spec_short.mono _ _)
      | (with_reducible exact LeO.refl _)
      | (with_reducible exact LeO.none _)
      | (with_reducible refine LeO.ite ?_ ?_)
      | (with_reducible refine LeO.bind ?_ (fun _ => ?_))
      | exact ih0 _ _ _ _ _
      | exact ih1 _ _ _
      | exact ih2 _ _ _
      | exact ih3 _ _ _ _ _
      | exact ih4 _ _ _ _
      | exact ih5 _ _ _
      | exact spec_Could.mono _ _ _ _
      | exact spec_Parts.mono _ _
      | exact spec_short.mono _ _
      | exact LeO.none _
      | refine LeO.ite ?_ ?_
      | refine LeO.bind ?_ (fun _ => ?_)
theorem spec_Matches.mono : ∀ a0 a1 a2 a3 k, LeO (spec_Matches.f k a0 a1 a2 a3) (spec_Matches.f (k + 1) a0 a1 a2 a3) := by
  intro a0 a1 a2 a3 k
  obtain ⟨ih0, ih1, ih2, ih3, ih4, ih5⟩ := spec_Matches.mono_l k
  unfold spec_Matches.f
  repeat' first
      | (with_reducible exact ih0 _ _ _ _ _)
      | (with_reducible exact ih1 _ _ _)
      | (with_reducible exact ih2 _ _ _)
      | (with_reducible exact ih3 _ _ _ _ _)
      | (with_reducible exact ih4 _ _ _ _)
      | (with_reducible exact ih5 _ _ _)
      | (with_reducible exact spec_Could.mono _ _ _ _)
      | (with_reducible exact spec_Parts.mono _ _)
      | (with_reducible exact spec_short.mono _ _)
      | (with_reducible exact LeO.refl _)
      | (with_reducible exact LeO.none _)
      | (with_reducible refine LeO.ite ?_ ?_)
      | (with_reducible refine LeO.bind ?_ (fun _ => ?_))
      | exact ih0 _ _ _ _ _
      | exact ih1 _ _ _
      | exact ih2 _ _ _
      | exact ih3 _ _ _ _ _
      | exact ih4 _ _ _ _
      | exact ih5 _ _ _
      | exact spec_Could.mono _ _ _ _
      | exact spec_Parts.mono _ _
      | exact spec_short.mono _ _
      | exact LeO.none _
      | refine LeO.ite ?_ ?_
      | refine LeO.bind ?_ (fun _ => ?_)
set_option maxHeartbeats 8000000 in
set_option maxRecDepth 100000 in
theorem spec_Matches.calls (k : Nat) (a0 : ByteArray) (a1 : ByteArray) (a2 : Bool) (a3 : Bool) (r : Int) (w : World) (h : spec_Matches.f k a0 a1 a2 a3 = some r) :
    Calls Tryz.prog 8 #[.string a0, .string a1, .bool a2, .bool a3] w fun e w' => e = .returned (.int .i64 r) ∧ Below w.heap.size w w' := by
  have HB := Aside0.mk (Below.refl w.heap.size w)
  have H : ((spec_begins.f a0 (⟨#[47]⟩ : ByteArray)).bind fun t199 => (if t199 = true then ((spec_begins.f a1 (⟨#[47]⟩ : ByteArray)).bind fun t200 => (if t200 = true then (if (a1.size : Int) > 1 then ((spec_short.f k a1).bind fun t201 => (spec_Matches.j0 k a0 a1 a2 a3 t201)) else (spec_Matches.j0 k a0 a1 a2 a3 false)) else (spec_Matches.j0 k a0 a1 a2 a3 true))) else (spec_Matches.j0 k a0 a1 a2 a3 true))) = some r := h
  clear h
  have HC5 := Aside0.mk H
  clear H
  go_enter Tryz.func8, Tryz.ntmps8
  go_upto_region 1 with (fail)
  go_cut [27] (fun v27 wc => ∃ (kq : Nat) (x27_4 : Bool), v27 = .bool x27_4 ∧ Aside0 (spec_Matches.j0 kq a0 a1 a2 a3 x27_4 = some r) ∧ Aside0 (kq ≤ k) ∧ Aside0 (Below w.heap.size w wc))
  case first =>
    have H := HC5.out
    clear HC5
    replace H := Option.bind_eq_some_iff.mp H
    obtain ⟨t199, A60, H⟩ := H
    replace H : (if t199 = true then ((spec_begins.f a1 (⟨#[47]⟩ : ByteArray)).bind fun t200 => (if t200 = true then (if (a1.size : Int) > 1 then ((spec_short.f k a1).bind fun t201 => (spec_Matches.j0 k a0 a1 a2 a3 t201)) else (spec_Matches.j0 k a0 a1 a2 a3 false)) else (spec_Matches.j0 k a0 a1 a2 a3 true))) else (spec_Matches.j0 k a0 a1 a2 a3 true)) = some r := H
    have A6 := Aside0.mk A60
    clear A60
    by_cases c7 : t199 = true
    · subst c7
      have H1 : ((spec_begins.f a1 (⟨#[47]⟩ : ByteArray)).bind fun t200 => (if t200 = true then (if (a1.size : Int) > 1 then ((spec_short.f k a1).bind fun t201 => (spec_Matches.j0 k a0 a1 a2 a3 t201)) else (spec_Matches.j0 k a0 a1 a2 a3 false)) else (spec_Matches.j0 k a0 a1 a2 a3 true))) = some r := by rw [if_pos rfl] at H; exact H
      clear H
      have H := H1
      clear H1
      replace H := Option.bind_eq_some_iff.mp H
      obtain ⟨t200, A80, H⟩ := H
      replace H : (if t200 = true then (if (a1.size : Int) > 1 then ((spec_short.f k a1).bind fun t201 => (spec_Matches.j0 k a0 a1 a2 a3 t201)) else (spec_Matches.j0 k a0 a1 a2 a3 false)) else (spec_Matches.j0 k a0 a1 a2 a3 true)) = some r := H
      have A8 := Aside0.mk A80
      clear A80
      by_cases c9 : t200 = true
      · subst c9
        have H1 : (if (a1.size : Int) > 1 then ((spec_short.f k a1).bind fun t201 => (spec_Matches.j0 k a0 a1 a2 a3 t201)) else (spec_Matches.j0 k a0 a1 a2 a3 false)) = some r := by rw [if_pos rfl] at H; exact H
        clear H
        have H := H1
        clear H1
        by_cases c10 : (a1.size : Int) > 1
        · rw [if_pos c10] at H
          have c10b0 : decide (1 < (a1.size : Int)) = true := decide_eq_true c10
          have c10b1 : decide (1 < a1.size) = true := decide_eq_true (by omega)
          clear c10
          (first | rw [c10b0] | (simp only [i64_w, i32_w]; rw [c10b0]) | skip)
          replace H := Option.bind_eq_some_iff.mp H
          obtain ⟨t201, A110, H⟩ := H
          replace H : (spec_Matches.j0 k a0 a1 a2 a3 t201) = some r := H
          have A11 := Aside0.mk A110
          clear A110
          have H' := Aside0.mk H
          clear H
          go_wp2_with (first | ((with_reducible refine gate_callee (f := 19) rfl ?_); refine goesL_ (some 12) rfl rfl Tryz.func19 (by kernel_rfl) rfl #[.string a0, .string (⟨#[47]⟩ : ByteArray)] rfl (by (try simp only [List.map_toArray, List.map_cons, List.map_nil]); first | done | rfl | (simp only [List.length_drop, List.length_take]; rfl)) ?_; (with_reducible refine (spec_begins.calls a0 (⟨#[47]⟩ : ByteArray) true _ A6.out).mono ?_); rintro e w' ⟨rfl, ⟨nd, rfl⟩⟩; refine ⟨_, rfl, ?_⟩) | (go_at_call 19; (with_reducible refine (spec_begins.calls a1 (⟨#[47]⟩ : ByteArray) true _ A8.out).mono ?_); rintro e w' ⟨rfl, ⟨nd, rfl⟩⟩) | (go_at_call 18; (with_reducible refine (spec_short.calls k a1 t201 _ A11.out).mono ?_); rintro e w' ⟨rfl, ⟨nd, rfl⟩⟩))
          go_meet
          case rel => exact ⟨_, (t201), (by first | rfl | (simp; done) | (simp [*]; done)), H', ⟨by first | omega | exact Nat.le_refl _⟩, ⟨by repeat (first | (with_reducible first | exact HB.out | apply below_alloc | apply pw_below_drewN | apply below_drew1) | exact HB.out)⟩⟩
        · rw [if_neg c10] at H
          have c10b0 : decide (1 < (a1.size : Int)) = false := decide_eq_false c10
          have c10b1 : decide (1 < a1.size) = false := decide_eq_false (by omega)
          clear c10
          (first | rw [c10b0] | (simp only [i64_w, i32_w]; rw [c10b0]) | skip)
          have H' := Aside0.mk H
          clear H
          go_wp2_with (first | ((with_reducible refine gate_callee (f := 19) rfl ?_); refine goesL_ (some 12) rfl rfl Tryz.func19 (by kernel_rfl) rfl #[.string a0, .string (⟨#[47]⟩ : ByteArray)] rfl (by (try simp only [List.map_toArray, List.map_cons, List.map_nil]); first | done | rfl | (simp only [List.length_drop, List.length_take]; rfl)) ?_; (with_reducible refine (spec_begins.calls a0 (⟨#[47]⟩ : ByteArray) true _ A6.out).mono ?_); rintro e w' ⟨rfl, ⟨nd, rfl⟩⟩; refine ⟨_, rfl, ?_⟩) | (go_at_call 19; (with_reducible refine (spec_begins.calls a1 (⟨#[47]⟩ : ByteArray) true _ A8.out).mono ?_); rintro e w' ⟨rfl, ⟨nd, rfl⟩⟩))
          go_meet
          case rel => exact ⟨_, (false), (by first | rfl | (simp; done) | (simp [*]; done)), H', ⟨by first | omega | exact Nat.le_refl _⟩, ⟨by repeat (first | (with_reducible first | exact HB.out | apply below_alloc | apply pw_below_drewN | apply below_drew1) | exact HB.out)⟩⟩
      · replace c9 := Bool.eq_false_iff.mpr c9
        subst c9
        have H1 : (spec_Matches.j0 k a0 a1 a2 a3 true) = some r := by rw [if_neg (show ¬ (false = true) by decide)] at H; exact H
        clear H
        have H := H1
        clear H1
        have H' := Aside0.mk H
        clear H
        go_wp2_with (first | ((with_reducible refine gate_callee (f := 19) rfl ?_); refine goesL_ (some 12) rfl rfl Tryz.func19 (by kernel_rfl) rfl #[.string a0, .string (⟨#[47]⟩ : ByteArray)] rfl (by (try simp only [List.map_toArray, List.map_cons, List.map_nil]); first | done | rfl | (simp only [List.length_drop, List.length_take]; rfl)) ?_; (with_reducible refine (spec_begins.calls a0 (⟨#[47]⟩ : ByteArray) true _ A6.out).mono ?_); rintro e w' ⟨rfl, ⟨nd, rfl⟩⟩; refine ⟨_, rfl, ?_⟩) | (go_at_call 19; (with_reducible refine (spec_begins.calls a1 (⟨#[47]⟩ : ByteArray) false _ A8.out).mono ?_); rintro e w' ⟨rfl, ⟨nd, rfl⟩⟩))
        go_meet
        case rel => exact ⟨_, (true), (by first | rfl | (simp; done) | (simp [*]; done)), H', ⟨by first | omega | exact Nat.le_refl _⟩, ⟨by repeat (first | (with_reducible first | exact HB.out | apply below_alloc | apply pw_below_drewN | apply below_drew1) | exact HB.out)⟩⟩
    · replace c7 := Bool.eq_false_iff.mpr c7
      subst c7
      have H1 : (spec_Matches.j0 k a0 a1 a2 a3 true) = some r := by rw [if_neg (show ¬ (false = true) by decide)] at H; exact H
      clear H
      have H := H1
      clear H1
      have H' := Aside0.mk H
      clear H
      go_wp2_with (first | ((with_reducible refine gate_callee (f := 19) rfl ?_); refine goesL_ (some 12) rfl rfl Tryz.func19 (by kernel_rfl) rfl #[.string a0, .string (⟨#[47]⟩ : ByteArray)] rfl (by (try simp only [List.map_toArray, List.map_cons, List.map_nil]); first | done | rfl | (simp only [List.length_drop, List.length_take]; rfl)) ?_; (with_reducible refine (spec_begins.calls a0 (⟨#[47]⟩ : ByteArray) false _ A6.out).mono ?_); rintro e w' ⟨rfl, ⟨nd, rfl⟩⟩; refine ⟨_, rfl, ?_⟩))
      go_meet
      case rel => exact ⟨_, (true), (by first | rfl | (simp; done) | (simp [*]; done)), H', ⟨by first | omega | exact Nat.le_refl _⟩, ⟨by repeat (first | (with_reducible first | exact HB.out | apply below_alloc | apply pw_below_drewN | apply below_drew1) | exact HB.out)⟩⟩
  case rest =>
    clear HC5
    try clear c1
    try clear p2
    try clear c7
    try clear c8
    try clear c9
    try clear c10
    try clear c10b0
    try clear c10b1
    obtain ⟨kq, x27_4, rfl, HA, HJ4, HB⟩ := hcut
    cases kq with
    | zero => exact absurd HA.out (by simp [spec_Matches.j0])
    | succ kj4 =>
      have H := HA.out
      clear HA
      simp only [spec_Matches.j0] at H
      by_cases c12 : x27_4 = true
      · subst c12
        have H1 : (some 2) = some r := by rw [if_pos rfl] at H; exact H
        clear H
        have H := H1
        clear H1
        obtain rfl := Option.some.inj H
        go_wp2
        go_ret
        exact ⟨by first | rfl | (simp [errW_none, errW_some] <;> rfl) | (simp [*, errW_none, errW_some] <;> rfl), by repeat (first | (with_reducible first | exact HB.out | apply below_alloc | apply pw_below_drewN | apply below_drew1) | exact HB.out)⟩
      · replace c12 := Bool.eq_false_iff.mpr c12
        subst c12
        have H1 : (if a2 = true then (spec_Matches.j1 kj4 a0 a1 a3) else ((spec_lower.f a0).bind fun t202 => ((spec_lower.f a1).bind fun t203 => (spec_Matches.j1 kj4 t202 t203 a3)))) = some r := by rw [if_neg (show ¬ (false = true) by decide)] at H; exact H
        clear H
        have H := H1
        clear H1
        have HC13 := Aside0.mk H
        clear H
        go_upto_if 29 with (fail)
        go_cut [0, 1] (fun v0 v1 wc => ∃ (kq : Nat) (x0_12 : ByteArray) (x1_12 : ByteArray), v0 = .string x0_12 ∧ v1 = .string x1_12 ∧ Aside0 (spec_Matches.j1 kq x0_12 x1_12 a3 = some r) ∧ Aside0 (kq ≤ kj4) ∧ Aside0 (Below w.heap.size w wc))
        case first =>
          have H := HC13.out
          clear HC13
          by_cases c14 : a2 = true
          · subst c14
            have H1 : (spec_Matches.j1 kj4 a0 a1 a3) = some r := by rw [if_pos rfl] at H; exact H
            clear H
            have H := H1
            clear H1
            have H' := Aside0.mk H
            clear H
            go_wp2
            go_meet
            case rel => exact ⟨_, (a0), (a1), (by first | rfl | (simp; done) | (simp [*]; done)), (by first | rfl | (simp; done) | (simp [*]; done)), H', ⟨by have := HJ4.out; first | omega | exact Nat.le_refl _⟩, ⟨by repeat (first | (with_reducible first | exact HB.out | apply below_alloc | apply pw_below_drewN | apply below_drew1) | exact HB.out)⟩⟩
          · replace c14 := Bool.eq_false_iff.mpr c14
            subst c14
            have H1 : ((spec_lower.f a0).bind fun t202 => ((spec_lower.f a1).bind fun t203 => (spec_Matches.j1 kj4 t202 t203 a3))) = some r := by rw [if_neg (show ¬ (false = true) by decide)] at H; exact H
            clear H
            have H := H1
            clear H1
            replace H := Option.bind_eq_some_iff.mp H
            obtain ⟨t202, A150, H⟩ := H
            replace H : ((spec_lower.f a1).bind fun t203 => (spec_Matches.j1 kj4 t202 t203 a3)) = some r := H
            have A15 := Aside0.mk A150
            clear A150
            replace H := Option.bind_eq_some_iff.mp H
            obtain ⟨t203, A160, H⟩ := H
            replace H : (spec_Matches.j1 kj4 t202 t203 a3) = some r := H
            have A16 := Aside0.mk A160
            clear A160
            have H' := Aside0.mk H
            clear H
            go_wp2_with (first | ((with_reducible refine gate_callee (f := 20) rfl ?_); refine goesL_ (some 31) rfl rfl Tryz.func20 (by kernel_rfl) rfl #[.string a0] rfl (by (try simp only [List.map_toArray, List.map_cons, List.map_nil]); first | done | rfl | (simp only [List.length_drop, List.length_take]; rfl)) ?_; (with_reducible refine (spec_lower.calls a0 t202 _ A15.out).mono ?_); rintro e w17 ⟨rfl, hb⟩; refine ⟨_, rfl, ?_⟩; have n0_ := Aside0.mk (below_step (by repeat (first | (with_reducible first | exact HB.out | apply below_alloc | apply pw_below_drewN | apply below_drew1) | exact HB.out)) hb); clear HB; have HB := n0_; clear n0_; (try clear hb); (try clear hb2); (try clear hk); (try clear hi)) | ((with_reducible refine gate_callee (f := 20) rfl ?_); refine goesL_ (some 33) rfl rfl Tryz.func20 (by kernel_rfl) rfl #[.string a1] rfl (by (try simp only [List.map_toArray, List.map_cons, List.map_nil]); first | done | rfl | (simp only [List.length_drop, List.length_take]; rfl)) ?_; (with_reducible refine (spec_lower.calls a1 t203 _ A16.out).mono ?_); rintro e w18 ⟨rfl, hb⟩; refine ⟨_, rfl, ?_⟩; have n0_ := Aside0.mk (below_step (by repeat (first | (with_reducible first | exact HB.out | apply below_alloc | apply pw_below_drewN | apply below_drew1) | exact HB.out)) hb); clear HB; have HB := n0_; clear n0_; (try clear hb); (try clear hb2); (try clear hk); (try clear hi)))
            go_meet
            case rel => exact ⟨_, (t202), (t203), (by first | rfl | (simp; done) | (simp [*]; done)), (by first | rfl | (simp; done) | (simp [*]; done)), H', ⟨by have := HJ4.out; first | omega | exact Nat.le_refl _⟩, ⟨by repeat (first | (with_reducible first | exact HB.out | apply below_alloc | apply pw_below_drewN | apply below_drew1) | exact HB.out)⟩⟩
        case rest =>
          clear HC13
          try clear c1
          try clear c2
          try clear p2
          try clear c7
          try clear c8
          try clear c9
          try clear c10
          try clear c10b0
          try clear c10b1
          try clear c12
          try clear c14
          try clear p2
          obtain ⟨kq, x0_12, x1_12, rfl, rfl, HA, HJ12, HB⟩ := hcut
          cases kq with
          | zero => exact absurd HA.out (by simp [spec_Matches.j1])
          | succ kj12 =>
            have H := HA.out
            clear HA
            simp only [spec_Matches.j1] at H
            have HC19 := Aside0.mk H
            clear H
            go_upto_if 35 with (fail)
            go_cut [1] (fun v1 wc => ∃ (kq : Nat) (x1_18 : ByteArray), v1 = .string x1_18 ∧ Aside0 (spec_Matches.j4 kq x0_12 x1_18 a3 = some r) ∧ Aside0 (kq ≤ kj12) ∧ Aside0 (Below w.heap.size w wc))
            case first =>
              have H := HC19.out
              clear HC19
              by_cases c20 : a3 = true
              · subst c20
                have H1 : (spec_Matches.j4 kj12 x0_12 x1_12 true) = some r := by rw [if_pos rfl] at H; exact H
                clear H
                have H := H1
                clear H1
                have H' := Aside0.mk H
                clear H
                go_wp2
                go_meet
                case rel => exact ⟨_, (x1_12), (by first | rfl | (simp; done) | (simp [*]; done)), H', ⟨by have := HJ4.out; have := HJ12.out; first | omega | exact Nat.le_refl _⟩, ⟨by repeat (first | (with_reducible first | exact HB.out | apply below_alloc | apply pw_below_drewN | apply below_drew1) | exact HB.out)⟩⟩
              · replace c20 := Bool.eq_false_iff.mpr c20
                subst c20
                have H1 : (if (x0_12.size : Int) > 1 then (if 0 ≤ (wrap64 ((x0_12.size : Int) - 1)) then (if (wrap64 ((x0_12.size : Int) - 1)) < (x0_12.size : Int) then (spec_Matches.j2 kj12 x0_12 x1_12 false ((bt x0_12 (wrap64 ((x0_12.size : Int) - 1))) == 47)) else (none)) else (none)) else (spec_Matches.j2 kj12 x0_12 x1_12 false false)) = some r := by rw [if_neg (show ¬ (false = true) by decide)] at H; exact H
                clear H
                have H := H1
                clear H1
                have HC21 := Aside0.mk H
                clear H
                go_upto_region 6 with (fail)
                go_cut [46] (fun v46 wc => ∃ (kq : Nat) (x46_20 : Bool), v46 = .bool x46_20 ∧ Aside0 (spec_Matches.j2 kq x0_12 x1_12 false x46_20 = some r) ∧ Aside0 (kq ≤ kj12) ∧ Aside0 (Below w.heap.size w wc))
                case first =>
                  have H := HC21.out
                  clear HC21
                  by_cases c22 : (x0_12.size : Int) > 1
                  · rw [if_pos c22] at H
                    have c22b0 : decide (1 < (x0_12.size : Int)) = true := decide_eq_true c22
                    have c22b1 : decide (1 < x0_12.size) = true := decide_eq_true (by omega)
                    clear c22
                    (first | rw [c22b0] | (simp only [i64_w, i32_w]; rw [c22b0]) | skip)
                    obtain ⟨ji23, hji23⟩ : ∃ j_ : Int, (wrap64 ((x0_12.size : Int) - 1)) = j_ := ⟨_, rfl⟩
                    replace H : (if 0 ≤ (ji23) then (if (ji23) < (x0_12.size : Int) then (spec_Matches.j2 kj12 x0_12 x1_12 false ((bt x0_12 (ji23)) == 47)) else (none)) else (none)) = some r := by first | (rw [hji23] at H; exact H) | (simp only [hji23] at H ⊢; exact H)
                    have hji23w : (IntKind.i64.wrap ((x0_12.size : Int) - 1)) = ji23 := (i64_w _).trans hji23
                    by_cases c24 : 0 ≤ (ji23)
                    · rw [if_pos c24] at H
                      have c24b0 : decide (0 ≤ (ji23)) = true := decide_eq_true c24
                      clear c24
                      by_cases c25 : (ji23) < (x0_12.size : Int)
                      · rw [if_pos c25] at H
                        have c25b0 : decide ((ji23) < (x0_12.size : Int)) = true := decide_eq_true c25
                        clear c25
                        have H' := Aside0.mk H
                        clear H
                        have p26 : 0 ≤ ((ji23) : Int) := of_decide_eq_true (by first | (with_reducible assumption) | assumption)
                        have q26 : (ji23) < (x0_12.size : Int) := of_decide_eq_true (by first | (with_reducible assumption) | assumption)
                        have hx26 := bt_at x0_12 (ji23)
                        replace p26 := eq_true p26
                        replace q26 := eq_true q26
                        go_wp2
                        go_meet
                        case rel => exact ⟨_, (((bt x0_12 (ji23)) == 47)), (by first | rfl | (simp; done) | (simp only [← hji23] <;> (first | rfl | simp)) | (simp [*]; done)), H', ⟨by have := HJ4.out; have := HJ12.out; first | omega | exact Nat.le_refl _⟩, ⟨by repeat (first | (with_reducible first | exact HB.out | apply below_alloc | apply pw_below_drewN | apply below_drew1) | exact HB.out)⟩⟩
                      · rw [if_neg c25] at H
                        exact absurd H (by simp)
                    · rw [if_neg c24] at H
                      exact absurd H (by simp)
                  · rw [if_neg c22] at H
                    have c22b0 : decide (1 < (x0_12.size : Int)) = false := decide_eq_false c22
                    have c22b1 : decide (1 < x0_12.size) = false := decide_eq_false (by omega)
                    clear c22
                    (first | rw [c22b0] | (simp only [i64_w, i32_w]; rw [c22b0]) | skip)
                    have H' := Aside0.mk H
                    clear H
                    go_wp2
                    go_meet
                    case rel => exact ⟨_, (false), (by first | rfl | (simp; done) | (simp [*]; done)), H', ⟨by have := HJ4.out; have := HJ12.out; first | omega | exact Nat.le_refl _⟩, ⟨by repeat (first | (with_reducible first | exact HB.out | apply below_alloc | apply pw_below_drewN | apply below_drew1) | exact HB.out)⟩⟩
                case rest =>
                  clear HC21
                  try clear c1
                  try clear c2
                  try clear p2
                  try clear q2
                  try clear hx2
                  try clear p6
                  try clear c7
                  try clear c8
                  try clear c9
                  try clear c10
                  try clear c10b0
                  try clear c10b1
                  try clear c12
                  try clear c14
                  try clear c19
                  try clear c20
                  try clear c22
                  try clear c22b0
                  try clear c22b1
                  try clear c24
                  try clear c24b0
                  try clear c25
                  try clear c25b0
                  try clear p26
                  try clear q26
                  try clear hx26
                  try clear p2
                  try clear p26
                  try clear q26
                  obtain ⟨kq, x46_20, rfl, HA, HJ20, HB⟩ := hcut
                  cases kq with
                  | zero => exact absurd HA.out (by simp [spec_Matches.j2])
                  | succ kj20 =>
                    have H := HA.out
                    clear HA
                    simp only [spec_Matches.j2] at H
                    by_cases c27 : x46_20 = true
                    · subst c27
                      have H1 : (some 2) = some r := by rw [if_pos rfl] at H; exact H
                      clear H
                      have H := H1
                      clear H1
                      obtain rfl := Option.some.inj H
                      go_wp2
                      go_ret
                      exact ⟨by first | rfl | (simp [errW_none, errW_some] <;> rfl) | (simp [*, errW_none, errW_some] <;> rfl), by repeat (first | (with_reducible first | exact HB.out | apply below_alloc | apply pw_below_drewN | apply below_drew1) | exact HB.out)⟩
                    · replace c27 := Bool.eq_false_iff.mpr c27
                      subst c27
                      have H1 : (spec_Matches.l0 kj20 x0_12 x1_12 false) = some r := by rw [if_neg (show ¬ (false = true) by decide)] at H; exact H
                      clear H
                      have H := H1
                      clear H1
                      have H' := Aside0.mk H
                      clear H
                      go_wp2
                      go_loopg [1] kj20 (fun kq v1 w' => ∃ (x1_4 : ByteArray), v1 = .string x1_4 ∧ Aside0 (spec_Matches.l0 kq x0_12 x1_4 false = some r) ∧ Aside0 (kq ≤ kj20) ∧ Aside0 (Below w.heap.size w w'))
                      case atStart => exact ⟨(x1_12), (by first | rfl | (simp; done) | (simp [*]; done)), H', ⟨Nat.le_refl _⟩, ⟨by repeat (first | (with_reducible first | exact HB.out | apply below_alloc | apply pw_below_drewN | apply below_drew1) | exact HB.out)⟩⟩
                      case round =>
                        clear H'
                        try clear c1
                        try clear c2
                        try clear p2
                        try clear q2
                        try clear hx2
                        try clear p6
                        try clear c7
                        try clear c8
                        try clear c9
                        try clear c10
                        try clear c10b0
                        try clear c10b1
                        try clear c12
                        try clear c14
                        try clear c19
                        try clear c20
                        try clear c22
                        try clear c22b0
                        try clear c22b1
                        try clear c24
                        try clear c24b0
                        try clear c25
                        try clear c25b0
                        try clear p26
                        try clear q26
                        try clear hx26
                        try clear c27
                        try clear p2
                        try clear p26
                        try clear p6
                        try clear q2
                        try clear q26
                        obtain ⟨x1_4, rfl, HA, HK4, HB⟩ := hrel
                        cases gk with
                        | zero => exact absurd HA.out (by simp [spec_Matches.l0])
                        | succ k4 =>
                          have H := HA.out
                          clear HA
                          simp only [spec_Matches.l0] at H
                          by_cases c28 : (x1_4.size : Int) > 1
                          · rw [if_pos c28] at H
                            have c28b0 : decide (1 < (x1_4.size : Int)) = true := decide_eq_true c28
                            have c28b1 : decide (1 < x1_4.size) = true := decide_eq_true (by omega)
                            clear c28
                            obtain ⟨ji29, hji29⟩ : ∃ j_ : Int, (wrap64 ((x1_4.size : Int) - 1)) = j_ := ⟨_, rfl⟩
                            replace H : (if 0 ≤ (ji29) then (if (ji29) < (x1_4.size : Int) then (if (bt x1_4 (ji29)) = 47 then (if (ji29) ≤ (x1_4.size : Int) then (spec_Matches.l0 k4 x0_12 (x1_4.extract 0 ((ji29) : Int).toNat) false) else (none)) else (spec_Matches.j4 k4 x0_12 x1_4 false)) else (none)) else (none)) = some r := by first | (rw [hji29] at H; exact H) | (simp only [hji29] at H ⊢; exact H)
                            have hji29w : (IntKind.i64.wrap ((x1_4.size : Int) - 1)) = ji29 := (i64_w _).trans hji29
                            by_cases c30 : 0 ≤ (ji29)
                            · rw [if_pos c30] at H
                              have c30b0 : decide (0 ≤ (ji29)) = true := decide_eq_true c30
                              clear c30
                              by_cases c31 : (ji29) < (x1_4.size : Int)
                              · rw [if_pos c31] at H
                                have c31b0 : decide ((ji29) < (x1_4.size : Int)) = true := decide_eq_true c31
                                clear c31
                                by_cases c33 : (bt x1_4 (ji29)) = 47
                                · rw [if_pos c33] at H
                                  have c33b0 : ((bt x1_4 (ji29)) == 47) = true := beq_iff_eq.mpr c33
                                  have c33b1 : ((bt x1_4 (ji29)) != 47) = false := bne_eq_false_iff_eq.mpr c33
                                  clear c33
                                  have c34b0 := eq_true (of_decide_eq_true (by first | (with_reducible assumption) | assumption) : 0 ≤ (ji29))
                                  by_cases c35 : (ji29) ≤ (x1_4.size : Int)
                                  · rw [if_pos c35] at H
                                    have c35b0 := eq_true c35
                                    have c35b1 : decide ((ji29) ≤ (x1_4.size : Int)) = true := decide_eq_true c35
                                    clear c35
                                    have H' := Aside0.mk H
                                    clear H
                                    have p32 : 0 ≤ ((ji29) : Int) := of_decide_eq_true (by first | (with_reducible assumption) | assumption)
                                    have q32 : (ji29) < (x1_4.size : Int) := of_decide_eq_true (by first | (with_reducible assumption) | assumption)
                                    have hx32 := bt_at x1_4 (ji29)
                                    replace p32 := eq_true p32
                                    replace q32 := eq_true q32
                                    go_wp2
                                    go_roundg k4
                                    case measure => have := HJ4.out; have := HJ12.out; have := HJ20.out; have := HK4.out; omega
                                    case rel => exact ⟨(x1_4.extract 0 ((ji29) : Int).toNat), (by first | rfl | (simp; done) | (simp only [← hji29] <;> (first | rfl | simp)) | (simp [*]; done)), H', ⟨by have := HJ4.out; have := HJ12.out; have := HJ20.out; have := HK4.out; omega⟩, ⟨by repeat (first | (with_reducible first | exact HB.out | apply below_alloc | apply pw_below_drewN | apply below_drew1) | exact HB.out)⟩⟩
                                  · rw [if_neg c35] at H
                                    exact absurd H (by simp)
                                · rw [if_neg c33] at H
                                  have c33b0 : ((bt x1_4 (ji29)) == 47) = false := beq_eq_false_iff_ne.mpr c33
                                  have c33b1 : ((bt x1_4 (ji29)) != 47) = true := bne_iff_ne.mpr c33
                                  have H' := Aside0.mk H
                                  clear H
                                  have p32 : 0 ≤ ((ji29) : Int) := of_decide_eq_true (by first | (with_reducible assumption) | assumption)
                                  have q32 : (ji29) < (x1_4.size : Int) := of_decide_eq_true (by first | (with_reducible assumption) | assumption)
                                  have hx32 := bt_at x1_4 (ji29)
                                  replace p32 := eq_true p32
                                  replace q32 := eq_true q32
                                  go_wp2
                                  go_meet
                                  case rel => exact ⟨_, (x1_4), (by first | rfl | (simp; done) | (simp [*]; done)), H', ⟨by have := HJ4.out; have := HJ12.out; have := HJ20.out; have := HK4.out; first | omega | exact Nat.le_refl _⟩, ⟨by repeat (first | (with_reducible first | exact HB.out | apply below_alloc | apply pw_below_drewN | apply below_drew1) | exact HB.out)⟩⟩
                              · rw [if_neg c31] at H
                                exact absurd H (by simp)
                            · rw [if_neg c30] at H
                              exact absurd H (by simp)
                          · rw [if_neg c28] at H
                            have c28b0 : decide (1 < (x1_4.size : Int)) = false := decide_eq_false c28
                            have c28b1 : decide (1 < x1_4.size) = false := decide_eq_false (by omega)
                            clear c28
                            have H' := Aside0.mk H
                            clear H
                            go_wp2
                            go_meet
                            case rel => exact ⟨_, (x1_4), (by first | rfl | (simp; done) | (simp [*]; done)), H', ⟨by have := HJ4.out; have := HJ12.out; have := HJ20.out; have := HK4.out; first | omega | exact Nat.le_refl _⟩, ⟨by repeat (first | (with_reducible first | exact HB.out | apply below_alloc | apply pw_below_drewN | apply below_drew1) | exact HB.out)⟩⟩
            case rest =>
              clear HC19
              try clear c1
              try clear c2
              try clear p2
              try clear q2
              try clear hx2
              try clear c3
              try clear p3
              try clear q3
              try clear hx3
              try clear p6
              try clear c7
              try clear c8
              try clear c9
              try clear c10
              try clear c10b0
              try clear c10b1
              try clear c12
              try clear c14
              try clear c19
              try clear c20
              try clear c22
              try clear c22b0
              try clear c22b1
              try clear c24
              try clear c24b0
              try clear c25
              try clear c25b0
              try clear p26
              try clear q26
              try clear hx26
              try clear c27
              try clear c28
              try clear c28b0
              try clear c28b1
              try clear c30
              try clear c30b0
              try clear c31
              try clear c31b0
              try clear p32
              try clear q32
              try clear hx32
              try clear c33
              try clear c33b0
              try clear c33b1
              try clear c34
              try clear c34b0
              try clear c35
              try clear c35b0
              try clear c35b1
              try clear p2
              try clear p26
              try clear p32
              try clear p6
              try clear q2
              try clear q26
              try clear q32
              obtain ⟨kq, x1_18, rfl, HA, HJ18, HB⟩ := hcut
              cases kq with
              | zero => exact absurd HA.out (by simp [spec_Matches.j4])
              | succ kj18 =>
                have H := HA.out
                clear HA
                simp only [spec_Matches.j4] at H
                replace H := Option.bind_eq_some_iff.mp H
                obtain ⟨⟨t204, t205⟩, A360, H⟩ := H
                replace H : (if t205 = 1 then (if (t204.length : Int) = 1 then (if 0 < (t204.length : Int) then (spec_Matches.j5 kj18 x0_12 x1_18 a3 t204 (!((rd_T42 t204 0).f2))) else (none)) else (spec_Matches.j5 kj18 x0_12 x1_18 a3 t204 false)) else (some 2)) = some r := H
                have A36 := Aside0.mk A360
                clear A360
                by_cases c37 : t205 = 1
                · rw [if_pos c37] at H
                  have c37b0 : (t205 == 1) = true := beq_iff_eq.mpr c37
                  have c37b1 : (t205 != 1) = false := bne_eq_false_iff_eq.mpr c37
                  clear c37
                  have HC38 := Aside0.mk H
                  clear H
                  go_upto_region 13 with (first | ((with_reducible refine gate_callee (f := 6) rfl ?_); refine goesL_ (some 65) rfl rfl Tryz.func6 (by kernel_rfl) rfl #[.string x1_18] rfl (by (try simp only [List.map_toArray, List.map_cons, List.map_nil]); first | done | rfl | (simp only [List.length_drop, List.length_take]; rfl)) ?_; (with_reducible refine (spec_Parts.calls kj18 x1_18 t204 t205 _ A36.out).mono ?_); rintro e w39 ⟨v206, rfl, ho0, hb⟩; refine ⟨_, rfl, ?_⟩; have n0_ := Aside0.mk (Kd.R_lower ho0 (below_size (by repeat (first | (with_reducible first | exact HB.out | apply below_alloc | apply pw_below_drewN | apply below_drew1) | exact HB.out)))); have n1_ := Aside0.mk (below_step (by repeat (first | (with_reducible first | exact HB.out | apply below_alloc | apply pw_below_drewN | apply below_drew1) | exact HB.out)) hb); clear HB; have HO207 := n0_; have HB := n1_; clear n0_ n1_; (try clear hb); (try clear hb2); (try clear hk); (try clear hi); (try clear ho0)))
                  (try simp only [Act.put, List.setIfInBounds_toArray, List.set_cons_zero, List.set_cons_succ])
                  go_cut [79] (fun v79 wc => ∃ (kq : Nat) (x79_37 : Bool), v79 = .bool x79_37 ∧ Aside0 (spec_Matches.j5 kq x0_12 x1_18 a3 t204 x79_37 = some r) ∧ Aside0 (kq ≤ kj18) ∧ Aside0 (Kd.R k42 42 wc w.heap.size (fun _ => True) v206 t204) ∧ Aside0 (Below w.heap.size w wc))
                  case first =>
                    have H := HC38.out
                    clear HC38
                    by_cases c40 : (t204.length : Int) = 1
                    · rw [if_pos c40] at H
                      have c40b0 : ((t204.length : Int) == 1) = true := beq_iff_eq.mpr c40
                      have c40b1 : ((t204.length : Int) != 1) = false := bne_eq_false_iff_eq.mpr c40
                      clear c40
                      (first | rw [c40b0] | (simp only [i64_w, i32_w]; rw [c40b0]) | skip)
                      by_cases c41 : 0 < (t204.length : Int)
                      · rw [if_pos c41] at H
                        have c41b0 : decide (0 < (t204.length : Int)) = true := decide_eq_true c41
                        have c41b1 : decide (0 < t204.length) = true := decide_eq_true (by omega)
                        clear c41
                        have H' := Aside0.mk H
                        clear H
                        obtain ⟨Ao42, co42, eo42⟩ := Kd.R_slice HO207.out
                        subst eo42
                        have p208 : 0 ≤ (0 : Int) := (by omega)
                        have q208 : 0 < (t204.length : Int) := of_decide_eq_true (by first | (with_reducible assumption) | assumption)
                        obtain ⟨ad208, A208_5, c208_5, e208, hx208_0, hx208_1, hx208_2, hx208_3, hx208_4, hx208_5, hl208_5, hi208_5⟩ := at_T42 (Kd.R_reads' HO207.out).2.2 0 p208 q208
                        cases e208
                        obtain ⟨ce208, hce208, hMe208, hcc208⟩ := Kd.R_get HO207.out z42 0 p208 (by first | exact q208 | exact of_decide_eq_true (by first | (with_reducible assumption) | assumption) | (have e_ := (Kd.R_reads' HO207.out).1; omega))
                        obtain ⟨ve208_5, rfl, ge208_5⟩ := k42_openM hMe208
                        have hv208_5 := hcc208 5 _ rfl
                        rw [add_field _ _ 5 (by omega)] at hv208_5
                        replace hv208_5 := Option.some.inj (hv208_5.symm.trans hx208_5)
                        rw [hv208_5] at ge208_5
                        have HL208_5 := Aside0.mk (show Kd.R k66 66 _ _ _ _ ((rd_T42 t204 0).f5) from ge208_5)
                        clear hv208_5 ge208_5
                        clear hcc208 hce208
                        have qi208 : (0 < t204.length) = True := eq_true (by omega)
                        (try rw [show ((0 : Int)).toNat = 0 from rfl] at hx208_0)
                        (try rw [show 0 * 6 = 0 from rfl] at hx208_0)
                        (try rw [Addr.add_zero'] at hx208_0)
                        (try rw [show ((0 : Int)).toNat = 0 from rfl] at hx208_1)
                        (try rw [show 0 * 6 = 0 from rfl] at hx208_1)
                        (try rw [Addr.add_zero'] at hx208_1)
                        (try rw [show ((0 : Int)).toNat = 0 from rfl] at hx208_2)
                        (try rw [show 0 * 6 = 0 from rfl] at hx208_2)
                        (try rw [Addr.add_zero'] at hx208_2)
                        (try rw [show ((0 : Int)).toNat = 0 from rfl] at hx208_3)
                        (try rw [show 0 * 6 = 0 from rfl] at hx208_3)
                        (try rw [Addr.add_zero'] at hx208_3)
                        (try rw [show ((0 : Int)).toNat = 0 from rfl] at hx208_4)
                        (try rw [show 0 * 6 = 0 from rfl] at hx208_4)
                        (try rw [Addr.add_zero'] at hx208_4)
                        (try rw [show ((0 : Int)).toNat = 0 from rfl] at hx208_5)
                        (try rw [show 0 * 6 = 0 from rfl] at hx208_5)
                        (try rw [Addr.add_zero'] at hx208_5)
                        have HR208_5 := Aside0.mk hi208_5
                        have HC208_5 := Aside0.mk hl208_5
                        clear hi208_5 hl208_5
                        replace p208 := eq_true p208
                        replace q208 := eq_true q208
                        go_wp2
                        go_meet
                        case rel => exact ⟨_, (!((rd_T42 t204 0).f2)), (by first | rfl | (simp; done) | (simp [*]; done)), H', ⟨by have := HJ4.out; have := HJ12.out; have := HJ18.out; first | omega | exact Nat.le_refl _⟩, ⟨by (with_reducible repeat (first | apply Kd.R_alloc | apply Kd.R_drewN | apply Kd.R_drew)); exact HO207.out⟩, ⟨by repeat (first | (with_reducible first | exact HB.out | apply below_alloc | apply pw_below_drewN | apply below_drew1) | exact HB.out)⟩⟩
                      · rw [if_neg c41] at H
                        exact absurd H (by simp)
                    · rw [if_neg c40] at H
                      have c40b0 : ((t204.length : Int) == 1) = false := beq_eq_false_iff_ne.mpr c40
                      have c40b1 : ((t204.length : Int) != 1) = true := bne_iff_ne.mpr c40
                      (first | rw [c40b0] | (simp only [i64_w, i32_w]; rw [c40b0]) | skip)
                      have H' := Aside0.mk H
                      clear H
                      obtain ⟨Ao43, co43, eo43⟩ := Kd.R_slice HO207.out
                      subst eo43
                      go_wp2
                      go_meet
                      case rel => exact ⟨_, (false), (by first | rfl | (simp; done) | (simp [*]; done)), H', ⟨by have := HJ4.out; have := HJ12.out; have := HJ18.out; first | omega | exact Nat.le_refl _⟩, ⟨by (with_reducible repeat (first | apply Kd.R_alloc | apply Kd.R_drewN | apply Kd.R_drew)); exact HO207.out⟩, ⟨by repeat (first | (with_reducible first | exact HB.out | apply below_alloc | apply pw_below_drewN | apply below_drew1) | exact HB.out)⟩⟩
                  case rest =>
                    clear HC38
                    try clear c1
                    try clear c2
                    try clear p2
                    try clear q2
                    try clear hx2
                    try clear qi2
                    try clear c3
                    try clear p3
                    try clear q3
                    try clear hx3
                    try clear c4
                    try clear c6
                    try clear p6
                    try clear c7
                    try clear c8
                    try clear c9
                    try clear c10
                    try clear c10b0
                    try clear c10b1
                    try clear c12
                    try clear c14
                    try clear c19
                    try clear c20
                    try clear p20
                    try clear q20
                    try clear hx20
                    try clear qi20
                    try clear c22
                    try clear c22b0
                    try clear c22b1
                    try clear c24
                    try clear c24b0
                    try clear c25
                    try clear c25b0
                    try clear p26
                    try clear q26
                    try clear hx26
                    try clear c27
                    try clear c28
                    try clear c28b0
                    try clear c28b1
                    try clear c30
                    try clear c30b0
                    try clear c31
                    try clear c31b0
                    try clear p32
                    try clear q32
                    try clear hx32
                    try clear c33
                    try clear c33b0
                    try clear c33b1
                    try clear c34
                    try clear c34b0
                    try clear c35
                    try clear c35b0
                    try clear c35b1
                    try clear c37
                    try clear c37b0
                    try clear c37b1
                    try clear c40
                    try clear c40b0
                    try clear c40b1
                    try clear c41
                    try clear c41b0
                    try clear c41b1
                    try clear hx208_0
                    try clear hx208_1
                    try clear hx208_2
                    try clear hx208_3
                    try clear hx208_4
                    try clear hx208_5
                    try clear p2
                    try clear p208
                    try clear p26
                    try clear p3
                    try clear p32
                    try clear p6
                    try clear q2
                    try clear q208
                    try clear q26
                    try clear q3
                    try clear q32
                    obtain ⟨kq, x79_37, rfl, HA, HJ37, HO_9, HB⟩ := hcut
                    cases kq with
                    | zero => exact absurd HA.out (by simp [spec_Matches.j5])
                    | succ kj37 =>
                      have H := HA.out
                      clear HA
                      simp only [spec_Matches.j5] at H
                      by_cases c44 : x79_37 = true
                      · subst c44
                        have H1 : (if x0_12.toList = x1_18.toList then (some 1) else (some 0)) = some r := by rw [if_pos rfl] at H; exact H
                        clear H
                        have H := H1
                        clear H1
                        by_cases c45 : x0_12.toList = x1_18.toList
                        · rw [if_pos c45] at H
                          have c45b0 : (x0_12.toList == x1_18.toList) = true := beq_iff_eq.mpr c45
                          have c45b1 : (x0_12.toList != x1_18.toList) = false := bne_eq_false_iff_eq.mpr c45
                          clear c45
                          obtain rfl := Option.some.inj H
                          go_wp2
                          go_ret
                          exact ⟨by first | rfl | (simp [errW_none, errW_some] <;> rfl) | (simp [*, errW_none, errW_some] <;> rfl), by repeat (first | (with_reducible first | exact HB.out | apply below_alloc | apply pw_below_drewN | apply below_drew1) | exact HB.out)⟩
                        · rw [if_neg c45] at H
                          have c45b0 : (x0_12.toList == x1_18.toList) = false := beq_eq_false_iff_ne.mpr c45
                          have c45b1 : (x0_12.toList != x1_18.toList) = true := bne_iff_ne.mpr c45
                          obtain rfl := Option.some.inj H
                          go_wp2
                          go_ret
                          exact ⟨by first | rfl | (simp [errW_none, errW_some] <;> rfl) | (simp [*, errW_none, errW_some] <;> rfl), by repeat (first | (with_reducible first | exact HB.out | apply below_alloc | apply pw_below_drewN | apply below_drew1) | exact HB.out)⟩
                      · replace c44 := Bool.eq_false_iff.mpr c44
                        subst c44
                        have H1 : (if a3 = true then (if 0 ≤ (wrap64 ((x1_18.size : Int) - 1)) then (if (wrap64 ((x1_18.size : Int) - 1)) < (x1_18.size : Int) then (if (bt x1_18 (wrap64 ((x1_18.size : Int) - 1))) = 47 then (some 2) else ((spec_Could.f kj37 t204 x0_12 false).bind fun t209 => (some t209))) else (none)) else (none)) else ((spec_Could.f kj37 t204 x0_12 false).bind fun t210 => (some t210))) = some r := by rw [if_neg (show ¬ (false = true) by decide)] at H; exact H
                        clear H
                        have H := H1
                        clear H1
                        by_cases c46 : a3 = true
                        · subst c46
                          have H1 : (if 0 ≤ (wrap64 ((x1_18.size : Int) - 1)) then (if (wrap64 ((x1_18.size : Int) - 1)) < (x1_18.size : Int) then (if (bt x1_18 (wrap64 ((x1_18.size : Int) - 1))) = 47 then (some 2) else ((spec_Could.f kj37 t204 x0_12 false).bind fun t209 => (some t209))) else (none)) else (none)) = some r := by rw [if_pos rfl] at H; exact H
                          clear H
                          have H := H1
                          clear H1
                          obtain ⟨ji47, hji47⟩ : ∃ j_ : Int, (wrap64 ((x1_18.size : Int) - 1)) = j_ := ⟨_, rfl⟩
                          replace H : (if 0 ≤ (ji47) then (if (ji47) < (x1_18.size : Int) then (if (bt x1_18 (ji47)) = 47 then (some 2) else ((spec_Could.f kj37 t204 x0_12 false).bind fun t209 => (some t209))) else (none)) else (none)) = some r := by first | (rw [hji47] at H; exact H) | (simp only [hji47] at H ⊢; exact H)
                          have hji47w : (IntKind.i64.wrap ((x1_18.size : Int) - 1)) = ji47 := (i64_w _).trans hji47
                          by_cases c48 : 0 ≤ (ji47)
                          · rw [if_pos c48] at H
                            have c48b0 : decide (0 ≤ (ji47)) = true := decide_eq_true c48
                            clear c48
                            by_cases c49 : (ji47) < (x1_18.size : Int)
                            · rw [if_pos c49] at H
                              have c49b0 : decide ((ji47) < (x1_18.size : Int)) = true := decide_eq_true c49
                              clear c49
                              by_cases c51 : (bt x1_18 (ji47)) = 47
                              · rw [if_pos c51] at H
                                have c51b0 : ((bt x1_18 (ji47)) == 47) = true := beq_iff_eq.mpr c51
                                have c51b1 : ((bt x1_18 (ji47)) != 47) = false := bne_eq_false_iff_eq.mpr c51
                                clear c51
                                obtain rfl := Option.some.inj H
                                have p50 : 0 ≤ ((ji47) : Int) := of_decide_eq_true (by first | (with_reducible assumption) | assumption)
                                have q50 : (ji47) < (x1_18.size : Int) := of_decide_eq_true (by first | (with_reducible assumption) | assumption)
                                have hx50 := bt_at x1_18 (ji47)
                                replace p50 := eq_true p50
                                replace q50 := eq_true q50
                                go_wp2
                                go_ret
                                exact ⟨by first | rfl | (simp [errW_none, errW_some] <;> rfl) | (simp only [← hji47]; first | rfl | (simp [errW_none, errW_some] <;> rfl)) | (simp [*, errW_none, errW_some] <;> rfl), by repeat (first | (with_reducible first | exact HB.out | apply below_alloc | apply pw_below_drewN | apply below_drew1) | exact HB.out)⟩
                              · rw [if_neg c51] at H
                                have c51b0 : ((bt x1_18 (ji47)) == 47) = false := beq_eq_false_iff_ne.mpr c51
                                have c51b1 : ((bt x1_18 (ji47)) != 47) = true := bne_iff_ne.mpr c51
                                replace H := Option.bind_eq_some_iff.mp H
                                obtain ⟨t209, A520, H⟩ := H
                                replace H : (some t209) = some r := H
                                have A52 := Aside0.mk A520
                                clear A520
                                obtain rfl := Option.some.inj H
                                have p50 : 0 ≤ ((ji47) : Int) := of_decide_eq_true (by first | (with_reducible assumption) | assumption)
                                have q50 : (ji47) < (x1_18.size : Int) := of_decide_eq_true (by first | (with_reducible assumption) | assumption)
                                have hx50 := bt_at x1_18 (ji47)
                                replace p50 := eq_true p50
                                replace q50 := eq_true q50
                                obtain ⟨Ao53, co53, eo53⟩ := Kd.R_slice HO_9.out
                                subst eo53
                                go_wp2_with (first | ((with_reducible refine gate_callee (f := 11) rfl ?_); refine goesL_ (some 94) rfl rfl Tryz.func11 (by kernel_rfl) rfl #[.slice Ao53 t204.length co53, .string x0_12, .bool false] rfl (by (try simp only [List.map_toArray, List.map_cons, List.map_nil]); first | done | rfl | (simp only [List.length_drop, List.length_take]; rfl)) ?_; (with_reducible refine (spec_Could.calls kj37 _ _ t204 x0_12 false t209 _ ?side1 ?side2 A52.out).mono ?_); (case side1 => repeat (first | exact (Kd.R_reads' HO_9.out).2.2 | (with_reducible refine Kd.C_alloc ?_ _) | (with_reducible refine Kd.C_drewN ?_ _) | (with_reducible refine Kd.C_drew ?_))); (case side2 => exact (Kd.R_reads' HO_9.out).2.1); rintro e w54 ⟨rfl, hb⟩; refine ⟨_, rfl, ?_⟩; have n0_ := Aside0.mk (Kd.R_below (by (with_reducible repeat (first | apply Kd.R_alloc | apply Kd.R_drewN | apply Kd.R_drew)); exact HO_9.out) hb); have n1_ := Aside0.mk (below_step (by repeat (first | (with_reducible first | exact HB.out | apply below_alloc | apply pw_below_drewN | apply below_drew1) | exact HB.out)) hb); clear HO_9; clear HB; have HO_9 := n0_; have HB := n1_; clear n0_ n1_; (try clear hb); (try clear hb2); (try clear hk); (try clear hi)))
                                go_ret
                                exact ⟨by first | rfl | (simp [errW_none, errW_some] <;> rfl) | (simp only [← hji47]; first | rfl | (simp [errW_none, errW_some] <;> rfl)) | (simp [*, errW_none, errW_some] <;> rfl), by repeat (first | (with_reducible first | exact HB.out | apply below_alloc | apply pw_below_drewN | apply below_drew1) | exact HB.out)⟩
                            · rw [if_neg c49] at H
                              exact absurd H (by simp)
                          · rw [if_neg c48] at H
                            exact absurd H (by simp)
                        · replace c46 := Bool.eq_false_iff.mpr c46
                          subst c46
                          have H1 : ((spec_Could.f kj37 t204 x0_12 false).bind fun t210 => (some t210)) = some r := by rw [if_neg (show ¬ (false = true) by decide)] at H; exact H
                          clear H
                          have H := H1
                          clear H1
                          replace H := Option.bind_eq_some_iff.mp H
                          obtain ⟨t210, A550, H⟩ := H
                          replace H : (some t210) = some r := H
                          have A55 := Aside0.mk A550
                          clear A550
                          obtain rfl := Option.some.inj H
                          obtain ⟨Ao56, co56, eo56⟩ := Kd.R_slice HO_9.out
                          subst eo56
                          go_wp2_with (first | ((with_reducible refine gate_callee (f := 11) rfl ?_); refine goesL_ (some 94) rfl rfl Tryz.func11 (by kernel_rfl) rfl #[.slice Ao56 t204.length co56, .string x0_12, .bool false] rfl (by (try simp only [List.map_toArray, List.map_cons, List.map_nil]); first | done | rfl | (simp only [List.length_drop, List.length_take]; rfl)) ?_; (with_reducible refine (spec_Could.calls kj37 _ _ t204 x0_12 false t210 _ ?side1 ?side2 A55.out).mono ?_); (case side1 => repeat (first | exact (Kd.R_reads' HO_9.out).2.2 | (with_reducible refine Kd.C_alloc ?_ _) | (with_reducible refine Kd.C_drewN ?_ _) | (with_reducible refine Kd.C_drew ?_))); (case side2 => exact (Kd.R_reads' HO_9.out).2.1); rintro e w57 ⟨rfl, hb⟩; refine ⟨_, rfl, ?_⟩; have n0_ := Aside0.mk (Kd.R_below (by (with_reducible repeat (first | apply Kd.R_alloc | apply Kd.R_drewN | apply Kd.R_drew)); exact HO_9.out) hb); have n1_ := Aside0.mk (below_step (by repeat (first | (with_reducible first | exact HB.out | apply below_alloc | apply pw_below_drewN | apply below_drew1) | exact HB.out)) hb); clear HO_9; clear HB; have HO_9 := n0_; have HB := n1_; clear n0_ n1_; (try clear hb); (try clear hb2); (try clear hk); (try clear hi)))
                          go_ret
                          exact ⟨by first | rfl | (simp [errW_none, errW_some] <;> rfl) | (simp [*, errW_none, errW_some] <;> rfl), by repeat (first | (with_reducible first | exact HB.out | apply below_alloc | apply pw_below_drewN | apply below_drew1) | exact HB.out)⟩
                · rw [if_neg c37] at H
                  have c37b0 : (t205 == 1) = false := beq_eq_false_iff_ne.mpr c37
                  have c37b1 : (t205 != 1) = true := bne_iff_ne.mpr c37
                  obtain rfl := Option.some.inj H
                  go_wp2_with (first | ((with_reducible refine gate_callee (f := 6) rfl ?_); refine goesL_ (some 65) rfl rfl Tryz.func6 (by kernel_rfl) rfl #[.string x1_18] rfl (by (try simp only [List.map_toArray, List.map_cons, List.map_nil]); first | done | rfl | (simp only [List.length_drop, List.length_take]; rfl)) ?_; (with_reducible refine (spec_Parts.calls kj18 x1_18 t204 t205 _ A36.out).mono ?_); rintro e w58 ⟨v206, rfl, ho0, hb⟩; refine ⟨_, rfl, ?_⟩; have n0_ := Aside0.mk (Kd.R_lower ho0 (below_size (by repeat (first | (with_reducible first | exact HB.out | apply below_alloc | apply pw_below_drewN | apply below_drew1) | exact HB.out)))); have n1_ := Aside0.mk (below_step (by repeat (first | (with_reducible first | exact HB.out | apply below_alloc | apply pw_below_drewN | apply below_drew1) | exact HB.out)) hb); clear HB; have HO207 := n0_; have HB := n1_; clear n0_ n1_; (try clear hb); (try clear hb2); (try clear hk); (try clear hi); (try clear ho0)))
                  go_ret
                  exact ⟨by first | rfl | (simp [errW_none, errW_some] <;> rfl) | (simp [*, errW_none, errW_some] <;> rfl), by repeat (first | (with_reducible first | exact HB.out | apply below_alloc | apply pw_below_drewN | apply below_drew1) | exact HB.out)⟩

end Go.Proofs.YtfahabnjplnbmaaGreatDoor.Q
