-- Laid by a program of this session's own, after the kit's print (two functions given by hand). Lean checks it.
import Derived.Test.YtfahabnjplnbmaaGreatDoorMQx0
namespace Go.Proofs.YtfahabnjplnbmaaGreatDoor.Q
open Go.RowKit Go.Proofs.YtfahabnjplnbmaaGreatDoorW.PrintWords Go.Proofs.YtfahabnjplnbmaaGreatDoorW.PrintLast Go.Proofs.YtfahabnjplnbmaaGreatDoorW.PrintMore
attribute [local go_sem] max2_int min2_int max_two min_two max_three min_three max_four min_four   -- for this text's walks alone
set_option linter.unusedVariables false
set_option linter.unusedSimpArgs false

/-! ### spec_short: function 18 -/
def spec_short.l0 : Nat → ByteArray → Bool → Option (Bool)
  | 0, _, _ => none
  | k + 1, x0, x3 => if (x0.size : Int) > 1 then (if 0 ≤ (wrap64 ((x0.size : Int) - 1)) then (if (wrap64 ((x0.size : Int) - 1)) < (x0.size : Int) then (if (bt x0 (wrap64 ((x0.size : Int) - 1))) = 47 then (if (wrap64 ((x0.size : Int) - 1)) ≤ (x0.size : Int) then (spec_short.l0 k (x0.extract 0 ((wrap64 ((x0.size : Int) - 1)) : Int).toNat) x3) else (none)) else (if (x0.size : Int) = 1 then (if 0 < (x0.size : Int) then (if (bt x0 0) = 47 then (some x3) else (some true)) else (none)) else (some false))) else (none)) else (none)) else (if (x0.size : Int) = 1 then (if 0 < (x0.size : Int) then (if (bt x0 0) = 47 then (some x3) else (some true)) else (none)) else (some false))
def spec_short.f (k : Nat) (a0 : ByteArray) : Option (Bool) := spec_short.l0 k a0 (decide ((a0.size : Int) > 1))
theorem spec_short.mono_l : ∀ k, (∀ y0 y1, LeO (spec_short.l0 k y0 y1) (spec_short.l0 (k + 1) y0 y1))
  | 0 => fun _ _ r h => by simp [spec_short.l0] at h
  | k + 1 => by
    have ih0 := spec_short.mono_l k
    · intro y0 y1
      unfold spec_short.l0
      repeat' first
      | (with_reducible exact ih0 _ _)
      | (with_reducible exact LeO.refl _)
      | (with_reducible exact LeO.none _)
      | (with_reducible refine LeO.ite ?_ ?_)
      | (with_reducible refine LeO.bind ?_ (fun _ => ?_))
      | exact ih0 _ _
      | exact LeO.none _
      | refine LeO.ite ?_ ?_
      | refine LeO.bind ?_ (fun _ => ?_)
theorem spec_short.mono : ∀ a0 k, LeO (spec_short.f k a0) (spec_short.f (k + 1) a0) := by
  intro a0 k
  have ih0 := spec_short.mono_l k
  unfold spec_short.f
  repeat' first
      | (with_reducible exact ih0 _ _)
      | (with_reducible exact LeO.refl _)
      | (with_reducible exact LeO.none _)
      | (with_reducible refine LeO.ite ?_ ?_)
      | (with_reducible refine LeO.bind ?_ (fun _ => ?_))
      | exact ih0 _ _
      | exact LeO.none _
      | refine LeO.ite ?_ ?_
      | refine LeO.bind ?_ (fun _ => ?_)
set_option maxHeartbeats 8000000 in
set_option maxRecDepth 100000 in
theorem spec_short.calls (k : Nat) (a0 : ByteArray) (r : Bool) (w : World) (h : spec_short.f k a0 = some r) :
    Calls Tryz.prog 18 #[.string a0] w fun e w' => e = .returned (.bool r) ∧ Drawn0 w w' := by
  have H : (spec_short.l0 k a0 (decide ((a0.size : Int) > 1))) = some r := h
  clear h
  have H' := Aside0.mk H
  clear H
  go_enter Tryz.func18, Tryz.ntmps18
  go_wp2
  go_loopg [0] k (fun kq v0 w' => ∃ (x0_1 : ByteArray), v0 = .string x0_1 ∧ Aside0 (spec_short.l0 kq x0_1 (decide ((a0.size : Int) > 1)) = some r) ∧ Aside0 (kq ≤ k) ∧ Drawn0 w w')
  case atStart => exact ⟨(a0), (by first | rfl | (simp; done) | (simp [*]; done)), H', ⟨Nat.le_refl _⟩, by repeat (first | exact Drawn0.refl _ | apply Drawn0.step)⟩
  case round =>
    clear H'
    try clear c1
    obtain ⟨x0_1, rfl, HA, HK1, ⟨m1, rfl⟩⟩ := hrel
    cases gk with
    | zero => exact absurd HA.out (by simp [spec_short.l0])
    | succ k1 =>
      have H := HA.out
      clear HA
      simp only [spec_short.l0] at H
      by_cases c2 : (x0_1.size : Int) > 1
      · rw [if_pos c2] at H
        have c2b0 : decide (1 < (x0_1.size : Int)) = true := decide_eq_true c2
        have c2b1 : decide (1 < x0_1.size) = true := decide_eq_true (by omega)
        clear c2
        obtain ⟨ji3, hji3⟩ : ∃ j_ : Int, (wrap64 ((x0_1.size : Int) - 1)) = j_ := ⟨_, rfl⟩
        replace H : (if 0 ≤ (ji3) then (if (ji3) < (x0_1.size : Int) then (if (bt x0_1 (ji3)) = 47 then (if (ji3) ≤ (x0_1.size : Int) then (spec_short.l0 k1 (x0_1.extract 0 ((ji3) : Int).toNat) (decide ((a0.size : Int) > 1))) else (none)) else (if (x0_1.size : Int) = 1 then (if 0 < (x0_1.size : Int) then (if (bt x0_1 0) = 47 then (some (decide ((a0.size : Int) > 1))) else (some true)) else (none)) else (some false))) else (none)) else (none)) = some r := by first | (rw [hji3] at H; exact H) | (simp only [hji3] at H ⊢; exact H)
        have hji3w : (IntKind.i64.wrap ((x0_1.size : Int) - 1)) = ji3 := (i64_w _).trans hji3
        by_cases c4 : 0 ≤ (ji3)
        · rw [if_pos c4] at H
          have c4b0 : decide (0 ≤ (ji3)) = true := decide_eq_true c4
          clear c4
          by_cases c5 : (ji3) < (x0_1.size : Int)
          · rw [if_pos c5] at H
            have c5b0 : decide ((ji3) < (x0_1.size : Int)) = true := decide_eq_true c5
            clear c5
            by_cases c7 : (bt x0_1 (ji3)) = 47
            · rw [if_pos c7] at H
              have c7b0 : ((bt x0_1 (ji3)) == 47) = true := beq_iff_eq.mpr c7
              have c7b1 : ((bt x0_1 (ji3)) != 47) = false := bne_eq_false_iff_eq.mpr c7
              clear c7
              have c8b0 := eq_true (of_decide_eq_true (by first | (with_reducible assumption) | assumption) : 0 ≤ (ji3))
              by_cases c9 : (ji3) ≤ (x0_1.size : Int)
              · rw [if_pos c9] at H
                have c9b0 := eq_true c9
                have c9b1 : decide ((ji3) ≤ (x0_1.size : Int)) = true := decide_eq_true c9
                clear c9
                have H' := Aside0.mk H
                clear H
                have p6 : 0 ≤ ((ji3) : Int) := of_decide_eq_true (by first | (with_reducible assumption) | assumption)
                have q6 : (ji3) < (x0_1.size : Int) := of_decide_eq_true (by first | (with_reducible assumption) | assumption)
                have hx6 := bt_at x0_1 (ji3)
                replace p6 := eq_true p6
                replace q6 := eq_true q6
                go_wp2
                go_roundg k1
                case measure => have := HK1.out; omega
                case rel => exact ⟨(x0_1.extract 0 ((ji3) : Int).toNat), (by first | rfl | (simp; done) | (simp only [← hji3] <;> (first | rfl | simp)) | (simp [*]; done)), H', ⟨by have := HK1.out; omega⟩, by repeat (first | exact Drawn0.refl _ | apply Drawn0.step)⟩
              · rw [if_neg c9] at H
                exact absurd H (by simp)
            · rw [if_neg c7] at H
              have c7b0 : ((bt x0_1 (ji3)) == 47) = false := beq_eq_false_iff_ne.mpr c7
              have c7b1 : ((bt x0_1 (ji3)) != 47) = true := bne_iff_ne.mpr c7
              by_cases c10 : (x0_1.size : Int) = 1
              · rw [if_pos c10] at H
                have c10b0 : ((x0_1.size : Int) == 1) = true := beq_iff_eq.mpr c10
                have c10b1 : ((x0_1.size : Int) != 1) = false := bne_eq_false_iff_eq.mpr c10
                clear c10
                by_cases c11 : 0 < (x0_1.size : Int)
                · rw [if_pos c11] at H
                  have c11b0 : decide (0 < (x0_1.size : Int)) = true := decide_eq_true c11
                  have c11b1 : decide (0 < x0_1.size) = true := decide_eq_true (by omega)
                  clear c11
                  by_cases c13 : (bt x0_1 0) = 47
                  · rw [if_pos c13] at H
                    have c13b0 : ((bt x0_1 0) == 47) = true := beq_iff_eq.mpr c13
                    have c13b1 : ((bt x0_1 0) != 47) = false := bne_eq_false_iff_eq.mpr c13
                    clear c13
                    obtain rfl := Option.some.inj H
                    have p6 : 0 ≤ ((ji3) : Int) := of_decide_eq_true (by first | (with_reducible assumption) | assumption)
                    have q6 : (ji3) < (x0_1.size : Int) := of_decide_eq_true (by first | (with_reducible assumption) | assumption)
                    have hx6 := bt_at x0_1 (ji3)
                    replace p6 := eq_true p6
                    replace q6 := eq_true q6
                    have p12 : 0 ≤ (0 : Int) := (by omega)
                    have q12 : 0 < x0_1.size := (by have : (0 : Int) < (x0_1.size : Int) := of_decide_eq_true (by first | (with_reducible assumption) | assumption); omega)
                    have hx12 : ∀ h : 0 < x0_1.size, ((x0_1[0]'h).toNat : Int) = bt x0_1 0 := bt_at x0_1 0
                    clear p12
                    have qi12 : (0 < (x0_1.size : Int)) = True := eq_true (of_decide_eq_true (by first | (with_reducible assumption) | assumption))
                    replace q12 := eq_true q12
                    go_wp2
                    go_ret
                    exact ⟨by first | rfl | (simp; done) | (simp only [← hji3] <;> (first | rfl | simp)) | (simp [*]; done), by repeat (first | exact Drawn0.refl _ | apply Drawn0.step)⟩
                  · rw [if_neg c13] at H
                    have c13b0 : ((bt x0_1 0) == 47) = false := beq_eq_false_iff_ne.mpr c13
                    have c13b1 : ((bt x0_1 0) != 47) = true := bne_iff_ne.mpr c13
                    obtain rfl := Option.some.inj H
                    have p6 : 0 ≤ ((ji3) : Int) := of_decide_eq_true (by first | (with_reducible assumption) | assumption)
                    have q6 : (ji3) < (x0_1.size : Int) := of_decide_eq_true (by first | (with_reducible assumption) | assumption)
                    have hx6 := bt_at x0_1 (ji3)
                    replace p6 := eq_true p6
                    replace q6 := eq_true q6
                    have p12 : 0 ≤ (0 : Int) := (by omega)
                    have q12 : 0 < x0_1.size := (by have : (0 : Int) < (x0_1.size : Int) := of_decide_eq_true (by first | (with_reducible assumption) | assumption); omega)
                    have hx12 : ∀ h : 0 < x0_1.size, ((x0_1[0]'h).toNat : Int) = bt x0_1 0 := bt_at x0_1 0
                    clear p12
                    have qi12 : (0 < (x0_1.size : Int)) = True := eq_true (of_decide_eq_true (by first | (with_reducible assumption) | assumption))
                    replace q12 := eq_true q12
                    go_wp2
                    go_ret
                    exact ⟨by first | rfl | (simp; done) | (simp only [← hji3] <;> (first | rfl | simp)) | (simp [*]; done), by repeat (first | exact Drawn0.refl _ | apply Drawn0.step)⟩
                · rw [if_neg c11] at H
                  exact absurd H (by simp)
              · rw [if_neg c10] at H
                have c10b0 : ((x0_1.size : Int) == 1) = false := beq_eq_false_iff_ne.mpr c10
                have c10b1 : ((x0_1.size : Int) != 1) = true := bne_iff_ne.mpr c10
                obtain rfl := Option.some.inj H
                have p6 : 0 ≤ ((ji3) : Int) := of_decide_eq_true (by first | (with_reducible assumption) | assumption)
                have q6 : (ji3) < (x0_1.size : Int) := of_decide_eq_true (by first | (with_reducible assumption) | assumption)
                have hx6 := bt_at x0_1 (ji3)
                replace p6 := eq_true p6
                replace q6 := eq_true q6
                go_wp2
                go_ret
                exact ⟨by first | rfl | (simp; done) | (simp only [← hji3] <;> (first | rfl | simp)) | (simp [*]; done), by repeat (first | exact Drawn0.refl _ | apply Drawn0.step)⟩
          · rw [if_neg c5] at H
            exact absurd H (by simp)
        · rw [if_neg c4] at H
          exact absurd H (by simp)
      · rw [if_neg c2] at H
        have c2b0 : decide (1 < (x0_1.size : Int)) = false := decide_eq_false c2
        have c2b1 : decide (1 < x0_1.size) = false := decide_eq_false (by omega)
        clear c2
        by_cases c14 : (x0_1.size : Int) = 1
        · rw [if_pos c14] at H
          have c14b0 : ((x0_1.size : Int) == 1) = true := beq_iff_eq.mpr c14
          have c14b1 : ((x0_1.size : Int) != 1) = false := bne_eq_false_iff_eq.mpr c14
          clear c14
          by_cases c15 : 0 < (x0_1.size : Int)
          · rw [if_pos c15] at H
            have c15b0 : decide (0 < (x0_1.size : Int)) = true := decide_eq_true c15
            have c15b1 : decide (0 < x0_1.size) = true := decide_eq_true (by omega)
            clear c15
            by_cases c17 : (bt x0_1 0) = 47
            · rw [if_pos c17] at H
              have c17b0 : ((bt x0_1 0) == 47) = true := beq_iff_eq.mpr c17
              have c17b1 : ((bt x0_1 0) != 47) = false := bne_eq_false_iff_eq.mpr c17
              clear c17
              obtain rfl := Option.some.inj H
              have p16 : 0 ≤ (0 : Int) := (by omega)
              have q16 : 0 < x0_1.size := (by have : (0 : Int) < (x0_1.size : Int) := of_decide_eq_true (by first | (with_reducible assumption) | assumption); omega)
              have hx16 : ∀ h : 0 < x0_1.size, ((x0_1[0]'h).toNat : Int) = bt x0_1 0 := bt_at x0_1 0
              clear p16
              have qi16 : (0 < (x0_1.size : Int)) = True := eq_true (of_decide_eq_true (by first | (with_reducible assumption) | assumption))
              replace q16 := eq_true q16
              go_wp2
              go_ret
              exact ⟨by first | rfl | (simp; done) | (simp [*]; done), by repeat (first | exact Drawn0.refl _ | apply Drawn0.step)⟩
            · rw [if_neg c17] at H
              have c17b0 : ((bt x0_1 0) == 47) = false := beq_eq_false_iff_ne.mpr c17
              have c17b1 : ((bt x0_1 0) != 47) = true := bne_iff_ne.mpr c17
              obtain rfl := Option.some.inj H
              have p16 : 0 ≤ (0 : Int) := (by omega)
              have q16 : 0 < x0_1.size := (by have : (0 : Int) < (x0_1.size : Int) := of_decide_eq_true (by first | (with_reducible assumption) | assumption); omega)
              have hx16 : ∀ h : 0 < x0_1.size, ((x0_1[0]'h).toNat : Int) = bt x0_1 0 := bt_at x0_1 0
              clear p16
              have qi16 : (0 < (x0_1.size : Int)) = True := eq_true (of_decide_eq_true (by first | (with_reducible assumption) | assumption))
              replace q16 := eq_true q16
              go_wp2
              go_ret
              exact ⟨by first | rfl | (simp; done) | (simp [*]; done), by repeat (first | exact Drawn0.refl _ | apply Drawn0.step)⟩
          · rw [if_neg c15] at H
            exact absurd H (by simp)
        · rw [if_neg c14] at H
          have c14b0 : ((x0_1.size : Int) == 1) = false := beq_eq_false_iff_ne.mpr c14
          have c14b1 : ((x0_1.size : Int) != 1) = true := bne_iff_ne.mpr c14
          obtain rfl := Option.some.inj H
          go_wp2
          go_ret
          exact ⟨by first | rfl | (simp; done) | (simp [*]; done), by repeat (first | exact Drawn0.refl _ | apply Drawn0.step)⟩

end Go.Proofs.YtfahabnjplnbmaaGreatDoor.Q
