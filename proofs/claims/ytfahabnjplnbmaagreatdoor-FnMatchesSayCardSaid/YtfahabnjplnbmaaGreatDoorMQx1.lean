-- Laid by a program of this session's own, after the kit's print (two functions given by hand). Lean checks it.
import Derived.Test.YtfahabnjplnbmaaGreatDoorMQx0
namespace Go.Proofs.YtfahabnjplnbmaaGreatDoor.Q
open Go.RowKit Go.Proofs.YtfahabnjplnbmaaGreatDoorW.PrintWords Go.Proofs.YtfahabnjplnbmaaGreatDoorW.PrintLast Go.Proofs.YtfahabnjplnbmaaGreatDoorW.PrintMore
attribute [local go_sem] max2_int min2_int max_two min_two max_three min_three max_four min_four   -- for this text's walks alone
set_option linter.unusedVariables false
set_option linter.unusedSimpArgs false

/-! ### fiberutils_TrimRight: function 28 -/
def fiberutils_TrimRight.l0 : Nat → ByteArray → Int → Int → Option (ByteArray)
  | 0, _, _, _ => none
  | k + 1, x0, x1, x5 => if x5 > 0 then (if 0 ≤ (wrap64 (x5 - 1)) then (if (wrap64 (x5 - 1)) < (x0.size : Int) then (if (bt x0 (wrap64 (x5 - 1))) = x1 then (fiberutils_TrimRight.l0 k x0 x1 (wrap64 (x5 - 1))) else (if 0 ≤ x5 then (if x5 ≤ (x0.size : Int) then (some (x0.extract 0 (x5 : Int).toNat)) else (none)) else (none))) else (none)) else (none)) else (if 0 ≤ x5 then (if x5 ≤ (x0.size : Int) then (some (x0.extract 0 (x5 : Int).toNat)) else (none)) else (none))
def fiberutils_TrimRight.f (k : Nat) (a0 : ByteArray) (a1 : Int) : Option (ByteArray) := fiberutils_TrimRight.l0 k a0 a1 (a0.size : Int)
theorem fiberutils_TrimRight.mono_l : ∀ k, (∀ y0 y1 y2, LeO (fiberutils_TrimRight.l0 k y0 y1 y2) (fiberutils_TrimRight.l0 (k + 1) y0 y1 y2))
  | 0 => fun _ _ _ r h => by simp [fiberutils_TrimRight.l0] at h
  | k + 1 => by
    have ih0 := fiberutils_TrimRight.mono_l k
    · intro y0 y1 y2
      unfold fiberutils_TrimRight.l0
      repeat' first
      | (with_reducible exact ih0 _ _ _)
      | (with_reducible exact LeO.refl _)
      | (with_reducible exact LeO.none _)
      | (with_reducible refine LeO.ite ?_ ?_)
      | (with_reducible refine LeO.bind ?_ (fun _ => ?_))
      | exact ih0 _ _ _
      | exact LeO.none _
      | refine LeO.ite ?_ ?_
      | refine LeO.bind ?_ (fun _ => ?_)
theorem fiberutils_TrimRight.mono : ∀ a0 a1 k, LeO (fiberutils_TrimRight.f k a0 a1) (fiberutils_TrimRight.f (k + 1) a0 a1) := by
  intro a0 a1 k
  have ih0 := fiberutils_TrimRight.mono_l k
  unfold fiberutils_TrimRight.f
  repeat' first
      | (with_reducible exact ih0 _ _ _)
      | (with_reducible exact LeO.refl _)
      | (with_reducible exact LeO.none _)
      | (with_reducible refine LeO.ite ?_ ?_)
      | (with_reducible refine LeO.bind ?_ (fun _ => ?_))
      | exact ih0 _ _ _
      | exact LeO.none _
      | refine LeO.ite ?_ ?_
      | refine LeO.bind ?_ (fun _ => ?_)
set_option maxHeartbeats 8000000 in
set_option maxRecDepth 100000 in
theorem fiberutils_TrimRight.calls (k : Nat) (a0 : ByteArray) (a1 : Int) (r : ByteArray) (w : World) (h : fiberutils_TrimRight.f k a0 a1 = some r) :
    Calls Tryz.prog 28 #[.string a0, .int .u8 a1] w fun e w' => e = .returned (.string r) ∧ Drawn0 w w' := by
  have H : (fiberutils_TrimRight.l0 k a0 a1 (a0.size : Int)) = some r := h
  clear h
  have H' := Aside0.mk H
  clear H
  go_enter Tryz.func28, Tryz.ntmps28
  go_wp2
  go_loopg [5] k (fun kq v5 w' => ∃ (x5_1 : Int), v5 = .int .i64 x5_1 ∧ Aside0 (fiberutils_TrimRight.l0 kq a0 a1 x5_1 = some r) ∧ Aside0 (kq ≤ k) ∧ Drawn0 w w')
  case atStart => exact ⟨((a0.size : Int)), (by first | rfl | (simp; done) | (simp [*]; done)), H', ⟨Nat.le_refl _⟩, by repeat (first | exact Drawn0.refl _ | apply Drawn0.step)⟩
  case round =>
    clear H'
    try clear c2
    try clear p2
    obtain ⟨x5_1, rfl, HA, HK1, ⟨m1, rfl⟩⟩ := hrel
    cases gk with
    | zero => exact absurd HA.out (by simp [fiberutils_TrimRight.l0])
    | succ k1 =>
      have H := HA.out
      clear HA
      simp only [fiberutils_TrimRight.l0] at H
      by_cases c3 : x5_1 > 0
      · rw [if_pos c3] at H
        have c3b0 : decide (0 < x5_1) = true := decide_eq_true c3
        clear c3
        obtain ⟨ji4, hji4⟩ : ∃ j_ : Int, (wrap64 (x5_1 - 1)) = j_ := ⟨_, rfl⟩
        replace H : (if 0 ≤ (ji4) then (if (ji4) < (a0.size : Int) then (if (bt a0 (ji4)) = a1 then (fiberutils_TrimRight.l0 k1 a0 a1 ji4) else (if 0 ≤ x5_1 then (if x5_1 ≤ (a0.size : Int) then (some (a0.extract 0 (x5_1 : Int).toNat)) else (none)) else (none))) else (none)) else (none)) = some r := by first | (rw [hji4] at H; exact H) | (simp only [hji4] at H ⊢; exact H)
        have hji4w : (IntKind.i64.wrap (x5_1 - 1)) = ji4 := (i64_w _).trans hji4
        by_cases c5 : 0 ≤ (ji4)
        · rw [if_pos c5] at H
          have c5b0 : decide (0 ≤ (ji4)) = true := decide_eq_true c5
          clear c5
          by_cases c6 : (ji4) < (a0.size : Int)
          · rw [if_pos c6] at H
            have c6b0 : decide ((ji4) < (a0.size : Int)) = true := decide_eq_true c6
            clear c6
            by_cases c8 : (bt a0 (ji4)) = a1
            · rw [if_pos c8] at H
              have c8b0 : ((bt a0 (ji4)) == a1) = true := beq_iff_eq.mpr c8
              have c8b1 : ((bt a0 (ji4)) != a1) = false := bne_eq_false_iff_eq.mpr c8
              clear c8
              have H' := Aside0.mk H
              clear H
              have p7 : 0 ≤ ((ji4) : Int) := of_decide_eq_true (by first | (with_reducible assumption) | assumption)
              have q7 : (ji4) < (a0.size : Int) := of_decide_eq_true (by first | (with_reducible assumption) | assumption)
              have hx7 := bt_at a0 (ji4)
              replace p7 := eq_true p7
              replace q7 := eq_true q7
              go_wp2
              go_roundg k1
              case measure => have := HK1.out; omega
              case rel => exact ⟨(ji4), (by first | rfl | (simp; done) | (simp only [← hji4] <;> (first | rfl | simp)) | (simp [*]; done)), H', ⟨by have := HK1.out; omega⟩, by repeat (first | exact Drawn0.refl _ | apply Drawn0.step)⟩
            · rw [if_neg c8] at H
              have c8b0 : ((bt a0 (ji4)) == a1) = false := beq_eq_false_iff_ne.mpr c8
              have c8b1 : ((bt a0 (ji4)) != a1) = true := bne_iff_ne.mpr c8
              by_cases c9 : 0 ≤ x5_1
              · rw [if_pos c9] at H
                have c9b0 := eq_true c9
                have c9b1 : decide (0 ≤ x5_1) = true := decide_eq_true c9
                clear c9
                by_cases c10 : x5_1 ≤ (a0.size : Int)
                · rw [if_pos c10] at H
                  have c10b0 := eq_true c10
                  have c10b1 : decide (x5_1 ≤ (a0.size : Int)) = true := decide_eq_true c10
                  clear c10
                  obtain rfl := Option.some.inj H
                  have p7 : 0 ≤ ((ji4) : Int) := of_decide_eq_true (by first | (with_reducible assumption) | assumption)
                  have q7 : (ji4) < (a0.size : Int) := of_decide_eq_true (by first | (with_reducible assumption) | assumption)
                  have hx7 := bt_at a0 (ji4)
                  replace p7 := eq_true p7
                  replace q7 := eq_true q7
                  go_wp2
                  go_ret
                  exact ⟨by first | rfl | (simp; done) | (simp only [← hji4] <;> (first | rfl | simp)) | (simp [*]; done), by repeat (first | exact Drawn0.refl _ | apply Drawn0.step)⟩
                · rw [if_neg c10] at H
                  exact absurd H (by simp)
              · rw [if_neg c9] at H
                exact absurd H (by simp)
          · rw [if_neg c6] at H
            exact absurd H (by simp)
        · rw [if_neg c5] at H
          exact absurd H (by simp)
      · rw [if_neg c3] at H
        have c3b0 : decide (0 < x5_1) = false := decide_eq_false c3
        clear c3
        by_cases c11 : 0 ≤ x5_1
        · rw [if_pos c11] at H
          have c11b0 := eq_true c11
          have c11b1 : decide (0 ≤ x5_1) = true := decide_eq_true c11
          clear c11
          by_cases c12 : x5_1 ≤ (a0.size : Int)
          · rw [if_pos c12] at H
            have c12b0 := eq_true c12
            have c12b1 : decide (x5_1 ≤ (a0.size : Int)) = true := decide_eq_true c12
            clear c12
            obtain rfl := Option.some.inj H
            go_wp2
            go_ret
            exact ⟨by first | rfl | (simp; done) | (simp [*]; done), by repeat (first | exact Drawn0.refl _ | apply Drawn0.step)⟩
          · rw [if_neg c12] at H
            exact absurd H (by simp)
        · rw [if_neg c11] at H
          exact absurd H (by simp)

/-! ### fiberpath_findNextCharsetPosition: function 76 -/
def fiberpath_findNextCharsetPosition.l0 : Nat → ByteArray → Int → List Int → Int → Int → Option (Int)
  | 0, _, _, _, _, _ => none
  | k + 1, x0, x5, x9, x10, x11 => if x11 < x10 then (if 0 ≤ x11 then (if x11 < (x9.length : Int) then ((strings_IndexByte.f x0 (rd x9 x11)).bind fun t102 => (if t102 = (-1) then (fiberpath_findNextCharsetPosition.l0 k x0 x5 x9 x10 (wrap64 (x11 + 1))) else (if t102 < x5 then (fiberpath_findNextCharsetPosition.l0 k x0 t102 x9 x10 (wrap64 (x11 + 1))) else (if x5 = (-1) then (fiberpath_findNextCharsetPosition.l0 k x0 t102 x9 x10 (wrap64 (x11 + 1))) else (fiberpath_findNextCharsetPosition.l0 k x0 x5 x9 x10 (wrap64 (x11 + 1))))))) else (none)) else (none)) else (some x5)
def fiberpath_findNextCharsetPosition.f (k : Nat) (a0 : ByteArray) (l1 : List Int) : Option (Int) := fiberpath_findNextCharsetPosition.l0 k a0 (-1) l1 (l1.length : Int) 0
theorem fiberpath_findNextCharsetPosition.mono_l : ∀ k, (∀ y0 y1 y2 y3 y4, LeO (fiberpath_findNextCharsetPosition.l0 k y0 y1 y2 y3 y4) (fiberpath_findNextCharsetPosition.l0 (k + 1) y0 y1 y2 y3 y4))
  | 0 => fun _ _ _ _ _ r h => by simp [fiberpath_findNextCharsetPosition.l0] at h
  | k + 1 => by
    have ih0 := fiberpath_findNextCharsetPosition.mono_l k
    · intro y0 y1 y2 y3 y4
      unfold fiberpath_findNextCharsetPosition.l0
      repeat' first
      | (with_reducible exact ih0 _ _ _ _ _)
      | (with_reducible exact LeO.refl _)
      | (with_reducible exact LeO.none _)
      | (with_reducible refine LeO.ite ?_ ?_)
      | (with_reducible refine LeO.bind ?_ (fun _ => ?_))
      | exact ih0 _ _ _ _ _
      | exact LeO.none _
      | refine LeO.ite ?_ ?_
      | refine LeO.bind ?_ (fun _ => ?_)
theorem fiberpath_findNextCharsetPosition.mono : ∀ a0 a1 k, LeO (fiberpath_findNextCharsetPosition.f k a0 a1) (fiberpath_findNextCharsetPosition.f (k + 1) a0 a1) := by
  intro a0 a1 k
  have ih0 := fiberpath_findNextCharsetPosition.mono_l k
  unfold fiberpath_findNextCharsetPosition.f
  repeat' first
      | (with_reducible exact ih0 _ _ _ _ _)
      | (with_reducible exact LeO.refl _)
      | (with_reducible exact LeO.none _)
      | (with_reducible refine LeO.ite ?_ ?_)
      | (with_reducible refine LeO.bind ?_ (fun _ => ?_))
      | exact ih0 _ _ _ _ _
      | exact LeO.none _
      | refine LeO.ite ?_ ?_
      | refine LeO.bind ?_ (fun _ => ?_)
set_option maxHeartbeats 8000000 in
set_option maxRecDepth 100000 in
theorem fiberpath_findNextCharsetPosition.calls (k : Nat) (a0 : ByteArray) (A1 : Option Addr) (c1 : Nat) (l1 : List Int) (r : Int) (w : World) (hr1 : Kd.C (Kd.int .u8) w A1 l1.length l1) (hc1 : l1.length ≤ c1) (h : fiberpath_findNextCharsetPosition.f k a0 l1 = some r) :
    Calls Tryz.prog 76 #[.string a0, .slice A1 l1.length c1] w fun e w' => e = .returned (.int .i64 r) ∧ Drawn0 w w' := by
  have HR1 := Aside0.mk hr1
  have HC1 := Aside0.mk hc1
  clear hr1 hc1
  have H : (fiberpath_findNextCharsetPosition.l0 k a0 (-1) l1 (l1.length : Int) 0) = some r := h
  clear h
  have H' := Aside0.mk H
  clear H
  go_enter Tryz.func76, Tryz.ntmps76
  go_wp2
  go_loopg [5, 11] k (fun kq v5 v11 w' => ∃ (x5_1 : Int) (x11_1 : Int), v5 = .int .i64 x5_1 ∧ v11 = .int .i64 x11_1 ∧ Aside0 (fiberpath_findNextCharsetPosition.l0 kq a0 x5_1 l1 (l1.length : Int) x11_1 = some r) ∧ Aside0 (kq ≤ k) ∧ Drawn0 w w')
  case atStart => exact ⟨((-1)), (0), (by first | rfl | (simp; done) | (simp [*]; done)), (by first | rfl | (simp; done) | (simp [*]; done)), H', ⟨Nat.le_refl _⟩, by repeat (first | exact Drawn0.refl _ | apply Drawn0.step)⟩
  case round =>
    clear H'
    try clear c1
    try clear p2
    obtain ⟨x5_1, x11_1, rfl, rfl, HA, HK1, ⟨m1, rfl⟩⟩ := hrel
    cases gk with
    | zero => exact absurd HA.out (by simp [fiberpath_findNextCharsetPosition.l0])
    | succ k1 =>
      have H := HA.out
      clear HA
      simp only [fiberpath_findNextCharsetPosition.l0] at H
      by_cases c3 : x11_1 < (l1.length : Int)
      · rw [if_pos c3] at H
        have c3b0 : decide (x11_1 < (l1.length : Int)) = true := decide_eq_true c3
        clear c3
        by_cases c4 : 0 ≤ x11_1
        · rw [if_pos c4] at H
          have c4b0 : decide (0 ≤ x11_1) = true := decide_eq_true c4
          clear c4
          by_cases c5 : x11_1 < (l1.length : Int)
          · rw [if_pos c5] at H
            have c5b0 : decide (x11_1 < (l1.length : Int)) = true := decide_eq_true c5
            clear c5
            replace H := Option.bind_eq_some_iff.mp H
            obtain ⟨t102, A60, H⟩ := H
            replace H : (if t102 = (-1) then (fiberpath_findNextCharsetPosition.l0 k1 a0 x5_1 l1 (l1.length : Int) (wrap64 (x11_1 + 1))) else (if t102 < x5_1 then (fiberpath_findNextCharsetPosition.l0 k1 a0 t102 l1 (l1.length : Int) (wrap64 (x11_1 + 1))) else (if x5_1 = (-1) then (fiberpath_findNextCharsetPosition.l0 k1 a0 t102 l1 (l1.length : Int) (wrap64 (x11_1 + 1))) else (fiberpath_findNextCharsetPosition.l0 k1 a0 x5_1 l1 (l1.length : Int) (wrap64 (x11_1 + 1)))))) = some r := H
            have A6 := Aside0.mk A60
            clear A60
            by_cases c7 : t102 = (-1)
            · rw [if_pos c7] at H
              have c7b0 : (t102 == (-1)) = true := beq_iff_eq.mpr c7
              have c7b1 : (t102 != (-1)) = false := bne_eq_false_iff_eq.mpr c7
              clear c7
              have H' := Aside0.mk H
              clear H
              have p101 : 0 ≤ (x11_1 : Int) := of_decide_eq_true (by first | (with_reducible assumption) | assumption)
              have q101 : x11_1 < (l1.length : Int) := of_decide_eq_true (by first | (with_reducible assumption) | assumption)
              obtain ⟨ad101, e101, hx101_0⟩ := Kd.at_int HR1.out x11_1 p101 q101
              cases e101
              replace p101 := eq_true p101
              replace q101 := eq_true q101
              go_wp2_with (first | ((with_reducible refine gate_callee (f := 40) rfl ?_); refine goesL_ (some 17) rfl rfl Tryz.func40 (by kernel_rfl) rfl #[.string a0, .int .u8 (rd l1 x11_1)] rfl (by (try simp only [List.map_toArray, List.map_cons, List.map_nil]); first | done | rfl | (simp only [List.length_drop, List.length_take]; rfl)) ?_; (with_reducible refine (strings_IndexByte.calls a0 (rd l1 x11_1) t102 _ A6.out).mono ?_); rintro e w' ⟨rfl, ⟨nd, rfl⟩⟩; refine ⟨_, rfl, ?_⟩))
              go_roundg k1
              case measure => have := HK1.out; omega
              case rel => exact ⟨(x5_1), (wrap64 (x11_1 + 1)), (by first | rfl | (simp; done) | (simp [*]; done)), (by first | rfl | (simp; done) | (simp [*]; done)), H', ⟨by have := HK1.out; omega⟩, by repeat (first | exact Drawn0.refl _ | apply Drawn0.step)⟩
            · rw [if_neg c7] at H
              have c7b0 : (t102 == (-1)) = false := beq_eq_false_iff_ne.mpr c7
              have c7b1 : (t102 != (-1)) = true := bne_iff_ne.mpr c7
              by_cases c8 : t102 < x5_1
              · rw [if_pos c8] at H
                have c8b0 : decide (t102 < x5_1) = true := decide_eq_true c8
                clear c8
                have H' := Aside0.mk H
                clear H
                have p101 : 0 ≤ (x11_1 : Int) := of_decide_eq_true (by first | (with_reducible assumption) | assumption)
                have q101 : x11_1 < (l1.length : Int) := of_decide_eq_true (by first | (with_reducible assumption) | assumption)
                obtain ⟨ad101, e101, hx101_0⟩ := Kd.at_int HR1.out x11_1 p101 q101
                cases e101
                replace p101 := eq_true p101
                replace q101 := eq_true q101
                go_wp2_with (first | ((with_reducible refine gate_callee (f := 40) rfl ?_); refine goesL_ (some 17) rfl rfl Tryz.func40 (by kernel_rfl) rfl #[.string a0, .int .u8 (rd l1 x11_1)] rfl (by (try simp only [List.map_toArray, List.map_cons, List.map_nil]); first | done | rfl | (simp only [List.length_drop, List.length_take]; rfl)) ?_; (with_reducible refine (strings_IndexByte.calls a0 (rd l1 x11_1) t102 _ A6.out).mono ?_); rintro e w' ⟨rfl, ⟨nd, rfl⟩⟩; refine ⟨_, rfl, ?_⟩))
                go_roundg k1
                case measure => have := HK1.out; omega
                case rel => exact ⟨(t102), (wrap64 (x11_1 + 1)), (by first | rfl | (simp; done) | (simp [*]; done)), (by first | rfl | (simp; done) | (simp [*]; done)), H', ⟨by have := HK1.out; omega⟩, by repeat (first | exact Drawn0.refl _ | apply Drawn0.step)⟩
              · rw [if_neg c8] at H
                have c8b0 : decide (t102 < x5_1) = false := decide_eq_false c8
                clear c8
                by_cases c9 : x5_1 = (-1)
                · rw [if_pos c9] at H
                  have c9b0 : (x5_1 == (-1)) = true := beq_iff_eq.mpr c9
                  have c9b1 : (x5_1 != (-1)) = false := bne_eq_false_iff_eq.mpr c9
                  clear c9
                  have H' := Aside0.mk H
                  clear H
                  have p101 : 0 ≤ (x11_1 : Int) := of_decide_eq_true (by first | (with_reducible assumption) | assumption)
                  have q101 : x11_1 < (l1.length : Int) := of_decide_eq_true (by first | (with_reducible assumption) | assumption)
                  obtain ⟨ad101, e101, hx101_0⟩ := Kd.at_int HR1.out x11_1 p101 q101
                  cases e101
                  replace p101 := eq_true p101
                  replace q101 := eq_true q101
                  go_wp2_with (first | ((with_reducible refine gate_callee (f := 40) rfl ?_); refine goesL_ (some 17) rfl rfl Tryz.func40 (by kernel_rfl) rfl #[.string a0, .int .u8 (rd l1 x11_1)] rfl (by (try simp only [List.map_toArray, List.map_cons, List.map_nil]); first | done | rfl | (simp only [List.length_drop, List.length_take]; rfl)) ?_; (with_reducible refine (strings_IndexByte.calls a0 (rd l1 x11_1) t102 _ A6.out).mono ?_); rintro e w' ⟨rfl, ⟨nd, rfl⟩⟩; refine ⟨_, rfl, ?_⟩))
                  go_roundg k1
                  case measure => have := HK1.out; omega
                  case rel => exact ⟨(t102), (wrap64 (x11_1 + 1)), (by first | rfl | (simp; done) | (simp [*]; done)), (by first | rfl | (simp; done) | (simp [*]; done)), H', ⟨by have := HK1.out; omega⟩, by repeat (first | exact Drawn0.refl _ | apply Drawn0.step)⟩
                · rw [if_neg c9] at H
                  have c9b0 : (x5_1 == (-1)) = false := beq_eq_false_iff_ne.mpr c9
                  have c9b1 : (x5_1 != (-1)) = true := bne_iff_ne.mpr c9
                  have H' := Aside0.mk H
                  clear H
                  have p101 : 0 ≤ (x11_1 : Int) := of_decide_eq_true (by first | (with_reducible assumption) | assumption)
                  have q101 : x11_1 < (l1.length : Int) := of_decide_eq_true (by first | (with_reducible assumption) | assumption)
                  obtain ⟨ad101, e101, hx101_0⟩ := Kd.at_int HR1.out x11_1 p101 q101
                  cases e101
                  replace p101 := eq_true p101
                  replace q101 := eq_true q101
                  go_wp2_with (first | ((with_reducible refine gate_callee (f := 40) rfl ?_); refine goesL_ (some 17) rfl rfl Tryz.func40 (by kernel_rfl) rfl #[.string a0, .int .u8 (rd l1 x11_1)] rfl (by (try simp only [List.map_toArray, List.map_cons, List.map_nil]); first | done | rfl | (simp only [List.length_drop, List.length_take]; rfl)) ?_; (with_reducible refine (strings_IndexByte.calls a0 (rd l1 x11_1) t102 _ A6.out).mono ?_); rintro e w' ⟨rfl, ⟨nd, rfl⟩⟩; refine ⟨_, rfl, ?_⟩))
                  go_roundg k1
                  case measure => have := HK1.out; omega
                  case rel => exact ⟨(x5_1), (wrap64 (x11_1 + 1)), (by first | rfl | (simp; done) | (simp [*]; done)), (by first | rfl | (simp; done) | (simp [*]; done)), H', ⟨by have := HK1.out; omega⟩, by repeat (first | exact Drawn0.refl _ | apply Drawn0.step)⟩
          · rw [if_neg c5] at H
            exact absurd H (by simp)
        · rw [if_neg c4] at H
          exact absurd H (by simp)
      · rw [if_neg c3] at H
        have c3b0 : decide (x11_1 < (l1.length : Int)) = false := decide_eq_false c3
        clear c3
        obtain rfl := Option.some.inj H
        go_wp2
        go_ret
        exact ⟨by first | rfl | (simp; done) | (simp [*]; done), by repeat (first | exact Drawn0.refl _ | apply Drawn0.step)⟩

/-! ### fiberpath_findNextNonEscapedCharsetPosition: function 48 -/
mutual
def fiberpath_findNextNonEscapedCharsetPosition.l0 : Nat → ByteArray → List Int → Int → Option (Int)
  | 0, _, _, _ => none
  | k + 1, x0, x1, x5 => if x5 > 0 then (if 0 ≤ (wrap64 (x5 - 1)) then (if (wrap64 (x5 - 1)) < (x0.size : Int) then (fiberpath_findNextNonEscapedCharsetPosition.j1 k x0 x1 x5 ((bt x0 (wrap64 (x5 - 1))) == 92)) else (none)) else (none)) else (fiberpath_findNextNonEscapedCharsetPosition.j1 k x0 x1 x5 false)
def fiberpath_findNextNonEscapedCharsetPosition.j1 : Nat → ByteArray → List Int → Int → Bool → Option (Int)
  | 0, _, _, _, _ => none
  | k + 1, x0, x1, x5, x18 => if x18 = true then (if (x0.size : Int) = (wrap64 (x5 + 1)) then (some (-1)) else (if 0 ≤ (wrap64 (x5 + 1)) then (if (wrap64 (x5 + 1)) ≤ (x0.size : Int) then ((fiberpath_findNextCharsetPosition.f k (x0.extract ((wrap64 (x5 + 1)) : Int).toNat x0.size) x1).bind fun t104 => (if t104 = (-1) then (some (-1)) else (fiberpath_findNextNonEscapedCharsetPosition.l0 k x0 x1 (wrap64 ((wrap64 (t104 + x5)) + 1))))) else (none)) else (none))) else (some x5)
end
def fiberpath_findNextNonEscapedCharsetPosition.f (k : Nat) (a0 : ByteArray) (l1 : List Int) : Option (Int) := (fiberpath_findNextCharsetPosition.f k a0 l1).bind fun t103 => (fiberpath_findNextNonEscapedCharsetPosition.l0 k a0 l1 t103)
theorem fiberpath_findNextNonEscapedCharsetPosition.mono_l : ∀ k, (∀ y0 y1 y2, LeO (fiberpath_findNextNonEscapedCharsetPosition.l0 k y0 y1 y2) (fiberpath_findNextNonEscapedCharsetPosition.l0 (k + 1) y0 y1 y2)) ∧ (∀ y0 y1 y2 y3, LeO (fiberpath_findNextNonEscapedCharsetPosition.j1 k y0 y1 y2 y3) (fiberpath_findNextNonEscapedCharsetPosition.j1 (k + 1) y0 y1 y2 y3))
  | 0 => ⟨fun _ _ _ r h => by simp [fiberpath_findNextNonEscapedCharsetPosition.l0] at h, fun _ _ _ _ r h => by simp [fiberpath_findNextNonEscapedCharsetPosition.j1] at h⟩
  | k + 1 => by
    obtain ⟨ih0, ih1⟩ := fiberpath_findNextNonEscapedCharsetPosition.mono_l k
    refine ⟨?_, ?_⟩
    · intro y0 y1 y2
      unfold fiberpath_findNextNonEscapedCharsetPosition.l0
      repeat' first
      | (with_reducible exact ih0 _ _ _)
      | (with_reducible exact ih1 _ _ _ _)
      | (with_reducible exact fiberpath_findNextCharsetPosition.mono _ _ _)
      | (with_reducible exact LeO.refl _)
      | (with_reducible exact LeO.none _)
      | (with_reducible refine LeO.ite ?_ ?_)
      | (with_reducible refine LeO.bind ?_ (fun _ => ?_))
      | exact ih0 _ _ _
      | exact ih1 _ _ _ _
      | exact fiberpath_findNextCharsetPosition.mono _ _ _
      | exact LeO.none _
      | refine LeO.ite ?_ ?_
      | refine LeO.bind ?_ (fun _ => ?_)
    · intro y0 y1 y2 y3
      unfold fiberpath_findNextNonEscapedCharsetPosition.j1
      repeat' first
      | (with_reducible exact ih0 _ _ _)
      | (with_reducible exact ih1 _ _ _ _)
      | (with_reducible exact fiberpath_findNextCharsetPosition.mono _ _ _)
      | (with_reducible exact LeO.refl _)
      | (with_reducible exact LeO.none _)
      | (with_reducible refine LeO.ite ?_ ?_)
      | (with_reducible refine LeO.bind ?_ (fun _ => ?_))
      | exact ih0 _ _ _
      | exact ih1 _ _ _ _
      | exact fiberpath_findNextCharsetPosition.mono _ _ _
      | exact LeO.none _
      | refine LeO.ite ?_ ?_
      | refine LeO.bind ?_ (fun _ => ?_)
theorem fiberpath_findNextNonEscapedCharsetPosition.mono : ∀ a0 a1 k, LeO (fiberpath_findNextNonEscapedCharsetPosition.f k a0 a1) (fiberpath_findNextNonEscapedCharsetPosition.f (k + 1) a0 a1) := by
  intro a0 a1 k
  obtain ⟨ih0, ih1⟩ := fiberpath_findNextNonEscapedCharsetPosition.mono_l k
  unfold fiberpath_findNextNonEscapedCharsetPosition.f
  repeat' first
      | (with_reducible exact ih0 _ _ _)
      | (with_reducible exact ih1 _ _ _ _)
      | (with_reducible exact fiberpath_findNextCharsetPosition.mono _ _ _)
      | (with_reducible exact LeO.refl _)
      | (with_reducible exact LeO.none _)
      | (with_reducible refine LeO.ite ?_ ?_)
      | (with_reducible refine LeO.bind ?_ (fun _ => ?_))
      | exact ih0 _ _ _
      | exact ih1 _ _ _ _
      | exact fiberpath_findNextCharsetPosition.mono _ _ _
      | exact LeO.none _
      | refine LeO.ite ?_ ?_
      | refine LeO.bind ?_ (fun _ => ?_)
set_option maxHeartbeats 8000000 in
set_option maxRecDepth 100000 in
theorem fiberpath_findNextNonEscapedCharsetPosition.calls (k : Nat) (a0 : ByteArray) (A1 : Option Addr) (c1 : Nat) (l1 : List Int) (r : Int) (w : World) (hr1 : Kd.C (Kd.int .u8) w A1 l1.length l1) (hc1 : l1.length ≤ c1) (h : fiberpath_findNextNonEscapedCharsetPosition.f k a0 l1 = some r) :
    Calls Tryz.prog 48 #[.string a0, .slice A1 l1.length c1] w fun e w' => e = .returned (.int .i64 r) ∧ Drawn0 w w' := by
  have HR1 := Aside0.mk hr1
  have HC1 := Aside0.mk hc1
  clear hr1 hc1
  have H : ((fiberpath_findNextCharsetPosition.f k a0 l1).bind fun t103 => (fiberpath_findNextNonEscapedCharsetPosition.l0 k a0 l1 t103)) = some r := h
  clear h
  replace H := Option.bind_eq_some_iff.mp H
  obtain ⟨t103, A30, H⟩ := H
  replace H : (fiberpath_findNextNonEscapedCharsetPosition.l0 k a0 l1 t103) = some r := H
  have A3 := Aside0.mk A30
  clear A30
  have H' := Aside0.mk H
  clear H
  go_enter Tryz.func48, Tryz.ntmps48
  go_wp2_with (first | ((with_reducible refine gate_callee (f := 76) rfl ?_); refine goesL_ (some 9) rfl rfl Tryz.func76 (by kernel_rfl) rfl #[.string a0, .slice A1 l1.length c1] rfl (by (try simp only [List.map_toArray, List.map_cons, List.map_nil]); first | done | rfl | (simp only [List.length_drop, List.length_take]; rfl)) ?_; (with_reducible refine (fiberpath_findNextCharsetPosition.calls k a0 _ _ l1 t103 _ ?side1 ?side2 A3.out).mono ?_); (case side1 => repeat (first | exact HR1.out | (with_reducible refine Kd.C_alloc ?_ _) | (with_reducible refine Kd.C_drewN ?_ _) | (with_reducible refine Kd.C_drew ?_))); (case side2 => exact HC1.out); rintro e w' ⟨rfl, ⟨nd, rfl⟩⟩; refine ⟨_, rfl, ?_⟩))
  go_loopg [5] k (fun kq v5 w' => ∃ (x5_1 : Int), v5 = .int .i64 x5_1 ∧ Aside0 (fiberpath_findNextNonEscapedCharsetPosition.l0 kq a0 l1 x5_1 = some r) ∧ Aside0 (kq ≤ k) ∧ Drawn0 w w')
  case atStart => exact ⟨(t103), (by first | rfl | (simp; done) | (simp [*]; done)), H', ⟨Nat.le_refl _⟩, by repeat (first | exact Drawn0.refl _ | apply Drawn0.step)⟩
  case round =>
    clear H'
    try clear c1
    try clear p2
    obtain ⟨x5_1, rfl, HA, HK1, ⟨m1, rfl⟩⟩ := hrel
    cases gk with
    | zero => exact absurd HA.out (by simp [fiberpath_findNextNonEscapedCharsetPosition.l0])
    | succ k1 =>
      have H := HA.out
      clear HA
      simp only [fiberpath_findNextNonEscapedCharsetPosition.l0] at H
      have HC4 := Aside0.mk H
      clear H
      go_upto_region 2 with (fail)
      go_cut [18] (fun v18 wc => ∃ (kq : Nat) (x18_3 : Bool), v18 = .bool x18_3 ∧ Aside0 (fiberpath_findNextNonEscapedCharsetPosition.j1 kq a0 l1 x5_1 x18_3 = some r) ∧ Aside0 (kq ≤ k1) ∧ Drawn0 w wc)
      case first =>
        have H := HC4.out
        clear HC4
        by_cases c5 : x5_1 > 0
        · rw [if_pos c5] at H
          have c5b0 : decide (0 < x5_1) = true := decide_eq_true c5
          clear c5
          (first | rw [c5b0] | (simp only [i64_w, i32_w]; rw [c5b0]) | skip)
          obtain ⟨ji6, hji6⟩ : ∃ j_ : Int, (wrap64 (x5_1 - 1)) = j_ := ⟨_, rfl⟩
          replace H : (if 0 ≤ (ji6) then (if (ji6) < (a0.size : Int) then (fiberpath_findNextNonEscapedCharsetPosition.j1 k1 a0 l1 x5_1 ((bt a0 (ji6)) == 92)) else (none)) else (none)) = some r := by first | (rw [hji6] at H; exact H) | (simp only [hji6] at H ⊢; exact H)
          have hji6w : (IntKind.i64.wrap (x5_1 - 1)) = ji6 := (i64_w _).trans hji6
          by_cases c7 : 0 ≤ (ji6)
          · rw [if_pos c7] at H
            have c7b0 : decide (0 ≤ (ji6)) = true := decide_eq_true c7
            clear c7
            by_cases c8 : (ji6) < (a0.size : Int)
            · rw [if_pos c8] at H
              have c8b0 : decide ((ji6) < (a0.size : Int)) = true := decide_eq_true c8
              clear c8
              have H' := Aside0.mk H
              clear H
              have p9 : 0 ≤ ((ji6) : Int) := of_decide_eq_true (by first | (with_reducible assumption) | assumption)
              have q9 : (ji6) < (a0.size : Int) := of_decide_eq_true (by first | (with_reducible assumption) | assumption)
              have hx9 := bt_at a0 (ji6)
              replace p9 := eq_true p9
              replace q9 := eq_true q9
              go_wp2
              go_meet
              case rel => exact ⟨_, (((bt a0 (ji6)) == 92)), (by first | rfl | (simp; done) | (simp only [← hji6] <;> (first | rfl | simp)) | (simp [*]; done)), H', ⟨by have := HK1.out; first | omega | exact Nat.le_refl _⟩, by repeat (first | exact Drawn0.refl _ | apply Drawn0.step)⟩
            · rw [if_neg c8] at H
              exact absurd H (by simp)
          · rw [if_neg c7] at H
            exact absurd H (by simp)
        · rw [if_neg c5] at H
          have c5b0 : decide (0 < x5_1) = false := decide_eq_false c5
          clear c5
          (first | rw [c5b0] | (simp only [i64_w, i32_w]; rw [c5b0]) | skip)
          have H' := Aside0.mk H
          clear H
          go_wp2
          go_meet
          case rel => exact ⟨_, (false), (by first | rfl | (simp; done) | (simp [*]; done)), H', ⟨by have := HK1.out; first | omega | exact Nat.le_refl _⟩, by repeat (first | exact Drawn0.refl _ | apply Drawn0.step)⟩
      case rest =>
        clear HC4
        try clear c1
        try clear p2
        try clear c4
        try clear c5
        try clear c5b0
        try clear p6
        try clear c7
        try clear c7b0
        try clear c8
        try clear c8b0
        try clear p9
        try clear q9
        try clear hx9
        try clear p2
        try clear p9
        try clear q9
        obtain ⟨kq, x18_3, rfl, HA, HJ3, ⟨mc3, rfl⟩⟩ := hcut
        cases kq with
        | zero => exact absurd HA.out (by simp [fiberpath_findNextNonEscapedCharsetPosition.j1])
        | succ kj3 =>
          have H := HA.out
          clear HA
          simp only [fiberpath_findNextNonEscapedCharsetPosition.j1] at H
          by_cases c10 : x18_3 = true
          · subst c10
            have H1 : (if (a0.size : Int) = (wrap64 (x5_1 + 1)) then (some (-1)) else (if 0 ≤ (wrap64 (x5_1 + 1)) then (if (wrap64 (x5_1 + 1)) ≤ (a0.size : Int) then ((fiberpath_findNextCharsetPosition.f kj3 (a0.extract ((wrap64 (x5_1 + 1)) : Int).toNat a0.size) l1).bind fun t104 => (if t104 = (-1) then (some (-1)) else (fiberpath_findNextNonEscapedCharsetPosition.l0 kj3 a0 l1 (wrap64 ((wrap64 (t104 + x5_1)) + 1))))) else (none)) else (none))) = some r := by rw [if_pos rfl] at H; exact H
            clear H
            have H := H1
            clear H1
            by_cases c11 : (a0.size : Int) = (wrap64 (x5_1 + 1))
            · rw [if_pos c11] at H
              have c11b0 : ((a0.size : Int) == (wrap64 (x5_1 + 1))) = true := beq_iff_eq.mpr c11
              have c11b1 : ((a0.size : Int) != (wrap64 (x5_1 + 1))) = false := bne_eq_false_iff_eq.mpr c11
              clear c11
              obtain rfl := Option.some.inj H
              go_wp2
              go_ret
              exact ⟨by first | rfl | (simp; done) | (simp [*]; done), by repeat (first | exact Drawn0.refl _ | apply Drawn0.step)⟩
            · rw [if_neg c11] at H
              have c11b0 : ((a0.size : Int) == (wrap64 (x5_1 + 1))) = false := beq_eq_false_iff_ne.mpr c11
              have c11b1 : ((a0.size : Int) != (wrap64 (x5_1 + 1))) = true := bne_iff_ne.mpr c11
              obtain ⟨ji12, hji12⟩ : ∃ j_ : Int, (wrap64 (x5_1 + 1)) = j_ := ⟨_, rfl⟩
              replace H : (if 0 ≤ (ji12) then (if (ji12) ≤ (a0.size : Int) then ((fiberpath_findNextCharsetPosition.f kj3 (a0.extract ((ji12) : Int).toNat a0.size) l1).bind fun t104 => (if t104 = (-1) then (some (-1)) else (fiberpath_findNextNonEscapedCharsetPosition.l0 kj3 a0 l1 (wrap64 ((wrap64 (t104 + x5_1)) + 1))))) else (none)) else (none)) = some r := by first | (rw [hji12] at H; exact H) | (simp only [hji12] at H ⊢; exact H)
              (try rw [hji12] at c11b0)
              (try rw [hji12] at c11b1)
              have hji12w : (IntKind.i64.wrap (x5_1 + 1)) = ji12 := (i64_w _).trans hji12
              by_cases c13 : 0 ≤ (ji12)
              · rw [if_pos c13] at H
                have c13b0 := eq_true c13
                have c13b1 : decide (0 ≤ (ji12)) = true := decide_eq_true c13
                clear c13
                by_cases c14 : (ji12) ≤ (a0.size : Int)
                · rw [if_pos c14] at H
                  have c14b0 := eq_true c14
                  have c14b1 : decide ((ji12) ≤ (a0.size : Int)) = true := decide_eq_true c14
                  clear c14
                  replace H := Option.bind_eq_some_iff.mp H
                  obtain ⟨t104, A150, H⟩ := H
                  replace H : (if t104 = (-1) then (some (-1)) else (fiberpath_findNextNonEscapedCharsetPosition.l0 kj3 a0 l1 (wrap64 ((wrap64 (t104 + x5_1)) + 1)))) = some r := H
                  have A15 := Aside0.mk A150
                  clear A150
                  by_cases c16 : t104 = (-1)
                  · rw [if_pos c16] at H
                    have c16b0 : (t104 == (-1)) = true := beq_iff_eq.mpr c16
                    have c16b1 : (t104 != (-1)) = false := bne_eq_false_iff_eq.mpr c16
                    clear c16
                    obtain rfl := Option.some.inj H
                    go_wp2_with (first | ((with_reducible refine gate_callee (f := 76) rfl ?_); refine goesL_ (some 29) rfl rfl Tryz.func76 (by kernel_rfl) rfl #[.string (a0.extract ((ji12) : Int).toNat a0.size), .slice A1 l1.length c1] rfl (by (try simp only [List.map_toArray, List.map_cons, List.map_nil]); first | done | (simp only [hji12]; rfl) | rfl | (simp only [List.length_drop, List.length_take]; rfl)) ?_; (with_reducible refine (fiberpath_findNextCharsetPosition.calls kj3 (a0.extract ((ji12) : Int).toNat a0.size) _ _ l1 t104 _ ?side1 ?side2 A15.out).mono ?_); (case side1 => repeat (first | exact HR1.out | (with_reducible refine Kd.C_alloc ?_ _) | (with_reducible refine Kd.C_drewN ?_ _) | (with_reducible refine Kd.C_drew ?_))); (case side2 => exact HC1.out); rintro e w' ⟨rfl, ⟨nd, rfl⟩⟩; refine ⟨_, rfl, ?_⟩))
                    go_ret
                    exact ⟨by first | rfl | (simp; done) | (simp only [← hji12] <;> (first | rfl | simp)) | (simp [*]; done), by repeat (first | exact Drawn0.refl _ | apply Drawn0.step)⟩
                  · rw [if_neg c16] at H
                    have c16b0 : (t104 == (-1)) = false := beq_eq_false_iff_ne.mpr c16
                    have c16b1 : (t104 != (-1)) = true := bne_iff_ne.mpr c16
                    have H' := Aside0.mk H
                    clear H
                    go_wp2_with (first | ((with_reducible refine gate_callee (f := 76) rfl ?_); refine goesL_ (some 29) rfl rfl Tryz.func76 (by kernel_rfl) rfl #[.string (a0.extract ((ji12) : Int).toNat a0.size), .slice A1 l1.length c1] rfl (by (try simp only [List.map_toArray, List.map_cons, List.map_nil]); first | done | (simp only [hji12]; rfl) | rfl | (simp only [List.length_drop, List.length_take]; rfl)) ?_; (with_reducible refine (fiberpath_findNextCharsetPosition.calls kj3 (a0.extract ((ji12) : Int).toNat a0.size) _ _ l1 t104 _ ?side1 ?side2 A15.out).mono ?_); (case side1 => repeat (first | exact HR1.out | (with_reducible refine Kd.C_alloc ?_ _) | (with_reducible refine Kd.C_drewN ?_ _) | (with_reducible refine Kd.C_drew ?_))); (case side2 => exact HC1.out); rintro e w' ⟨rfl, ⟨nd, rfl⟩⟩; refine ⟨_, rfl, ?_⟩))
                    go_roundg kj3
                    case measure => have := HK1.out; have := HJ3.out; omega
                    case rel => exact ⟨(wrap64 ((wrap64 (t104 + x5_1)) + 1)), (by first | rfl | (simp; done) | (simp [*]; done)), H', ⟨by have := HK1.out; have := HJ3.out; omega⟩, by repeat (first | exact Drawn0.refl _ | apply Drawn0.step)⟩
                · rw [if_neg c14] at H
                  exact absurd H (by simp)
              · rw [if_neg c13] at H
                exact absurd H (by simp)
          · replace c10 := Bool.eq_false_iff.mpr c10
            subst c10
            have H1 : (some x5_1) = some r := by rw [if_neg (show ¬ (false = true) by decide)] at H; exact H
            clear H
            have H := H1
            clear H1
            obtain rfl := Option.some.inj H
            go_wp2
            go_ret
            exact ⟨by first | rfl | (simp; done) | (simp [*]; done), by repeat (first | exact Drawn0.refl _ | apply Drawn0.step)⟩

/-! ### fiberpath_parameterStartChars: function 49 -/
def fiberpath_parameterStartChars.f  : Option (List Int) := some (([42, 43, 58] : List Int))
set_option maxHeartbeats 8000000 in
set_option maxRecDepth 100000 in
theorem fiberpath_parameterStartChars.calls  (r : List Int) (w : World) (h : fiberpath_parameterStartChars.f  = some r) :
    Calls Tryz.prog 49 #[] w fun e w' => ∃ v0_ : Value, e = .returned (v0_) ∧ Kd.R (Kd.int .u8) 5 w' w.heap.size (fun _ => True) v0_ r ∧ Below w.heap.size w w' := by
  have HB := Aside0.mk (Below.refl w.heap.size w)
  have H : (some (([42, 43, 58] : List Int))) = some r := h
  clear h
  obtain ⟨y105, hy105⟩ : ∃ y_ : List Int, y_ = (([42, 43, 58] : List Int)) := ⟨_, rfl⟩
  replace H : (some y105) = some r := by first | (rw [hy105]; with_reducible exact H) | (have H2_ := (Option.bind_some _ _).symm.trans H; rw [hy105]; with_reducible exact H2_) | (have H2_ := (Option.bind_some _ _).symm.trans H; with_reducible exact H2_) | with_reducible exact H | (rw [hy105]; exact H) | exact H
  have Ny105 := Aside0.mk hy105
  clear hy105
  obtain rfl := Option.some.inj H
  go_enter Tryz.func49, Tryz.ntmps49
  go_wp2_with (first | ((with_reducible refine gate_dst (N := 1) rfl ?_); refine Kd.R_lit (Kd.int .u8) _ 5 ?hg (N := 1) ?hd (xs := ([42, 43, 58] : List Int)) (inner := [.int .u8 42, .int .u8 43, .int .u8 58]) (ok := fun _ => True) (okp := fun _ => True) ?hr ?hp (fun _ hk => hk) trivial (Below.refl _ _) (Nat.le_refl _) (by simp) ?_; (case hd => rfl); (case hg => rfl); (case hr => first | (go_simp; done) | (go_simp; rfl)); (case hp => exact (Reps.one (show Kd.M (Kd.int .u8) _ _ _ 42 [.int .u8 42] from rfl) (Reps.one (show Kd.M (Kd.int .u8) _ _ _ 43 [.int .u8 43] from rfl) (Reps.one (show Kd.M (Kd.int .u8) _ _ _ 58 [.int .u8 58] from rfl) (Reps.none _ _))))); intro v106 w1 ho2 hb hg_ hnew_; clear hg_ hnew_; (first | rw [← Ny105.out] at ho2 | (simp only [Int.reduceToNat] at ho2; rw [← Ny105.out] at ho2)); have n0_ := Aside0.mk (Kd.R_lower ho2 (below_size (by repeat (first | (with_reducible first | exact HB.out | apply below_alloc | apply pw_below_drewN | apply below_drew1) | exact HB.out)))); have n1_ := Aside0.mk (below_step (by repeat (first | (with_reducible first | exact HB.out | apply below_alloc | apply pw_below_drewN | apply below_drew1) | exact HB.out)) hb); clear HB; have HO107 := n0_; have HB := n1_; clear n0_ n1_; clear hb ho2))
  go_ret
  exact ⟨_, by first | rfl | (simp [errW_none, errW_some] <;> rfl) | (simp [*, errW_none, errW_some] <;> rfl), by (with_reducible repeat (first | apply Kd.R_alloc | apply Kd.R_drewN | apply Kd.R_drew)); exact HO107.out, by repeat (first | (with_reducible first | exact HB.out | apply below_alloc | apply pw_below_drewN | apply below_drew1) | exact HB.out)⟩

end Go.Proofs.YtfahabnjplnbmaaGreatDoor.Q
