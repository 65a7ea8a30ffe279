-- Laid by a program of this session's own, after the kit's print (two functions given by hand). Lean checks it.
import Derived.Test.YtfahabnjplnbmaaGreatDoorMQx0
import Derived.Test.YtfahabnjplnbmaaGreatDoorMQx3
import Derived.Test.YtfahabnjplnbmaaGreatDoorMQx4
namespace Go.Proofs.YtfahabnjplnbmaaGreatDoor.Q
open Go.RowKit Go.Proofs.YtfahabnjplnbmaaGreatDoorW.PrintWords Go.Proofs.YtfahabnjplnbmaaGreatDoorW.PrintLast Go.Proofs.YtfahabnjplnbmaaGreatDoorW.PrintMore
attribute [local go_sem] max2_int min2_int max_two min_two max_three min_three max_four min_four   -- for this text's walks alone
set_option linter.unusedVariables false
set_option linter.unusedSimpArgs false

/-! ### spec_Parts: function 6 -/
mutual
def spec_Parts.l0 : Nat → ByteArray → List (S42) → Int → Int → Int → Int → Option ((List (S42)) × Int)
  | 0, _, _, _, _, _, _ => none
  | k + 1, x0, x4, x5, x6, x7, x8 => if x8 < (x0.size : Int) then (if 0 ≤ x8 then (if (bt x0 x8) = 42 then ((spec_digit.f k (wrap64 (x5 + 1))).bind fun t156 => (if 1 + t156.size ≤ 9223372036854775807 then (spec_Parts.j4 k x0 x4 (wrap64 (x5 + 1)) x6 x7 (wrap64 (x8 + 1)) (⟨#[]⟩ : ByteArray) ((⟨#[42]⟩ : ByteArray) ++ t156) true true true) else (none))) else (if (bt x0 x8) = 43 then ((spec_digit.f k (wrap64 (x6 + 1))).bind fun t157 => (if 1 + t157.size ≤ 9223372036854775807 then (spec_Parts.j4 k x0 x4 x5 (wrap64 (x6 + 1)) x7 (wrap64 (x8 + 1)) (⟨#[]⟩ : ByteArray) ((⟨#[43]⟩ : ByteArray) ++ t157) true true false) else (none))) else (if (bt x0 x8) = 58 then (spec_Parts.l1 k x0 x4 x5 x6 x7 x8 (wrap64 (x8 + 1)) (⟨#[]⟩ : ByteArray) (⟨#[]⟩ : ByteArray) true false false) else ((spec_constByte.f (bt x0 x8)).bind fun t159 => (if t159 = true then (spec_Parts.l2 k x0 x4 x5 x6 x7 x8 x8) else (some (([] : List (S42)), 2))))))) else (none)) else (if x7 > 30 then (spec_Parts.j5 k x4 true) else (spec_Parts.j5 k x4 (decide (x5 > 90))))
def spec_Parts.j4 : Nat → ByteArray → List (S42) → Int → Int → Int → Int → ByteArray → ByteArray → Bool → Bool → Bool → Option ((List (S42)) × Int)
  | 0, _, _, _, _, _, _, _, _, _, _, _ => none
  | k + 1, x0, x4, x5, x6, x7, x8, x156000, x156001, x156002, x156003, x156004 => if x156002 = true then (if (x4.length : Int) > 0 then (if 0 ≤ (wrap64 ((x4.length : Int) - 1)) then (if (wrap64 ((x4.length : Int) - 1)) < (x4.length : Int) then (if (rd_T42 x4 (wrap64 ((x4.length : Int) - 1))).f2 = true then (some (([] : List (S42)), 2)) else (if x4.length < 2199023255552 then (spec_Parts.l0 k x0 (x4 ++ [(⟨x156000, x156001, x156002, x156003, x156004, ([] : List (S66))⟩ : S42)]) x5 x6 (wrap64 (x7 + 1)) x8) else (none))) else (none)) else (none)) else (if x4.length < 2199023255552 then (spec_Parts.l0 k x0 (x4 ++ [(⟨x156000, x156001, x156002, x156003, x156004, ([] : List (S66))⟩ : S42)]) x5 x6 (wrap64 (x7 + 1)) x8) else (none))) else (if x4.length < 2199023255552 then (spec_Parts.l0 k x0 (x4 ++ [(⟨x156000, x156001, x156002, x156003, x156004, ([] : List (S66))⟩ : S42)]) x5 x6 x7 x8) else (none))
def spec_Parts.j2 : Nat → ByteArray → List (S42) → Int → Int → Int → Int → Int → ByteArray → ByteArray → Bool → Bool → Bool → Option ((List (S42)) × Int)
  | 0, _, _, _, _, _, _, _, _, _, _, _, _ => none
  | k + 1, x0, x4, x5, x6, x7, x8, x11, x156000, x156001, x156002, x156003, x156004 => if x11 = (wrap64 (x8 + 1)) then (some (([] : List (S42)), 2)) else (if 0 ≤ (wrap64 (x8 + 1)) then (if (wrap64 (x8 + 1)) ≤ x11 then (if x11 ≤ (x0.size : Int) then (if x11 < (x0.size : Int) then (if 0 ≤ x11 then (if (bt x0 x11) = 63 then (spec_Parts.j4 k x0 x4 x5 x6 x7 (wrap64 (x11 + 1)) x156000 (x0.extract ((wrap64 (x8 + 1)) : Int).toNat (x11 : Int).toNat) x156002 x156003 true) else (spec_Parts.j4 k x0 x4 x5 x6 x7 x11 x156000 (x0.extract ((wrap64 (x8 + 1)) : Int).toNat (x11 : Int).toNat) x156002 x156003 x156004)) else (none)) else (spec_Parts.j4 k x0 x4 x5 x6 x7 x11 x156000 (x0.extract ((wrap64 (x8 + 1)) : Int).toNat (x11 : Int).toNat) x156002 x156003 x156004)) else (none)) else (none)) else (none))
def spec_Parts.l1 : Nat → ByteArray → List (S42) → Int → Int → Int → Int → Int → ByteArray → ByteArray → Bool → Bool → Bool → Option ((List (S42)) × Int)
  | 0, _, _, _, _, _, _, _, _, _, _, _, _ => none
  | k + 1, x0, x4, x5, x6, x7, x8, x11, x156000, x156001, x156002, x156003, x156004 => if x11 < (x0.size : Int) then (if 0 ≤ x11 then ((spec_nameByte.f (bt x0 x11)).bind fun t158 => (if t158 = true then (spec_Parts.l1 k x0 x4 x5 x6 x7 x8 (wrap64 (x11 + 1)) x156000 x156001 x156002 x156003 x156004) else (spec_Parts.j2 k x0 x4 x5 x6 x7 x8 x11 x156000 x156001 x156002 x156003 x156004))) else (none)) else (spec_Parts.j2 k x0 x4 x5 x6 x7 x8 x11 x156000 x156001 x156002 x156003 x156004)
def spec_Parts.l2 : Nat → ByteArray → List (S42) → Int → Int → Int → Int → Int → Option ((List (S42)) × Int)
  | 0, _, _, _, _, _, _, _ => none
  | k + 1, x0, x4, x5, x6, x7, x8, x12 => if x12 < (x0.size : Int) then (if 0 ≤ x12 then ((spec_constByte.f (bt x0 x12)).bind fun t160 => (if t160 = true then (spec_Parts.l2 k x0 x4 x5 x6 x7 x8 (wrap64 (x12 + 1))) else (if 0 ≤ x8 then (if x8 ≤ x12 then (if x12 ≤ (x0.size : Int) then (spec_Parts.j4 k x0 x4 x5 x6 x7 x12 (x0.extract (x8 : Int).toNat (x12 : Int).toNat) (⟨#[]⟩ : ByteArray) false false false) else (none)) else (none)) else (none)))) else (none)) else (if 0 ≤ x8 then (if x8 ≤ x12 then (if x12 ≤ (x0.size : Int) then (spec_Parts.j4 k x0 x4 x5 x6 x7 x12 (x0.extract (x8 : Int).toNat (x12 : Int).toNat) (⟨#[]⟩ : ByteArray) false false false) else (none)) else (none)) else (none))
def spec_Parts.j5 : Nat → List (S42) → Bool → Option ((List (S42)) × Int)
  | 0, _, _ => none
  | k + 1, x4, x135 => if x135 = true then (some (([] : List (S42)), 2)) else (spec_Parts.l3 k x4 1)
def spec_Parts.l3 : Nat → List (S42) → Int → Option ((List (S42)) × Int)
  | 0, _, _ => none
  | k + 1, x4, x13 => if x13 < (x4.length : Int) then (if 0 ≤ (wrap64 (x13 - 1)) then (if (wrap64 (x13 - 1)) < (x4.length : Int) then (if (rd_T42 x4 (wrap64 (x13 - 1))).f2 = true then (if ((rd_T42 x4 (wrap64 (x13 - 1))).f3 = true) then (spec_Parts.l3 k x4 (wrap64 (x13 + 1))) else (if 0 ≤ x13 then ((spec_short.f k ((rd_T42 x4 x13).f0)).bind fun t174 => (if t174 = true then (some (([] : List (S42)), 2)) else (spec_Parts.l3 k x4 (wrap64 (x13 + 1))))) else (none))) else (spec_Parts.l3 k x4 (wrap64 (x13 + 1)))) else (none)) else (none)) else (some (x4, 1))
end
def spec_Parts.f (k : Nat) (a0 : ByteArray) : Option ((List (S42)) × Int) := spec_Parts.l0 k a0 ([] : List (S42)) 0 0 0 0
theorem spec_Parts.mono_l : ∀ k, (∀ y0 y1 y2 y3 y4 y5, LeO (spec_Parts.l0 k y0 y1 y2 y3 y4 y5) (spec_Parts.l0 (k + 1) y0 y1 y2 y3 y4 y5)) ∧ (∀ y0 y1 y2 y3 y4 y5 y6 y7 y8 y9 y10, LeO (spec_Parts.j4 k y0 y1 y2 y3 y4 y5 y6 y7 y8 y9 y10) (spec_Parts.j4 (k + 1) y0 y1 y2 y3 y4 y5 y6 y7 y8 y9 y10)) ∧ (∀ y0 y1 y2 y3 y4 y5 y6 y7 y8 y9 y10 y11, LeO (spec_Parts.j2 k y0 y1 y2 y3 y4 y5 y6 y7 y8 y9 y10 y11) (spec_Parts.j2 (k + 1) y0 y1 y2 y3 y4 y5 y6 y7 y8 y9 y10 y11)) ∧ (∀ y0 y1 y2 y3 y4 y5 y6 y7 y8 y9 y10 y11, LeO (spec_Parts.l1 k y0 y1 y2 y3 y4 y5 y6 y7 y8 y9 y10 y11) (spec_Parts.l1 (k + 1) y0 y1 y2 y3 y4 y5 y6 y7 y8 y9 y10 y11)) ∧ (∀ y0 y1 y2 y3 y4 y5 y6, LeO (spec_Parts.l2 k y0 y1 y2 y3 y4 y5 y6) (spec_Parts.l2 (k + 1) y0 y1 y2 y3 y4 y5 y6)) ∧ (∀ y0 y1, LeO (spec_Parts.j5 k y0 y1) (spec_Parts.j5 (k + 1) y0 y1)) ∧ (∀ y0 y1, LeO (spec_Parts.l3 k y0 y1) (spec_Parts.l3 (k + 1) y0 y1))
  | 0 => ⟨fun _ _ _ _ _ _ r h => by simp [spec_Parts.l0] at h, fun _ _ _ _ _ _ _ _ _ _ _ r h => by simp [spec_Parts.j4] at h, fun _ _ _ _ _ _ _ _ _ _ _ _ r h => by simp [spec_Parts.j2] at h, fun _ _ _ _ _ _ _ _ _ _ _ _ r h => by simp [spec_Parts.l1] at h, fun _ _ _ _ _ _ _ r h => by simp [spec_Parts.l2] at h, fun _ _ r h => by simp [spec_Parts.j5] at h, fun _ _ r h => by simp [spec_Parts.l3] at h⟩
  | k + 1 => by
    obtain ⟨ih0, ih1, ih2, ih3, ih4, ih5, ih6⟩ := spec_Parts.mono_l k
    refine ⟨?_, ?_, ?_, ?_, ?_, ?_, ?_⟩
    · intro y0 y1 y2 y3 y4 y5
      unfold spec_Parts.l0
      repeat' first
      | (with_reducible exact ih0 _ _ _ _ _ _)
      | (with_reducible exact ih1 _ _ _ _ _ _ _ _ _ _ _)
      | (with_reducible exact ih2 _ _ _ _ _ _ _ _ _ _ _ _)
      | (with_reducible exact ih3 _ _ _ _ _ _ _ _ _ _ _ _)
      | (with_reducible exact ih4 _ _ _ _ _ _ _)
      | (with_reducible exact ih5 _ _)
      | (with_reducible exact ih6 _ _)
      | (with_reducible exact spec_digit.mono _ _)
      | (with_reducible exact spec_short.mono _ _)
      | (with_reducible exact LeO.refl _)
      | (with_reducible exact LeO.none _)
      | (with_reducible refine LeO.ite ?_ ?_)
      | (with_reducible refine LeO.bind ?_ (fun _ => ?_))
      | exact ih0 _ _ _ _ _ _
      | exact ih1 _ _ _ _ _ _ _ _ _ _ _
      | exact ih2 _ _ _ _ _ _ _ _ _ _ _ _
      | exact ih3 _ _ _ _ _ _ _ _ _ _ _ _
      | exact ih4 _ _ _ _ _ _ _
      | exact ih5 _ _
      | exact ih6 _ _
      | exact spec_digit.mono _ _
      | exact spec_short.mono _ _
      | exact LeO.none _
      | refine LeO.ite ?_ ?_
      | refine LeO.bind ?_ (fun _ => ?_)
    · intro y0 y1 y2 y3 y4 y5 y6 y7 y8 y9 y10
      unfold spec_Parts.j4
      repeat' first
      | (with_reducible exact ih0 _ _ _ _ _ _)
      | (with_reducible exact ih1 _ _ _ _ _ _ _ _ _ _ _)
      | (with_reducible exact ih2 _ _ _ _ _ _ _ _ _ _ _ _)
      | (with_reducible exact ih3 _ _ _ _ _ _ _ _ _ _ _ _)
      | (with_reducible exact ih4 _ _ _ _ _ _ _)
      | (with_reducible exact ih5 _ _)
      | (with_reducible exact ih6 _ _)
      | (with_reducible exact spec_digit.mono _ _)
      | (with_reducible exact spec_short.mono _ _)
      | (with_reducible exact LeO.refl _)
      | (with_reducible exact LeO.none _)
      | (with_reducible refine LeO.ite ?_ ?_)
      | (with_reducible refine LeO.bind ?_ (fun _ => ?_))
      | exact ih0 _ _ _ _ _ _
      | exact ih1 _ _ _ _ _ _ _ _ _ _ _
      | exact ih2 _ _ _ _ _ _ _ _ _ _ _ _
      | exact ih3 _ _ _ _ _ _ _ _ _ _ _ _
      | exact ih4 _ _ _ _ _ _ _
      | exact ih5 _ _
      | exact ih6 _ _
      | exact spec_digit.mono _ _
      | exact spec_short.mono _ _
      | exact LeO.none _
      | refine LeO.ite ?_ ?_
      | refine LeO.bind ?_ (fun _ => ?_)
    · intro y0 y1 y2 y3 y4 y5 y6 y7 y8 y9 y10 y11
      unfold spec_Parts.j2
      repeat' first
      | (with_reducible exact ih0 _ _ _ _ _ _)
      | (with_reducible exact ih1 _ _ _ _ _ _ _ _ _ _ _)
      | (with_reducible exact ih2 _ _ _ _ _ _ _ _ _ _ _ _)
      | (with_reducible exact ih3 _ _ _ _ _ _ _ _ _ _ _ _)
      | (with_reducible exact ih4 _ _ _ _ _ _ _)
      | (with_reducible exact ih5 _ _)
      | (with_reducible exact ih6 _ _)
      | (with_reducible exact spec_digit.mono _ _)
      | (with_reducible exact spec_short.mono _ _)
      | (with_reducible exact LeO.refl _)
      | (with_reducible exact LeO.none _)
      | (with_reducible refine LeO.ite ?_ ?_)
      | (with_reducible refine LeO.bind ?_ (fun _ => ?_))
      | exact ih0 _ _ _ _ _ _
      | exact ih1 _ _ _ _ _ _ _ _ _ _ _
      | exact ih2 _ _ _ _ _ _ _ _ _ _ _ _
      | exact ih3 _ _ _ _ _ _ _ _ _ _ _ _
      | exact ih4 _ _ _ _ _ _ _
      | exact ih5 _ _
      | exact ih6 _ _
      | exact spec_digit.mono _ _
      | exact spec_short.mono _ _
      | exact LeO.none _
      | refine LeO.ite ?_ ?_
      | refine LeO.bind ?_ (fun _ => ?_)
    · intro y0 y1 y2 y3 y4 y5 y6 y7 y8 y9 y10 y11
      unfold spec_Parts.l1
      repeat' first
      | (with_reducible exact ih0 _ _ _ _ _ _)
      | (with_reducible exact ih1 _ _ _ _ _ _ _ _ _ _ _)
      | (with_reducible exact ih2 _ _ _ _ _ _ _ _ _ _ _ _)
      | (with_reducible exact ih3 _ _ _ _ _ _ _ _ _ _ _ _)
      | (with_reducible exact ih4 _ _ _ _ _ _ _)
      | (with_reducible exact ih5 _ _)
      | (with_reducible exact ih6 _ _)
      | (with_reducible exact spec_digit.mono _ _)
      | (with_reducible exact spec_short.mono _ _)
      | (with_reducible exact LeO.refl _)
      | (with_reducible exact LeO.none _)
      | (with_reducible refine LeO.ite ?_ ?_)
      | (with_reducible refine LeO.bind ?_ (fun _ => ?_))
      | exact ih0 _ _ _ _ _ _
      | exact ih1 _ _ _ _ _ _ _ _ _ _ _
      | exact ih2 _ _ _ _ _ _ _ _ _ _ _ _
      | exact ih3 _ _ _ _ _ _ _ _ _ _ _ _
      | exact ih4 _ _ _ _ _ _ _
      | exact ih5 _ _
      | exact ih6 _ _
      | exact spec_digit.mono _ _
      | exact spec_short.mono _ _
      | exact LeO.none _
      | refine LeO.ite ?_ ?_
      | refine LeO.bind ?_ (fun _ => ?_)
    · intro y0 y1 y2 y3 y4 y5 y6
      unfold spec_Parts.l2
      repeat' first
      | (with_reducible exact ih0 _ _ _ _ _ _)
      | (with_reducible exact ih1 _ _ _ _ _ _ _ _ _ _ _)
      | (with_reducible exact ih2 _ _ _ _ _ _ _ _ _ _ _ _)
      | (with_reducible exact ih3 _ _ _ _ _ _ _ _ _ _ _ _)
      | (with_reducible exact ih4 _ _ _ _ _ _ _)
      | (with_reducible exact ih5 _ _)
      | (with_reducible exact ih6 _ _)
      | (with_reducible exact spec_digit.mono _ _)
      | (with_reducible exact spec_short.mono _ _)
      | (with_reducible exact LeO.refl _)
      | (with_reducible exact LeO.none _)
      | (with_reducible refine LeO.ite ?_ ?_)
      | (with_reducible refine LeO.bind ?_ (fun _ => ?_))
      | exact ih0 _ _ _ _ _ _
      | exact ih1 _ _ _ _ _ _ _ _ _ _ _
      | exact ih2 _ _ _ _ _ _ _ _ _ _ _ _
      | exact ih3 _ _ _ _ _ _ _ _ _ _ _ _
      | exact ih4 _ _ _ _ _ _ _
      | exact ih5 _ _
      | exact ih6 _ _
      | exact spec_digit.mono _ _
      | exact spec_short.mono _ _
      | exact LeO.none _
      | refine LeO.ite ?_ ?_
      | refine LeO.bind ?_ (fun _ => ?_)
    · intro y0 y1
      unfold spec_Parts.j5
      repeat' first
      | (with_reducible exact ih0 _ _ _ _ _ _)
      | (with_reducible exact ih1 _ _ _ _ _ _ _ _ _ _ _)
      | (with_reducible exact ih2 _ _ _ _ _ _ _ _ _ _ _ _)
      | (with_reducible exact ih3 _ _ _ _ _ _ _ _ _ _ _ _)
      | (with_reducible exact ih4 _ _ _ _ _ _ _)
      | (with_reducible exact ih5 _ _)
      | (with_reducible exact ih6 _ _)
      | (with_reducible exact spec_digit.mono _ _)
      | (with_reducible exact spec_short.mono _ _)
      | (with_reducible exact LeO.refl _)
      | (with_reducible exact LeO.none _)
      | (with_reducible refine LeO.ite ?_ ?_)
      | (with_reducible refine LeO.bind ?_ (fun _ => ?_))
      | exact ih0 _ _ _ _ _ _
      | exact ih1 _ _ _ _ _ _ _ _ _ _ _
      | exact ih2 _ _ _ _ _ _ _ _ _ _ _ _
      | exact ih3 _ _ _ _ _ _ _ _ _ _ _ _
      | exact ih4 _ _ _ _ _ _ _
      | exact ih5 _ _
      | exact ih6 _ _
      | exact spec_digit.mono _ _
      | exact spec_short.mono _ _
      | exact LeO.none _
      | refine LeO.ite ?_ ?_
      | refine LeO.bind ?_ (fun _ => ?_)
    · intro y0 y1
      unfold spec_Parts.l3
      repeat' first
      | (with_reducible exact ih0 _ _ _ _ _ _)
      | (with_reducible exact ih1 _ _ _ _ _ _ _ _ _ _ _)
      | (with_reducible exact ih2 _ _ _ _ _ _ _ _ _ _ _ _)
      | (with_reducible exact ih3 _ _ _ _ _ _ _ _ _ _ _ _)
      | (with_reducible exact ih4 _ _ _ _ _ _ _)
      | (with_reducible exact ih5 _ _)
      | (with_reducible exact ih6 _ _)
      | (with_reducible exact spec_digit.mono _ _)
      | (with_reducible exact spec_short.mono _ _)
      | (with_reducible exact LeO.refl _)
      | (with_reducible exact LeO.none _)
      | (with_reducible refine LeO.ite ?_ ?_)
      | (with_reducible refine LeO.bind ?_ (fun _ => ?_))
      | exact ih0 _ _ _ _ _ _
      | exact ih1 _ _ _ _ _ _ _ _ _ _ _
      | exact ih2 _ _ _ _ _ _ _ _ _ _ _ _
      | exact ih3 _ _ _ _ _ _ _ _ _ _ _ _
      | exact ih4 _ _ _ _ _ _ _
      | exact ih5 _ _
      | exact ih6 _ _
      | exact spec_digit.mono _ _
      | exact spec_short.mono _ _
      | exact LeO.none _
      | refine LeO.ite ?_ ?_
      | refine LeO.bind ?_ (fun _ => ?_)
theorem spec_Parts.mono : ∀ a0 k, LeO (spec_Parts.f k a0) (spec_Parts.f (k + 1) a0) := by
  intro a0 k
  obtain ⟨ih0, ih1, ih2, ih3, ih4, ih5, ih6⟩ := spec_Parts.mono_l k
  unfold spec_Parts.f
  repeat' first
      | (with_reducible exact ih0 _ _ _ _ _ _)
      | (with_reducible exact ih1 _ _ _ _ _ _ _ _ _ _ _)
      | (with_reducible exact ih2 _ _ _ _ _ _ _ _ _ _ _ _)
      | (with_reducible exact ih3 _ _ _ _ _ _ _ _ _ _ _ _)
      | (with_reducible exact ih4 _ _ _ _ _ _ _)
      | (with_reducible exact ih5 _ _)
      | (with_reducible exact ih6 _ _)
      | (with_reducible exact spec_digit.mono _ _)
      | (with_reducible exact spec_short.mono _ _)
      | (with_reducible exact LeO.refl _)
      | (with_reducible exact LeO.none _)
      | (with_reducible refine LeO.ite ?_ ?_)
      | (with_reducible refine LeO.bind ?_ (fun _ => ?_))
      | exact ih0 _ _ _ _ _ _
      | exact ih1 _ _ _ _ _ _ _ _ _ _ _
      | exact ih2 _ _ _ _ _ _ _ _ _ _ _ _
      | exact ih3 _ _ _ _ _ _ _ _ _ _ _ _
      | exact ih4 _ _ _ _ _ _ _
      | exact ih5 _ _
      | exact ih6 _ _
      | exact spec_digit.mono _ _
      | exact spec_short.mono _ _
      | exact LeO.none _
      | refine LeO.ite ?_ ?_
      | refine LeO.bind ?_ (fun _ => ?_)
set_option maxHeartbeats 8000000 in
set_option maxRecDepth 100000 in
theorem spec_Parts.calls (k : Nat) (a0 : ByteArray) (r1 : List (S42)) (r2 : Int) (w : World) (h : spec_Parts.f k a0 = some (r1, r2)) :
    Calls Tryz.prog 6 #[.string a0] w fun e w' => ∃ v0_ : Value, e = .returned (.tuple #[v0_, .int .i64 r2]) ∧ Kd.R k42 42 w' w.heap.size (fun _ => True) v0_ r1 ∧ Below w.heap.size w w' := by
  have hu42 := Tryz.underlying42
  have HB := Aside0.mk (Below.refl w.heap.size w)
  have H : (spec_Parts.l0 k a0 ([] : List (S42)) 0 0 0 0) = some (r1, r2) := h
  clear h
  have H' := Aside0.mk H
  clear H
  go_enter Tryz.func6, Tryz.ntmps6
  go_wp2
  go_loopg [4, 5, 6, 7, 8] k (fun kq v4 v5 v6 v7 v8 w' => ∃ (x4_1 : List (S42)) (x5_1 : Int) (x6_1 : Int) (x7_1 : Int) (x8_1 : Int), v5 = .int .i64 x5_1 ∧ v6 = .int .i64 x6_1 ∧ v7 = .int .i64 x7_1 ∧ v8 = .int .i64 x8_1 ∧ Aside0 (spec_Parts.l0 kq a0 x4_1 x5_1 x6_1 x7_1 x8_1 = some (r1, r2)) ∧ Aside0 (kq ≤ k) ∧ Aside0 (Kd.R k42 42 w' w.heap.size (fun _ => True) v4 x4_1) ∧ Aside0 (Below w.heap.size w w'))
  case atStart => exact ⟨(([] : List (S42))), (0), (0), (0), (0), (by first | rfl | (simp; done) | (simp [*]; done)), (by first | rfl | (simp; done) | (simp [*]; done)), (by first | rfl | (simp; done) | (simp [*]; done)), (by first | rfl | (simp; done) | (simp [*]; done)), H', ⟨Nat.le_refl _⟩, ⟨by first | exact Kd.R_nil _ _ _ _ _ | exact Kd.N_nil _ _ _ _ _ | exact Kd.V_nil _ _ _ _ _ | exact Kd.Q_nil _ _ _ _ _ | exact Kd.S_nil _ _ _ _ _⟩, ⟨by repeat (first | (with_reducible first | exact HB.out | apply below_alloc | apply pw_below_drewN | apply below_drew1) | exact HB.out)⟩⟩
  case round =>
    clear H'
    obtain ⟨x4_1, x5_1, x6_1, x7_1, x8_1, rfl, rfl, rfl, rfl, HA, HK1, HO_4, HB⟩ := hrel
    cases gk with
    | zero => exact absurd HA.out (by simp [spec_Parts.l0])
    | succ k1 =>
      have H := HA.out
      clear HA
      simp only [spec_Parts.l0] at H
      by_cases c2 : x8_1 < (a0.size : Int)
      · rw [if_pos c2] at H
        have c2b0 : decide (x8_1 < (a0.size : Int)) = true := decide_eq_true c2
        clear c2
        by_cases c3 : 0 ≤ x8_1
        · rw [if_pos c3] at H
          have c3b0 : decide (0 ≤ x8_1) = true := decide_eq_true c3
          clear c3
          have HC5 := Aside0.mk H
          clear H
          have p4 : 0 ≤ (x8_1 : Int) := of_decide_eq_true (by first | (with_reducible assumption) | assumption)
          have q4 : x8_1 < (a0.size : Int) := of_decide_eq_true (by first | (with_reducible assumption) | assumption)
          have hx4 := bt_at a0 x8_1
          replace p4 := eq_true p4
          replace q4 := eq_true q4
          go_upto_block 2 with (first | ((with_reducible refine gate_dst (N := 10) rfl ?_); (try (refine gate_guard (by rfl) ?_; dsimp only)); refine box_event ?hg (N := 10) ?hd (cs := #[.string (⟨#[]⟩ : ByteArray), .string (⟨#[]⟩ : ByteArray), .bool false, .bool false, .bool false, .slice none 0 0]) (t := 42) ?hr ?_; (case hd => rfl); (case hg => rfl); (case hr => first | (go_simp; done) | (go_simp; rfl)); intro gb155 hg w6 hbox hb; have n0_ := Aside0.mk (Kd.R_below (Kd.R_elderB (by (with_reducible repeat (first | apply Kd.R_alloc | apply Kd.R_drewN | apply Kd.R_drew)); exact HO_4.out) gb155 (Nat.le_of_eq hg.symm)) hb); have n1_ := Aside0.mk (below_step (by repeat (first | (with_reducible first | exact HB.out | apply below_alloc | apply pw_below_drewN | apply below_drew1) | exact HB.out)) hb); have n2_ := Aside0.mk (hbox); have n3_ := Aside0.mk ((by rw [hg]; exact (below_size (by repeat (first | (with_reducible first | exact HB.out | apply below_alloc | apply pw_below_drewN | apply below_drew1) | exact HB.out))) : w.heap.size ≤ gb155)); have n4_ := Aside0.mk ((by rw [hg]; exact (below_size (by repeat (first | (with_reducible first | exact HB.out | apply below_alloc | apply pw_below_drewN | apply below_drew1) | exact HB.out))) : w.heap.size ≤ gb155)); clear HO_4; clear HB; have HO_4 := n0_; have HB := n1_; have BK155 := n2_; have GW155 := n3_; have GE155 := n4_; clear n0_ n1_ n2_ n3_ n4_; clear hb hbox hg; have hcz7_0 : w6.cell? ⟨gb155, 0, none⟩ = some (.string (⟨#[]⟩ : ByteArray)) := (blk_cell BK155.out 0).trans rfl; have hcz7_1 : w6.cell? ⟨gb155, 1, none⟩ = some (.string (⟨#[]⟩ : ByteArray)) := (blk_cell BK155.out 1).trans rfl; have hcz7_2 : w6.cell? ⟨gb155, 2, none⟩ = some (.bool false) := (blk_cell BK155.out 2).trans rfl; have hcz7_3 : w6.cell? ⟨gb155, 3, none⟩ = some (.bool false) := (blk_cell BK155.out 3).trans rfl; have hcz7_4 : w6.cell? ⟨gb155, 4, none⟩ = some (.bool false) := (blk_cell BK155.out 4).trans rfl; have hcz7_5 : w6.cell? ⟨gb155, 5, none⟩ = some (.slice none 0 0) := (blk_cell BK155.out 5).trans rfl; have hfz7_0 := blk_frozen BK155.out 0; have hfz7_1 := blk_frozen BK155.out 1; have hfz7_2 := blk_frozen BK155.out 2; have hfz7_3 := blk_frozen BK155.out 3; have hfz7_4 := blk_frozen BK155.out 4; have hfz7_5 := blk_frozen BK155.out 5))
          (try simp only [Act.put, List.setIfInBounds_toArray, List.set_cons_zero, List.set_cons_succ])
          go_cut [5, 6, 8] (fun v5 v6 v8 wc => ∃ (kq : Nat) (x5_4 : Int) (x6_4 : Int) (x8_4 : Int) (x156000_4 : ByteArray) (x156001_4 : ByteArray) (x156002_4 : Bool) (x156003_4 : Bool) (x156004_4 : Bool), v5 = .int .i64 x5_4 ∧ v6 = .int .i64 x6_4 ∧ v8 = .int .i64 x8_4 ∧ Aside0 (spec_Parts.j4 kq a0 x4_1 x5_4 x6_4 x7_1 x8_4 x156000_4 x156001_4 x156002_4 x156003_4 x156004_4 = some (r1, r2)) ∧ Aside0 (kq ≤ k1) ∧ Aside0 (Kd.R k42 42 wc w.heap.size (fun k_ => k_ ≠ gb155) u4 x4_1) ∧ Aside0 (wc.heap[gb155]? = some (.cells #[.string x156000_4, .string x156001_4, .bool x156002_4, .bool x156003_4, .bool x156004_4, (.slice none 0 0)] 42 (0, 0))) ∧ Aside0 (Below w.heap.size w wc))
          case first =>
            have H := HC5.out
            clear HC5
            by_cases c8 : (bt a0 x8_1) = 42
            · rw [if_pos c8] at H
              have c8b0 : ((bt a0 x8_1) == 42) = true := beq_iff_eq.mpr c8
              have c8b1 : ((bt a0 x8_1) != 42) = false := bne_eq_false_iff_eq.mpr c8
              clear c8
              (first | rw [c8b0] | (simp only [i64_w, i32_w]; rw [c8b0]) | skip)
              replace H := Option.bind_eq_some_iff.mp H
              obtain ⟨t156, A90, H⟩ := H
              replace H : (if 1 + t156.size ≤ 9223372036854775807 then (spec_Parts.j4 k1 a0 x4_1 (wrap64 (x5_1 + 1)) x6_1 x7_1 (wrap64 (x8_1 + 1)) (⟨#[]⟩ : ByteArray) ((⟨#[42]⟩ : ByteArray) ++ t156) true true true) else (none)) = some (r1, r2) := H
              have A9 := Aside0.mk A90
              clear A90
              by_cases c10 : 1 + t156.size ≤ 9223372036854775807
              · rw [if_pos c10] at H
                have c10b0 := eq_true c10
                have c10b1 : decide (1 + t156.size ≤ 9223372036854775807) = true := decide_eq_true c10
                try have c10b2 : (9223372036854775807 < 1 + t156.size) = False := eq_false (Nat.not_lt.2 c10)
                have H' := Aside0.mk H
                clear H
                go_wp2_with (first | ((with_reducible refine gate_callee (f := 15) rfl ?_); refine goesL_ (some 28) rfl rfl Tryz.func15 (by kernel_rfl) rfl #[.int .i64 (wrap64 (x5_1 + 1))] rfl (by (try simp only [List.map_toArray, List.map_cons, List.map_nil]); first | done | rfl | (simp only [List.length_drop, List.length_take]; rfl)) ?_; (with_reducible refine (spec_digit.calls k1 (wrap64 (x5_1 + 1)) t156 _ A9.out).mono ?_); rintro e w' ⟨rfl, ⟨nd, rfl⟩⟩; refine ⟨_, rfl, ?_⟩; have hcz11_0 : w6.cell? ⟨gb155, 0, none⟩ = some (.string (⟨#[]⟩ : ByteArray)) := (blk_cell BK155.out 0).trans rfl; have hcz11_1 : w6.cell? ⟨gb155, 1, none⟩ = some (.string (⟨#[]⟩ : ByteArray)) := (blk_cell BK155.out 1).trans rfl; have hcz11_2 : w6.cell? ⟨gb155, 2, none⟩ = some (.bool false) := (blk_cell BK155.out 2).trans rfl; have hcz11_3 : w6.cell? ⟨gb155, 3, none⟩ = some (.bool false) := (blk_cell BK155.out 3).trans rfl; have hcz11_4 : w6.cell? ⟨gb155, 4, none⟩ = some (.bool false) := (blk_cell BK155.out 4).trans rfl; have hcz11_5 : w6.cell? ⟨gb155, 5, none⟩ = some (.slice none 0 0) := (blk_cell BK155.out 5).trans rfl; have hfz11_0 := blk_frozen BK155.out 0; have hfz11_1 := blk_frozen BK155.out 1; have hfz11_2 := blk_frozen BK155.out 2; have hfz11_3 := blk_frozen BK155.out 3; have hfz11_4 := blk_frozen BK155.out 4; have hfz11_5 := blk_frozen BK155.out 5))
                go_meet
                case rel => simp only [setCell_drewN]; exact ⟨_, (wrap64 (x5_1 + 1)), (x6_1), (wrap64 (x8_1 + 1)), ((⟨#[]⟩ : ByteArray)), ((⟨#[42]⟩ : ByteArray) ++ t156), (true), (true), (true), (by first | rfl | (simp; done) | (simp [*]; done)), (by first | rfl | (simp; done) | (simp [*]; done)), (by first | rfl | (simp; done) | (simp [*]; done)), H', ⟨by have := HK1.out; first | omega | exact Nat.le_refl _⟩, ⟨by (with_reducible repeat (first | apply Kd.R_alloc | apply Kd.R_drewN | apply Kd.R_drew)); exact Kd.R_mono (Kd.R_far (p := ⟨gb155, 4, none⟩) (Kd.R_far (p := ⟨gb155, 3, none⟩) (Kd.R_far (p := ⟨gb155, 1, none⟩) (Kd.R_far (p := ⟨gb155, 5, none⟩) (Kd.R_far (p := ⟨gb155, 4, none⟩) (Kd.R_far (p := ⟨gb155, 3, none⟩) (Kd.R_far (p := ⟨gb155, 2, none⟩) (Kd.R_far (p := ⟨gb155, 1, none⟩) (Kd.R_far (p := ⟨gb155, 0, none⟩) (Kd.R_mono HO_4.out (fun k_ hk => (⟨hk, hk.2⟩ : _ ∧ k_ ≠ gb155))) (fun _ hk => hk.2) (.string (⟨#[]⟩ : ByteArray))) (fun _ hk => hk.2) (.string (⟨#[]⟩ : ByteArray))) (fun _ hk => hk.2) (.bool true)) (fun _ hk => hk.2) (.bool false)) (fun _ hk => hk.2) (.bool false)) (fun _ hk => hk.2) (.slice none 0 0)) (fun _ hk => hk.2) (.string ((⟨#[42]⟩ : ByteArray) ++ t156))) (fun _ hk => hk.2) (.bool true)) (fun _ hk => hk.2) (.bool true)) (fun _ hk => hk.1.2)⟩, ⟨by (with_reducible repeat (first | refine blk_drewN ?_ _ | refine blk_drew ?_ | refine blk_alloc ?_ _)); refine blk_put (cs := #[.string (⟨#[]⟩ : ByteArray), .string ((⟨#[42]⟩ : ByteArray) ++ t156), .bool true, .bool true, .bool false, .slice none 0 0]) ?_ 4 _ rfl; (with_reducible repeat (first | refine blk_drewN ?_ _ | refine blk_drew ?_ | refine blk_alloc ?_ _)); refine blk_put (cs := #[.string (⟨#[]⟩ : ByteArray), .string ((⟨#[42]⟩ : ByteArray) ++ t156), .bool true, .bool false, .bool false, .slice none 0 0]) ?_ 3 _ rfl; (with_reducible repeat (first | refine blk_drewN ?_ _ | refine blk_drew ?_ | refine blk_alloc ?_ _)); refine blk_put (cs := #[.string (⟨#[]⟩ : ByteArray), .string (⟨#[]⟩ : ByteArray), .bool true, .bool false, .bool false, .slice none 0 0]) ?_ 1 _ rfl; (with_reducible repeat (first | refine blk_drewN ?_ _ | refine blk_drew ?_ | refine blk_alloc ?_ _)); refine blk_put (cs := #[.string (⟨#[]⟩ : ByteArray), .string (⟨#[]⟩ : ByteArray), .bool true, .bool false, .bool false, .slice none 0 0]) ?_ 5 _ rfl; (with_reducible repeat (first | refine blk_drewN ?_ _ | refine blk_drew ?_ | refine blk_alloc ?_ _)); refine blk_put (cs := #[.string (⟨#[]⟩ : ByteArray), .string (⟨#[]⟩ : ByteArray), .bool true, .bool false, .bool false, .slice none 0 0]) ?_ 4 _ rfl; (with_reducible repeat (first | refine blk_drewN ?_ _ | refine blk_drew ?_ | refine blk_alloc ?_ _)); refine blk_put (cs := #[.string (⟨#[]⟩ : ByteArray), .string (⟨#[]⟩ : ByteArray), .bool true, .bool false, .bool false, .slice none 0 0]) ?_ 3 _ rfl; (with_reducible repeat (first | refine blk_drewN ?_ _ | refine blk_drew ?_ | refine blk_alloc ?_ _)); refine blk_put (cs := #[.string (⟨#[]⟩ : ByteArray), .string (⟨#[]⟩ : ByteArray), .bool false, .bool false, .bool false, .slice none 0 0]) ?_ 2 _ rfl; (with_reducible repeat (first | refine blk_drewN ?_ _ | refine blk_drew ?_ | refine blk_alloc ?_ _)); refine blk_put (cs := #[.string (⟨#[]⟩ : ByteArray), .string (⟨#[]⟩ : ByteArray), .bool false, .bool false, .bool false, .slice none 0 0]) ?_ 1 _ rfl; (with_reducible repeat (first | refine blk_drewN ?_ _ | refine blk_drew ?_ | refine blk_alloc ?_ _)); refine blk_put (cs := #[.string (⟨#[]⟩ : ByteArray), .string (⟨#[]⟩ : ByteArray), .bool false, .bool false, .bool false, .slice none 0 0]) ?_ 0 _ rfl; (with_reducible repeat (first | refine blk_drewN ?_ _ | refine blk_drew ?_ | refine blk_alloc ?_ _)); exact BK155.out⟩, ⟨by repeat (first | (with_reducible first | exact HB.out | apply below_alloc | apply pw_below_drewN | apply below_drew1 | refine below_set ?_ GE155.out) | exact HB.out)⟩⟩
              · rw [if_neg c10] at H
                exact absurd H (by simp)
            · rw [if_neg c8] at H
              have c8b0 : ((bt a0 x8_1) == 42) = false := beq_eq_false_iff_ne.mpr c8
              have c8b1 : ((bt a0 x8_1) != 42) = true := bne_iff_ne.mpr c8
              (first | rw [c8b0] | (simp only [i64_w, i32_w]; rw [c8b0]) | skip)
              by_cases c12 : (bt a0 x8_1) = 43
              · rw [if_pos c12] at H
                have c12b0 : ((bt a0 x8_1) == 43) = true := beq_iff_eq.mpr c12
                have c12b1 : ((bt a0 x8_1) != 43) = false := bne_eq_false_iff_eq.mpr c12
                clear c12
                replace H := Option.bind_eq_some_iff.mp H
                obtain ⟨t157, A130, H⟩ := H
                replace H : (if 1 + t157.size ≤ 9223372036854775807 then (spec_Parts.j4 k1 a0 x4_1 x5_1 (wrap64 (x6_1 + 1)) x7_1 (wrap64 (x8_1 + 1)) (⟨#[]⟩ : ByteArray) ((⟨#[43]⟩ : ByteArray) ++ t157) true true false) else (none)) = some (r1, r2) := H
                have A13 := Aside0.mk A130
                clear A130
                by_cases c14 : 1 + t157.size ≤ 9223372036854775807
                · rw [if_pos c14] at H
                  have c14b0 := eq_true c14
                  have c14b1 : decide (1 + t157.size ≤ 9223372036854775807) = true := decide_eq_true c14
                  try have c14b2 : (9223372036854775807 < 1 + t157.size) = False := eq_false (Nat.not_lt.2 c14)
                  have H' := Aside0.mk H
                  clear H
                  go_wp2_with (first | ((with_reducible refine gate_callee (f := 15) rfl ?_); refine goesL_ (some 41) rfl rfl Tryz.func15 (by kernel_rfl) rfl #[.int .i64 (wrap64 (x6_1 + 1))] rfl (by (try simp only [List.map_toArray, List.map_cons, List.map_nil]); first | done | rfl | (simp only [List.length_drop, List.length_take]; rfl)) ?_; (with_reducible refine (spec_digit.calls k1 (wrap64 (x6_1 + 1)) t157 _ A13.out).mono ?_); rintro e w' ⟨rfl, ⟨nd, rfl⟩⟩; refine ⟨_, rfl, ?_⟩; have hcz15_0 : w6.cell? ⟨gb155, 0, none⟩ = some (.string (⟨#[]⟩ : ByteArray)) := (blk_cell BK155.out 0).trans rfl; have hcz15_1 : w6.cell? ⟨gb155, 1, none⟩ = some (.string (⟨#[]⟩ : ByteArray)) := (blk_cell BK155.out 1).trans rfl; have hcz15_2 : w6.cell? ⟨gb155, 2, none⟩ = some (.bool false) := (blk_cell BK155.out 2).trans rfl; have hcz15_3 : w6.cell? ⟨gb155, 3, none⟩ = some (.bool false) := (blk_cell BK155.out 3).trans rfl; have hcz15_4 : w6.cell? ⟨gb155, 4, none⟩ = some (.bool false) := (blk_cell BK155.out 4).trans rfl; have hcz15_5 : w6.cell? ⟨gb155, 5, none⟩ = some (.slice none 0 0) := (blk_cell BK155.out 5).trans rfl; have hfz15_0 := blk_frozen BK155.out 0; have hfz15_1 := blk_frozen BK155.out 1; have hfz15_2 := blk_frozen BK155.out 2; have hfz15_3 := blk_frozen BK155.out 3; have hfz15_4 := blk_frozen BK155.out 4; have hfz15_5 := blk_frozen BK155.out 5))
                  go_meet
                  case rel => simp only [setCell_drewN]; exact ⟨_, (x5_1), (wrap64 (x6_1 + 1)), (wrap64 (x8_1 + 1)), ((⟨#[]⟩ : ByteArray)), ((⟨#[43]⟩ : ByteArray) ++ t157), (true), (true), (false), (by first | rfl | (simp; done) | (simp [*]; done)), (by first | rfl | (simp; done) | (simp [*]; done)), (by first | rfl | (simp; done) | (simp [*]; done)), H', ⟨by have := HK1.out; first | omega | exact Nat.le_refl _⟩, ⟨by (with_reducible repeat (first | apply Kd.R_alloc | apply Kd.R_drewN | apply Kd.R_drew)); exact Kd.R_mono (Kd.R_far (p := ⟨gb155, 3, none⟩) (Kd.R_far (p := ⟨gb155, 1, none⟩) (Kd.R_far (p := ⟨gb155, 5, none⟩) (Kd.R_far (p := ⟨gb155, 4, none⟩) (Kd.R_far (p := ⟨gb155, 3, none⟩) (Kd.R_far (p := ⟨gb155, 2, none⟩) (Kd.R_far (p := ⟨gb155, 1, none⟩) (Kd.R_far (p := ⟨gb155, 0, none⟩) (Kd.R_mono HO_4.out (fun k_ hk => (⟨hk, hk.2⟩ : _ ∧ k_ ≠ gb155))) (fun _ hk => hk.2) (.string (⟨#[]⟩ : ByteArray))) (fun _ hk => hk.2) (.string (⟨#[]⟩ : ByteArray))) (fun _ hk => hk.2) (.bool true)) (fun _ hk => hk.2) (.bool false)) (fun _ hk => hk.2) (.bool false)) (fun _ hk => hk.2) (.slice none 0 0)) (fun _ hk => hk.2) (.string ((⟨#[43]⟩ : ByteArray) ++ t157))) (fun _ hk => hk.2) (.bool true)) (fun _ hk => hk.1.2)⟩, ⟨by (with_reducible repeat (first | refine blk_drewN ?_ _ | refine blk_drew ?_ | refine blk_alloc ?_ _)); refine blk_put (cs := #[.string (⟨#[]⟩ : ByteArray), .string ((⟨#[43]⟩ : ByteArray) ++ t157), .bool true, .bool false, .bool false, .slice none 0 0]) ?_ 3 _ rfl; (with_reducible repeat (first | refine blk_drewN ?_ _ | refine blk_drew ?_ | refine blk_alloc ?_ _)); refine blk_put (cs := #[.string (⟨#[]⟩ : ByteArray), .string (⟨#[]⟩ : ByteArray), .bool true, .bool false, .bool false, .slice none 0 0]) ?_ 1 _ rfl; (with_reducible repeat (first | refine blk_drewN ?_ _ | refine blk_drew ?_ | refine blk_alloc ?_ _)); refine blk_put (cs := #[.string (⟨#[]⟩ : ByteArray), .string (⟨#[]⟩ : ByteArray), .bool true, .bool false, .bool false, .slice none 0 0]) ?_ 5 _ rfl; (with_reducible repeat (first | refine blk_drewN ?_ _ | refine blk_drew ?_ | refine blk_alloc ?_ _)); refine blk_put (cs := #[.string (⟨#[]⟩ : ByteArray), .string (⟨#[]⟩ : ByteArray), .bool true, .bool false, .bool false, .slice none 0 0]) ?_ 4 _ rfl; (with_reducible repeat (first | refine blk_drewN ?_ _ | refine blk_drew ?_ | refine blk_alloc ?_ _)); refine blk_put (cs := #[.string (⟨#[]⟩ : ByteArray), .string (⟨#[]⟩ : ByteArray), .bool true, .bool false, .bool false, .slice none 0 0]) ?_ 3 _ rfl; (with_reducible repeat (first | refine blk_drewN ?_ _ | refine blk_drew ?_ | refine blk_alloc ?_ _)); refine blk_put (cs := #[.string (⟨#[]⟩ : ByteArray), .string (⟨#[]⟩ : ByteArray), .bool false, .bool false, .bool false, .slice none 0 0]) ?_ 2 _ rfl; (with_reducible repeat (first | refine blk_drewN ?_ _ | refine blk_drew ?_ | refine blk_alloc ?_ _)); refine blk_put (cs := #[.string (⟨#[]⟩ : ByteArray), .string (⟨#[]⟩ : ByteArray), .bool false, .bool false, .bool false, .slice none 0 0]) ?_ 1 _ rfl; (with_reducible repeat (first | refine blk_drewN ?_ _ | refine blk_drew ?_ | refine blk_alloc ?_ _)); refine blk_put (cs := #[.string (⟨#[]⟩ : ByteArray), .string (⟨#[]⟩ : ByteArray), .bool false, .bool false, .bool false, .slice none 0 0]) ?_ 0 _ rfl; (with_reducible repeat (first | refine blk_drewN ?_ _ | refine blk_drew ?_ | refine blk_alloc ?_ _)); exact BK155.out⟩, ⟨by repeat (first | (with_reducible first | exact HB.out | apply below_alloc | apply pw_below_drewN | apply below_drew1 | refine below_set ?_ GE155.out) | exact HB.out)⟩⟩
                · rw [if_neg c14] at H
                  exact absurd H (by simp)
              · rw [if_neg c12] at H
                have c12b0 : ((bt a0 x8_1) == 43) = false := beq_eq_false_iff_ne.mpr c12
                have c12b1 : ((bt a0 x8_1) != 43) = true := bne_iff_ne.mpr c12
                by_cases c16 : (bt a0 x8_1) = 58
                · rw [if_pos c16] at H
                  have c16b0 : ((bt a0 x8_1) == 58) = true := beq_iff_eq.mpr c16
                  have c16b1 : ((bt a0 x8_1) != 58) = false := bne_eq_false_iff_eq.mpr c16
                  clear c16
                  have HC17 := Aside0.mk H
                  clear H
                  go_upto_block 3 with (fail)
                  go_cut [11] (fun v11 wc => ∃ (kq : Nat) (x11_16 : Int), v11 = .int .i64 x11_16 ∧ Aside0 (spec_Parts.j2 kq a0 x4_1 x5_1 x6_1 x7_1 x8_1 x11_16 (⟨#[]⟩ : ByteArray) (⟨#[]⟩ : ByteArray) true false false = some (r1, r2)) ∧ Aside0 (kq ≤ k1) ∧ Aside0 (Kd.R k42 42 wc w.heap.size (fun k_ => k_ ≠ gb155) u4 x4_1) ∧ Aside0 (wc.heap[gb155]? = some (.cells #[.string (⟨#[]⟩ : ByteArray), .string (⟨#[]⟩ : ByteArray), .bool true, .bool false, .bool false, (.slice none 0 0)] 42 (0, 0))) ∧ Aside0 (Below w.heap.size w wc))
                  case first =>
                    have H := HC17.out
                    clear HC17
                    have H' := Aside0.mk H
                    clear H
                    go_wp2
                    go_loopg [11] k1 (fun kq v11 w' => ∃ (x11_2 : Int), v11 = .int .i64 x11_2 ∧ Aside0 (spec_Parts.l1 kq a0 x4_1 x5_1 x6_1 x7_1 x8_1 x11_2 (⟨#[]⟩ : ByteArray) (⟨#[]⟩ : ByteArray) true false false = some (r1, r2)) ∧ Aside0 (kq ≤ k1) ∧ Aside0 (Kd.R k42 42 w' w.heap.size (fun k_ => k_ ≠ gb155) u4 x4_1) ∧ Aside0 (w'.heap[gb155]? = some (.cells #[.string (⟨#[]⟩ : ByteArray), .string (⟨#[]⟩ : ByteArray), .bool true, .bool false, .bool false, (.slice none 0 0)] 42 (0, 0))) ∧ Aside0 (Below w.heap.size w w'))
                    case atStart => exact ⟨(wrap64 (x8_1 + 1)), (by first | rfl | (simp; done) | (simp [*]; done)), H', ⟨Nat.le_refl _⟩, ⟨by (with_reducible repeat (first | apply Kd.R_alloc | apply Kd.R_drewN | apply Kd.R_drew)); exact Kd.R_mono (Kd.R_far (p := ⟨gb155, 5, none⟩) (Kd.R_far (p := ⟨gb155, 4, none⟩) (Kd.R_far (p := ⟨gb155, 3, none⟩) (Kd.R_far (p := ⟨gb155, 2, none⟩) (Kd.R_far (p := ⟨gb155, 1, none⟩) (Kd.R_far (p := ⟨gb155, 0, none⟩) (Kd.R_mono HO_4.out (fun k_ hk => (⟨hk, hk.2⟩ : _ ∧ k_ ≠ gb155))) (fun _ hk => hk.2) (.string (⟨#[]⟩ : ByteArray))) (fun _ hk => hk.2) (.string (⟨#[]⟩ : ByteArray))) (fun _ hk => hk.2) (.bool true)) (fun _ hk => hk.2) (.bool false)) (fun _ hk => hk.2) (.bool false)) (fun _ hk => hk.2) (.slice none 0 0)) (fun _ hk => hk.1.2)⟩, ⟨by (with_reducible repeat (first | refine blk_drewN ?_ _ | refine blk_drew ?_ | refine blk_alloc ?_ _)); refine blk_put (cs := #[.string (⟨#[]⟩ : ByteArray), .string (⟨#[]⟩ : ByteArray), .bool true, .bool false, .bool false, .slice none 0 0]) ?_ 5 _ rfl; (with_reducible repeat (first | refine blk_drewN ?_ _ | refine blk_drew ?_ | refine blk_alloc ?_ _)); refine blk_put (cs := #[.string (⟨#[]⟩ : ByteArray), .string (⟨#[]⟩ : ByteArray), .bool true, .bool false, .bool false, .slice none 0 0]) ?_ 4 _ rfl; (with_reducible repeat (first | refine blk_drewN ?_ _ | refine blk_drew ?_ | refine blk_alloc ?_ _)); refine blk_put (cs := #[.string (⟨#[]⟩ : ByteArray), .string (⟨#[]⟩ : ByteArray), .bool true, .bool false, .bool false, .slice none 0 0]) ?_ 3 _ rfl; (with_reducible repeat (first | refine blk_drewN ?_ _ | refine blk_drew ?_ | refine blk_alloc ?_ _)); refine blk_put (cs := #[.string (⟨#[]⟩ : ByteArray), .string (⟨#[]⟩ : ByteArray), .bool false, .bool false, .bool false, .slice none 0 0]) ?_ 2 _ rfl; (with_reducible repeat (first | refine blk_drewN ?_ _ | refine blk_drew ?_ | refine blk_alloc ?_ _)); refine blk_put (cs := #[.string (⟨#[]⟩ : ByteArray), .string (⟨#[]⟩ : ByteArray), .bool false, .bool false, .bool false, .slice none 0 0]) ?_ 1 _ rfl; (with_reducible repeat (first | refine blk_drewN ?_ _ | refine blk_drew ?_ | refine blk_alloc ?_ _)); refine blk_put (cs := #[.string (⟨#[]⟩ : ByteArray), .string (⟨#[]⟩ : ByteArray), .bool false, .bool false, .bool false, .slice none 0 0]) ?_ 0 _ rfl; (with_reducible repeat (first | refine blk_drewN ?_ _ | refine blk_drew ?_ | refine blk_alloc ?_ _)); exact BK155.out⟩, ⟨by repeat (first | (with_reducible first | exact HB.out | apply below_alloc | apply pw_below_drewN | apply below_drew1 | refine below_set ?_ GE155.out) | exact HB.out)⟩⟩
                    case round =>
                      clear H'
                      try clear c1
                      try clear c2
                      try clear c2b0
                      try clear p2
                      try clear c3
                      try clear c3b0
                      try clear p4
                      try clear q4
                      try clear hx4
                      try clear c6
                      try clear p6
                      try clear c8
                      try clear c8b0
                      try clear c8b1
                      try clear c10
                      try clear c10b0
                      try clear c10b1
                      try clear c10b2
                      try clear c12
                      try clear c12b0
                      try clear c12b1
                      try clear c14
                      try clear c14b0
                      try clear c14b1
                      try clear c14b2
                      try clear c15
                      try clear c16
                      try clear c16b0
                      try clear c16b1
                      try clear hcz11_0
                      try clear hcz11_1
                      try clear hcz11_2
                      try clear hcz11_3
                      try clear hcz11_4
                      try clear hcz11_5
                      try clear hcz15_0
                      try clear hcz15_1
                      try clear hcz15_2
                      try clear hcz15_3
                      try clear hcz15_4
                      try clear hcz15_5
                      try clear hcz7_0
                      try clear hcz7_1
                      try clear hcz7_2
                      try clear hcz7_3
                      try clear hcz7_4
                      try clear hcz7_5
                      try clear hfz11_0
                      try clear hfz11_1
                      try clear hfz11_2
                      try clear hfz11_3
                      try clear hfz11_4
                      try clear hfz11_5
                      try clear hfz15_0
                      try clear hfz15_1
                      try clear hfz15_2
                      try clear hfz15_3
                      try clear hfz15_4
                      try clear hfz15_5
                      try clear hfz7_0
                      try clear hfz7_1
                      try clear hfz7_2
                      try clear hfz7_3
                      try clear hfz7_4
                      try clear hfz7_5
                      try clear p4
                      try clear q4
                      obtain ⟨x11_2, rfl, HA, HK2, HO_4, BK155, HB⟩ := hrel
                      cases gk with
                      | zero => exact absurd HA.out (by simp [spec_Parts.l1])
                      | succ k2 =>
                        have H := HA.out
                        clear HA
                        simp only [spec_Parts.l1] at H
                        by_cases c18 : x11_2 < (a0.size : Int)
                        · rw [if_pos c18] at H
                          have c18b0 : decide (x11_2 < (a0.size : Int)) = true := decide_eq_true c18
                          clear c18
                          (first | rw [c18b0] | (simp only [i64_w, i32_w]; rw [c18b0]) | skip)
                          by_cases c19 : 0 ≤ x11_2
                          · rw [if_pos c19] at H
                            have c19b0 : decide (0 ≤ x11_2) = true := decide_eq_true c19
                            clear c19
                            replace H := Option.bind_eq_some_iff.mp H
                            obtain ⟨t158, A210, H⟩ := H
                            replace H : (if t158 = true then (spec_Parts.l1 k2 a0 x4_1 x5_1 x6_1 x7_1 x8_1 (wrap64 (x11_2 + 1)) (⟨#[]⟩ : ByteArray) (⟨#[]⟩ : ByteArray) true false false) else (spec_Parts.j2 k2 a0 x4_1 x5_1 x6_1 x7_1 x8_1 x11_2 (⟨#[]⟩ : ByteArray) (⟨#[]⟩ : ByteArray) true false false)) = some (r1, r2) := H
                            have A21 := Aside0.mk A210
                            clear A210
                            by_cases c22 : t158 = true
                            · subst c22
                              have H1 : (spec_Parts.l1 k2 a0 x4_1 x5_1 x6_1 x7_1 x8_1 (wrap64 (x11_2 + 1)) (⟨#[]⟩ : ByteArray) (⟨#[]⟩ : ByteArray) true false false) = some (r1, r2) := by rw [if_pos rfl] at H; exact H
                              clear H
                              have H := H1
                              clear H1
                              have H' := Aside0.mk H
                              clear H
                              have p20 : 0 ≤ (x11_2 : Int) := of_decide_eq_true (by first | (with_reducible assumption) | assumption)
                              have q20 : x11_2 < (a0.size : Int) := of_decide_eq_true (by first | (with_reducible assumption) | assumption)
                              have hx20 := bt_at a0 x11_2
                              replace p20 := eq_true p20
                              replace q20 := eq_true q20
                              go_wp2_with (first | (go_at_call 16; (with_reducible refine (spec_nameByte.calls (bt a0 x11_2) true _ A21.out).mono ?_); rintro e w' ⟨rfl, ⟨nd, rfl⟩⟩))
                              go_roundg k2
                              case measure => have := HK1.out; have := HK2.out; omega
                              case rel => exact ⟨(wrap64 (x11_2 + 1)), (by first | rfl | (simp; done) | (simp [*]; done)), H', ⟨by have := HK1.out; have := HK2.out; omega⟩, ⟨by (with_reducible repeat (first | apply Kd.R_alloc | apply Kd.R_drewN | apply Kd.R_drew)); exact HO_4.out⟩, ⟨by (with_reducible repeat (first | refine blk_drewN ?_ _ | refine blk_drew ?_ | refine blk_alloc ?_ _)); exact BK155.out⟩, ⟨by repeat (first | (with_reducible first | exact HB.out | apply below_alloc | apply pw_below_drewN | apply below_drew1 | refine below_set ?_ GE155.out) | exact HB.out)⟩⟩
                            · replace c22 := Bool.eq_false_iff.mpr c22
                              subst c22
                              have H1 : (spec_Parts.j2 k2 a0 x4_1 x5_1 x6_1 x7_1 x8_1 x11_2 (⟨#[]⟩ : ByteArray) (⟨#[]⟩ : ByteArray) true false false) = some (r1, r2) := by rw [if_neg (show ¬ (false = true) by decide)] at H; exact H
                              clear H
                              have H := H1
                              clear H1
                              have H' := Aside0.mk H
                              clear H
                              have p20 : 0 ≤ (x11_2 : Int) := of_decide_eq_true (by first | (with_reducible assumption) | assumption)
                              have q20 : x11_2 < (a0.size : Int) := of_decide_eq_true (by first | (with_reducible assumption) | assumption)
                              have hx20 := bt_at a0 x11_2
                              replace p20 := eq_true p20
                              replace q20 := eq_true q20
                              go_wp2_with (first | (go_at_call 16; (with_reducible refine (spec_nameByte.calls (bt a0 x11_2) false _ A21.out).mono ?_); rintro e w' ⟨rfl, ⟨nd, rfl⟩⟩))
                              go_meet
                              case rel => exact ⟨_, (x11_2), (by first | rfl | (simp; done) | (simp [*]; done)), H', ⟨by have := HK1.out; have := HK2.out; first | omega | exact Nat.le_refl _⟩, ⟨by (with_reducible repeat (first | apply Kd.R_alloc | apply Kd.R_drewN | apply Kd.R_drew)); exact HO_4.out⟩, ⟨by (with_reducible repeat (first | refine blk_drewN ?_ _ | refine blk_drew ?_ | refine blk_alloc ?_ _)); exact BK155.out⟩, ⟨by repeat (first | (with_reducible first | exact HB.out | apply below_alloc | apply pw_below_drewN | apply below_drew1 | refine below_set ?_ GE155.out) | exact HB.out)⟩⟩
                          · rw [if_neg c19] at H
                            exact absurd H (by simp)
                        · rw [if_neg c18] at H
                          have c18b0 : decide (x11_2 < (a0.size : Int)) = false := decide_eq_false c18
                          clear c18
                          (first | rw [c18b0] | (simp only [i64_w, i32_w]; rw [c18b0]) | skip)
                          have H' := Aside0.mk H
                          clear H
                          go_wp2
                          go_meet
                          case rel => exact ⟨_, (x11_2), (by first | rfl | (simp; done) | (simp [*]; done)), H', ⟨by have := HK1.out; have := HK2.out; first | omega | exact Nat.le_refl _⟩, ⟨by (with_reducible repeat (first | apply Kd.R_alloc | apply Kd.R_drewN | apply Kd.R_drew)); exact HO_4.out⟩, ⟨by (with_reducible repeat (first | refine blk_drewN ?_ _ | refine blk_drew ?_ | refine blk_alloc ?_ _)); exact BK155.out⟩, ⟨by repeat (first | (with_reducible first | exact HB.out | apply below_alloc | apply pw_below_drewN | apply below_drew1 | refine below_set ?_ GE155.out) | exact HB.out)⟩⟩
                  case rest =>
                    clear HC17
                    try clear c1
                    try clear c2
                    try clear c2b0
                    try clear p2
                    try clear q2
                    try clear hx2
                    try clear c3
                    try clear c3b0
                    try clear p4
                    try clear q4
                    try clear hx4
                    try clear c6
                    try clear p6
                    try clear c8
                    try clear c8b0
                    try clear c8b1
                    try clear c10
                    try clear c10b0
                    try clear c10b1
                    try clear c10b2
                    try clear c12
                    try clear c12b0
                    try clear c12b1
                    try clear c14
                    try clear c14b0
                    try clear c14b1
                    try clear c14b2
                    try clear c15
                    try clear c16
                    try clear c16b0
                    try clear c16b1
                    try clear c18
                    try clear c18b0
                    try clear c19
                    try clear c19b0
                    try clear p20
                    try clear q20
                    try clear hx20
                    try clear c22
                    try clear hcz11_0
                    try clear hcz11_1
                    try clear hcz11_2
                    try clear hcz11_3
                    try clear hcz11_4
                    try clear hcz11_5
                    try clear hcz15_0
                    try clear hcz15_1
                    try clear hcz15_2
                    try clear hcz15_3
                    try clear hcz15_4
                    try clear hcz15_5
                    try clear hcz7_0
                    try clear hcz7_1
                    try clear hcz7_2
                    try clear hcz7_3
                    try clear hcz7_4
                    try clear hcz7_5
                    try clear hfz11_0
                    try clear hfz11_1
                    try clear hfz11_2
                    try clear hfz11_3
                    try clear hfz11_4
                    try clear hfz11_5
                    try clear hfz15_0
                    try clear hfz15_1
                    try clear hfz15_2
                    try clear hfz15_3
                    try clear hfz15_4
                    try clear hfz15_5
                    try clear hfz7_0
                    try clear hfz7_1
                    try clear hfz7_2
                    try clear hfz7_3
                    try clear hfz7_4
                    try clear hfz7_5
                    try clear p2
                    try clear p20
                    try clear p4
                    try clear p6
                    try clear q20
                    try clear q4
                    obtain ⟨kq, x11_16, rfl, HA, HJ16, HO_4, BK155, HB⟩ := hcut
                    cases kq with
                    | zero => exact absurd HA.out (by simp [spec_Parts.j2])
                    | succ kj16 =>
                      have H := HA.out
                      clear HA
                      simp only [spec_Parts.j2] at H
                      by_cases c23 : x11_16 = (wrap64 (x8_1 + 1))
                      · rw [if_pos c23] at H
                        have c23b0 : (x11_16 == (wrap64 (x8_1 + 1))) = true := beq_iff_eq.mpr c23
                        have c23b1 : (x11_16 != (wrap64 (x8_1 + 1))) = false := bne_eq_false_iff_eq.mpr c23
                        clear c23
                        simp only [Option.some.injEq, Prod.mk.injEq] at H
                        obtain ⟨rfl, rfl⟩ := H
                        go_wp2
                        go_ret2
                        exact ⟨_, by first | rfl | (simp [errW_none, errW_some] <;> rfl) | (simp [*, errW_none, errW_some] <;> rfl), by first | exact Kd.R_nil _ _ _ _ _ | exact Kd.N_nil _ _ _ _ _ | exact Kd.V_nil _ _ _ _ _ | exact Kd.Q_nil _ _ _ _ _ | exact Kd.S_nil _ _ _ _ _, by repeat (first | (with_reducible first | exact HB.out | apply below_alloc | apply pw_below_drewN | apply below_drew1 | refine below_set ?_ GE155.out) | exact HB.out)⟩
                      · rw [if_neg c23] at H
                        have c23b0 : (x11_16 == (wrap64 (x8_1 + 1))) = false := beq_eq_false_iff_ne.mpr c23
                        have c23b1 : (x11_16 != (wrap64 (x8_1 + 1))) = true := bne_iff_ne.mpr c23
                        obtain ⟨ji24, hji24⟩ : ∃ j_ : Int, (wrap64 (x8_1 + 1)) = j_ := ⟨_, rfl⟩
                        replace H : (if 0 ≤ (ji24) then (if (ji24) ≤ x11_16 then (if x11_16 ≤ (a0.size : Int) then (if x11_16 < (a0.size : Int) then (if 0 ≤ x11_16 then (if (bt a0 x11_16) = 63 then (spec_Parts.j4 kj16 a0 x4_1 x5_1 x6_1 x7_1 (wrap64 (x11_16 + 1)) (⟨#[]⟩ : ByteArray) (a0.extract ((ji24) : Int).toNat (x11_16 : Int).toNat) true false true) else (spec_Parts.j4 kj16 a0 x4_1 x5_1 x6_1 x7_1 x11_16 (⟨#[]⟩ : ByteArray) (a0.extract ((ji24) : Int).toNat (x11_16 : Int).toNat) true false false)) else (none)) else (spec_Parts.j4 kj16 a0 x4_1 x5_1 x6_1 x7_1 x11_16 (⟨#[]⟩ : ByteArray) (a0.extract ((ji24) : Int).toNat (x11_16 : Int).toNat) true false false)) else (none)) else (none)) else (none)) = some (r1, r2) := by first | (rw [hji24] at H; exact H) | (simp only [hji24] at H ⊢; exact H)
                        (try rw [hji24] at c23b0)
                        (try rw [hji24] at c23b1)
                        have hji24w : (IntKind.i64.wrap (x8_1 + 1)) = ji24 := (i64_w _).trans hji24
                        by_cases c25 : 0 ≤ (ji24)
                        · rw [if_pos c25] at H
                          have c25b0 := eq_true c25
                          have c25b1 : decide (0 ≤ (ji24)) = true := decide_eq_true c25
                          clear c25
                          by_cases c26 : (ji24) ≤ x11_16
                          · rw [if_pos c26] at H
                            have c26b0 := eq_true c26
                            have c26b1 : decide ((ji24) ≤ x11_16) = true := decide_eq_true c26
                            clear c26
                            by_cases c27 : x11_16 ≤ (a0.size : Int)
                            · rw [if_pos c27] at H
                              have c27b0 := eq_true c27
                              have c27b1 : decide (x11_16 ≤ (a0.size : Int)) = true := decide_eq_true c27
                              clear c27
                              by_cases c28 : x11_16 < (a0.size : Int)
                              · rw [if_pos c28] at H
                                have c28b0 : decide (x11_16 < (a0.size : Int)) = true := decide_eq_true c28
                                clear c28
                                by_cases c29 : 0 ≤ x11_16
                                · rw [if_pos c29] at H
                                  have c29b0 : decide (0 ≤ x11_16) = true := decide_eq_true c29
                                  clear c29
                                  by_cases c31 : (bt a0 x11_16) = 63
                                  · rw [if_pos c31] at H
                                    have c31b0 : ((bt a0 x11_16) == 63) = true := beq_iff_eq.mpr c31
                                    have c31b1 : ((bt a0 x11_16) != 63) = false := bne_eq_false_iff_eq.mpr c31
                                    clear c31
                                    have H' := Aside0.mk H
                                    clear H
                                    have hcz32_0 : wc.cell? ⟨gb155, 0, none⟩ = some (.string (⟨#[]⟩ : ByteArray)) := (blk_cell BK155.out 0).trans rfl
                                    have hcz32_1 : wc.cell? ⟨gb155, 1, none⟩ = some (.string (⟨#[]⟩ : ByteArray)) := (blk_cell BK155.out 1).trans rfl
                                    have hcz32_2 : wc.cell? ⟨gb155, 2, none⟩ = some (.bool true) := (blk_cell BK155.out 2).trans rfl
                                    have hcz32_3 : wc.cell? ⟨gb155, 3, none⟩ = some (.bool false) := (blk_cell BK155.out 3).trans rfl
                                    have hcz32_4 : wc.cell? ⟨gb155, 4, none⟩ = some (.bool false) := (blk_cell BK155.out 4).trans rfl
                                    have hcz32_5 : wc.cell? ⟨gb155, 5, none⟩ = some (.slice none 0 0) := (blk_cell BK155.out 5).trans rfl
                                    have hfz32_0 := blk_frozen BK155.out 0
                                    have hfz32_1 := blk_frozen BK155.out 1
                                    have hfz32_2 := blk_frozen BK155.out 2
                                    have hfz32_3 := blk_frozen BK155.out 3
                                    have hfz32_4 := blk_frozen BK155.out 4
                                    have hfz32_5 := blk_frozen BK155.out 5
                                    have p30 : 0 ≤ (x11_16 : Int) := of_decide_eq_true (by first | (with_reducible assumption) | assumption)
                                    have q30 : x11_16 < (a0.size : Int) := of_decide_eq_true (by first | (with_reducible assumption) | assumption)
                                    have hx30 := bt_at a0 x11_16
                                    replace p30 := eq_true p30
                                    replace q30 := eq_true q30
                                    go_wp2
                                    go_meet
                                    case rel => exact ⟨_, (x5_1), (x6_1), (wrap64 (x11_16 + 1)), ((⟨#[]⟩ : ByteArray)), (a0.extract ((ji24) : Int).toNat (x11_16 : Int).toNat), (true), (false), (true), (by first | rfl | (simp; done) | (simp [*]; done)), (by first | rfl | (simp; done) | (simp [*]; done)), (by first | rfl | (simp; done) | (simp [*]; done)), H', ⟨by have := HK1.out; have := HJ16.out; first | omega | exact Nat.le_refl _⟩, ⟨by (with_reducible repeat (first | apply Kd.R_alloc | apply Kd.R_drewN | apply Kd.R_drew)); exact Kd.R_mono (Kd.R_far (p := ⟨gb155, 4, none⟩) (Kd.R_far (p := ⟨gb155, 1, none⟩) (Kd.R_mono HO_4.out (fun k_ hk => (⟨hk, hk⟩ : _ ∧ k_ ≠ gb155))) (fun _ hk => hk.2) (.string (a0.extract ((ji24) : Int).toNat (x11_16 : Int).toNat))) (fun _ hk => hk.2) (.bool true)) (fun _ hk => hk.1)⟩, ⟨by (with_reducible repeat (first | refine blk_drewN ?_ _ | refine blk_drew ?_ | refine blk_alloc ?_ _)); refine blk_put (cs := #[.string (⟨#[]⟩ : ByteArray), .string (a0.extract ((ji24) : Int).toNat (x11_16 : Int).toNat), .bool true, .bool false, .bool false, .slice none 0 0]) ?_ 4 _ rfl; (with_reducible repeat (first | refine blk_drewN ?_ _ | refine blk_drew ?_ | refine blk_alloc ?_ _)); refine blk_put (cs := #[.string (⟨#[]⟩ : ByteArray), .string (⟨#[]⟩ : ByteArray), .bool true, .bool false, .bool false, .slice none 0 0]) ?_ 1 _ rfl; (with_reducible repeat (first | refine blk_drewN ?_ _ | refine blk_drew ?_ | refine blk_alloc ?_ _)); exact BK155.out⟩, ⟨by repeat (first | (with_reducible first | exact HB.out | apply below_alloc | apply pw_below_drewN | apply below_drew1 | refine below_set ?_ GE155.out) | exact HB.out)⟩⟩
                                  · rw [if_neg c31] at H
                                    have c31b0 : ((bt a0 x11_16) == 63) = false := beq_eq_false_iff_ne.mpr c31
                                    have c31b1 : ((bt a0 x11_16) != 63) = true := bne_iff_ne.mpr c31
                                    have H' := Aside0.mk H
                                    clear H
                                    have hcz33_0 : wc.cell? ⟨gb155, 0, none⟩ = some (.string (⟨#[]⟩ : ByteArray)) := (blk_cell BK155.out 0).trans rfl
                                    have hcz33_1 : wc.cell? ⟨gb155, 1, none⟩ = some (.string (⟨#[]⟩ : ByteArray)) := (blk_cell BK155.out 1).trans rfl
                                    have hcz33_2 : wc.cell? ⟨gb155, 2, none⟩ = some (.bool true) := (blk_cell BK155.out 2).trans rfl
                                    have hcz33_3 : wc.cell? ⟨gb155, 3, none⟩ = some (.bool false) := (blk_cell BK155.out 3).trans rfl
                                    have hcz33_4 : wc.cell? ⟨gb155, 4, none⟩ = some (.bool false) := (blk_cell BK155.out 4).trans rfl
                                    have hcz33_5 : wc.cell? ⟨gb155, 5, none⟩ = some (.slice none 0 0) := (blk_cell BK155.out 5).trans rfl
                                    have hfz33_0 := blk_frozen BK155.out 0
                                    have hfz33_1 := blk_frozen BK155.out 1
                                    have hfz33_2 := blk_frozen BK155.out 2
                                    have hfz33_3 := blk_frozen BK155.out 3
                                    have hfz33_4 := blk_frozen BK155.out 4
                                    have hfz33_5 := blk_frozen BK155.out 5
                                    have p30 : 0 ≤ (x11_16 : Int) := of_decide_eq_true (by first | (with_reducible assumption) | assumption)
                                    have q30 : x11_16 < (a0.size : Int) := of_decide_eq_true (by first | (with_reducible assumption) | assumption)
                                    have hx30 := bt_at a0 x11_16
                                    replace p30 := eq_true p30
                                    replace q30 := eq_true q30
                                    go_wp2
                                    go_meet
                                    case rel => exact ⟨_, (x5_1), (x6_1), (x11_16), ((⟨#[]⟩ : ByteArray)), (a0.extract ((ji24) : Int).toNat (x11_16 : Int).toNat), (true), (false), (false), (by first | rfl | (simp; done) | (simp [*]; done)), (by first | rfl | (simp; done) | (simp [*]; done)), (by first | rfl | (simp; done) | (simp [*]; done)), H', ⟨by have := HK1.out; have := HJ16.out; first | omega | exact Nat.le_refl _⟩, ⟨by (with_reducible repeat (first | apply Kd.R_alloc | apply Kd.R_drewN | apply Kd.R_drew)); exact Kd.R_mono (Kd.R_far (p := ⟨gb155, 1, none⟩) (Kd.R_mono HO_4.out (fun k_ hk => (⟨hk, hk⟩ : _ ∧ k_ ≠ gb155))) (fun _ hk => hk.2) (.string (a0.extract ((ji24) : Int).toNat (x11_16 : Int).toNat))) (fun _ hk => hk.1)⟩, ⟨by (with_reducible repeat (first | refine blk_drewN ?_ _ | refine blk_drew ?_ | refine blk_alloc ?_ _)); refine blk_put (cs := #[.string (⟨#[]⟩ : ByteArray), .string (⟨#[]⟩ : ByteArray), .bool true, .bool false, .bool false, .slice none 0 0]) ?_ 1 _ rfl; (with_reducible repeat (first | refine blk_drewN ?_ _ | refine blk_drew ?_ | refine blk_alloc ?_ _)); exact BK155.out⟩, ⟨by repeat (first | (with_reducible first | exact HB.out | apply below_alloc | apply pw_below_drewN | apply below_drew1 | refine below_set ?_ GE155.out) | exact HB.out)⟩⟩
                                · rw [if_neg c29] at H
                                  exact absurd H (by simp)
                              · rw [if_neg c28] at H
                                have c28b0 : decide (x11_16 < (a0.size : Int)) = false := decide_eq_false c28
                                clear c28
                                have H' := Aside0.mk H
                                clear H
                                have hcz34_0 : wc.cell? ⟨gb155, 0, none⟩ = some (.string (⟨#[]⟩ : ByteArray)) := (blk_cell BK155.out 0).trans rfl
                                have hcz34_1 : wc.cell? ⟨gb155, 1, none⟩ = some (.string (⟨#[]⟩ : ByteArray)) := (blk_cell BK155.out 1).trans rfl
                                have hcz34_2 : wc.cell? ⟨gb155, 2, none⟩ = some (.bool true) := (blk_cell BK155.out 2).trans rfl
                                have hcz34_3 : wc.cell? ⟨gb155, 3, none⟩ = some (.bool false) := (blk_cell BK155.out 3).trans rfl
                                have hcz34_4 : wc.cell? ⟨gb155, 4, none⟩ = some (.bool false) := (blk_cell BK155.out 4).trans rfl
                                have hcz34_5 : wc.cell? ⟨gb155, 5, none⟩ = some (.slice none 0 0) := (blk_cell BK155.out 5).trans rfl
                                have hfz34_0 := blk_frozen BK155.out 0
                                have hfz34_1 := blk_frozen BK155.out 1
                                have hfz34_2 := blk_frozen BK155.out 2
                                have hfz34_3 := blk_frozen BK155.out 3
                                have hfz34_4 := blk_frozen BK155.out 4
                                have hfz34_5 := blk_frozen BK155.out 5
                                go_wp2
                                go_meet
                                case rel => exact ⟨_, (x5_1), (x6_1), (x11_16), ((⟨#[]⟩ : ByteArray)), (a0.extract ((ji24) : Int).toNat (x11_16 : Int).toNat), (true), (false), (false), (by first | rfl | (simp; done) | (simp [*]; done)), (by first | rfl | (simp; done) | (simp [*]; done)), (by first | rfl | (simp; done) | (simp [*]; done)), H', ⟨by have := HK1.out; have := HJ16.out; first | omega | exact Nat.le_refl _⟩, ⟨by (with_reducible repeat (first | apply Kd.R_alloc | apply Kd.R_drewN | apply Kd.R_drew)); exact Kd.R_mono (Kd.R_far (p := ⟨gb155, 1, none⟩) (Kd.R_mono HO_4.out (fun k_ hk => (⟨hk, hk⟩ : _ ∧ k_ ≠ gb155))) (fun _ hk => hk.2) (.string (a0.extract ((ji24) : Int).toNat (x11_16 : Int).toNat))) (fun _ hk => hk.1)⟩, ⟨by (with_reducible repeat (first | refine blk_drewN ?_ _ | refine blk_drew ?_ | refine blk_alloc ?_ _)); refine blk_put (cs := #[.string (⟨#[]⟩ : ByteArray), .string (⟨#[]⟩ : ByteArray), .bool true, .bool false, .bool false, .slice none 0 0]) ?_ 1 _ rfl; (with_reducible repeat (first | refine blk_drewN ?_ _ | refine blk_drew ?_ | refine blk_alloc ?_ _)); exact BK155.out⟩, ⟨by repeat (first | (with_reducible first | exact HB.out | apply below_alloc | apply pw_below_drewN | apply below_drew1 | refine below_set ?_ GE155.out) | exact HB.out)⟩⟩
                            · rw [if_neg c27] at H
                              exact absurd H (by simp)
                          · rw [if_neg c26] at H
                            exact absurd H (by simp)
                        · rw [if_neg c25] at H
                          exact absurd H (by simp)
                · rw [if_neg c16] at H
                  have c16b0 : ((bt a0 x8_1) == 58) = false := beq_eq_false_iff_ne.mpr c16
                  have c16b1 : ((bt a0 x8_1) != 58) = true := bne_iff_ne.mpr c16
                  replace H := Option.bind_eq_some_iff.mp H
                  obtain ⟨t159, A350, H⟩ := H
                  replace H : (if t159 = true then (spec_Parts.l2 k1 a0 x4_1 x5_1 x6_1 x7_1 x8_1 x8_1) else (some (([] : List (S42)), 2))) = some (r1, r2) := H
                  have A35 := Aside0.mk A350
                  clear A350
                  by_cases c36 : t159 = true
                  · subst c36
                    have H1 : (spec_Parts.l2 k1 a0 x4_1 x5_1 x6_1 x7_1 x8_1 x8_1) = some (r1, r2) := by rw [if_pos rfl] at H; exact H
                    clear H
                    have H := H1
                    clear H1
                    have H' := Aside0.mk H
                    clear H
                    go_wp2_with (first | ((with_reducible refine gate_callee (f := 17) rfl ?_); refine goesL_ (some 90) rfl rfl Tryz.func17 (by kernel_rfl) rfl #[.int .u8 (bt a0 x8_1)] rfl (by (try simp only [List.map_toArray, List.map_cons, List.map_nil]); first | done | rfl | (simp only [List.length_drop, List.length_take]; rfl)) ?_; (with_reducible refine (spec_constByte.calls (bt a0 x8_1) true _ A35.out).mono ?_); rintro e w' ⟨rfl, ⟨nd, rfl⟩⟩; refine ⟨_, rfl, ?_⟩))
                    go_loopg [12] k1 (fun kq v12 w' => ∃ (x12_2 : Int), v12 = .int .i64 x12_2 ∧ Aside0 (spec_Parts.l2 kq a0 x4_1 x5_1 x6_1 x7_1 x8_1 x12_2 = some (r1, r2)) ∧ Aside0 (kq ≤ k1) ∧ Aside0 (Kd.R k42 42 w' w.heap.size (fun k_ => k_ ≠ gb155) u4 x4_1) ∧ Aside0 (w'.heap[gb155]? = some (.cells #[.string (⟨#[]⟩ : ByteArray), .string (⟨#[]⟩ : ByteArray), .bool true, .bool false, .bool false, (.slice none 0 0)] 42 (0, 0))) ∧ Aside0 (Below w.heap.size w w'))
                    case atStart => exact ⟨(x8_1), (by first | rfl | (simp; done) | (simp [*]; done)), H', ⟨Nat.le_refl _⟩, ⟨by (with_reducible repeat (first | apply Kd.R_alloc | apply Kd.R_drewN | apply Kd.R_drew)); exact Kd.R_mono (Kd.R_far (p := ⟨gb155, 5, none⟩) (Kd.R_far (p := ⟨gb155, 4, none⟩) (Kd.R_far (p := ⟨gb155, 3, none⟩) (Kd.R_far (p := ⟨gb155, 2, none⟩) (Kd.R_far (p := ⟨gb155, 1, none⟩) (Kd.R_far (p := ⟨gb155, 0, none⟩) (Kd.R_mono HO_4.out (fun k_ hk => (⟨hk, hk.2⟩ : _ ∧ k_ ≠ gb155))) (fun _ hk => hk.2) (.string (⟨#[]⟩ : ByteArray))) (fun _ hk => hk.2) (.string (⟨#[]⟩ : ByteArray))) (fun _ hk => hk.2) (.bool true)) (fun _ hk => hk.2) (.bool false)) (fun _ hk => hk.2) (.bool false)) (fun _ hk => hk.2) (.slice none 0 0)) (fun _ hk => hk.1.2)⟩, ⟨by (with_reducible repeat (first | refine blk_drewN ?_ _ | refine blk_drew ?_ | refine blk_alloc ?_ _)); refine blk_put (cs := #[.string (⟨#[]⟩ : ByteArray), .string (⟨#[]⟩ : ByteArray), .bool true, .bool false, .bool false, .slice none 0 0]) ?_ 5 _ rfl; (with_reducible repeat (first | refine blk_drewN ?_ _ | refine blk_drew ?_ | refine blk_alloc ?_ _)); refine blk_put (cs := #[.string (⟨#[]⟩ : ByteArray), .string (⟨#[]⟩ : ByteArray), .bool true, .bool false, .bool false, .slice none 0 0]) ?_ 4 _ rfl; (with_reducible repeat (first | refine blk_drewN ?_ _ | refine blk_drew ?_ | refine blk_alloc ?_ _)); refine blk_put (cs := #[.string (⟨#[]⟩ : ByteArray), .string (⟨#[]⟩ : ByteArray), .bool true, .bool false, .bool false, .slice none 0 0]) ?_ 3 _ rfl; (with_reducible repeat (first | refine blk_drewN ?_ _ | refine blk_drew ?_ | refine blk_alloc ?_ _)); refine blk_put (cs := #[.string (⟨#[]⟩ : ByteArray), .string (⟨#[]⟩ : ByteArray), .bool false, .bool false, .bool false, .slice none 0 0]) ?_ 2 _ rfl; (with_reducible repeat (first | refine blk_drewN ?_ _ | refine blk_drew ?_ | refine blk_alloc ?_ _)); refine blk_put (cs := #[.string (⟨#[]⟩ : ByteArray), .string (⟨#[]⟩ : ByteArray), .bool false, .bool false, .bool false, .slice none 0 0]) ?_ 1 _ rfl; (with_reducible repeat (first | refine blk_drewN ?_ _ | refine blk_drew ?_ | refine blk_alloc ?_ _)); refine blk_put (cs := #[.string (⟨#[]⟩ : ByteArray), .string (⟨#[]⟩ : ByteArray), .bool false, .bool false, .bool false, .slice none 0 0]) ?_ 0 _ rfl; (with_reducible repeat (first | refine blk_drewN ?_ _ | refine blk_drew ?_ | refine blk_alloc ?_ _)); exact BK155.out⟩, ⟨by repeat (first | (with_reducible first | exact HB.out | apply below_alloc | apply pw_below_drewN | apply below_drew1 | refine below_set ?_ GE155.out) | exact HB.out)⟩⟩
                    case round =>
                      clear H'
                      try clear c1
                      try clear c2
                      try clear c2b0
                      try clear p2
                      try clear q2
                      try clear hx2
                      try clear c3
                      try clear c3b0
                      try clear p3
                      try clear q3
                      try clear hx3
                      try clear p4
                      try clear q4
                      try clear hx4
                      try clear c6
                      try clear p6
                      try clear c8
                      try clear c8b0
                      try clear c8b1
                      try clear c10
                      try clear c10b0
                      try clear c10b1
                      try clear c10b2
                      try clear c12
                      try clear c12b0
                      try clear c12b1
                      try clear c14
                      try clear c14b0
                      try clear c14b1
                      try clear c14b2
                      try clear c15
                      try clear c16
                      try clear c16b0
                      try clear c16b1
                      try clear c17
                      try clear c18
                      try clear c18b0
                      try clear c19
                      try clear c19b0
                      try clear p20
                      try clear q20
                      try clear hx20
                      try clear c22
                      try clear c23
                      try clear c23b0
                      try clear c23b1
                      try clear c25
                      try clear c25b0
                      try clear c25b1
                      try clear c26
                      try clear c26b0
                      try clear c26b1
                      try clear c27
                      try clear c27b0
                      try clear c27b1
                      try clear c28
                      try clear c28b0
                      try clear c29
                      try clear c29b0
                      try clear p30
                      try clear q30
                      try clear hx30
                      try clear c31
                      try clear c31b0
                      try clear c31b1
                      try clear c36
                      try clear hcz11_0
                      try clear hcz11_1
                      try clear hcz11_2
                      try clear hcz11_3
                      try clear hcz11_4
                      try clear hcz11_5
                      try clear hcz15_0
                      try clear hcz15_1
                      try clear hcz15_2
                      try clear hcz15_3
                      try clear hcz15_4
                      try clear hcz15_5
                      try clear hcz32_0
                      try clear hcz32_1
                      try clear hcz32_2
                      try clear hcz32_3
                      try clear hcz32_4
                      try clear hcz32_5
                      try clear hcz33_0
                      try clear hcz33_1
                      try clear hcz33_2
                      try clear hcz33_3
                      try clear hcz33_4
                      try clear hcz33_5
                      try clear hcz34_0
                      try clear hcz34_1
                      try clear hcz34_2
                      try clear hcz34_3
                      try clear hcz34_4
                      try clear hcz34_5
                      try clear hcz7_0
                      try clear hcz7_1
                      try clear hcz7_2
                      try clear hcz7_3
                      try clear hcz7_4
                      try clear hcz7_5
                      try clear hfz11_0
                      try clear hfz11_1
                      try clear hfz11_2
                      try clear hfz11_3
                      try clear hfz11_4
                      try clear hfz11_5
                      try clear hfz15_0
                      try clear hfz15_1
                      try clear hfz15_2
                      try clear hfz15_3
                      try clear hfz15_4
                      try clear hfz15_5
                      try clear hfz32_0
                      try clear hfz32_1
                      try clear hfz32_2
                      try clear hfz32_3
                      try clear hfz32_4
                      try clear hfz32_5
                      try clear hfz33_0
                      try clear hfz33_1
                      try clear hfz33_2
                      try clear hfz33_3
                      try clear hfz33_4
                      try clear hfz33_5
                      try clear hfz34_0
                      try clear hfz34_1
                      try clear hfz34_2
                      try clear hfz34_3
                      try clear hfz34_4
                      try clear hfz34_5
                      try clear hfz7_0
                      try clear hfz7_1
                      try clear hfz7_2
                      try clear hfz7_3
                      try clear hfz7_4
                      try clear hfz7_5
                      try clear p2
                      try clear p20
                      try clear p30
                      try clear p4
                      try clear p6
                      try clear q2
                      try clear q20
                      try clear q30
                      try clear q4
                      obtain ⟨x12_2, rfl, HA, HK2, HO_4, BK155, HB⟩ := hrel
                      cases gk with
                      | zero => exact absurd HA.out (by simp [spec_Parts.l2])
                      | succ k2 =>
                        have H := HA.out
                        clear HA
                        simp only [spec_Parts.l2] at H
                        by_cases c37 : x12_2 < (a0.size : Int)
                        · rw [if_pos c37] at H
                          have c37b0 : decide (x12_2 < (a0.size : Int)) = true := decide_eq_true c37
                          clear c37
                          by_cases c38 : 0 ≤ x12_2
                          · rw [if_pos c38] at H
                            have c38b0 : decide (0 ≤ x12_2) = true := decide_eq_true c38
                            clear c38
                            replace H := Option.bind_eq_some_iff.mp H
                            obtain ⟨t160, A400, H⟩ := H
                            replace H : (if t160 = true then (spec_Parts.l2 k2 a0 x4_1 x5_1 x6_1 x7_1 x8_1 (wrap64 (x12_2 + 1))) else (if 0 ≤ x8_1 then (if x8_1 ≤ x12_2 then (if x12_2 ≤ (a0.size : Int) then (spec_Parts.j4 k2 a0 x4_1 x5_1 x6_1 x7_1 x12_2 (a0.extract (x8_1 : Int).toNat (x12_2 : Int).toNat) (⟨#[]⟩ : ByteArray) false false false) else (none)) else (none)) else (none))) = some (r1, r2) := H
                            have A40 := Aside0.mk A400
                            clear A400
                            by_cases c41 : t160 = true
                            · subst c41
                              have H1 : (spec_Parts.l2 k2 a0 x4_1 x5_1 x6_1 x7_1 x8_1 (wrap64 (x12_2 + 1))) = some (r1, r2) := by rw [if_pos rfl] at H; exact H
                              clear H
                              have H := H1
                              clear H1
                              have H' := Aside0.mk H
                              clear H
                              have p39 : 0 ≤ (x12_2 : Int) := of_decide_eq_true (by first | (with_reducible assumption) | assumption)
                              have q39 : x12_2 < (a0.size : Int) := of_decide_eq_true (by first | (with_reducible assumption) | assumption)
                              have hx39 := bt_at a0 x12_2
                              replace p39 := eq_true p39
                              replace q39 := eq_true q39
                              go_wp2_with (first | (go_at_call 17; (with_reducible refine (spec_constByte.calls (bt a0 x12_2) true _ A40.out).mono ?_); rintro e w' ⟨rfl, ⟨nd, rfl⟩⟩))
                              go_roundg k2
                              case measure => have := HK1.out; have := HK2.out; omega
                              case rel => exact ⟨(wrap64 (x12_2 + 1)), (by first | rfl | (simp; done) | (simp [*]; done)), H', ⟨by have := HK1.out; have := HK2.out; omega⟩, ⟨by (with_reducible repeat (first | apply Kd.R_alloc | apply Kd.R_drewN | apply Kd.R_drew)); exact HO_4.out⟩, ⟨by (with_reducible repeat (first | refine blk_drewN ?_ _ | refine blk_drew ?_ | refine blk_alloc ?_ _)); exact BK155.out⟩, ⟨by repeat (first | (with_reducible first | exact HB.out | apply below_alloc | apply pw_below_drewN | apply below_drew1 | refine below_set ?_ GE155.out) | exact HB.out)⟩⟩
                            · replace c41 := Bool.eq_false_iff.mpr c41
                              subst c41
                              have H1 : (if 0 ≤ x8_1 then (if x8_1 ≤ x12_2 then (if x12_2 ≤ (a0.size : Int) then (spec_Parts.j4 k2 a0 x4_1 x5_1 x6_1 x7_1 x12_2 (a0.extract (x8_1 : Int).toNat (x12_2 : Int).toNat) (⟨#[]⟩ : ByteArray) false false false) else (none)) else (none)) else (none)) = some (r1, r2) := by rw [if_neg (show ¬ (false = true) by decide)] at H; exact H
                              clear H
                              have H := H1
                              clear H1
                              by_cases c42 : 0 ≤ x8_1
                              · rw [if_pos c42] at H
                                have c42b0 := eq_true c42
                                have c42b1 : decide (0 ≤ x8_1) = true := decide_eq_true c42
                                clear c42
                                by_cases c43 : x8_1 ≤ x12_2
                                · rw [if_pos c43] at H
                                  have c43b0 := eq_true c43
                                  have c43b1 : decide (x8_1 ≤ x12_2) = true := decide_eq_true c43
                                  clear c43
                                  by_cases c44 : x12_2 ≤ (a0.size : Int)
                                  · rw [if_pos c44] at H
                                    have c44b0 := eq_true c44
                                    have c44b1 : decide (x12_2 ≤ (a0.size : Int)) = true := decide_eq_true c44
                                    clear c44
                                    have H' := Aside0.mk H
                                    clear H
                                    have p39 : 0 ≤ (x12_2 : Int) := of_decide_eq_true (by first | (with_reducible assumption) | assumption)
                                    have q39 : x12_2 < (a0.size : Int) := of_decide_eq_true (by first | (with_reducible assumption) | assumption)
                                    have hx39 := bt_at a0 x12_2
                                    replace p39 := eq_true p39
                                    replace q39 := eq_true q39
                                    go_wp2_with (first | (go_at_call 17; (with_reducible refine (spec_constByte.calls (bt a0 x12_2) false _ A40.out).mono ?_); rintro e w' ⟨rfl, ⟨nd, rfl⟩⟩; (try (rw [drewN_self wr]; generalize hq_ : World.drewN wr _ = wr; have n0_ : Aside0 (Kd.R k42 42 wr w.heap.size (fun k_ => k_ ≠ gb155) u4 x4_1) := ⟨by rw [← hq_]; exact (by (with_reducible repeat (first | apply Kd.R_alloc | apply Kd.R_drewN | apply Kd.R_drew)); exact HO_4.out)⟩; have n1_ : Aside0 (wr.heap[gb155]? = some (.cells #[.string (⟨#[]⟩ : ByteArray), .string (⟨#[]⟩ : ByteArray), .bool true, .bool false, .bool false, .slice none 0 0] 42 (0, 0))) := ⟨by rw [← hq_]; exact (by (with_reducible repeat (first | refine blk_drewN ?_ _ | refine blk_drew ?_ | refine blk_alloc ?_ _)); exact BK155.out)⟩; have n2_ : Aside0 (Below w.heap.size w wr) := ⟨by rw [← hq_]; exact (by repeat (first | (with_reducible first | exact HB.out | apply below_alloc | apply pw_below_drewN | apply below_drew1 | refine below_set ?_ GE155.out) | exact HB.out))⟩; clear HO_4 BK155 HB hq_; have HO_4 := n0_; have BK155 := n1_; have HB := n2_; clear n0_ n1_ n2_)); have hcz45_0 : wr.cell? ⟨gb155, 0, none⟩ = some (.string (⟨#[]⟩ : ByteArray)) := (blk_cell BK155.out 0).trans rfl; have hcz45_1 : wr.cell? ⟨gb155, 1, none⟩ = some (.string (⟨#[]⟩ : ByteArray)) := (blk_cell BK155.out 1).trans rfl; have hcz45_2 : wr.cell? ⟨gb155, 2, none⟩ = some (.bool true) := (blk_cell BK155.out 2).trans rfl; have hcz45_3 : wr.cell? ⟨gb155, 3, none⟩ = some (.bool false) := (blk_cell BK155.out 3).trans rfl; have hcz45_4 : wr.cell? ⟨gb155, 4, none⟩ = some (.bool false) := (blk_cell BK155.out 4).trans rfl; have hcz45_5 : wr.cell? ⟨gb155, 5, none⟩ = some (.slice none 0 0) := (blk_cell BK155.out 5).trans rfl; have hfz45_0 := blk_frozen BK155.out 0; have hfz45_1 := blk_frozen BK155.out 1; have hfz45_2 := blk_frozen BK155.out 2; have hfz45_3 := blk_frozen BK155.out 3; have hfz45_4 := blk_frozen BK155.out 4; have hfz45_5 := blk_frozen BK155.out 5))
                                    go_meet
                                    case rel => exact ⟨_, (x5_1), (x6_1), (x12_2), (a0.extract (x8_1 : Int).toNat (x12_2 : Int).toNat), ((⟨#[]⟩ : ByteArray)), (false), (false), (false), (by first | rfl | (simp; done) | (simp [*]; done)), (by first | rfl | (simp; done) | (simp [*]; done)), (by first | rfl | (simp; done) | (simp [*]; done)), H', ⟨by have := HK1.out; have := HK2.out; first | omega | exact Nat.le_refl _⟩, ⟨by (with_reducible repeat (first | apply Kd.R_alloc | apply Kd.R_drewN | apply Kd.R_drew)); exact Kd.R_mono (Kd.R_far (p := ⟨gb155, 5, none⟩) (Kd.R_far (p := ⟨gb155, 4, none⟩) (Kd.R_far (p := ⟨gb155, 3, none⟩) (Kd.R_far (p := ⟨gb155, 2, none⟩) (Kd.R_far (p := ⟨gb155, 1, none⟩) (Kd.R_far (p := ⟨gb155, 0, none⟩) (Kd.R_mono HO_4.out (fun k_ hk => (⟨hk, hk⟩ : _ ∧ k_ ≠ gb155))) (fun _ hk => hk.2) (.string (a0.extract (x8_1 : Int).toNat (x12_2 : Int).toNat))) (fun _ hk => hk.2) (.string (⟨#[]⟩ : ByteArray))) (fun _ hk => hk.2) (.bool false)) (fun _ hk => hk.2) (.bool false)) (fun _ hk => hk.2) (.bool false)) (fun _ hk => hk.2) (.slice none 0 0)) (fun _ hk => hk.1)⟩, ⟨by (with_reducible repeat (first | refine blk_drewN ?_ _ | refine blk_drew ?_ | refine blk_alloc ?_ _)); refine blk_put (cs := #[.string (a0.extract (x8_1 : Int).toNat (x12_2 : Int).toNat), .string (⟨#[]⟩ : ByteArray), .bool false, .bool false, .bool false, .slice none 0 0]) ?_ 5 _ rfl; (with_reducible repeat (first | refine blk_drewN ?_ _ | refine blk_drew ?_ | refine blk_alloc ?_ _)); refine blk_put (cs := #[.string (a0.extract (x8_1 : Int).toNat (x12_2 : Int).toNat), .string (⟨#[]⟩ : ByteArray), .bool false, .bool false, .bool false, .slice none 0 0]) ?_ 4 _ rfl; (with_reducible repeat (first | refine blk_drewN ?_ _ | refine blk_drew ?_ | refine blk_alloc ?_ _)); refine blk_put (cs := #[.string (a0.extract (x8_1 : Int).toNat (x12_2 : Int).toNat), .string (⟨#[]⟩ : ByteArray), .bool false, .bool false, .bool false, .slice none 0 0]) ?_ 3 _ rfl; (with_reducible repeat (first | refine blk_drewN ?_ _ | refine blk_drew ?_ | refine blk_alloc ?_ _)); refine blk_put (cs := #[.string (a0.extract (x8_1 : Int).toNat (x12_2 : Int).toNat), .string (⟨#[]⟩ : ByteArray), .bool true, .bool false, .bool false, .slice none 0 0]) ?_ 2 _ rfl; (with_reducible repeat (first | refine blk_drewN ?_ _ | refine blk_drew ?_ | refine blk_alloc ?_ _)); refine blk_put (cs := #[.string (a0.extract (x8_1 : Int).toNat (x12_2 : Int).toNat), .string (⟨#[]⟩ : ByteArray), .bool true, .bool false, .bool false, .slice none 0 0]) ?_ 1 _ rfl; (with_reducible repeat (first | refine blk_drewN ?_ _ | refine blk_drew ?_ | refine blk_alloc ?_ _)); refine blk_put (cs := #[.string (⟨#[]⟩ : ByteArray), .string (⟨#[]⟩ : ByteArray), .bool true, .bool false, .bool false, .slice none 0 0]) ?_ 0 _ rfl; (with_reducible repeat (first | refine blk_drewN ?_ _ | refine blk_drew ?_ | refine blk_alloc ?_ _)); exact BK155.out⟩, ⟨by repeat (first | (with_reducible first | exact HB.out | apply below_alloc | apply pw_below_drewN | apply below_drew1 | refine below_set ?_ GE155.out) | exact HB.out)⟩⟩
                                  · rw [if_neg c44] at H
                                    exact absurd H (by simp)
                                · rw [if_neg c43] at H
                                  exact absurd H (by simp)
                              · rw [if_neg c42] at H
                                exact absurd H (by simp)
                          · rw [if_neg c38] at H
                            exact absurd H (by simp)
                        · rw [if_neg c37] at H
                          have c37b0 : decide (x12_2 < (a0.size : Int)) = false := decide_eq_false c37
                          clear c37
                          by_cases c46 : 0 ≤ x8_1
                          · rw [if_pos c46] at H
                            have c46b0 := eq_true c46
                            have c46b1 : decide (0 ≤ x8_1) = true := decide_eq_true c46
                            clear c46
                            by_cases c47 : x8_1 ≤ x12_2
                            · rw [if_pos c47] at H
                              have c47b0 := eq_true c47
                              have c47b1 : decide (x8_1 ≤ x12_2) = true := decide_eq_true c47
                              clear c47
                              by_cases c48 : x12_2 ≤ (a0.size : Int)
                              · rw [if_pos c48] at H
                                have c48b0 := eq_true c48
                                have c48b1 : decide (x12_2 ≤ (a0.size : Int)) = true := decide_eq_true c48
                                clear c48
                                have H' := Aside0.mk H
                                clear H
                                have hcz49_0 : wr.cell? ⟨gb155, 0, none⟩ = some (.string (⟨#[]⟩ : ByteArray)) := (blk_cell BK155.out 0).trans rfl
                                have hcz49_1 : wr.cell? ⟨gb155, 1, none⟩ = some (.string (⟨#[]⟩ : ByteArray)) := (blk_cell BK155.out 1).trans rfl
                                have hcz49_2 : wr.cell? ⟨gb155, 2, none⟩ = some (.bool true) := (blk_cell BK155.out 2).trans rfl
                                have hcz49_3 : wr.cell? ⟨gb155, 3, none⟩ = some (.bool false) := (blk_cell BK155.out 3).trans rfl
                                have hcz49_4 : wr.cell? ⟨gb155, 4, none⟩ = some (.bool false) := (blk_cell BK155.out 4).trans rfl
                                have hcz49_5 : wr.cell? ⟨gb155, 5, none⟩ = some (.slice none 0 0) := (blk_cell BK155.out 5).trans rfl
                                have hfz49_0 := blk_frozen BK155.out 0
                                have hfz49_1 := blk_frozen BK155.out 1
                                have hfz49_2 := blk_frozen BK155.out 2
                                have hfz49_3 := blk_frozen BK155.out 3
                                have hfz49_4 := blk_frozen BK155.out 4
                                have hfz49_5 := blk_frozen BK155.out 5
                                go_wp2
                                go_meet
                                case rel => exact ⟨_, (x5_1), (x6_1), (x12_2), (a0.extract (x8_1 : Int).toNat (x12_2 : Int).toNat), ((⟨#[]⟩ : ByteArray)), (false), (false), (false), (by first | rfl | (simp; done) | (simp [*]; done)), (by first | rfl | (simp; done) | (simp [*]; done)), (by first | rfl | (simp; done) | (simp [*]; done)), H', ⟨by have := HK1.out; have := HK2.out; first | omega | exact Nat.le_refl _⟩, ⟨by (with_reducible repeat (first | apply Kd.R_alloc | apply Kd.R_drewN | apply Kd.R_drew)); exact Kd.R_mono (Kd.R_far (p := ⟨gb155, 5, none⟩) (Kd.R_far (p := ⟨gb155, 4, none⟩) (Kd.R_far (p := ⟨gb155, 3, none⟩) (Kd.R_far (p := ⟨gb155, 2, none⟩) (Kd.R_far (p := ⟨gb155, 1, none⟩) (Kd.R_far (p := ⟨gb155, 0, none⟩) (Kd.R_mono HO_4.out (fun k_ hk => (⟨hk, hk⟩ : _ ∧ k_ ≠ gb155))) (fun _ hk => hk.2) (.string (a0.extract (x8_1 : Int).toNat (x12_2 : Int).toNat))) (fun _ hk => hk.2) (.string (⟨#[]⟩ : ByteArray))) (fun _ hk => hk.2) (.bool false)) (fun _ hk => hk.2) (.bool false)) (fun _ hk => hk.2) (.bool false)) (fun _ hk => hk.2) (.slice none 0 0)) (fun _ hk => hk.1)⟩, ⟨by (with_reducible repeat (first | refine blk_drewN ?_ _ | refine blk_drew ?_ | refine blk_alloc ?_ _)); refine blk_put (cs := #[.string (a0.extract (x8_1 : Int).toNat (x12_2 : Int).toNat), .string (⟨#[]⟩ : ByteArray), .bool false, .bool false, .bool false, .slice none 0 0]) ?_ 5 _ rfl; (with_reducible repeat (first | refine blk_drewN ?_ _ | refine blk_drew ?_ | refine blk_alloc ?_ _)); refine blk_put (cs := #[.string (a0.extract (x8_1 : Int).toNat (x12_2 : Int).toNat), .string (⟨#[]⟩ : ByteArray), .bool false, .bool false, .bool false, .slice none 0 0]) ?_ 4 _ rfl; (with_reducible repeat (first | refine blk_drewN ?_ _ | refine blk_drew ?_ | refine blk_alloc ?_ _)); refine blk_put (cs := #[.string (a0.extract (x8_1 : Int).toNat (x12_2 : Int).toNat), .string (⟨#[]⟩ : ByteArray), .bool false, .bool false, .bool false, .slice none 0 0]) ?_ 3 _ rfl; (with_reducible repeat (first | refine blk_drewN ?_ _ | refine blk_drew ?_ | refine blk_alloc ?_ _)); refine blk_put (cs := #[.string (a0.extract (x8_1 : Int).toNat (x12_2 : Int).toNat), .string (⟨#[]⟩ : ByteArray), .bool true, .bool false, .bool false, .slice none 0 0]) ?_ 2 _ rfl; (with_reducible repeat (first | refine blk_drewN ?_ _ | refine blk_drew ?_ | refine blk_alloc ?_ _)); refine blk_put (cs := #[.string (a0.extract (x8_1 : Int).toNat (x12_2 : Int).toNat), .string (⟨#[]⟩ : ByteArray), .bool true, .bool false, .bool false, .slice none 0 0]) ?_ 1 _ rfl; (with_reducible repeat (first | refine blk_drewN ?_ _ | refine blk_drew ?_ | refine blk_alloc ?_ _)); refine blk_put (cs := #[.string (⟨#[]⟩ : ByteArray), .string (⟨#[]⟩ : ByteArray), .bool true, .bool false, .bool false, .slice none 0 0]) ?_ 0 _ rfl; (with_reducible repeat (first | refine blk_drewN ?_ _ | refine blk_drew ?_ | refine blk_alloc ?_ _)); exact BK155.out⟩, ⟨by repeat (first | (with_reducible first | exact HB.out | apply below_alloc | apply pw_below_drewN | apply below_drew1 | refine below_set ?_ GE155.out) | exact HB.out)⟩⟩
                              · rw [if_neg c48] at H
                                exact absurd H (by simp)
                            · rw [if_neg c47] at H
                              exact absurd H (by simp)
                          · rw [if_neg c46] at H
                            exact absurd H (by simp)
                  · replace c36 := Bool.eq_false_iff.mpr c36
                    subst c36
                    have H1 : (some (([] : List (S42)), 2)) = some (r1, r2) := by rw [if_neg (show ¬ (false = true) by decide)] at H; exact H
                    clear H
                    have H := H1
                    clear H1
                    simp only [Option.some.injEq, Prod.mk.injEq] at H
                    obtain ⟨rfl, rfl⟩ := H
                    go_wp2_with (first | ((with_reducible refine gate_callee (f := 17) rfl ?_); refine goesL_ (some 90) rfl rfl Tryz.func17 (by kernel_rfl) rfl #[.int .u8 (bt a0 x8_1)] rfl (by (try simp only [List.map_toArray, List.map_cons, List.map_nil]); first | done | rfl | (simp only [List.length_drop, List.length_take]; rfl)) ?_; (with_reducible refine (spec_constByte.calls (bt a0 x8_1) false _ A35.out).mono ?_); rintro e w' ⟨rfl, ⟨nd, rfl⟩⟩; refine ⟨_, rfl, ?_⟩))
                    go_ret2
                    exact ⟨_, by first | rfl | (simp [errW_none, errW_some] <;> rfl) | (simp [*, errW_none, errW_some] <;> rfl), by first | exact Kd.R_nil _ _ _ _ _ | exact Kd.N_nil _ _ _ _ _ | exact Kd.V_nil _ _ _ _ _ | exact Kd.Q_nil _ _ _ _ _ | exact Kd.S_nil _ _ _ _ _, by repeat (first | (with_reducible first | exact HB.out | apply below_alloc | apply pw_below_drewN | apply below_drew1 | refine below_set ?_ GE155.out) | exact HB.out)⟩
          case rest =>
            clear HC5
            try clear c1
            try clear c2
            try clear c2b0
            try clear p2
            try clear q2
            try clear hx2
            try clear c3
            try clear c3b0
            try clear p3
            try clear q3
            try clear hx3
            try clear c4
            try clear p4
            try clear q4
            try clear hx4
            try clear c6
            try clear p6
            try clear c8
            try clear c8b0
            try clear c8b1
            try clear c10
            try clear c10b0
            try clear c10b1
            try clear c10b2
            try clear c12
            try clear c12b0
            try clear c12b1
            try clear c14
            try clear c14b0
            try clear c14b1
            try clear c14b2
            try clear c15
            try clear c16
            try clear c16b0
            try clear c16b1
            try clear c17
            try clear c18
            try clear c18b0
            try clear c19
            try clear c19b0
            try clear p20
            try clear q20
            try clear hx20
            try clear c22
            try clear c23
            try clear c23b0
            try clear c23b1
            try clear c25
            try clear c25b0
            try clear c25b1
            try clear c26
            try clear c26b0
            try clear c26b1
            try clear c27
            try clear c27b0
            try clear c27b1
            try clear c28
            try clear c28b0
            try clear c29
            try clear c29b0
            try clear p30
            try clear q30
            try clear hx30
            try clear c31
            try clear c31b0
            try clear c31b1
            try clear c36
            try clear c37
            try clear c37b0
            try clear c38
            try clear c38b0
            try clear p39
            try clear q39
            try clear hx39
            try clear c41
            try clear c42
            try clear c42b0
            try clear c42b1
            try clear c43
            try clear c43b0
            try clear c43b1
            try clear c44
            try clear c44b0
            try clear c44b1
            try clear c46
            try clear c46b0
            try clear c46b1
            try clear c47
            try clear c47b0
            try clear c47b1
            try clear c48
            try clear c48b0
            try clear c48b1
            try clear hcz11_0
            try clear hcz11_1
            try clear hcz11_2
            try clear hcz11_3
            try clear hcz11_4
            try clear hcz11_5
            try clear hcz15_0
            try clear hcz15_1
            try clear hcz15_2
            try clear hcz15_3
            try clear hcz15_4
            try clear hcz15_5
            try clear hcz32_0
            try clear hcz32_1
            try clear hcz32_2
            try clear hcz32_3
            try clear hcz32_4
            try clear hcz32_5
            try clear hcz33_0
            try clear hcz33_1
            try clear hcz33_2
            try clear hcz33_3
            try clear hcz33_4
            try clear hcz33_5
            try clear hcz34_0
            try clear hcz34_1
            try clear hcz34_2
            try clear hcz34_3
            try clear hcz34_4
            try clear hcz34_5
            try clear hcz45_0
            try clear hcz45_1
            try clear hcz45_2
            try clear hcz45_3
            try clear hcz45_4
            try clear hcz45_5
            try clear hcz49_0
            try clear hcz49_1
            try clear hcz49_2
            try clear hcz49_3
            try clear hcz49_4
            try clear hcz49_5
            try clear hcz7_0
            try clear hcz7_1
            try clear hcz7_2
            try clear hcz7_3
            try clear hcz7_4
            try clear hcz7_5
            try clear hfz11_0
            try clear hfz11_1
            try clear hfz11_2
            try clear hfz11_3
            try clear hfz11_4
            try clear hfz11_5
            try clear hfz15_0
            try clear hfz15_1
            try clear hfz15_2
            try clear hfz15_3
            try clear hfz15_4
            try clear hfz15_5
            try clear hfz32_0
            try clear hfz32_1
            try clear hfz32_2
            try clear hfz32_3
            try clear hfz32_4
            try clear hfz32_5
            try clear hfz33_0
            try clear hfz33_1
            try clear hfz33_2
            try clear hfz33_3
            try clear hfz33_4
            try clear hfz33_5
            try clear hfz34_0
            try clear hfz34_1
            try clear hfz34_2
            try clear hfz34_3
            try clear hfz34_4
            try clear hfz34_5
            try clear hfz45_0
            try clear hfz45_1
            try clear hfz45_2
            try clear hfz45_3
            try clear hfz45_4
            try clear hfz45_5
            try clear hfz49_0
            try clear hfz49_1
            try clear hfz49_2
            try clear hfz49_3
            try clear hfz49_4
            try clear hfz49_5
            try clear hfz7_0
            try clear hfz7_1
            try clear hfz7_2
            try clear hfz7_3
            try clear hfz7_4
            try clear hfz7_5
            try clear p2
            try clear p20
            try clear p3
            try clear p30
            try clear p39
            try clear p4
            try clear p6
            try clear q2
            try clear q20
            try clear q3
            try clear q30
            try clear q39
            try clear q4
            obtain ⟨kq, x5_4, x6_4, x8_4, x156000_4, x156001_4, x156002_4, x156003_4, x156004_4, rfl, rfl, rfl, HA, HJ4, HO_4, BK155, HB⟩ := hcut
            cases kq with
            | zero => exact absurd HA.out (by simp [spec_Parts.j4])
            | succ kj4 =>
              have H := HA.out
              clear HA
              simp only [spec_Parts.j4] at H
              by_cases c50 : x156002_4 = true
              · subst c50
                have H1 : (if (x4_1.length : Int) > 0 then (if 0 ≤ (wrap64 ((x4_1.length : Int) - 1)) then (if (wrap64 ((x4_1.length : Int) - 1)) < (x4_1.length : Int) then (if (rd_T42 x4_1 (wrap64 ((x4_1.length : Int) - 1))).f2 = true then (some (([] : List (S42)), 2)) else (if x4_1.length < 2199023255552 then (spec_Parts.l0 kj4 a0 (x4_1 ++ [(⟨x156000_4, x156001_4, true, x156003_4, x156004_4, ([] : List (S66))⟩ : S42)]) x5_4 x6_4 (wrap64 (x7_1 + 1)) x8_4) else (none))) else (none)) else (none)) else (if x4_1.length < 2199023255552 then (spec_Parts.l0 kj4 a0 (x4_1 ++ [(⟨x156000_4, x156001_4, true, x156003_4, x156004_4, ([] : List (S66))⟩ : S42)]) x5_4 x6_4 (wrap64 (x7_1 + 1)) x8_4) else (none))) = some (r1, r2) := by rw [if_pos rfl] at H; exact H
                clear H
                have H := H1
                clear H1
                by_cases c51 : (x4_1.length : Int) > 0
                · rw [if_pos c51] at H
                  have c51b0 : decide (0 < (x4_1.length : Int)) = true := decide_eq_true c51
                  have c51b1 : decide (0 < x4_1.length) = true := decide_eq_true (by omega)
                  clear c51
                  obtain ⟨ji52, hji52⟩ : ∃ j_ : Int, (wrap64 ((x4_1.length : Int) - 1)) = j_ := ⟨_, rfl⟩
                  replace H : (if 0 ≤ (ji52) then (if (ji52) < (x4_1.length : Int) then (if (rd_T42 x4_1 (ji52)).f2 = true then (some (([] : List (S42)), 2)) else (if x4_1.length < 2199023255552 then (spec_Parts.l0 kj4 a0 (x4_1 ++ [(⟨x156000_4, x156001_4, true, x156003_4, x156004_4, ([] : List (S66))⟩ : S42)]) x5_4 x6_4 (wrap64 (x7_1 + 1)) x8_4) else (none))) else (none)) else (none)) = some (r1, r2) := by first | (rw [hji52] at H; exact H) | (simp only [hji52] at H ⊢; exact H)
                  have hji52w : (IntKind.i64.wrap ((x4_1.length : Int) - 1)) = ji52 := (i64_w _).trans hji52
                  by_cases c53 : 0 ≤ (ji52)
                  · rw [if_pos c53] at H
                    have c53b0 : decide (0 ≤ (ji52)) = true := decide_eq_true c53
                    clear c53
                    by_cases c54 : (ji52) < (x4_1.length : Int)
                    · rw [if_pos c54] at H
                      have c54b0 : decide ((ji52) < (x4_1.length : Int)) = true := decide_eq_true c54
                      clear c54
                      obtain ⟨bq55, hbq55⟩ : ∃ b_ : Bool, b_ = ((rd_T42 x4_1 (ji52)).f2) := ⟨_, rfl⟩
                      replace H : (if bq55 = true then (some (([] : List (S42)), 2)) else (if x4_1.length < 2199023255552 then (spec_Parts.l0 kj4 a0 (x4_1 ++ [(⟨x156000_4, x156001_4, true, x156003_4, x156004_4, ([] : List (S66))⟩ : S42)]) x5_4 x6_4 (wrap64 (x7_1 + 1)) x8_4) else (none))) = some (r1, r2) := by rw [← hbq55] at H; exact H
                      have Nbq55 := Aside0.mk hbq55
                      clear hbq55
                      by_cases c56 : bq55 = true
                      · subst c56
                        have H1 : (some (([] : List (S42)), 2)) = some (r1, r2) := by rw [if_pos rfl] at H; exact H
                        clear H
                        have H := H1
                        clear H1
                        simp only [Option.some.injEq, Prod.mk.injEq] at H
                        obtain ⟨rfl, rfl⟩ := H
                        have hcz57_0 : wc.cell? ⟨gb155, 0, none⟩ = some (.string x156000_4) := (blk_cell BK155.out 0).trans rfl
                        have hcz57_1 : wc.cell? ⟨gb155, 1, none⟩ = some (.string x156001_4) := (blk_cell BK155.out 1).trans rfl
                        have hcz57_2 : wc.cell? ⟨gb155, 2, none⟩ = some (.bool true) := (blk_cell BK155.out 2).trans rfl
                        have hcz57_3 : wc.cell? ⟨gb155, 3, none⟩ = some (.bool x156003_4) := (blk_cell BK155.out 3).trans rfl
                        have hcz57_4 : wc.cell? ⟨gb155, 4, none⟩ = some (.bool x156004_4) := (blk_cell BK155.out 4).trans rfl
                        have hcz57_5 : wc.cell? ⟨gb155, 5, none⟩ = some (.slice none 0 0) := (blk_cell BK155.out 5).trans rfl
                        have hfz57_0 := blk_frozen BK155.out 0
                        have hfz57_1 := blk_frozen BK155.out 1
                        have hfz57_2 := blk_frozen BK155.out 2
                        have hfz57_3 := blk_frozen BK155.out 3
                        have hfz57_4 := blk_frozen BK155.out 4
                        have hfz57_5 := blk_frozen BK155.out 5
                        obtain ⟨Ao58, co58, eo58⟩ := Kd.R_slice HO_4.out
                        subst eo58
                        have p161 : 0 ≤ ((ji52) : Int) := of_decide_eq_true (by first | (with_reducible assumption) | assumption)
                        have q161 : (ji52) < (x4_1.length : Int) := of_decide_eq_true (by first | (with_reducible assumption) | assumption)
                        obtain ⟨ad161, A161_5, c161_5, e161, hx161_0, hx161_1, hx161_2, hx161_3, hx161_4, hx161_5, hl161_5, hi161_5⟩ := at_T42 (Kd.R_reads' HO_4.out).2.2 (ji52) p161 q161
                        (try rw [← Nbq55.out] at hx161_2)
                        (try rw [← Nbq55.out] at hx161_3)
                        (try rw [← Nbq55.out] at hx161_4)
                        cases e161
                        obtain ⟨ce161, hce161, hMe161, hcc161⟩ := Kd.R_get HO_4.out z42 (ji52) p161 (by first | exact q161 | exact of_decide_eq_true (by first | (with_reducible assumption) | assumption) | (have e_ := (Kd.R_reads' HO_4.out).1; omega))
                        obtain ⟨ve161_5, rfl, ge161_5⟩ := k42_openM hMe161
                        have hv161_5 := hcc161 5 _ rfl
                        rw [add_field _ _ 5 (by omega)] at hv161_5
                        replace hv161_5 := Option.some.inj (hv161_5.symm.trans hx161_5)
                        rw [hv161_5] at ge161_5
                        have HL161_5 := Aside0.mk (show Kd.R k66 66 _ _ _ _ ((rd_T42 x4_1 (ji52)).f5) from ge161_5)
                        clear hv161_5 ge161_5
                        clear hcc161 hce161
                        have HR161_5 := Aside0.mk hi161_5
                        have HC161_5 := Aside0.mk hl161_5
                        clear hi161_5 hl161_5
                        replace p161 := eq_true p161
                        replace q161 := eq_true q161
                        go_wp2
                        go_ret2
                        exact ⟨_, by first | rfl | (simp [errW_none, errW_some] <;> rfl) | (simp only [← hji52]; first | rfl | (simp [errW_none, errW_some] <;> rfl)) | (simp [*, errW_none, errW_some] <;> rfl), by first | exact Kd.R_nil _ _ _ _ _ | exact Kd.N_nil _ _ _ _ _ | exact Kd.V_nil _ _ _ _ _ | exact Kd.Q_nil _ _ _ _ _ | exact Kd.S_nil _ _ _ _ _, by repeat (first | (with_reducible first | exact HB.out | apply below_alloc | apply pw_below_drewN | apply below_drew1 | refine below_set ?_ GE155.out) | exact HB.out)⟩
                      · replace c56 := Bool.eq_false_iff.mpr c56
                        subst c56
                        have H1 : (if x4_1.length < 2199023255552 then (spec_Parts.l0 kj4 a0 (x4_1 ++ [(⟨x156000_4, x156001_4, true, x156003_4, x156004_4, ([] : List (S66))⟩ : S42)]) x5_4 x6_4 (wrap64 (x7_1 + 1)) x8_4) else (none)) = some (r1, r2) := by rw [if_neg (show ¬ (false = true) by decide)] at H; exact H
                        clear H
                        have H := H1
                        clear H1
                        by_cases c59 : x4_1.length < 2199023255552
                        · rw [if_pos c59] at H
                          have LMc59 := Aside0.mk c59
                          clear c59
                          obtain ⟨y162, hy162⟩ : ∃ y_ : List (S42), y_ = (x4_1 ++ [(⟨x156000_4, x156001_4, true, x156003_4, x156004_4, ([] : List (S66))⟩ : S42)]) := ⟨_, rfl⟩
                          replace H : (spec_Parts.l0 kj4 a0 y162 x5_4 x6_4 (wrap64 (x7_1 + 1)) x8_4) = some (r1, r2) := by first | (rw [hy162]; with_reducible exact H) | (have H2_ := (Option.bind_some _ _).symm.trans H; rw [hy162]; with_reducible exact H2_) | (have H2_ := (Option.bind_some _ _).symm.trans H; with_reducible exact H2_) | with_reducible exact H | (rw [hy162]; exact H) | exact H
                          have Ny162 := Aside0.mk hy162
                          clear hy162
                          have H' := Aside0.mk H
                          clear H
                          have hcz60_0 : wc.cell? ⟨gb155, 0, none⟩ = some (.string x156000_4) := (blk_cell BK155.out 0).trans rfl
                          have hcz60_1 : wc.cell? ⟨gb155, 1, none⟩ = some (.string x156001_4) := (blk_cell BK155.out 1).trans rfl
                          have hcz60_2 : wc.cell? ⟨gb155, 2, none⟩ = some (.bool true) := (blk_cell BK155.out 2).trans rfl
                          have hcz60_3 : wc.cell? ⟨gb155, 3, none⟩ = some (.bool x156003_4) := (blk_cell BK155.out 3).trans rfl
                          have hcz60_4 : wc.cell? ⟨gb155, 4, none⟩ = some (.bool x156004_4) := (blk_cell BK155.out 4).trans rfl
                          have hcz60_5 : wc.cell? ⟨gb155, 5, none⟩ = some (.slice none 0 0) := (blk_cell BK155.out 5).trans rfl
                          have hfz60_0 := blk_frozen BK155.out 0
                          have hfz60_1 := blk_frozen BK155.out 1
                          have hfz60_2 := blk_frozen BK155.out 2
                          have hfz60_3 := blk_frozen BK155.out 3
                          have hfz60_4 := blk_frozen BK155.out 4
                          have hfz60_5 := blk_frozen BK155.out 5
                          obtain ⟨Ao61, co61, eo61⟩ := Kd.R_slice HO_4.out
                          subst eo61
                          have p161 : 0 ≤ ((ji52) : Int) := of_decide_eq_true (by first | (with_reducible assumption) | assumption)
                          have q161 : (ji52) < (x4_1.length : Int) := of_decide_eq_true (by first | (with_reducible assumption) | assumption)
                          obtain ⟨ad161, A161_5, c161_5, e161, hx161_0, hx161_1, hx161_2, hx161_3, hx161_4, hx161_5, hl161_5, hi161_5⟩ := at_T42 (Kd.R_reads' HO_4.out).2.2 (ji52) p161 q161
                          (try rw [← Nbq55.out] at hx161_2)
                          (try rw [← Nbq55.out] at hx161_3)
                          (try rw [← Nbq55.out] at hx161_4)
                          cases e161
                          obtain ⟨ce161, hce161, hMe161, hcc161⟩ := Kd.R_get HO_4.out z42 (ji52) p161 (by first | exact q161 | exact of_decide_eq_true (by first | (with_reducible assumption) | assumption) | (have e_ := (Kd.R_reads' HO_4.out).1; omega))
                          obtain ⟨ve161_5, rfl, ge161_5⟩ := k42_openM hMe161
                          have hv161_5 := hcc161 5 _ rfl
                          rw [add_field _ _ 5 (by omega)] at hv161_5
                          replace hv161_5 := Option.some.inj (hv161_5.symm.trans hx161_5)
                          rw [hv161_5] at ge161_5
                          have HL161_5 := Aside0.mk (show Kd.R k66 66 _ _ _ _ ((rd_T42 x4_1 (ji52)).f5) from ge161_5)
                          clear hv161_5 ge161_5
                          clear hcc161 hce161
                          have HR161_5 := Aside0.mk hi161_5
                          have HC161_5 := Aside0.mk hl161_5
                          clear hi161_5 hl161_5
                          replace p161 := eq_true p161
                          replace q161 := eq_true q161
                          go_wp2_with (first | ((with_reducible refine gate_builtin (b := .append) (xs := #[.tmp 126, .tmp 128]) rfl ?_); (try (refine gate_guard (by rfl) ?_; dsimp only)); at_builtin; refine Kd.R_append k42 (w0 := w) w.heap.size rfl (.tmp 126) (.tmp 128) 24 42 (.agg #[(.string ⟨#[]⟩), (.string ⟨#[]⟩), (.bool false), (.bool false), (.bool false), (.slice none 0 0)]) 64 rfl Tryz.underlying24 info42 rfl (by decide) (by omega) (.slice (some ad161) x4_1.length co61) x4_1 (⟨x156000_4, x156001_4, true, x156003_4, x156004_4, ([] : List (S66))⟩ : S42) [.string x156000_4, .string x156001_4, .bool true, .bool x156003_4, .bool x156004_4, .slice none 0 0] (fun k_ => k_ ≠ gb155) (fun k_ => ((fun k_ => k_ ≠ gb155)) k_ ∧ some k_ ≠ (.slice (some ad161) x4_1.length co61 : Value).ownBlock) rfl rfl ?aP (fun _ hk => hk) ?aF ?aO ?aB ?aS ?aL ?_; (case aP => exact k42_mkM _ _ _ (⟨x156000_4, x156001_4, true, x156003_4, x156004_4, ([] : List (S66))⟩ : S42) (Kd.R_nil _ _ _ _ _)); (case aB => exact (by repeat (first | (with_reducible first | exact HB.out | apply below_alloc | apply pw_below_drewN | apply below_drew1 | refine below_set ?_ GE155.out) | exact HB.out))); (case aF => exact (fun k_ hk => Kd.freshB (g := gb155) (o := .cells #[.string x156000_4, .string x156001_4, .bool true, .bool x156003_4, .bool x156004_4, .slice none 0 0] 42 (0, 0)) (by (with_reducible repeat (first | refine blk_drewN ?_ _ | refine blk_drew ?_ | refine blk_alloc ?_ _)); exact BK155.out) k_ hk)); (case aO => exact (by (with_reducible repeat (first | apply Kd.R_alloc | apply Kd.R_drewN | apply Kd.R_drew)); exact HO_4.out)); (case aS => exact (below_size (by repeat (first | (with_reducible first | exact HB.out | apply below_alloc | apply pw_below_drewN | apply below_drew1 | refine below_set ?_ GE155.out) | exact HB.out)))); (case aL => have := LMc59.out; omega); intro v163 w62 ho hb hg hat; rw [← Ny162.out] at ho; have n0_ := Aside0.mk (blk_grown (g := gb155) (o := .cells #[.string x156000_4, .string x156001_4, .bool true, .bool x156003_4, .bool x156004_4, .slice none 0 0] 42 (0, 0)) (by (with_reducible repeat (first | refine blk_drewN ?_ _ | refine blk_drew ?_ | refine blk_alloc ?_ _)); exact BK155.out) hg (Kd.R_away HO_4.out (fun _ hk => hk))); have n1_ := Aside0.mk (Kd.R_after (ok := (fun k_ => k_ ≠ gb155)) (by (with_reducible repeat (first | apply Kd.R_alloc | apply Kd.R_drewN | apply Kd.R_drew)); exact HL161_5.out) hg hat); have n2_ := Aside0.mk (hb); have n3_ := Aside0.mk (ho); clear BK155; clear HL161_5; clear HB; clear HO_4; have BK155 := n0_; have HL161_5 := n1_; have HB := n2_; have HO164 := n3_; clear n0_ n1_ n2_ n3_; clear ho hb hg hat))
                          go_roundg kj4
                          case measure => have := HK1.out; have := HJ4.out; omega
                          case rel => exact ⟨(y162), (x5_4), (x6_4), (wrap64 (x7_1 + 1)), (x8_4), (by first | rfl | (simp; done) | (simp [*]; done)), (by first | rfl | (simp; done) | (simp [*]; done)), (by first | rfl | (simp; done) | (simp [*]; done)), (by first | rfl | (simp; done) | (simp [*]; done)), H', ⟨by have := HK1.out; have := HJ4.out; omega⟩, ⟨by (with_reducible repeat (first | apply Kd.R_alloc | apply Kd.R_drewN | apply Kd.R_drew)); exact Kd.R_mono HO164.out (fun _ hk => trivial)⟩, ⟨by repeat (first | (with_reducible first | exact HB.out | apply below_alloc | apply pw_below_drewN | apply below_drew1 | refine below_set ?_ GE155.out) | exact HB.out)⟩⟩
                        · rw [if_neg c59] at H
                          exact absurd H (by simp)
                    · rw [if_neg c54] at H
                      exact absurd H (by simp)
                  · rw [if_neg c53] at H
                    exact absurd H (by simp)
                · rw [if_neg c51] at H
                  have c51b0 : decide (0 < (x4_1.length : Int)) = false := decide_eq_false c51
                  have c51b1 : decide (0 < x4_1.length) = false := decide_eq_false (by omega)
                  clear c51
                  by_cases c63 : x4_1.length < 2199023255552
                  · rw [if_pos c63] at H
                    have LMc63 := Aside0.mk c63
                    clear c63
                    obtain ⟨y165, hy165⟩ : ∃ y_ : List (S42), y_ = (x4_1 ++ [(⟨x156000_4, x156001_4, true, x156003_4, x156004_4, ([] : List (S66))⟩ : S42)]) := ⟨_, rfl⟩
                    replace H : (spec_Parts.l0 kj4 a0 y165 x5_4 x6_4 (wrap64 (x7_1 + 1)) x8_4) = some (r1, r2) := by first | (rw [hy165]; with_reducible exact H) | (have H2_ := (Option.bind_some _ _).symm.trans H; rw [hy165]; with_reducible exact H2_) | (have H2_ := (Option.bind_some _ _).symm.trans H; with_reducible exact H2_) | with_reducible exact H | (rw [hy165]; exact H) | exact H
                    have Ny165 := Aside0.mk hy165
                    clear hy165
                    have H' := Aside0.mk H
                    clear H
                    have hcz64_0 : wc.cell? ⟨gb155, 0, none⟩ = some (.string x156000_4) := (blk_cell BK155.out 0).trans rfl
                    have hcz64_1 : wc.cell? ⟨gb155, 1, none⟩ = some (.string x156001_4) := (blk_cell BK155.out 1).trans rfl
                    have hcz64_2 : wc.cell? ⟨gb155, 2, none⟩ = some (.bool true) := (blk_cell BK155.out 2).trans rfl
                    have hcz64_3 : wc.cell? ⟨gb155, 3, none⟩ = some (.bool x156003_4) := (blk_cell BK155.out 3).trans rfl
                    have hcz64_4 : wc.cell? ⟨gb155, 4, none⟩ = some (.bool x156004_4) := (blk_cell BK155.out 4).trans rfl
                    have hcz64_5 : wc.cell? ⟨gb155, 5, none⟩ = some (.slice none 0 0) := (blk_cell BK155.out 5).trans rfl
                    have hfz64_0 := blk_frozen BK155.out 0
                    have hfz64_1 := blk_frozen BK155.out 1
                    have hfz64_2 := blk_frozen BK155.out 2
                    have hfz64_3 := blk_frozen BK155.out 3
                    have hfz64_4 := blk_frozen BK155.out 4
                    have hfz64_5 := blk_frozen BK155.out 5
                    obtain ⟨Ao65, co65, eo65⟩ := Kd.R_slice HO_4.out
                    subst eo65
                    go_wp2_with (first | ((with_reducible refine gate_builtin (b := .append) (xs := #[.tmp 126, .tmp 128]) rfl ?_); (try (refine gate_guard (by rfl) ?_; dsimp only)); at_builtin; refine Kd.R_append k42 (w0 := w) w.heap.size rfl (.tmp 126) (.tmp 128) 24 42 (.agg #[(.string ⟨#[]⟩), (.string ⟨#[]⟩), (.bool false), (.bool false), (.bool false), (.slice none 0 0)]) 64 rfl Tryz.underlying24 info42 rfl (by decide) (by omega) (.slice Ao65 x4_1.length co65) x4_1 (⟨x156000_4, x156001_4, true, x156003_4, x156004_4, ([] : List (S66))⟩ : S42) [.string x156000_4, .string x156001_4, .bool true, .bool x156003_4, .bool x156004_4, .slice none 0 0] (fun k_ => k_ ≠ gb155) (fun k_ => ((fun k_ => k_ ≠ gb155)) k_ ∧ some k_ ≠ (.slice Ao65 x4_1.length co65 : Value).ownBlock) rfl rfl ?aP (fun _ hk => hk) ?aF ?aO ?aB ?aS ?aL ?_; (case aP => exact k42_mkM _ _ _ (⟨x156000_4, x156001_4, true, x156003_4, x156004_4, ([] : List (S66))⟩ : S42) (Kd.R_nil _ _ _ _ _)); (case aB => exact (by repeat (first | (with_reducible first | exact HB.out | apply below_alloc | apply pw_below_drewN | apply below_drew1 | refine below_set ?_ GE155.out) | exact HB.out))); (case aF => exact (fun k_ hk => Kd.freshB (g := gb155) (o := .cells #[.string x156000_4, .string x156001_4, .bool true, .bool x156003_4, .bool x156004_4, .slice none 0 0] 42 (0, 0)) (by (with_reducible repeat (first | refine blk_drewN ?_ _ | refine blk_drew ?_ | refine blk_alloc ?_ _)); exact BK155.out) k_ hk)); (case aO => exact (by (with_reducible repeat (first | apply Kd.R_alloc | apply Kd.R_drewN | apply Kd.R_drew)); exact HO_4.out)); (case aS => exact (below_size (by repeat (first | (with_reducible first | exact HB.out | apply below_alloc | apply pw_below_drewN | apply below_drew1 | refine below_set ?_ GE155.out) | exact HB.out)))); (case aL => have := LMc63.out; omega); intro v166 w66 ho hb hg hat; rw [← Ny165.out] at ho; have n0_ := Aside0.mk (blk_grown (g := gb155) (o := .cells #[.string x156000_4, .string x156001_4, .bool true, .bool x156003_4, .bool x156004_4, .slice none 0 0] 42 (0, 0)) (by (with_reducible repeat (first | refine blk_drewN ?_ _ | refine blk_drew ?_ | refine blk_alloc ?_ _)); exact BK155.out) hg (Kd.R_away HO_4.out (fun _ hk => hk))); have n1_ := Aside0.mk (hb); have n2_ := Aside0.mk (ho); clear BK155; clear HB; clear HO_4; have BK155 := n0_; have HB := n1_; have HO167 := n2_; clear n0_ n1_ n2_; clear ho hb hg hat))
                    go_roundg kj4
                    case measure => have := HK1.out; have := HJ4.out; omega
                    case rel => exact ⟨(y165), (x5_4), (x6_4), (wrap64 (x7_1 + 1)), (x8_4), (by first | rfl | (simp; done) | (simp [*]; done)), (by first | rfl | (simp; done) | (simp [*]; done)), (by first | rfl | (simp; done) | (simp [*]; done)), (by first | rfl | (simp; done) | (simp [*]; done)), H', ⟨by have := HK1.out; have := HJ4.out; omega⟩, ⟨by (with_reducible repeat (first | apply Kd.R_alloc | apply Kd.R_drewN | apply Kd.R_drew)); exact Kd.R_mono HO167.out (fun _ hk => trivial)⟩, ⟨by repeat (first | (with_reducible first | exact HB.out | apply below_alloc | apply pw_below_drewN | apply below_drew1 | refine below_set ?_ GE155.out) | exact HB.out)⟩⟩
                  · rw [if_neg c63] at H
                    exact absurd H (by simp)
              · replace c50 := Bool.eq_false_iff.mpr c50
                subst c50
                have H1 : (if x4_1.length < 2199023255552 then (spec_Parts.l0 kj4 a0 (x4_1 ++ [(⟨x156000_4, x156001_4, false, x156003_4, x156004_4, ([] : List (S66))⟩ : S42)]) x5_4 x6_4 x7_1 x8_4) else (none)) = some (r1, r2) := by rw [if_neg (show ¬ (false = true) by decide)] at H; exact H
                clear H
                have H := H1
                clear H1
                by_cases c67 : x4_1.length < 2199023255552
                · rw [if_pos c67] at H
                  have LMc67 := Aside0.mk c67
                  clear c67
                  obtain ⟨y168, hy168⟩ : ∃ y_ : List (S42), y_ = (x4_1 ++ [(⟨x156000_4, x156001_4, false, x156003_4, x156004_4, ([] : List (S66))⟩ : S42)]) := ⟨_, rfl⟩
                  replace H : (spec_Parts.l0 kj4 a0 y168 x5_4 x6_4 x7_1 x8_4) = some (r1, r2) := by first | (rw [hy168]; with_reducible exact H) | (have H2_ := (Option.bind_some _ _).symm.trans H; rw [hy168]; with_reducible exact H2_) | (have H2_ := (Option.bind_some _ _).symm.trans H; with_reducible exact H2_) | with_reducible exact H | (rw [hy168]; exact H) | exact H
                  have Ny168 := Aside0.mk hy168
                  clear hy168
                  have H' := Aside0.mk H
                  clear H
                  have hcz68_0 : wc.cell? ⟨gb155, 0, none⟩ = some (.string x156000_4) := (blk_cell BK155.out 0).trans rfl
                  have hcz68_1 : wc.cell? ⟨gb155, 1, none⟩ = some (.string x156001_4) := (blk_cell BK155.out 1).trans rfl
                  have hcz68_2 : wc.cell? ⟨gb155, 2, none⟩ = some (.bool false) := (blk_cell BK155.out 2).trans rfl
                  have hcz68_3 : wc.cell? ⟨gb155, 3, none⟩ = some (.bool x156003_4) := (blk_cell BK155.out 3).trans rfl
                  have hcz68_4 : wc.cell? ⟨gb155, 4, none⟩ = some (.bool x156004_4) := (blk_cell BK155.out 4).trans rfl
                  have hcz68_5 : wc.cell? ⟨gb155, 5, none⟩ = some (.slice none 0 0) := (blk_cell BK155.out 5).trans rfl
                  have hfz68_0 := blk_frozen BK155.out 0
                  have hfz68_1 := blk_frozen BK155.out 1
                  have hfz68_2 := blk_frozen BK155.out 2
                  have hfz68_3 := blk_frozen BK155.out 3
                  have hfz68_4 := blk_frozen BK155.out 4
                  have hfz68_5 := blk_frozen BK155.out 5
                  go_wp2_with (first | ((with_reducible refine gate_builtin (b := .append) (xs := #[.tmp 126, .tmp 128]) rfl ?_); (try (refine gate_guard (by rfl) ?_; dsimp only)); at_builtin; refine Kd.R_append k42 (w0 := w) w.heap.size rfl (.tmp 126) (.tmp 128) 24 42 (.agg #[(.string ⟨#[]⟩), (.string ⟨#[]⟩), (.bool false), (.bool false), (.bool false), (.slice none 0 0)]) 64 rfl Tryz.underlying24 info42 rfl (by decide) (by omega) u4 x4_1 (⟨x156000_4, x156001_4, false, x156003_4, x156004_4, ([] : List (S66))⟩ : S42) [.string x156000_4, .string x156001_4, .bool false, .bool x156003_4, .bool x156004_4, .slice none 0 0] (fun k_ => k_ ≠ gb155) (fun k_ => ((fun k_ => k_ ≠ gb155)) k_ ∧ some k_ ≠ (u4 : Value).ownBlock) rfl rfl ?aP (fun _ hk => hk) ?aF ?aO ?aB ?aS ?aL ?_; (case aP => exact k42_mkM _ _ _ (⟨x156000_4, x156001_4, false, x156003_4, x156004_4, ([] : List (S66))⟩ : S42) (Kd.R_nil _ _ _ _ _)); (case aB => exact (by repeat (first | (with_reducible first | exact HB.out | apply below_alloc | apply pw_below_drewN | apply below_drew1 | refine below_set ?_ GE155.out) | exact HB.out))); (case aF => exact (fun k_ hk => Kd.freshB (g := gb155) (o := .cells #[.string x156000_4, .string x156001_4, .bool false, .bool x156003_4, .bool x156004_4, .slice none 0 0] 42 (0, 0)) (by (with_reducible repeat (first | refine blk_drewN ?_ _ | refine blk_drew ?_ | refine blk_alloc ?_ _)); exact BK155.out) k_ hk)); (case aO => exact (by (with_reducible repeat (first | apply Kd.R_alloc | apply Kd.R_drewN | apply Kd.R_drew)); exact HO_4.out)); (case aS => exact (below_size (by repeat (first | (with_reducible first | exact HB.out | apply below_alloc | apply pw_below_drewN | apply below_drew1 | refine below_set ?_ GE155.out) | exact HB.out)))); (case aL => have := LMc67.out; omega); intro v169 w69 ho hb hg hat; rw [← Ny168.out] at ho; have n0_ := Aside0.mk (blk_grown (g := gb155) (o := .cells #[.string x156000_4, .string x156001_4, .bool false, .bool x156003_4, .bool x156004_4, .slice none 0 0] 42 (0, 0)) (by (with_reducible repeat (first | refine blk_drewN ?_ _ | refine blk_drew ?_ | refine blk_alloc ?_ _)); exact BK155.out) hg (Kd.R_away HO_4.out (fun _ hk => hk))); have n1_ := Aside0.mk (hb); have n2_ := Aside0.mk (ho); clear BK155; clear HB; clear HO_4; have BK155 := n0_; have HB := n1_; have HO170 := n2_; clear n0_ n1_ n2_; clear ho hb hg hat))
                  go_roundg kj4
                  case measure => have := HK1.out; have := HJ4.out; omega
                  case rel => exact ⟨(y168), (x5_4), (x6_4), (x7_1), (x8_4), (by first | rfl | (simp; done) | (simp [*]; done)), (by first | rfl | (simp; done) | (simp [*]; done)), (by first | rfl | (simp; done) | (simp [*]; done)), (by first | rfl | (simp; done) | (simp [*]; done)), H', ⟨by have := HK1.out; have := HJ4.out; omega⟩, ⟨by (with_reducible repeat (first | apply Kd.R_alloc | apply Kd.R_drewN | apply Kd.R_drew)); exact Kd.R_mono HO170.out (fun _ hk => trivial)⟩, ⟨by repeat (first | (with_reducible first | exact HB.out | apply below_alloc | apply pw_below_drewN | apply below_drew1 | refine below_set ?_ GE155.out) | exact HB.out)⟩⟩
                · rw [if_neg c67] at H
                  exact absurd H (by simp)
        · rw [if_neg c3] at H
          exact absurd H (by simp)
      · rw [if_neg c2] at H
        have c2b0 : decide (x8_1 < (a0.size : Int)) = false := decide_eq_false c2
        clear c2
        have HC70 := Aside0.mk H
        clear H
        go_upto_region 38 with (fail)
        go_cut [135] (fun v135 wc => ∃ (kq : Nat) (x135_69 : Bool), v135 = .bool x135_69 ∧ Aside0 (spec_Parts.j5 kq x4_1 x135_69 = some (r1, r2)) ∧ Aside0 (kq ≤ k1) ∧ Aside0 (Kd.R k42 42 wc w.heap.size (fun _ => True) u4 x4_1) ∧ Aside0 (Below w.heap.size w wc))
        case first =>
          have H := HC70.out
          clear HC70
          by_cases c71 : x7_1 > 30
          · rw [if_pos c71] at H
            have c71b0 : decide (30 < x7_1) = true := decide_eq_true c71
            clear c71
            (first | rw [c71b0] | (simp only [i64_w, i32_w]; rw [c71b0]) | skip)
            have H' := Aside0.mk H
            clear H
            go_wp2
            go_meet
            case rel => exact ⟨_, (true), (by first | rfl | (simp; done) | (simp [*]; done)), H', ⟨by have := HK1.out; first | omega | exact Nat.le_refl _⟩, ⟨by (with_reducible repeat (first | apply Kd.R_alloc | apply Kd.R_drewN | apply Kd.R_drew)); exact HO_4.out⟩, ⟨by repeat (first | (with_reducible first | exact HB.out | apply below_alloc | apply pw_below_drewN | apply below_drew1) | exact HB.out)⟩⟩
          · rw [if_neg c71] at H
            have c71b0 : decide (30 < x7_1) = false := decide_eq_false c71
            clear c71
            (first | rw [c71b0] | (simp only [i64_w, i32_w]; rw [c71b0]) | skip)
            have H' := Aside0.mk H
            clear H
            go_wp2
            go_meet
            case rel => exact ⟨_, (decide (x5_1 > 90)), (by first | rfl | (simp; done) | (simp [*]; done)), H', ⟨by have := HK1.out; first | omega | exact Nat.le_refl _⟩, ⟨by (with_reducible repeat (first | apply Kd.R_alloc | apply Kd.R_drewN | apply Kd.R_drew)); exact HO_4.out⟩, ⟨by repeat (first | (with_reducible first | exact HB.out | apply below_alloc | apply pw_below_drewN | apply below_drew1) | exact HB.out)⟩⟩
        case rest =>
          clear HC70
          try clear c1
          try clear p1
          try clear q1
          try clear hx1
          try clear c2
          try clear c2b0
          try clear p2
          try clear q2
          try clear hx2
          try clear c3
          try clear c3b0
          try clear p3
          try clear q3
          try clear hx3
          try clear c4
          try clear p4
          try clear q4
          try clear hx4
          try clear c5
          try clear q5
          try clear c6
          try clear p6
          try clear c7
          try clear c8
          try clear c8b0
          try clear c8b1
          try clear c10
          try clear c10b0
          try clear c10b1
          try clear c10b2
          try clear c12
          try clear c12b0
          try clear c12b1
          try clear c14
          try clear c14b0
          try clear c14b1
          try clear c14b2
          try clear c15
          try clear c16
          try clear c16b0
          try clear c16b1
          try clear p16
          try clear q16
          try clear hx16
          try clear c17
          try clear c18
          try clear c18b0
          try clear c19
          try clear c19b0
          try clear p20
          try clear q20
          try clear hx20
          try clear c22
          try clear c23
          try clear c23b0
          try clear c23b1
          try clear c25
          try clear c25b0
          try clear c25b1
          try clear c26
          try clear c26b0
          try clear c26b1
          try clear c27
          try clear c27b0
          try clear c27b1
          try clear c28
          try clear c28b0
          try clear c29
          try clear c29b0
          try clear p30
          try clear q30
          try clear hx30
          try clear c31
          try clear c31b0
          try clear c31b1
          try clear c36
          try clear c37
          try clear c37b0
          try clear c38
          try clear c38b0
          try clear p39
          try clear q39
          try clear hx39
          try clear c41
          try clear c42
          try clear c42b0
          try clear c42b1
          try clear c43
          try clear c43b0
          try clear c43b1
          try clear c44
          try clear c44b0
          try clear c44b1
          try clear c46
          try clear c46b0
          try clear c46b1
          try clear c47
          try clear c47b0
          try clear c47b1
          try clear c48
          try clear c48b0
          try clear c48b1
          try clear c50
          try clear c51
          try clear c51b0
          try clear c51b1
          try clear c53
          try clear c53b0
          try clear c54
          try clear c54b0
          try clear q55
          try clear c56
          try clear c59
          try clear c63
          try clear p64
          try clear c67
          try clear c71
          try clear c71b0
          try clear hcz11_0
          try clear hcz11_1
          try clear hcz11_2
          try clear hcz11_3
          try clear hcz11_4
          try clear hcz11_5
          try clear hcz15_0
          try clear hcz15_1
          try clear hcz15_2
          try clear hcz15_3
          try clear hcz15_4
          try clear hcz15_5
          try clear hcz32_0
          try clear hcz32_1
          try clear hcz32_2
          try clear hcz32_3
          try clear hcz32_4
          try clear hcz32_5
          try clear hcz33_0
          try clear hcz33_1
          try clear hcz33_2
          try clear hcz33_3
          try clear hcz33_4
          try clear hcz33_5
          try clear hcz34_0
          try clear hcz34_1
          try clear hcz34_2
          try clear hcz34_3
          try clear hcz34_4
          try clear hcz34_5
          try clear hcz45_0
          try clear hcz45_1
          try clear hcz45_2
          try clear hcz45_3
          try clear hcz45_4
          try clear hcz45_5
          try clear hcz49_0
          try clear hcz49_1
          try clear hcz49_2
          try clear hcz49_3
          try clear hcz49_4
          try clear hcz49_5
          try clear hcz57_0
          try clear hcz57_1
          try clear hcz57_2
          try clear hcz57_3
          try clear hcz57_4
          try clear hcz57_5
          try clear hcz60_0
          try clear hcz60_1
          try clear hcz60_2
          try clear hcz60_3
          try clear hcz60_4
          try clear hcz60_5
          try clear hcz64_0
          try clear hcz64_1
          try clear hcz64_2
          try clear hcz64_3
          try clear hcz64_4
          try clear hcz64_5
          try clear hcz68_0
          try clear hcz68_1
          try clear hcz68_2
          try clear hcz68_3
          try clear hcz68_4
          try clear hcz68_5
          try clear hcz7_0
          try clear hcz7_1
          try clear hcz7_2
          try clear hcz7_3
          try clear hcz7_4
          try clear hcz7_5
          try clear hfz11_0
          try clear hfz11_1
          try clear hfz11_2
          try clear hfz11_3
          try clear hfz11_4
          try clear hfz11_5
          try clear hfz15_0
          try clear hfz15_1
          try clear hfz15_2
          try clear hfz15_3
          try clear hfz15_4
          try clear hfz15_5
          try clear hfz32_0
          try clear hfz32_1
          try clear hfz32_2
          try clear hfz32_3
          try clear hfz32_4
          try clear hfz32_5
          try clear hfz33_0
          try clear hfz33_1
          try clear hfz33_2
          try clear hfz33_3
          try clear hfz33_4
          try clear hfz33_5
          try clear hfz34_0
          try clear hfz34_1
          try clear hfz34_2
          try clear hfz34_3
          try clear hfz34_4
          try clear hfz34_5
          try clear hfz45_0
          try clear hfz45_1
          try clear hfz45_2
          try clear hfz45_3
          try clear hfz45_4
          try clear hfz45_5
          try clear hfz49_0
          try clear hfz49_1
          try clear hfz49_2
          try clear hfz49_3
          try clear hfz49_4
          try clear hfz49_5
          try clear hfz57_0
          try clear hfz57_1
          try clear hfz57_2
          try clear hfz57_3
          try clear hfz57_4
          try clear hfz57_5
          try clear hfz60_0
          try clear hfz60_1
          try clear hfz60_2
          try clear hfz60_3
          try clear hfz60_4
          try clear hfz60_5
          try clear hfz64_0
          try clear hfz64_1
          try clear hfz64_2
          try clear hfz64_3
          try clear hfz64_4
          try clear hfz64_5
          try clear hfz68_0
          try clear hfz68_1
          try clear hfz68_2
          try clear hfz68_3
          try clear hfz68_4
          try clear hfz68_5
          try clear hfz7_0
          try clear hfz7_1
          try clear hfz7_2
          try clear hfz7_3
          try clear hfz7_4
          try clear hfz7_5
          try clear hx161_0
          try clear hx161_1
          try clear hx161_2
          try clear hx161_3
          try clear hx161_4
          try clear hx161_5
          try clear p161
          try clear p2
          try clear p20
          try clear p3
          try clear p30
          try clear p39
          try clear p4
          try clear p6
          try clear q161
          try clear q2
          try clear q20
          try clear q3
          try clear q30
          try clear q39
          try clear q4
          obtain ⟨kq, x135_69, rfl, HA, HJ69, HO_4, HB⟩ := hcut
          cases kq with
          | zero => exact absurd HA.out (by simp [spec_Parts.j5])
          | succ kj69 =>
            have H := HA.out
            clear HA
            simp only [spec_Parts.j5] at H
            by_cases c72 : x135_69 = true
            · subst c72
              have H1 : (some (([] : List (S42)), 2)) = some (r1, r2) := by rw [if_pos rfl] at H; exact H
              clear H
              have H := H1
              clear H1
              simp only [Option.some.injEq, Prod.mk.injEq] at H
              obtain ⟨rfl, rfl⟩ := H
              go_wp2
              go_ret2
              exact ⟨_, by first | rfl | (simp [errW_none, errW_some] <;> rfl) | (simp [*, errW_none, errW_some] <;> rfl), by first | exact Kd.R_nil _ _ _ _ _ | exact Kd.N_nil _ _ _ _ _ | exact Kd.V_nil _ _ _ _ _ | exact Kd.Q_nil _ _ _ _ _ | exact Kd.S_nil _ _ _ _ _, by repeat (first | (with_reducible first | exact HB.out | apply below_alloc | apply pw_below_drewN | apply below_drew1) | exact HB.out)⟩
            · replace c72 := Bool.eq_false_iff.mpr c72
              subst c72
              have H1 : (spec_Parts.l3 kj69 x4_1 1) = some (r1, r2) := by rw [if_neg (show ¬ (false = true) by decide)] at H; exact H
              clear H
              have H := H1
              clear H1
              have H' := Aside0.mk H
              clear H
              go_wp2
              go_loopg [13] kj69 (fun kq v13 w' => ∃ (x13_3 : Int), v13 = .int .i64 x13_3 ∧ Aside0 (spec_Parts.l3 kq x4_1 x13_3 = some (r1, r2)) ∧ Aside0 (kq ≤ kj69) ∧ Aside0 (Kd.R k42 42 w' w.heap.size (fun _ => True) u4 x4_1) ∧ Aside0 (Below w.heap.size w w'))
              case atStart => exact ⟨(1), (by first | rfl | (simp; done) | (simp [*]; done)), H', ⟨Nat.le_refl _⟩, ⟨by (with_reducible repeat (first | apply Kd.R_alloc | apply Kd.R_drewN | apply Kd.R_drew)); exact HO_4.out⟩, ⟨by repeat (first | (with_reducible first | exact HB.out | apply below_alloc | apply pw_below_drewN | apply below_drew1) | exact HB.out)⟩⟩
              case round =>
                clear H'
                try clear c1
                try clear p1
                try clear q1
                try clear hx1
                try clear c2
                try clear c2b0
                try clear p2
                try clear q2
                try clear hx2
                try clear c3
                try clear c3b0
                try clear p3
                try clear q3
                try clear hx3
                try clear c4
                try clear p4
                try clear q4
                try clear hx4
                try clear c5
                try clear q5
                try clear c6
                try clear p6
                try clear c7
                try clear c8
                try clear c8b0
                try clear c8b1
                try clear c10
                try clear c10b0
                try clear c10b1
                try clear c10b2
                try clear c12
                try clear c12b0
                try clear c12b1
                try clear c14
                try clear c14b0
                try clear c14b1
                try clear c14b2
                try clear c15
                try clear c16
                try clear c16b0
                try clear c16b1
                try clear p16
                try clear q16
                try clear hx16
                try clear c17
                try clear c18
                try clear c18b0
                try clear c19
                try clear c19b0
                try clear p20
                try clear q20
                try clear hx20
                try clear c22
                try clear c23
                try clear c23b0
                try clear c23b1
                try clear c25
                try clear c25b0
                try clear c25b1
                try clear c26
                try clear c26b0
                try clear c26b1
                try clear c27
                try clear c27b0
                try clear c27b1
                try clear c28
                try clear c28b0
                try clear c29
                try clear c29b0
                try clear p30
                try clear q30
                try clear hx30
                try clear c31
                try clear c31b0
                try clear c31b1
                try clear c36
                try clear c37
                try clear c37b0
                try clear c38
                try clear c38b0
                try clear p39
                try clear q39
                try clear hx39
                try clear c41
                try clear c42
                try clear c42b0
                try clear c42b1
                try clear c43
                try clear c43b0
                try clear c43b1
                try clear c44
                try clear c44b0
                try clear c44b1
                try clear c46
                try clear c46b0
                try clear c46b1
                try clear c47
                try clear c47b0
                try clear c47b1
                try clear c48
                try clear c48b0
                try clear c48b1
                try clear c50
                try clear c51
                try clear c51b0
                try clear c51b1
                try clear c53
                try clear c53b0
                try clear c54
                try clear c54b0
                try clear q55
                try clear c56
                try clear c59
                try clear c63
                try clear p64
                try clear c67
                try clear c71
                try clear c71b0
                try clear c72
                try clear hcz11_0
                try clear hcz11_1
                try clear hcz11_2
                try clear hcz11_3
                try clear hcz11_4
                try clear hcz11_5
                try clear hcz15_0
                try clear hcz15_1
                try clear hcz15_2
                try clear hcz15_3
                try clear hcz15_4
                try clear hcz15_5
                try clear hcz32_0
                try clear hcz32_1
                try clear hcz32_2
                try clear hcz32_3
                try clear hcz32_4
                try clear hcz32_5
                try clear hcz33_0
                try clear hcz33_1
                try clear hcz33_2
                try clear hcz33_3
                try clear hcz33_4
                try clear hcz33_5
                try clear hcz34_0
                try clear hcz34_1
                try clear hcz34_2
                try clear hcz34_3
                try clear hcz34_4
                try clear hcz34_5
                try clear hcz45_0
                try clear hcz45_1
                try clear hcz45_2
                try clear hcz45_3
                try clear hcz45_4
                try clear hcz45_5
                try clear hcz49_0
                try clear hcz49_1
                try clear hcz49_2
                try clear hcz49_3
                try clear hcz49_4
                try clear hcz49_5
                try clear hcz57_0
                try clear hcz57_1
                try clear hcz57_2
                try clear hcz57_3
                try clear hcz57_4
                try clear hcz57_5
                try clear hcz60_0
                try clear hcz60_1
                try clear hcz60_2
                try clear hcz60_3
                try clear hcz60_4
                try clear hcz60_5
                try clear hcz64_0
                try clear hcz64_1
                try clear hcz64_2
                try clear hcz64_3
                try clear hcz64_4
                try clear hcz64_5
                try clear hcz68_0
                try clear hcz68_1
                try clear hcz68_2
                try clear hcz68_3
                try clear hcz68_4
                try clear hcz68_5
                try clear hcz7_0
                try clear hcz7_1
                try clear hcz7_2
                try clear hcz7_3
                try clear hcz7_4
                try clear hcz7_5
                try clear hfz11_0
                try clear hfz11_1
                try clear hfz11_2
                try clear hfz11_3
                try clear hfz11_4
                try clear hfz11_5
                try clear hfz15_0
                try clear hfz15_1
                try clear hfz15_2
                try clear hfz15_3
                try clear hfz15_4
                try clear hfz15_5
                try clear hfz32_0
                try clear hfz32_1
                try clear hfz32_2
                try clear hfz32_3
                try clear hfz32_4
                try clear hfz32_5
                try clear hfz33_0
                try clear hfz33_1
                try clear hfz33_2
                try clear hfz33_3
                try clear hfz33_4
                try clear hfz33_5
                try clear hfz34_0
                try clear hfz34_1
                try clear hfz34_2
                try clear hfz34_3
                try clear hfz34_4
                try clear hfz34_5
                try clear hfz45_0
                try clear hfz45_1
                try clear hfz45_2
                try clear hfz45_3
                try clear hfz45_4
                try clear hfz45_5
                try clear hfz49_0
                try clear hfz49_1
                try clear hfz49_2
                try clear hfz49_3
                try clear hfz49_4
                try clear hfz49_5
                try clear hfz57_0
                try clear hfz57_1
                try clear hfz57_2
                try clear hfz57_3
                try clear hfz57_4
                try clear hfz57_5
                try clear hfz60_0
                try clear hfz60_1
                try clear hfz60_2
                try clear hfz60_3
                try clear hfz60_4
                try clear hfz60_5
                try clear hfz64_0
                try clear hfz64_1
                try clear hfz64_2
                try clear hfz64_3
                try clear hfz64_4
                try clear hfz64_5
                try clear hfz68_0
                try clear hfz68_1
                try clear hfz68_2
                try clear hfz68_3
                try clear hfz68_4
                try clear hfz68_5
                try clear hfz7_0
                try clear hfz7_1
                try clear hfz7_2
                try clear hfz7_3
                try clear hfz7_4
                try clear hfz7_5
                try clear hx161_0
                try clear hx161_1
                try clear hx161_2
                try clear hx161_3
                try clear hx161_4
                try clear hx161_5
                try clear p1
                try clear p16
                try clear p161
                try clear p2
                try clear p20
                try clear p3
                try clear p30
                try clear p39
                try clear p4
                try clear p6
                try clear p64
                try clear q1
                try clear q16
                try clear q161
                try clear q2
                try clear q20
                try clear q3
                try clear q30
                try clear q39
                try clear q4
                try clear q5
                try clear q55
                obtain ⟨x13_3, rfl, HA, HK3, HO_4, HB⟩ := hrel
                cases gk with
                | zero => exact absurd HA.out (by simp [spec_Parts.l3])
                | succ k3 =>
                  have H := HA.out
                  clear HA
                  simp only [spec_Parts.l3] at H
                  by_cases c73 : x13_3 < (x4_1.length : Int)
                  · rw [if_pos c73] at H
                    have c73b0 : decide (x13_3 < (x4_1.length : Int)) = true := decide_eq_true c73
                    clear c73
                    obtain ⟨ji74, hji74⟩ : ∃ j_ : Int, (wrap64 (x13_3 - 1)) = j_ := ⟨_, rfl⟩
                    replace H : (if 0 ≤ (ji74) then (if (ji74) < (x4_1.length : Int) then (if (rd_T42 x4_1 (ji74)).f2 = true then (if ((rd_T42 x4_1 (ji74)).f3 = true) then (spec_Parts.l3 k3 x4_1 (wrap64 (x13_3 + 1))) else (if 0 ≤ x13_3 then ((spec_short.f k3 ((rd_T42 x4_1 x13_3).f0)).bind fun t174 => (if t174 = true then (some (([] : List (S42)), 2)) else (spec_Parts.l3 k3 x4_1 (wrap64 (x13_3 + 1))))) else (none))) else (spec_Parts.l3 k3 x4_1 (wrap64 (x13_3 + 1)))) else (none)) else (none)) = some (r1, r2) := by first | (rw [hji74] at H; exact H) | (simp only [hji74] at H ⊢; exact H)
                    have hji74w : (IntKind.i64.wrap (x13_3 - 1)) = ji74 := (i64_w _).trans hji74
                    by_cases c75 : 0 ≤ (ji74)
                    · rw [if_pos c75] at H
                      have c75b0 : decide (0 ≤ (ji74)) = true := decide_eq_true c75
                      clear c75
                      by_cases c76 : (ji74) < (x4_1.length : Int)
                      · rw [if_pos c76] at H
                        have c76b0 : decide ((ji74) < (x4_1.length : Int)) = true := decide_eq_true c76
                        clear c76
                        obtain ⟨bq77, hbq77⟩ : ∃ b_ : Bool, b_ = ((rd_T42 x4_1 (ji74)).f2) := ⟨_, rfl⟩
                        replace H : (if bq77 = true then (if ((rd_T42 x4_1 (ji74)).f3 = true) then (spec_Parts.l3 k3 x4_1 (wrap64 (x13_3 + 1))) else (if 0 ≤ x13_3 then ((spec_short.f k3 ((rd_T42 x4_1 x13_3).f0)).bind fun t174 => (if t174 = true then (some (([] : List (S42)), 2)) else (spec_Parts.l3 k3 x4_1 (wrap64 (x13_3 + 1))))) else (none))) else (spec_Parts.l3 k3 x4_1 (wrap64 (x13_3 + 1)))) = some (r1, r2) := by rw [← hbq77] at H; exact H
                        have Nbq77 := Aside0.mk hbq77
                        clear hbq77
                        by_cases c78 : bq77 = true
                        · subst c78
                          have H1 : (if ((rd_T42 x4_1 (ji74)).f3 = true) then (spec_Parts.l3 k3 x4_1 (wrap64 (x13_3 + 1))) else (if 0 ≤ x13_3 then ((spec_short.f k3 ((rd_T42 x4_1 x13_3).f0)).bind fun t174 => (if t174 = true then (some (([] : List (S42)), 2)) else (spec_Parts.l3 k3 x4_1 (wrap64 (x13_3 + 1))))) else (none))) = some (r1, r2) := by rw [if_pos rfl] at H; exact H
                          clear H
                          have H := H1
                          clear H1
                          obtain ⟨bq79, hbq79⟩ : ∃ b_ : Bool, b_ = ((rd_T42 x4_1 (ji74)).f3) := ⟨_, rfl⟩
                          replace H : (if (bq79 = true) then (spec_Parts.l3 k3 x4_1 (wrap64 (x13_3 + 1))) else (if 0 ≤ x13_3 then ((spec_short.f k3 ((rd_T42 x4_1 x13_3).f0)).bind fun t174 => (if t174 = true then (some (([] : List (S42)), 2)) else (spec_Parts.l3 k3 x4_1 (wrap64 (x13_3 + 1))))) else (none))) = some (r1, r2) := by rw [← hbq79] at H; exact H
                          have Nbq79 := Aside0.mk hbq79
                          clear hbq79
                          by_cases c80 : (bq79 = true)
                          · subst c80
                            have H1 : (spec_Parts.l3 k3 x4_1 (wrap64 (x13_3 + 1))) = some (r1, r2) := by rw [if_pos rfl] at H; exact H
                            clear H
                            have H := H1
                            clear H1
                            have H' := Aside0.mk H
                            clear H
                            obtain ⟨Ao81, co81, eo81⟩ := Kd.R_slice HO_4.out
                            subst eo81
                            have p171 : 0 ≤ ((ji74) : Int) := of_decide_eq_true (by first | (with_reducible assumption) | assumption)
                            have q171 : (ji74) < (x4_1.length : Int) := of_decide_eq_true (by first | (with_reducible assumption) | assumption)
                            obtain ⟨ad171, A171_5, c171_5, e171, hx171_0, hx171_1, hx171_2, hx171_3, hx171_4, hx171_5, hl171_5, hi171_5⟩ := at_T42 (Kd.R_reads' HO_4.out).2.2 (ji74) p171 q171
                            (try rw [← Nbq77.out] at hx171_2)
                            (try rw [← Nbq79.out] at hx171_2)
                            (try rw [← Nbq77.out] at hx171_3)
                            (try rw [← Nbq79.out] at hx171_3)
                            (try rw [← Nbq77.out] at hx171_4)
                            (try rw [← Nbq79.out] at hx171_4)
                            cases e171
                            obtain ⟨ce171, hce171, hMe171, hcc171⟩ := Kd.R_get HO_4.out z42 (ji74) p171 (by first | exact q171 | exact of_decide_eq_true (by first | (with_reducible assumption) | assumption) | (have e_ := (Kd.R_reads' HO_4.out).1; omega))
                            obtain ⟨ve171_5, rfl, ge171_5⟩ := k42_openM hMe171
                            have hv171_5 := hcc171 5 _ rfl
                            rw [add_field _ _ 5 (by omega)] at hv171_5
                            replace hv171_5 := Option.some.inj (hv171_5.symm.trans hx171_5)
                            rw [hv171_5] at ge171_5
                            have HL171_5 := Aside0.mk (show Kd.R k66 66 _ _ _ _ ((rd_T42 x4_1 (ji74)).f5) from ge171_5)
                            clear hv171_5 ge171_5
                            clear hcc171 hce171
                            have HR171_5 := Aside0.mk hi171_5
                            have HC171_5 := Aside0.mk hl171_5
                            clear hi171_5 hl171_5
                            replace p171 := eq_true p171
                            replace q171 := eq_true q171
                            have p172 : 0 ≤ ((ji74) : Int) := of_decide_eq_true (by first | (with_reducible assumption) | assumption)
                            have q172 : (ji74) < (x4_1.length : Int) := of_decide_eq_true (by first | (with_reducible assumption) | assumption)
                            obtain ⟨ad172, A172_5, c172_5, e172, hx172_0, hx172_1, hx172_2, hx172_3, hx172_4, hx172_5, hl172_5, hi172_5⟩ := at_T42 (Kd.R_reads' HO_4.out).2.2 (ji74) p172 q172
                            (try rw [← Nbq77.out] at hx172_2)
                            (try rw [← Nbq79.out] at hx172_2)
                            (try rw [← Nbq77.out] at hx172_3)
                            (try rw [← Nbq79.out] at hx172_3)
                            (try rw [← Nbq77.out] at hx172_4)
                            (try rw [← Nbq79.out] at hx172_4)
                            obtain rfl : ad171 = ad172 := (by injection e172)
                            obtain ⟨ce172, hce172, hMe172, hcc172⟩ := Kd.R_get HO_4.out z42 (ji74) p172 (by first | exact q172 | exact of_decide_eq_true (by first | (with_reducible assumption) | assumption) | (have e_ := (Kd.R_reads' HO_4.out).1; omega))
                            obtain ⟨ve172_5, rfl, ge172_5⟩ := k42_openM hMe172
                            have hv172_5 := hcc172 5 _ rfl
                            rw [add_field _ _ 5 (by omega)] at hv172_5
                            replace hv172_5 := Option.some.inj (hv172_5.symm.trans hx172_5)
                            rw [hv172_5] at ge172_5
                            have HL172_5 := Aside0.mk (show Kd.R k66 66 _ _ _ _ ((rd_T42 x4_1 (ji74)).f5) from ge172_5)
                            clear hv172_5 ge172_5
                            clear hcc172 hce172
                            have HR172_5 := Aside0.mk hi172_5
                            have HC172_5 := Aside0.mk hl172_5
                            clear hi172_5 hl172_5
                            replace p172 := eq_true p172
                            replace q172 := eq_true q172
                            have ea_ := Option.some.inj (hx171_5.symm.trans hx172_5)
                            injection ea_ with ea_ en_ ec_
                            subst ea_
                            subst ec_
                            clear en_
                            go_wp2
                            go_roundg k3
                            case measure => have := HK1.out; have := HJ69.out; have := HK3.out; omega
                            case rel => exact ⟨(wrap64 (x13_3 + 1)), (by first | rfl | (simp; done) | (simp [*]; done)), H', ⟨by have := HK1.out; have := HJ69.out; have := HK3.out; omega⟩, ⟨by (with_reducible repeat (first | apply Kd.R_alloc | apply Kd.R_drewN | apply Kd.R_drew)); exact HO_4.out⟩, ⟨by repeat (first | (with_reducible first | exact HB.out | apply below_alloc | apply pw_below_drewN | apply below_drew1) | exact HB.out)⟩⟩
                          · replace c80 := Bool.eq_false_iff.mpr c80
                            subst c80
                            have H1 : (if 0 ≤ x13_3 then ((spec_short.f k3 ((rd_T42 x4_1 x13_3).f0)).bind fun t174 => (if t174 = true then (some (([] : List (S42)), 2)) else (spec_Parts.l3 k3 x4_1 (wrap64 (x13_3 + 1))))) else (none)) = some (r1, r2) := by rw [if_neg (show ¬ (false = true) by decide)] at H; exact H
                            clear H
                            have H := H1
                            clear H1
                            by_cases c82 : 0 ≤ x13_3
                            · rw [if_pos c82] at H
                              have c82b0 : decide (0 ≤ x13_3) = true := decide_eq_true c82
                              clear c82
                              replace H := Option.bind_eq_some_iff.mp H
                              obtain ⟨t174, A830, H⟩ := H
                              replace H : (if t174 = true then (some (([] : List (S42)), 2)) else (spec_Parts.l3 k3 x4_1 (wrap64 (x13_3 + 1)))) = some (r1, r2) := H
                              have A83 := Aside0.mk A830
                              clear A830
                              by_cases c84 : t174 = true
                              · subst c84
                                have H1 : (some (([] : List (S42)), 2)) = some (r1, r2) := by rw [if_pos rfl] at H; exact H
                                clear H
                                have H := H1
                                clear H1
                                simp only [Option.some.injEq, Prod.mk.injEq] at H
                                obtain ⟨rfl, rfl⟩ := H
                                obtain ⟨Ao85, co85, eo85⟩ := Kd.R_slice HO_4.out
                                subst eo85
                                have p171 : 0 ≤ ((ji74) : Int) := of_decide_eq_true (by first | (with_reducible assumption) | assumption)
                                have q171 : (ji74) < (x4_1.length : Int) := of_decide_eq_true (by first | (with_reducible assumption) | assumption)
                                obtain ⟨ad171, A171_5, c171_5, e171, hx171_0, hx171_1, hx171_2, hx171_3, hx171_4, hx171_5, hl171_5, hi171_5⟩ := at_T42 (Kd.R_reads' HO_4.out).2.2 (ji74) p171 q171
                                (try rw [← Nbq77.out] at hx171_2)
                                (try rw [← Nbq79.out] at hx171_2)
                                (try rw [← Nbq77.out] at hx171_3)
                                (try rw [← Nbq79.out] at hx171_3)
                                (try rw [← Nbq77.out] at hx171_4)
                                (try rw [← Nbq79.out] at hx171_4)
                                cases e171
                                obtain ⟨ce171, hce171, hMe171, hcc171⟩ := Kd.R_get HO_4.out z42 (ji74) p171 (by first | exact q171 | exact of_decide_eq_true (by first | (with_reducible assumption) | assumption) | (have e_ := (Kd.R_reads' HO_4.out).1; omega))
                                obtain ⟨ve171_5, rfl, ge171_5⟩ := k42_openM hMe171
                                have hv171_5 := hcc171 5 _ rfl
                                rw [add_field _ _ 5 (by omega)] at hv171_5
                                replace hv171_5 := Option.some.inj (hv171_5.symm.trans hx171_5)
                                rw [hv171_5] at ge171_5
                                have HL171_5 := Aside0.mk (show Kd.R k66 66 _ _ _ _ ((rd_T42 x4_1 (ji74)).f5) from ge171_5)
                                clear hv171_5 ge171_5
                                clear hcc171 hce171
                                have HR171_5 := Aside0.mk hi171_5
                                have HC171_5 := Aside0.mk hl171_5
                                clear hi171_5 hl171_5
                                replace p171 := eq_true p171
                                replace q171 := eq_true q171
                                have p172 : 0 ≤ ((ji74) : Int) := of_decide_eq_true (by first | (with_reducible assumption) | assumption)
                                have q172 : (ji74) < (x4_1.length : Int) := of_decide_eq_true (by first | (with_reducible assumption) | assumption)
                                obtain ⟨ad172, A172_5, c172_5, e172, hx172_0, hx172_1, hx172_2, hx172_3, hx172_4, hx172_5, hl172_5, hi172_5⟩ := at_T42 (Kd.R_reads' HO_4.out).2.2 (ji74) p172 q172
                                (try rw [← Nbq77.out] at hx172_2)
                                (try rw [← Nbq79.out] at hx172_2)
                                (try rw [← Nbq77.out] at hx172_3)
                                (try rw [← Nbq79.out] at hx172_3)
                                (try rw [← Nbq77.out] at hx172_4)
                                (try rw [← Nbq79.out] at hx172_4)
                                obtain rfl : ad171 = ad172 := (by injection e172)
                                obtain ⟨ce172, hce172, hMe172, hcc172⟩ := Kd.R_get HO_4.out z42 (ji74) p172 (by first | exact q172 | exact of_decide_eq_true (by first | (with_reducible assumption) | assumption) | (have e_ := (Kd.R_reads' HO_4.out).1; omega))
                                obtain ⟨ve172_5, rfl, ge172_5⟩ := k42_openM hMe172
                                have hv172_5 := hcc172 5 _ rfl
                                rw [add_field _ _ 5 (by omega)] at hv172_5
                                replace hv172_5 := Option.some.inj (hv172_5.symm.trans hx172_5)
                                rw [hv172_5] at ge172_5
                                have HL172_5 := Aside0.mk (show Kd.R k66 66 _ _ _ _ ((rd_T42 x4_1 (ji74)).f5) from ge172_5)
                                clear hv172_5 ge172_5
                                clear hcc172 hce172
                                have HR172_5 := Aside0.mk hi172_5
                                have HC172_5 := Aside0.mk hl172_5
                                clear hi172_5 hl172_5
                                replace p172 := eq_true p172
                                replace q172 := eq_true q172
                                have ea_ := Option.some.inj (hx171_5.symm.trans hx172_5)
                                injection ea_ with ea_ en_ ec_
                                subst ea_
                                subst ec_
                                clear en_
                                have p173 : 0 ≤ (x13_3 : Int) := of_decide_eq_true (by first | (with_reducible assumption) | assumption)
                                have q173 : x13_3 < (x4_1.length : Int) := of_decide_eq_true (by first | (with_reducible assumption) | assumption)
                                obtain ⟨ad173, A173_5, c173_5, e173, hx173_0, hx173_1, hx173_2, hx173_3, hx173_4, hx173_5, hl173_5, hi173_5⟩ := at_T42 (Kd.R_reads' HO_4.out).2.2 x13_3 p173 q173
                                (try rw [← Nbq77.out] at hx173_2)
                                (try rw [← Nbq79.out] at hx173_2)
                                (try rw [← Nbq77.out] at hx173_3)
                                (try rw [← Nbq79.out] at hx173_3)
                                (try rw [← Nbq77.out] at hx173_4)
                                (try rw [← Nbq79.out] at hx173_4)
                                obtain rfl : ad171 = ad173 := (by injection e173)
                                obtain ⟨ce173, hce173, hMe173, hcc173⟩ := Kd.R_get HO_4.out z42 x13_3 p173 (by first | exact q173 | exact of_decide_eq_true (by first | (with_reducible assumption) | assumption) | (have e_ := (Kd.R_reads' HO_4.out).1; omega))
                                obtain ⟨ve173_5, rfl, ge173_5⟩ := k42_openM hMe173
                                have hv173_5 := hcc173 5 _ rfl
                                rw [add_field _ _ 5 (by omega)] at hv173_5
                                replace hv173_5 := Option.some.inj (hv173_5.symm.trans hx173_5)
                                rw [hv173_5] at ge173_5
                                have HL173_5 := Aside0.mk (show Kd.R k66 66 _ _ _ _ ((rd_T42 x4_1 x13_3).f5) from ge173_5)
                                clear hv173_5 ge173_5
                                clear hcc173 hce173
                                have HR173_5 := Aside0.mk hi173_5
                                have HC173_5 := Aside0.mk hl173_5
                                clear hi173_5 hl173_5
                                replace p173 := eq_true p173
                                replace q173 := eq_true q173
                                go_wp2_with (first | (go_at_call 18; (with_reducible refine (spec_short.calls k3 ((rd_T42 x4_1 x13_3).f0) true _ A83.out).mono ?_); rintro e w' ⟨rfl, ⟨nd, rfl⟩⟩))
                                go_ret2
                                exact ⟨_, by first | rfl | (simp [errW_none, errW_some] <;> rfl) | (simp only [← hji74]; first | rfl | (simp [errW_none, errW_some] <;> rfl)) | (simp [*, errW_none, errW_some] <;> rfl), by first | exact Kd.R_nil _ _ _ _ _ | exact Kd.N_nil _ _ _ _ _ | exact Kd.V_nil _ _ _ _ _ | exact Kd.Q_nil _ _ _ _ _ | exact Kd.S_nil _ _ _ _ _, by repeat (first | (with_reducible first | exact HB.out | apply below_alloc | apply pw_below_drewN | apply below_drew1) | exact HB.out)⟩
                              · replace c84 := Bool.eq_false_iff.mpr c84
                                subst c84
                                have H1 : (spec_Parts.l3 k3 x4_1 (wrap64 (x13_3 + 1))) = some (r1, r2) := by rw [if_neg (show ¬ (false = true) by decide)] at H; exact H
                                clear H
                                have H := H1
                                clear H1
                                have H' := Aside0.mk H
                                clear H
                                obtain ⟨Ao86, co86, eo86⟩ := Kd.R_slice HO_4.out
                                subst eo86
                                have p171 : 0 ≤ ((ji74) : Int) := of_decide_eq_true (by first | (with_reducible assumption) | assumption)
                                have q171 : (ji74) < (x4_1.length : Int) := of_decide_eq_true (by first | (with_reducible assumption) | assumption)
                                obtain ⟨ad171, A171_5, c171_5, e171, hx171_0, hx171_1, hx171_2, hx171_3, hx171_4, hx171_5, hl171_5, hi171_5⟩ := at_T42 (Kd.R_reads' HO_4.out).2.2 (ji74) p171 q171
                                (try rw [← Nbq77.out] at hx171_2)
                                (try rw [← Nbq79.out] at hx171_2)
                                (try rw [← Nbq77.out] at hx171_3)
                                (try rw [← Nbq79.out] at hx171_3)
                                (try rw [← Nbq77.out] at hx171_4)
                                (try rw [← Nbq79.out] at hx171_4)
                                cases e171
                                obtain ⟨ce171, hce171, hMe171, hcc171⟩ := Kd.R_get HO_4.out z42 (ji74) p171 (by first | exact q171 | exact of_decide_eq_true (by first | (with_reducible assumption) | assumption) | (have e_ := (Kd.R_reads' HO_4.out).1; omega))
                                obtain ⟨ve171_5, rfl, ge171_5⟩ := k42_openM hMe171
                                have hv171_5 := hcc171 5 _ rfl
                                rw [add_field _ _ 5 (by omega)] at hv171_5
                                replace hv171_5 := Option.some.inj (hv171_5.symm.trans hx171_5)
                                rw [hv171_5] at ge171_5
                                have HL171_5 := Aside0.mk (show Kd.R k66 66 _ _ _ _ ((rd_T42 x4_1 (ji74)).f5) from ge171_5)
                                clear hv171_5 ge171_5
                                clear hcc171 hce171
                                have HR171_5 := Aside0.mk hi171_5
                                have HC171_5 := Aside0.mk hl171_5
                                clear hi171_5 hl171_5
                                replace p171 := eq_true p171
                                replace q171 := eq_true q171
                                have p172 : 0 ≤ ((ji74) : Int) := of_decide_eq_true (by first | (with_reducible assumption) | assumption)
                                have q172 : (ji74) < (x4_1.length : Int) := of_decide_eq_true (by first | (with_reducible assumption) | assumption)
                                obtain ⟨ad172, A172_5, c172_5, e172, hx172_0, hx172_1, hx172_2, hx172_3, hx172_4, hx172_5, hl172_5, hi172_5⟩ := at_T42 (Kd.R_reads' HO_4.out).2.2 (ji74) p172 q172
                                (try rw [← Nbq77.out] at hx172_2)
                                (try rw [← Nbq79.out] at hx172_2)
                                (try rw [← Nbq77.out] at hx172_3)
                                (try rw [← Nbq79.out] at hx172_3)
                                (try rw [← Nbq77.out] at hx172_4)
                                (try rw [← Nbq79.out] at hx172_4)
                                obtain rfl : ad171 = ad172 := (by injection e172)
                                obtain ⟨ce172, hce172, hMe172, hcc172⟩ := Kd.R_get HO_4.out z42 (ji74) p172 (by first | exact q172 | exact of_decide_eq_true (by first | (with_reducible assumption) | assumption) | (have e_ := (Kd.R_reads' HO_4.out).1; omega))
                                obtain ⟨ve172_5, rfl, ge172_5⟩ := k42_openM hMe172
                                have hv172_5 := hcc172 5 _ rfl
                                rw [add_field _ _ 5 (by omega)] at hv172_5
                                replace hv172_5 := Option.some.inj (hv172_5.symm.trans hx172_5)
                                rw [hv172_5] at ge172_5
                                have HL172_5 := Aside0.mk (show Kd.R k66 66 _ _ _ _ ((rd_T42 x4_1 (ji74)).f5) from ge172_5)
                                clear hv172_5 ge172_5
                                clear hcc172 hce172
                                have HR172_5 := Aside0.mk hi172_5
                                have HC172_5 := Aside0.mk hl172_5
                                clear hi172_5 hl172_5
                                replace p172 := eq_true p172
                                replace q172 := eq_true q172
                                have ea_ := Option.some.inj (hx171_5.symm.trans hx172_5)
                                injection ea_ with ea_ en_ ec_
                                subst ea_
                                subst ec_
                                clear en_
                                have p173 : 0 ≤ (x13_3 : Int) := of_decide_eq_true (by first | (with_reducible assumption) | assumption)
                                have q173 : x13_3 < (x4_1.length : Int) := of_decide_eq_true (by first | (with_reducible assumption) | assumption)
                                obtain ⟨ad173, A173_5, c173_5, e173, hx173_0, hx173_1, hx173_2, hx173_3, hx173_4, hx173_5, hl173_5, hi173_5⟩ := at_T42 (Kd.R_reads' HO_4.out).2.2 x13_3 p173 q173
                                (try rw [← Nbq77.out] at hx173_2)
                                (try rw [← Nbq79.out] at hx173_2)
                                (try rw [← Nbq77.out] at hx173_3)
                                (try rw [← Nbq79.out] at hx173_3)
                                (try rw [← Nbq77.out] at hx173_4)
                                (try rw [← Nbq79.out] at hx173_4)
                                obtain rfl : ad171 = ad173 := (by injection e173)
                                obtain ⟨ce173, hce173, hMe173, hcc173⟩ := Kd.R_get HO_4.out z42 x13_3 p173 (by first | exact q173 | exact of_decide_eq_true (by first | (with_reducible assumption) | assumption) | (have e_ := (Kd.R_reads' HO_4.out).1; omega))
                                obtain ⟨ve173_5, rfl, ge173_5⟩ := k42_openM hMe173
                                have hv173_5 := hcc173 5 _ rfl
                                rw [add_field _ _ 5 (by omega)] at hv173_5
                                replace hv173_5 := Option.some.inj (hv173_5.symm.trans hx173_5)
                                rw [hv173_5] at ge173_5
                                have HL173_5 := Aside0.mk (show Kd.R k66 66 _ _ _ _ ((rd_T42 x4_1 x13_3).f5) from ge173_5)
                                clear hv173_5 ge173_5
                                clear hcc173 hce173
                                have HR173_5 := Aside0.mk hi173_5
                                have HC173_5 := Aside0.mk hl173_5
                                clear hi173_5 hl173_5
                                replace p173 := eq_true p173
                                replace q173 := eq_true q173
                                go_wp2_with (first | (go_at_call 18; (with_reducible refine (spec_short.calls k3 ((rd_T42 x4_1 x13_3).f0) false _ A83.out).mono ?_); rintro e w' ⟨rfl, ⟨nd, rfl⟩⟩))
                                go_roundg k3
                                case measure => have := HK1.out; have := HJ69.out; have := HK3.out; omega
                                case rel => exact ⟨(wrap64 (x13_3 + 1)), (by first | rfl | (simp; done) | (simp [*]; done)), H', ⟨by have := HK1.out; have := HJ69.out; have := HK3.out; omega⟩, ⟨by (with_reducible repeat (first | apply Kd.R_alloc | apply Kd.R_drewN | apply Kd.R_drew)); exact HO_4.out⟩, ⟨by repeat (first | (with_reducible first | exact HB.out | apply below_alloc | apply pw_below_drewN | apply below_drew1) | exact HB.out)⟩⟩
                            · rw [if_neg c82] at H
                              exact absurd H (by simp)
                        · replace c78 := Bool.eq_false_iff.mpr c78
                          subst c78
                          have H1 : (spec_Parts.l3 k3 x4_1 (wrap64 (x13_3 + 1))) = some (r1, r2) := by rw [if_neg (show ¬ (false = true) by decide)] at H; exact H
                          clear H
                          have H := H1
                          clear H1
                          have H' := Aside0.mk H
                          clear H
                          obtain ⟨Ao87, co87, eo87⟩ := Kd.R_slice HO_4.out
                          subst eo87
                          have p171 : 0 ≤ ((ji74) : Int) := of_decide_eq_true (by first | (with_reducible assumption) | assumption)
                          have q171 : (ji74) < (x4_1.length : Int) := of_decide_eq_true (by first | (with_reducible assumption) | assumption)
                          obtain ⟨ad171, A171_5, c171_5, e171, hx171_0, hx171_1, hx171_2, hx171_3, hx171_4, hx171_5, hl171_5, hi171_5⟩ := at_T42 (Kd.R_reads' HO_4.out).2.2 (ji74) p171 q171
                          (try rw [← Nbq77.out] at hx171_2)
                          (try rw [← Nbq77.out] at hx171_3)
                          (try rw [← Nbq77.out] at hx171_4)
                          cases e171
                          obtain ⟨ce171, hce171, hMe171, hcc171⟩ := Kd.R_get HO_4.out z42 (ji74) p171 (by first | exact q171 | exact of_decide_eq_true (by first | (with_reducible assumption) | assumption) | (have e_ := (Kd.R_reads' HO_4.out).1; omega))
                          obtain ⟨ve171_5, rfl, ge171_5⟩ := k42_openM hMe171
                          have hv171_5 := hcc171 5 _ rfl
                          rw [add_field _ _ 5 (by omega)] at hv171_5
                          replace hv171_5 := Option.some.inj (hv171_5.symm.trans hx171_5)
                          rw [hv171_5] at ge171_5
                          have HL171_5 := Aside0.mk (show Kd.R k66 66 _ _ _ _ ((rd_T42 x4_1 (ji74)).f5) from ge171_5)
                          clear hv171_5 ge171_5
                          clear hcc171 hce171
                          have HR171_5 := Aside0.mk hi171_5
                          have HC171_5 := Aside0.mk hl171_5
                          clear hi171_5 hl171_5
                          replace p171 := eq_true p171
                          replace q171 := eq_true q171
                          go_wp2
                          go_roundg k3
                          case measure => have := HK1.out; have := HJ69.out; have := HK3.out; omega
                          case rel => exact ⟨(wrap64 (x13_3 + 1)), (by first | rfl | (simp; done) | (simp [*]; done)), H', ⟨by have := HK1.out; have := HJ69.out; have := HK3.out; omega⟩, ⟨by (with_reducible repeat (first | apply Kd.R_alloc | apply Kd.R_drewN | apply Kd.R_drew)); exact HO_4.out⟩, ⟨by repeat (first | (with_reducible first | exact HB.out | apply below_alloc | apply pw_below_drewN | apply below_drew1) | exact HB.out)⟩⟩
                      · rw [if_neg c76] at H
                        exact absurd H (by simp)
                    · rw [if_neg c75] at H
                      exact absurd H (by simp)
                  · rw [if_neg c73] at H
                    have c73b0 : decide (x13_3 < (x4_1.length : Int)) = false := decide_eq_false c73
                    clear c73
                    simp only [Option.some.injEq, Prod.mk.injEq] at H
                    obtain ⟨rfl, rfl⟩ := H
                    obtain ⟨Ao88, co88, eo88⟩ := Kd.R_slice HO_4.out
                    subst eo88
                    go_wp2
                    go_ret2
                    exact ⟨_, by first | rfl | (simp [errW_none, errW_some] <;> rfl) | (simp [*, errW_none, errW_some] <;> rfl), by (with_reducible repeat (first | apply Kd.R_alloc | apply Kd.R_drewN | apply Kd.R_drew)); exact HO_4.out, by repeat (first | (with_reducible first | exact HB.out | apply below_alloc | apply pw_below_drewN | apply below_drew1) | exact HB.out)⟩

end Go.Proofs.YtfahabnjplnbmaaGreatDoor.Q
