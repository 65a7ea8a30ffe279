-- Laid by a program of this session's own, after the kit's print (two functions given by hand). Lean checks it.
import Derived.Test.YtfahabnjplnbmaaGreatDoorMQx0
namespace Go.Proofs.YtfahabnjplnbmaaGreatDoor.Q
open Go.RowKit Go.Proofs.YtfahabnjplnbmaaGreatDoorW.PrintWords Go.Proofs.YtfahabnjplnbmaaGreatDoorW.PrintLast Go.Proofs.YtfahabnjplnbmaaGreatDoorW.PrintMore
attribute [local go_sem] max2_int min2_int max_two min_two max_three min_three max_four min_four   -- for this text's walks alone
set_option linter.unusedVariables false
set_option linter.unusedSimpArgs false

/-! ### laws_told: function 7 -/
def laws_told.f (a0 : Bool) (a1 : Int) : Option (Bool) := if a1 = 2 then (some true) else (some (a0 == (a1 == 1)))

/-! ### spec_begins: function 19 -/
def spec_begins.f (a0 : ByteArray) (a1 : ByteArray) : Option (Bool) := if (a1.size : Int) ≤ (a0.size : Int) then (if 0 ≤ (a1.size : Int) then (some ((a0.extract 0 ((a1.size : Int) : Int).toNat).toList == a1.toList)) else (none)) else (some false)
set_option maxHeartbeats 8000000 in
set_option maxRecDepth 100000 in
theorem spec_begins.calls (a0 : ByteArray) (a1 : ByteArray) (r : Bool) (w : World) (h : spec_begins.f a0 a1 = some r) :
    Calls Tryz.prog 19 #[.string a0, .string a1] w fun e w' => e = .returned (.bool r) ∧ Drawn0 w w' := by
  have H : (if (a1.size : Int) ≤ (a0.size : Int) then (if 0 ≤ (a1.size : Int) then (some ((a0.extract 0 ((a1.size : Int) : Int).toNat).toList == a1.toList)) else (none)) else (some false)) = some r := h
  clear h
  by_cases c3 : (a1.size : Int) ≤ (a0.size : Int)
  · rw [if_pos c3] at H
    have c3b0 : decide ((a1.size : Int) ≤ (a0.size : Int)) = true := decide_eq_true c3
    have c3b1 : decide (a1.size ≤ a0.size) = true := decide_eq_true (Int.ofNat_le.mp c3)
    clear c3
    by_cases c4 : 0 ≤ (a1.size : Int)
    · rw [if_pos c4] at H
      have c4b0 := eq_true c4
      have c4b1 : decide (0 ≤ (a1.size : Int)) = true := decide_eq_true c4
      clear c4
      have c5b0 := eq_true (of_decide_eq_true (by first | (with_reducible assumption) | assumption) : (a1.size : Int) ≤ (a0.size : Int))
      obtain rfl := Option.some.inj H
      go_enter Tryz.func19, Tryz.ntmps19
      go_wp2
      go_ret
      exact ⟨by first | rfl | (simp; done) | (simp [*]; done), by repeat (first | exact Drawn0.refl _ | apply Drawn0.step)⟩
    · rw [if_neg c4] at H
      exact absurd H (by simp)
  · rw [if_neg c3] at H
    have c3b0 : decide ((a1.size : Int) ≤ (a0.size : Int)) = false := decide_eq_false c3
    have c3b1 : decide (a1.size ≤ a0.size) = false := decide_eq_false (fun h => c3 (Int.ofNat_le.mpr h))
    clear c3
    obtain rfl := Option.some.inj H
    go_enter Tryz.func19, Tryz.ntmps19
    go_wp2
    go_ret
    exact ⟨by first | rfl | (simp; done) | (simp [*]; done), by repeat (first | exact Drawn0.refl _ | apply Drawn0.step)⟩

/-! ### spec_fold: function 32 -/
def spec_fold.f (a0 : Int) : Option (Int) := if a0 ≥ 65 then (if a0 ≤ 90 then (some ((a0 + 32) % 256)) else (some a0)) else (some a0)

/-! ### spec_within: function 25 -/
mutual
def spec_within.l0 : Nat → ByteArray → Int → Int → ByteArray → ByteArray → Bool → Bool → Bool → List (S66) → Option (Bool)
  | 0, _, _, _, _, _, _, _, _, _ => none
  | k + 1, x1, x15, x16, x176000, x176001, x176002, x176003, x176004, x176005 => if x16 < x15 then (if 0 ≤ x16 then (if x16 < (x1.size : Int) then (if (bt x1 x16) = 47 then (if x176003 = true then (spec_within.l0 k x1 x15 (wrap64 (x16 + 1)) x176000 x176001 x176002 x176003 x176004 x176005) else (some false)) else (spec_within.l0 k x1 x15 (wrap64 (x16 + 1)) x176000 x176001 x176002 x176003 x176004 x176005)) else (none)) else (none)) else (spec_within.l1 k x1 x176005 (x176005.length : Int) 0)
def spec_within.l1 : Nat → ByteArray → List (S66) → Int → Int → Option (Bool)
  | 0, _, _, _, _ => none
  | k + 1, x1, x30, x31, x32 => if x32 < x31 then (if 0 ≤ x32 then (if x32 < (x30.length : Int) then ((spec_Fulfils.f ((rd_T66 x30 x32).f0) ((rd_T66 x30 x32).f1) x1).bind fun bt178 => (if bt178.2 = 1 then (if bt178.1 = true then (spec_within.l1 k x1 x30 x31 (wrap64 (x32 + 1))) else (some false)) else (spec_within.l1 k x1 x30 x31 (wrap64 (x32 + 1))))) else (none)) else (none)) else (some true)
end
def spec_within.f (k : Nat) (a0_0 : ByteArray) (a0_1 : ByteArray) (a0_2 : Bool) (a0_3 : Bool) (a0_4 : Bool) (l0_5 : List (S66)) (a1 : ByteArray) : Option (Bool) := if a1.toList = ([] : List UInt8) then (some a0_4) else (spec_within.l0 k a1 (a1.size : Int) 0 a0_0 a0_1 a0_2 a0_3 a0_4 l0_5)
theorem spec_within.mono_l : ∀ k, (∀ y0 y1 y2 y3 y4 y5 y6 y7 y8, LeO (spec_within.l0 k y0 y1 y2 y3 y4 y5 y6 y7 y8) (spec_within.l0 (k + 1) y0 y1 y2 y3 y4 y5 y6 y7 y8)) ∧ (∀ y0 y1 y2 y3, LeO (spec_within.l1 k y0 y1 y2 y3) (spec_within.l1 (k + 1) y0 y1 y2 y3))
  | 0 => ⟨fun _ _ _ _ _ _ _ _ _ r h => by simp [spec_within.l0] at h, fun _ _ _ _ r h => by simp [spec_within.l1] at h⟩
  | k + 1 => by
    obtain ⟨ih0, ih1⟩ := spec_within.mono_l k
    refine ⟨?_, ?_⟩
    · intro y0 y1 y2 y3 y4 y5 y6 y7 y8
      unfold spec_within.l0
      repeat' first
      | (with_reducible exact ih0 _ _ _ _ _ _ _ _ _)
      | (with_reducible exact ih1 _ _ _ _)
      | (with_reducible exact LeO.refl _)
      | (with_reducible exact LeO.none _)
      | (with_reducible refine LeO.ite ?_ ?_)
      | (with_reducible refine LeO.bind ?_ (fun _ => ?_))
      | exact ih0 _ _ _ _ _ _ _ _ _
      | exact ih1 _ _ _ _
      | exact LeO.none _
      | refine LeO.ite ?_ ?_
      | refine LeO.bind ?_ (fun _ => ?_)
    · intro y0 y1 y2 y3
      unfold spec_within.l1
      repeat' first
      | (with_reducible exact ih0 _ _ _ _ _ _ _ _ _)
      | (with_reducible exact ih1 _ _ _ _)
      | (with_reducible exact LeO.refl _)
      | (with_reducible exact LeO.none _)
      | (with_reducible refine LeO.ite ?_ ?_)
      | (with_reducible refine LeO.bind ?_ (fun _ => ?_))
      | exact ih0 _ _ _ _ _ _ _ _ _
      | exact ih1 _ _ _ _
      | exact LeO.none _
      | refine LeO.ite ?_ ?_
      | refine LeO.bind ?_ (fun _ => ?_)
theorem spec_within.mono : ∀ a0 a1 a2 a3 a4 a5 a6 k, LeO (spec_within.f k a0 a1 a2 a3 a4 a5 a6) (spec_within.f (k + 1) a0 a1 a2 a3 a4 a5 a6) := by
  intro a0 a1 a2 a3 a4 a5 a6 k
  obtain ⟨ih0, ih1⟩ := spec_within.mono_l k
  unfold spec_within.f
  repeat' first
      | (with_reducible exact ih0 _ _ _ _ _ _ _ _ _)
      | (with_reducible exact ih1 _ _ _ _)
      | (with_reducible exact LeO.refl _)
      | (with_reducible exact LeO.none _)
      | (with_reducible refine LeO.ite ?_ ?_)
      | (with_reducible refine LeO.bind ?_ (fun _ => ?_))
      | exact ih0 _ _ _ _ _ _ _ _ _
      | exact ih1 _ _ _ _
      | exact LeO.none _
      | refine LeO.ite ?_ ?_
      | refine LeO.bind ?_ (fun _ => ?_)
set_option maxHeartbeats 8000000 in
set_option maxRecDepth 100000 in
theorem spec_within.calls (k : Nat) (a0_0 : ByteArray) (a0_1 : ByteArray) (a0_2 : Bool) (a0_3 : Bool) (a0_4 : Bool) (A0_5 : Option Addr) (c0_5 : Nat) (l0_5 : List (S66)) (a1 : ByteArray) (r : Bool) (w : World) (hr0_5 : Kd.C k66 w A0_5 l0_5.length l0_5) (hc0_5 : l0_5.length ≤ c0_5) (h : spec_within.f k a0_0 a0_1 a0_2 a0_3 a0_4 l0_5 a1 = some r) :
    Calls Tryz.prog 25 #[.agg #[.string a0_0, .string a0_1, .bool a0_2, .bool a0_3, .bool a0_4, .slice A0_5 l0_5.length c0_5], .string a1] w fun e w' => e = .returned (.bool r) ∧ Below w.heap.size w w' := by
  have hu42 := Tryz.underlying42
  have hu66 := Tryz.underlying66
  have HR0_5 := Aside0.mk hr0_5
  have HC0_5 := Aside0.mk hc0_5
  clear hr0_5 hc0_5
  have HB := Aside0.mk (Below.refl w.heap.size w)
  have H : (if a1.toList = ([] : List UInt8) then (some a0_4) else (spec_within.l0 k a1 (a1.size : Int) 0 a0_0 a0_1 a0_2 a0_3 a0_4 l0_5)) = some r := h
  clear h
  by_cases c3 : a1.toList = ([] : List UInt8)
  · rw [if_pos c3] at H
    have c3b0 : (a1.toList == ([] : List UInt8)) = true := beq_iff_eq.mpr c3
    have c3b1 : (a1.toList != ([] : List UInt8)) = false := bne_eq_false_iff_eq.mpr c3
    clear c3
    obtain rfl := Option.some.inj H
    go_enter Tryz.func25, Tryz.ntmps25
    go_wp2_with (first | ((with_reducible refine gate_dst (N := 2) rfl ?_); refine box_event ?hg (N := 2) ?hd (cs := #[.string a0_0, .string a0_1, .bool a0_2, .bool a0_3, .bool a0_4, .slice A0_5 l0_5.length c0_5]) (t := 42) ?hr ?_; (case hd => rfl); (case hg => rfl); (case hr => first | (go_simp; done) | (go_simp; rfl)); intro gb175 hg w4 hbox hb; have n0_ := Aside0.mk (below_step (by repeat (first | (with_reducible first | exact HB.out | apply below_alloc | apply pw_below_drewN | apply below_drew1) | exact HB.out)) hb); have n1_ := Aside0.mk (hbox); have n2_ := Aside0.mk ((by rw [hg]; exact (below_size (by repeat (first | (with_reducible first | exact HB.out | apply below_alloc | apply pw_below_drewN | apply below_drew1) | exact HB.out))) : w.heap.size ≤ gb175)); have n3_ := Aside0.mk ((by rw [hg]; exact (below_size (by repeat (first | (with_reducible first | exact HB.out | apply below_alloc | apply pw_below_drewN | apply below_drew1) | exact HB.out))) : w.heap.size ≤ gb175)); clear HB; have HB := n0_; have BK175 := n1_; have GW175 := n2_; have GE175 := n3_; clear n0_ n1_ n2_ n3_; clear hb hbox hg; have hcz5_0 : w4.cell? ⟨gb175, 0, none⟩ = some (.string a0_0) := (blk_cell BK175.out 0).trans rfl; have hcz5_1 : w4.cell? ⟨gb175, 1, none⟩ = some (.string a0_1) := (blk_cell BK175.out 1).trans rfl; have hcz5_2 : w4.cell? ⟨gb175, 2, none⟩ = some (.bool a0_2) := (blk_cell BK175.out 2).trans rfl; have hcz5_3 : w4.cell? ⟨gb175, 3, none⟩ = some (.bool a0_3) := (blk_cell BK175.out 3).trans rfl; have hcz5_4 : w4.cell? ⟨gb175, 4, none⟩ = some (.bool a0_4) := (blk_cell BK175.out 4).trans rfl; have hcz5_5 : w4.cell? ⟨gb175, 5, none⟩ = some (.slice A0_5 l0_5.length c0_5) := (blk_cell BK175.out 5).trans rfl; have hfz5_0 := blk_frozen BK175.out 0; have hfz5_1 := blk_frozen BK175.out 1; have hfz5_2 := blk_frozen BK175.out 2; have hfz5_3 := blk_frozen BK175.out 3; have hfz5_4 := blk_frozen BK175.out 4; have hfz5_5 := blk_frozen BK175.out 5))
    go_ret
    exact ⟨by first | rfl | (simp [errW_none, errW_some] <;> rfl) | (simp [*, errW_none, errW_some] <;> rfl), by repeat (first | (with_reducible first | exact HB.out | apply below_alloc | apply pw_below_drewN | apply below_drew1 | refine below_set ?_ GE175.out) | exact HB.out)⟩
  · rw [if_neg c3] at H
    have c3b0 : (a1.toList == ([] : List UInt8)) = false := beq_eq_false_iff_ne.mpr c3
    have c3b1 : (a1.toList != ([] : List UInt8)) = true := bne_iff_ne.mpr c3
    have H' := Aside0.mk H
    clear H
    go_enter Tryz.func25, Tryz.ntmps25
    go_wp2_with (first | ((with_reducible refine gate_dst (N := 2) rfl ?_); refine box_event ?hg (N := 2) ?hd (cs := #[.string a0_0, .string a0_1, .bool a0_2, .bool a0_3, .bool a0_4, .slice A0_5 l0_5.length c0_5]) (t := 42) ?hr ?_; (case hd => rfl); (case hg => rfl); (case hr => first | (go_simp; done) | (go_simp; rfl)); intro gb175 hg w6 hbox hb; have n0_ := Aside0.mk (below_step (by repeat (first | (with_reducible first | exact HB.out | apply below_alloc | apply pw_below_drewN | apply below_drew1) | exact HB.out)) hb); have n1_ := Aside0.mk (hbox); have n2_ := Aside0.mk ((by rw [hg]; exact (below_size (by repeat (first | (with_reducible first | exact HB.out | apply below_alloc | apply pw_below_drewN | apply below_drew1) | exact HB.out))) : w.heap.size ≤ gb175)); have n3_ := Aside0.mk ((by rw [hg]; exact (below_size (by repeat (first | (with_reducible first | exact HB.out | apply below_alloc | apply pw_below_drewN | apply below_drew1) | exact HB.out))) : w.heap.size ≤ gb175)); clear HB; have HB := n0_; have BK175 := n1_; have GW175 := n2_; have GE175 := n3_; clear n0_ n1_ n2_ n3_; clear hb hbox hg))
    go_loopg [16] k (fun kq v16 w' => ∃ (x16_1 : Int), v16 = .int .i64 x16_1 ∧ Aside0 (spec_within.l0 kq a1 (a1.size : Int) x16_1 a0_0 a0_1 a0_2 a0_3 a0_4 l0_5 = some r) ∧ Aside0 (kq ≤ k) ∧ Aside0 (w'.heap[gb175]? = some (.cells #[.string a0_0, .string a0_1, .bool a0_2, .bool a0_3, .bool a0_4, (.slice A0_5 l0_5.length c0_5)] 42 (0, 0))) ∧ Aside0 (Below w.heap.size w w'))
    case atStart => exact ⟨(0), (by first | rfl | (simp; done) | (simp [*]; done)), H', ⟨Nat.le_refl _⟩, ⟨by (with_reducible repeat (first | refine blk_drewN ?_ _ | refine blk_drew ?_ | refine blk_alloc ?_ _)); exact BK175.out⟩, ⟨by repeat (first | (with_reducible first | exact HB.out | apply below_alloc | apply pw_below_drewN | apply below_drew1 | refine below_set ?_ GE175.out) | exact HB.out)⟩⟩
    case round =>
      clear H'
      try clear c2
      try clear p2
      try clear c3
      try clear c3b0
      try clear c3b1
      try clear hcz5_0
      try clear hcz5_1
      try clear hcz5_2
      try clear hcz5_3
      try clear hcz5_4
      try clear hcz5_5
      try clear hfz5_0
      try clear hfz5_1
      try clear hfz5_2
      try clear hfz5_3
      try clear hfz5_4
      try clear hfz5_5
      obtain ⟨x16_1, rfl, HA, HK1, BK175, HB⟩ := hrel
      cases gk with
      | zero => exact absurd HA.out (by simp [spec_within.l0])
      | succ k1 =>
        have H := HA.out
        clear HA
        simp only [spec_within.l0] at H
        by_cases c7 : x16_1 < (a1.size : Int)
        · rw [if_pos c7] at H
          have c7b0 : decide (x16_1 < (a1.size : Int)) = true := decide_eq_true c7
          clear c7
          by_cases c8 : 0 ≤ x16_1
          · rw [if_pos c8] at H
            have c8b0 : decide (0 ≤ x16_1) = true := decide_eq_true c8
            clear c8
            by_cases c9 : x16_1 < (a1.size : Int)
            · rw [if_pos c9] at H
              have c9b0 : decide (x16_1 < (a1.size : Int)) = true := decide_eq_true c9
              clear c9
              by_cases c11 : (bt a1 x16_1) = 47
              · rw [if_pos c11] at H
                have c11b0 : ((bt a1 x16_1) == 47) = true := beq_iff_eq.mpr c11
                have c11b1 : ((bt a1 x16_1) != 47) = false := bne_eq_false_iff_eq.mpr c11
                clear c11
                by_cases c12 : a0_3 = true
                · subst c12
                  have H1 : (spec_within.l0 k1 a1 (a1.size : Int) (wrap64 (x16_1 + 1)) a0_0 a0_1 a0_2 true a0_4 l0_5) = some r := by rw [if_pos rfl] at H; exact H
                  clear H
                  have H := H1
                  clear H1
                  have H' := Aside0.mk H
                  clear H
                  have p10 : 0 ≤ (x16_1 : Int) := of_decide_eq_true (by first | (with_reducible assumption) | assumption)
                  have q10 : x16_1 < (a1.size : Int) := of_decide_eq_true (by first | (with_reducible assumption) | assumption)
                  have hx10 := bt_at a1 x16_1
                  replace p10 := eq_true p10
                  replace q10 := eq_true q10
                  have hcz13_0 : wr.cell? ⟨gb175, 0, none⟩ = some (.string a0_0) := (blk_cell BK175.out 0).trans rfl
                  have hcz13_1 : wr.cell? ⟨gb175, 1, none⟩ = some (.string a0_1) := (blk_cell BK175.out 1).trans rfl
                  have hcz13_2 : wr.cell? ⟨gb175, 2, none⟩ = some (.bool a0_2) := (blk_cell BK175.out 2).trans rfl
                  have hcz13_3 : wr.cell? ⟨gb175, 3, none⟩ = some (.bool true) := (blk_cell BK175.out 3).trans rfl
                  have hcz13_4 : wr.cell? ⟨gb175, 4, none⟩ = some (.bool a0_4) := (blk_cell BK175.out 4).trans rfl
                  have hcz13_5 : wr.cell? ⟨gb175, 5, none⟩ = some (.slice A0_5 l0_5.length c0_5) := (blk_cell BK175.out 5).trans rfl
                  have hfz13_0 := blk_frozen BK175.out 0
                  have hfz13_1 := blk_frozen BK175.out 1
                  have hfz13_2 := blk_frozen BK175.out 2
                  have hfz13_3 := blk_frozen BK175.out 3
                  have hfz13_4 := blk_frozen BK175.out 4
                  have hfz13_5 := blk_frozen BK175.out 5
                  go_wp2
                  go_roundg k1
                  case measure => have := HK1.out; omega
                  case rel => exact ⟨(wrap64 (x16_1 + 1)), (by first | rfl | (simp; done) | (simp [*]; done)), H', ⟨by have := HK1.out; omega⟩, ⟨by (with_reducible repeat (first | refine blk_drewN ?_ _ | refine blk_drew ?_ | refine blk_alloc ?_ _)); exact BK175.out⟩, ⟨by repeat (first | (with_reducible first | exact HB.out | apply below_alloc | apply pw_below_drewN | apply below_drew1 | refine below_set ?_ GE175.out) | exact HB.out)⟩⟩
                · replace c12 := Bool.eq_false_iff.mpr c12
                  subst c12
                  have H1 : (some false) = some r := by rw [if_neg (show ¬ (false = true) by decide)] at H; exact H
                  clear H
                  have H := H1
                  clear H1
                  obtain rfl := Option.some.inj H
                  have p10 : 0 ≤ (x16_1 : Int) := of_decide_eq_true (by first | (with_reducible assumption) | assumption)
                  have q10 : x16_1 < (a1.size : Int) := of_decide_eq_true (by first | (with_reducible assumption) | assumption)
                  have hx10 := bt_at a1 x16_1
                  replace p10 := eq_true p10
                  replace q10 := eq_true q10
                  have hcz14_0 : wr.cell? ⟨gb175, 0, none⟩ = some (.string a0_0) := (blk_cell BK175.out 0).trans rfl
                  have hcz14_1 : wr.cell? ⟨gb175, 1, none⟩ = some (.string a0_1) := (blk_cell BK175.out 1).trans rfl
                  have hcz14_2 : wr.cell? ⟨gb175, 2, none⟩ = some (.bool a0_2) := (blk_cell BK175.out 2).trans rfl
                  have hcz14_3 : wr.cell? ⟨gb175, 3, none⟩ = some (.bool false) := (blk_cell BK175.out 3).trans rfl
                  have hcz14_4 : wr.cell? ⟨gb175, 4, none⟩ = some (.bool a0_4) := (blk_cell BK175.out 4).trans rfl
                  have hcz14_5 : wr.cell? ⟨gb175, 5, none⟩ = some (.slice A0_5 l0_5.length c0_5) := (blk_cell BK175.out 5).trans rfl
                  have hfz14_0 := blk_frozen BK175.out 0
                  have hfz14_1 := blk_frozen BK175.out 1
                  have hfz14_2 := blk_frozen BK175.out 2
                  have hfz14_3 := blk_frozen BK175.out 3
                  have hfz14_4 := blk_frozen BK175.out 4
                  have hfz14_5 := blk_frozen BK175.out 5
                  go_wp2
                  go_ret
                  exact ⟨by first | rfl | (simp [errW_none, errW_some] <;> rfl) | (simp [*, errW_none, errW_some] <;> rfl), by repeat (first | (with_reducible first | exact HB.out | apply below_alloc | apply pw_below_drewN | apply below_drew1 | refine below_set ?_ GE175.out) | exact HB.out)⟩
              · rw [if_neg c11] at H
                have c11b0 : ((bt a1 x16_1) == 47) = false := beq_eq_false_iff_ne.mpr c11
                have c11b1 : ((bt a1 x16_1) != 47) = true := bne_iff_ne.mpr c11
                have H' := Aside0.mk H
                clear H
                have p10 : 0 ≤ (x16_1 : Int) := of_decide_eq_true (by first | (with_reducible assumption) | assumption)
                have q10 : x16_1 < (a1.size : Int) := of_decide_eq_true (by first | (with_reducible assumption) | assumption)
                have hx10 := bt_at a1 x16_1
                replace p10 := eq_true p10
                replace q10 := eq_true q10
                go_wp2
                go_roundg k1
                case measure => have := HK1.out; omega
                case rel => exact ⟨(wrap64 (x16_1 + 1)), (by first | rfl | (simp; done) | (simp [*]; done)), H', ⟨by have := HK1.out; omega⟩, ⟨by (with_reducible repeat (first | refine blk_drewN ?_ _ | refine blk_drew ?_ | refine blk_alloc ?_ _)); exact BK175.out⟩, ⟨by repeat (first | (with_reducible first | exact HB.out | apply below_alloc | apply pw_below_drewN | apply below_drew1 | refine below_set ?_ GE175.out) | exact HB.out)⟩⟩
            · rw [if_neg c9] at H
              exact absurd H (by simp)
          · rw [if_neg c8] at H
            exact absurd H (by simp)
        · rw [if_neg c7] at H
          have c7b0 : decide (x16_1 < (a1.size : Int)) = false := decide_eq_false c7
          clear c7
          have H' := Aside0.mk H
          clear H
          have hcz15_0 : wr.cell? ⟨gb175, 0, none⟩ = some (.string a0_0) := (blk_cell BK175.out 0).trans rfl
          have hcz15_1 : wr.cell? ⟨gb175, 1, none⟩ = some (.string a0_1) := (blk_cell BK175.out 1).trans rfl
          have hcz15_2 : wr.cell? ⟨gb175, 2, none⟩ = some (.bool a0_2) := (blk_cell BK175.out 2).trans rfl
          have hcz15_3 : wr.cell? ⟨gb175, 3, none⟩ = some (.bool a0_3) := (blk_cell BK175.out 3).trans rfl
          have hcz15_4 : wr.cell? ⟨gb175, 4, none⟩ = some (.bool a0_4) := (blk_cell BK175.out 4).trans rfl
          have hcz15_5 : wr.cell? ⟨gb175, 5, none⟩ = some (.slice A0_5 l0_5.length c0_5) := (blk_cell BK175.out 5).trans rfl
          have hfz15_0 := blk_frozen BK175.out 0
          have hfz15_1 := blk_frozen BK175.out 1
          have hfz15_2 := blk_frozen BK175.out 2
          have hfz15_3 := blk_frozen BK175.out 3
          have hfz15_4 := blk_frozen BK175.out 4
          have hfz15_5 := blk_frozen BK175.out 5
          go_wp2
          go_loopg [32] k1 (fun kq v32 w' => ∃ (x32_2 : Int), v32 = .int .i64 x32_2 ∧ Aside0 (spec_within.l1 kq a1 l0_5 (l0_5.length : Int) x32_2 = some r) ∧ Aside0 (kq ≤ k1) ∧ Aside0 (w'.heap[gb175]? = some (.cells #[.string a0_0, .string a0_1, .bool a0_2, .bool a0_3, .bool a0_4, (.slice A0_5 l0_5.length c0_5)] 42 (0, 0))) ∧ Aside0 (Below w.heap.size w w'))
          case atStart => exact ⟨(0), (by first | rfl | (simp; done) | (simp [*]; done)), H', ⟨Nat.le_refl _⟩, ⟨by (with_reducible repeat (first | refine blk_drewN ?_ _ | refine blk_drew ?_ | refine blk_alloc ?_ _)); exact BK175.out⟩, ⟨by repeat (first | (with_reducible first | exact HB.out | apply below_alloc | apply pw_below_drewN | apply below_drew1 | refine below_set ?_ GE175.out) | exact HB.out)⟩⟩
          case round =>
            clear H'
            try clear c1
            try clear p1
            try clear q1
            try clear hx1
            try clear c2
            try clear p2
            try clear c3
            try clear c3b0
            try clear c3b1
            try clear p6
            try clear c7
            try clear c7b0
            try clear c8
            try clear c8b0
            try clear c9
            try clear c9b0
            try clear p10
            try clear q10
            try clear hx10
            try clear c11
            try clear c11b0
            try clear c11b1
            try clear c12
            try clear hcz13_0
            try clear hcz13_1
            try clear hcz13_2
            try clear hcz13_3
            try clear hcz13_4
            try clear hcz13_5
            try clear hcz14_0
            try clear hcz14_1
            try clear hcz14_2
            try clear hcz14_3
            try clear hcz14_4
            try clear hcz14_5
            try clear hcz15_0
            try clear hcz15_1
            try clear hcz15_2
            try clear hcz15_3
            try clear hcz15_4
            try clear hcz15_5
            try clear hcz5_0
            try clear hcz5_1
            try clear hcz5_2
            try clear hcz5_3
            try clear hcz5_4
            try clear hcz5_5
            try clear hfz13_0
            try clear hfz13_1
            try clear hfz13_2
            try clear hfz13_3
            try clear hfz13_4
            try clear hfz13_5
            try clear hfz14_0
            try clear hfz14_1
            try clear hfz14_2
            try clear hfz14_3
            try clear hfz14_4
            try clear hfz14_5
            try clear hfz15_0
            try clear hfz15_1
            try clear hfz15_2
            try clear hfz15_3
            try clear hfz15_4
            try clear hfz15_5
            try clear hfz5_0
            try clear hfz5_1
            try clear hfz5_2
            try clear hfz5_3
            try clear hfz5_4
            try clear hfz5_5
            try clear p10
            try clear p2
            try clear q10
            obtain ⟨x32_2, rfl, HA, HK2, BK175, HB⟩ := hrel
            cases gk with
            | zero => exact absurd HA.out (by simp [spec_within.l1])
            | succ k2 =>
              have H := HA.out
              clear HA
              simp only [spec_within.l1] at H
              by_cases c16 : x32_2 < (l0_5.length : Int)
              · rw [if_pos c16] at H
                have c16b0 : decide (x32_2 < (l0_5.length : Int)) = true := decide_eq_true c16
                clear c16
                by_cases c17 : 0 ≤ x32_2
                · rw [if_pos c17] at H
                  have c17b0 : decide (0 ≤ x32_2) = true := decide_eq_true c17
                  clear c17
                  by_cases c18 : x32_2 < (l0_5.length : Int)
                  · rw [if_pos c18] at H
                    have c18b0 : decide (x32_2 < (l0_5.length : Int)) = true := decide_eq_true c18
                    clear c18
                    replace H := Option.bind_eq_some_iff.mp H
                    obtain ⟨⟨t178, t179⟩, A190, H⟩ := H
                    replace H : (if t179 = 1 then (if t178 = true then (spec_within.l1 k2 a1 l0_5 (l0_5.length : Int) (wrap64 (x32_2 + 1))) else (some false)) else (spec_within.l1 k2 a1 l0_5 (l0_5.length : Int) (wrap64 (x32_2 + 1)))) = some r := H
                    have A19 := Aside0.mk A190
                    clear A190
                    by_cases c20 : t179 = 1
                    · rw [if_pos c20] at H
                      have c20b0 : (t179 == 1) = true := beq_iff_eq.mpr c20
                      have c20b1 : (t179 != 1) = false := bne_eq_false_iff_eq.mpr c20
                      clear c20
                      by_cases c21 : t178 = true
                      · subst c21
                        have H1 : (spec_within.l1 k2 a1 l0_5 (l0_5.length : Int) (wrap64 (x32_2 + 1))) = some r := by rw [if_pos rfl] at H; exact H
                        clear H
                        have H := H1
                        clear H1
                        have H' := Aside0.mk H
                        clear H
                        have p176 : 0 ≤ (x32_2 : Int) := of_decide_eq_true (by first | (with_reducible assumption) | assumption)
                        have q176 : x32_2 < (l0_5.length : Int) := of_decide_eq_true (by first | (with_reducible assumption) | assumption)
                        obtain ⟨ad176, A176_1, c176_1, e176, hx176_0, hx176_1, hl176_1, hi176_1⟩ := at_T66 HR0_5.out x32_2 p176 q176
                        cases e176
                        replace hx176_0 := (HB.out.cell (World.block_lt_of_cell? w _ hx176_0)).trans hx176_0
                        replace hx176_1 := (HB.out.cell (World.block_lt_of_cell? w _ hx176_1)).trans hx176_1
                        have HR176_1 := Aside0.mk hi176_1
                        have HC176_1 := Aside0.mk hl176_1
                        clear hi176_1 hl176_1
                        replace p176 := eq_true p176
                        replace q176 := eq_true q176
                        go_wp2_with (first | ((with_reducible refine gate_dst (N := 7) rfl ?_); refine box_event ?hg (N := 7) ?hd (cs := #[.int .i64 0, .slice none 0 0]) (t := 66) ?hr ?_; (case hd => rfl); (case hg => rfl); (case hr => first | (go_simp; done) | (go_simp; rfl)); intro gb177 hg w22 hbox hb; have n0_ := Aside0.mk (blk_below (g := gb175) (o := .cells #[.string a0_0, .string a0_1, .bool a0_2, .bool a0_3, .bool a0_4, .slice (some ad176) l0_5.length c0_5] 42 (0, 0)) (by (with_reducible repeat (first | refine blk_drewN ?_ _ | refine blk_drew ?_ | refine blk_alloc ?_ _)); exact BK175.out) hb); have n1_ := Aside0.mk (below_step (by repeat (first | (with_reducible first | exact HB.out | apply below_alloc | apply pw_below_drewN | apply below_drew1 | refine below_set ?_ GE175.out) | exact HB.out)) hb); have n2_ := Aside0.mk (hbox); have n3_ := Aside0.mk ((by rw [hg]; exact (below_size (by repeat (first | (with_reducible first | exact HB.out | apply below_alloc | apply pw_below_drewN | apply below_drew1 | refine below_set ?_ GE175.out) | exact HB.out))) : w.heap.size ≤ gb177)); have n4_ := Aside0.mk ((by rw [hg]; exact (below_size (by repeat (first | (with_reducible first | exact HB.out | apply below_alloc | apply pw_below_drewN | apply below_drew1 | refine below_set ?_ GE175.out) | exact HB.out))) : w.heap.size ≤ gb177)); have n5_ := Aside0.mk ((by rw [hg]; exact Nat.ne_of_lt (blk_lt (g := gb175) (o := .cells #[.string a0_0, .string a0_1, .bool a0_2, .bool a0_3, .bool a0_4, .slice (some ad176) l0_5.length c0_5] 42 (0, 0)) (by (with_reducible repeat (first | refine blk_drewN ?_ _ | refine blk_drew ?_ | refine blk_alloc ?_ _)); exact BK175.out)) : gb175 ≠ gb177)); have n6_ := Aside0.mk ((by rw [hg]; exact Nat.ne_of_gt (blk_lt (g := gb175) (o := .cells #[.string a0_0, .string a0_1, .bool a0_2, .bool a0_3, .bool a0_4, .slice (some ad176) l0_5.length c0_5] 42 (0, 0)) (by (with_reducible repeat (first | refine blk_drewN ?_ _ | refine blk_drew ?_ | refine blk_alloc ?_ _)); exact BK175.out)) : gb177 ≠ gb175)); clear BK175; clear HB; have BK175 := n0_; have HB := n1_; have BK177 := n2_; have GW177 := n3_; have GE177 := n4_; have NB175_177 := n5_; have NB177_175 := n6_; clear n0_ n1_ n2_ n3_ n4_ n5_ n6_; clear hb hbox hg; have hnb23 := NB177_175.out; have hnc23 := NB175_177.out; have hcz24_0 : w22.cell? ⟨gb177, 0, none⟩ = some (.int .i64 0) := (blk_cell BK177.out 0).trans rfl; have hcz24_1 : w22.cell? ⟨gb177, 1, none⟩ = some (.slice none 0 0) := (blk_cell BK177.out 1).trans rfl; have hfz24_0 := blk_frozen BK177.out 0; have hfz24_1 := blk_frozen BK177.out 1) | ((with_reducible refine gate_callee (f := 33) rfl ?_); refine goesL_ (some 39) rfl rfl Tryz.func33 (by kernel_rfl) rfl #[.agg #[.int .i64 ((rd_T66 l0_5 x32_2).f0), .slice A176_1 ((rd_T66 l0_5 x32_2).f1).length c176_1], .string a1] rfl (by (try simp only [List.map_toArray, List.map_cons, List.map_nil]); first | done | rfl | (simp only [List.length_drop, List.length_take]; rfl)) ?_; (with_reducible refine (spec_Fulfils.calls ((rd_T66 l0_5 x32_2).f0) _ _ ((rd_T66 l0_5 x32_2).f1) a1 true t179 _ ?side1 ?side2 A19.out).mono ?_); (case side1 => exact Kd.C_below HR176_1.out (by repeat (first | (with_reducible first | exact HB.out | apply below_alloc | apply pw_below_drewN | apply below_drew1 | refine below_set ?_ GE175.out | refine below_set ?_ GE177.out) | exact HB.out))); (case side2 => exact HC176_1.out); rintro e w25 ⟨rfl, hb⟩; refine ⟨_, rfl, ?_⟩; have n0_ := Aside0.mk (blk_below (g := gb175) (o := .cells #[.string a0_0, .string a0_1, .bool a0_2, .bool a0_3, .bool a0_4, .slice (some ad176) l0_5.length c0_5] 42 (0, 0)) (by (with_reducible repeat (first | refine blk_drewN ?_ _ | refine blk_drew ?_ | refine blk_alloc ?_ _)); refine blk_far ?_ NB175_177.out _; (with_reducible repeat (first | refine blk_drewN ?_ _ | refine blk_drew ?_ | refine blk_alloc ?_ _)); refine blk_far ?_ NB175_177.out _; (with_reducible repeat (first | refine blk_drewN ?_ _ | refine blk_drew ?_ | refine blk_alloc ?_ _)); exact BK175.out) hb); have n1_ := Aside0.mk (blk_below (g := gb177) (o := .cells #[.int .i64 ((rd_T66 l0_5 x32_2).f0), .slice A176_1 ((rd_T66 l0_5 x32_2).f1).length c176_1] 66 (0, 0)) (by (with_reducible repeat (first | refine blk_drewN ?_ _ | refine blk_drew ?_ | refine blk_alloc ?_ _)); refine blk_put (cs := #[.int .i64 ((rd_T66 l0_5 x32_2).f0), .slice none 0 0]) ?_ 1 _ rfl; (with_reducible repeat (first | refine blk_drewN ?_ _ | refine blk_drew ?_ | refine blk_alloc ?_ _)); refine blk_put (cs := #[.int .i64 0, .slice none 0 0]) ?_ 0 _ rfl; (with_reducible repeat (first | refine blk_drewN ?_ _ | refine blk_drew ?_ | refine blk_alloc ?_ _)); exact BK177.out) hb); have n2_ := Aside0.mk (below_step (by repeat (first | (with_reducible first | exact HB.out | apply below_alloc | apply pw_below_drewN | apply below_drew1 | refine below_set ?_ GE175.out | refine below_set ?_ GE177.out) | exact HB.out)) hb); clear BK175; clear BK177; clear HB; have BK175 := n0_; have BK177 := n1_; have HB := n2_; clear n0_ n1_ n2_; (try clear hb); (try clear hb2); (try clear hk); (try clear hi)))
                        go_roundg k2
                        case measure => have := HK1.out; have := HK2.out; omega
                        case rel => exact ⟨(wrap64 (x32_2 + 1)), (by first | rfl | (simp; done) | (simp [*]; done)), H', ⟨by have := HK1.out; have := HK2.out; omega⟩, ⟨by (with_reducible repeat (first | refine blk_drewN ?_ _ | refine blk_drew ?_ | refine blk_alloc ?_ _)); exact BK175.out⟩, ⟨by repeat (first | (with_reducible first | exact HB.out | apply below_alloc | apply pw_below_drewN | apply below_drew1 | refine below_set ?_ GE175.out | refine below_set ?_ GE177.out) | exact HB.out)⟩⟩
                      · replace c21 := Bool.eq_false_iff.mpr c21
                        subst c21
                        have H1 : (some false) = some r := by rw [if_neg (show ¬ (false = true) by decide)] at H; exact H
                        clear H
                        have H := H1
                        clear H1
                        obtain rfl := Option.some.inj H
                        have p176 : 0 ≤ (x32_2 : Int) := of_decide_eq_true (by first | (with_reducible assumption) | assumption)
                        have q176 : x32_2 < (l0_5.length : Int) := of_decide_eq_true (by first | (with_reducible assumption) | assumption)
                        obtain ⟨ad176, A176_1, c176_1, e176, hx176_0, hx176_1, hl176_1, hi176_1⟩ := at_T66 HR0_5.out x32_2 p176 q176
                        cases e176
                        replace hx176_0 := (HB.out.cell (World.block_lt_of_cell? w _ hx176_0)).trans hx176_0
                        replace hx176_1 := (HB.out.cell (World.block_lt_of_cell? w _ hx176_1)).trans hx176_1
                        have HR176_1 := Aside0.mk hi176_1
                        have HC176_1 := Aside0.mk hl176_1
                        clear hi176_1 hl176_1
                        replace p176 := eq_true p176
                        replace q176 := eq_true q176
                        go_wp2_with (first | ((with_reducible refine gate_dst (N := 7) rfl ?_); refine box_event ?hg (N := 7) ?hd (cs := #[.int .i64 0, .slice none 0 0]) (t := 66) ?hr ?_; (case hd => rfl); (case hg => rfl); (case hr => first | (go_simp; done) | (go_simp; rfl)); intro gb177 hg w26 hbox hb; have n0_ := Aside0.mk (blk_below (g := gb175) (o := .cells #[.string a0_0, .string a0_1, .bool a0_2, .bool a0_3, .bool a0_4, .slice (some ad176) l0_5.length c0_5] 42 (0, 0)) (by (with_reducible repeat (first | refine blk_drewN ?_ _ | refine blk_drew ?_ | refine blk_alloc ?_ _)); exact BK175.out) hb); have n1_ := Aside0.mk (below_step (by repeat (first | (with_reducible first | exact HB.out | apply below_alloc | apply pw_below_drewN | apply below_drew1 | refine below_set ?_ GE175.out) | exact HB.out)) hb); have n2_ := Aside0.mk (hbox); have n3_ := Aside0.mk ((by rw [hg]; exact (below_size (by repeat (first | (with_reducible first | exact HB.out | apply below_alloc | apply pw_below_drewN | apply below_drew1 | refine below_set ?_ GE175.out) | exact HB.out))) : w.heap.size ≤ gb177)); have n4_ := Aside0.mk ((by rw [hg]; exact (below_size (by repeat (first | (with_reducible first | exact HB.out | apply below_alloc | apply pw_below_drewN | apply below_drew1 | refine below_set ?_ GE175.out) | exact HB.out))) : w.heap.size ≤ gb177)); have n5_ := Aside0.mk ((by rw [hg]; exact Nat.ne_of_lt (blk_lt (g := gb175) (o := .cells #[.string a0_0, .string a0_1, .bool a0_2, .bool a0_3, .bool a0_4, .slice (some ad176) l0_5.length c0_5] 42 (0, 0)) (by (with_reducible repeat (first | refine blk_drewN ?_ _ | refine blk_drew ?_ | refine blk_alloc ?_ _)); exact BK175.out)) : gb175 ≠ gb177)); have n6_ := Aside0.mk ((by rw [hg]; exact Nat.ne_of_gt (blk_lt (g := gb175) (o := .cells #[.string a0_0, .string a0_1, .bool a0_2, .bool a0_3, .bool a0_4, .slice (some ad176) l0_5.length c0_5] 42 (0, 0)) (by (with_reducible repeat (first | refine blk_drewN ?_ _ | refine blk_drew ?_ | refine blk_alloc ?_ _)); exact BK175.out)) : gb177 ≠ gb175)); clear BK175; clear HB; have BK175 := n0_; have HB := n1_; have BK177 := n2_; have GW177 := n3_; have GE177 := n4_; have NB175_177 := n5_; have NB177_175 := n6_; clear n0_ n1_ n2_ n3_ n4_ n5_ n6_; clear hb hbox hg; have hnb27 := NB177_175.out; have hnc27 := NB175_177.out; have hcz28_0 : w26.cell? ⟨gb177, 0, none⟩ = some (.int .i64 0) := (blk_cell BK177.out 0).trans rfl; have hcz28_1 : w26.cell? ⟨gb177, 1, none⟩ = some (.slice none 0 0) := (blk_cell BK177.out 1).trans rfl; have hfz28_0 := blk_frozen BK177.out 0; have hfz28_1 := blk_frozen BK177.out 1) | ((with_reducible refine gate_callee (f := 33) rfl ?_); refine goesL_ (some 39) rfl rfl Tryz.func33 (by kernel_rfl) rfl #[.agg #[.int .i64 ((rd_T66 l0_5 x32_2).f0), .slice A176_1 ((rd_T66 l0_5 x32_2).f1).length c176_1], .string a1] rfl (by (try simp only [List.map_toArray, List.map_cons, List.map_nil]); first | done | rfl | (simp only [List.length_drop, List.length_take]; rfl)) ?_; (with_reducible refine (spec_Fulfils.calls ((rd_T66 l0_5 x32_2).f0) _ _ ((rd_T66 l0_5 x32_2).f1) a1 false t179 _ ?side1 ?side2 A19.out).mono ?_); (case side1 => exact Kd.C_below HR176_1.out (by repeat (first | (with_reducible first | exact HB.out | apply below_alloc | apply pw_below_drewN | apply below_drew1 | refine below_set ?_ GE175.out | refine below_set ?_ GE177.out) | exact HB.out))); (case side2 => exact HC176_1.out); rintro e w29 ⟨rfl, hb⟩; refine ⟨_, rfl, ?_⟩; have n0_ := Aside0.mk (blk_below (g := gb175) (o := .cells #[.string a0_0, .string a0_1, .bool a0_2, .bool a0_3, .bool a0_4, .slice (some ad176) l0_5.length c0_5] 42 (0, 0)) (by (with_reducible repeat (first | refine blk_drewN ?_ _ | refine blk_drew ?_ | refine blk_alloc ?_ _)); refine blk_far ?_ NB175_177.out _; (with_reducible repeat (first | refine blk_drewN ?_ _ | refine blk_drew ?_ | refine blk_alloc ?_ _)); refine blk_far ?_ NB175_177.out _; (with_reducible repeat (first | refine blk_drewN ?_ _ | refine blk_drew ?_ | refine blk_alloc ?_ _)); exact BK175.out) hb); have n1_ := Aside0.mk (blk_below (g := gb177) (o := .cells #[.int .i64 ((rd_T66 l0_5 x32_2).f0), .slice A176_1 ((rd_T66 l0_5 x32_2).f1).length c176_1] 66 (0, 0)) (by (with_reducible repeat (first | refine blk_drewN ?_ _ | refine blk_drew ?_ | refine blk_alloc ?_ _)); refine blk_put (cs := #[.int .i64 ((rd_T66 l0_5 x32_2).f0), .slice none 0 0]) ?_ 1 _ rfl; (with_reducible repeat (first | refine blk_drewN ?_ _ | refine blk_drew ?_ | refine blk_alloc ?_ _)); refine blk_put (cs := #[.int .i64 0, .slice none 0 0]) ?_ 0 _ rfl; (with_reducible repeat (first | refine blk_drewN ?_ _ | refine blk_drew ?_ | refine blk_alloc ?_ _)); exact BK177.out) hb); have n2_ := Aside0.mk (below_step (by repeat (first | (with_reducible first | exact HB.out | apply below_alloc | apply pw_below_drewN | apply below_drew1 | refine below_set ?_ GE175.out | refine below_set ?_ GE177.out) | exact HB.out)) hb); clear BK175; clear BK177; clear HB; have BK175 := n0_; have BK177 := n1_; have HB := n2_; clear n0_ n1_ n2_; (try clear hb); (try clear hb2); (try clear hk); (try clear hi)))
                        go_ret
                        exact ⟨by first | rfl | (simp [errW_none, errW_some] <;> rfl) | (simp [*, errW_none, errW_some] <;> rfl), by repeat (first | (with_reducible first | exact HB.out | apply below_alloc | apply pw_below_drewN | apply below_drew1 | refine below_set ?_ GE175.out | refine below_set ?_ GE177.out) | exact HB.out)⟩
                    · rw [if_neg c20] at H
                      have c20b0 : (t179 == 1) = false := beq_eq_false_iff_ne.mpr c20
                      have c20b1 : (t179 != 1) = true := bne_iff_ne.mpr c20
                      have H' := Aside0.mk H
                      clear H
                      have p176 : 0 ≤ (x32_2 : Int) := of_decide_eq_true (by first | (with_reducible assumption) | assumption)
                      have q176 : x32_2 < (l0_5.length : Int) := of_decide_eq_true (by first | (with_reducible assumption) | assumption)
                      obtain ⟨ad176, A176_1, c176_1, e176, hx176_0, hx176_1, hl176_1, hi176_1⟩ := at_T66 HR0_5.out x32_2 p176 q176
                      cases e176
                      replace hx176_0 := (HB.out.cell (World.block_lt_of_cell? w _ hx176_0)).trans hx176_0
                      replace hx176_1 := (HB.out.cell (World.block_lt_of_cell? w _ hx176_1)).trans hx176_1
                      have HR176_1 := Aside0.mk hi176_1
                      have HC176_1 := Aside0.mk hl176_1
                      clear hi176_1 hl176_1
                      replace p176 := eq_true p176
                      replace q176 := eq_true q176
                      go_wp2_with (first | ((with_reducible refine gate_dst (N := 7) rfl ?_); refine box_event ?hg (N := 7) ?hd (cs := #[.int .i64 0, .slice none 0 0]) (t := 66) ?hr ?_; (case hd => rfl); (case hg => rfl); (case hr => first | (go_simp; done) | (go_simp; rfl)); intro gb177 hg w30 hbox hb; have n0_ := Aside0.mk (blk_below (g := gb175) (o := .cells #[.string a0_0, .string a0_1, .bool a0_2, .bool a0_3, .bool a0_4, .slice (some ad176) l0_5.length c0_5] 42 (0, 0)) (by (with_reducible repeat (first | refine blk_drewN ?_ _ | refine blk_drew ?_ | refine blk_alloc ?_ _)); exact BK175.out) hb); have n1_ := Aside0.mk (below_step (by repeat (first | (with_reducible first | exact HB.out | apply below_alloc | apply pw_below_drewN | apply below_drew1 | refine below_set ?_ GE175.out) | exact HB.out)) hb); have n2_ := Aside0.mk (hbox); have n3_ := Aside0.mk ((by rw [hg]; exact (below_size (by repeat (first | (with_reducible first | exact HB.out | apply below_alloc | apply pw_below_drewN | apply below_drew1 | refine below_set ?_ GE175.out) | exact HB.out))) : w.heap.size ≤ gb177)); have n4_ := Aside0.mk ((by rw [hg]; exact (below_size (by repeat (first | (with_reducible first | exact HB.out | apply below_alloc | apply pw_below_drewN | apply below_drew1 | refine below_set ?_ GE175.out) | exact HB.out))) : w.heap.size ≤ gb177)); have n5_ := Aside0.mk ((by rw [hg]; exact Nat.ne_of_lt (blk_lt (g := gb175) (o := .cells #[.string a0_0, .string a0_1, .bool a0_2, .bool a0_3, .bool a0_4, .slice (some ad176) l0_5.length c0_5] 42 (0, 0)) (by (with_reducible repeat (first | refine blk_drewN ?_ _ | refine blk_drew ?_ | refine blk_alloc ?_ _)); exact BK175.out)) : gb175 ≠ gb177)); have n6_ := Aside0.mk ((by rw [hg]; exact Nat.ne_of_gt (blk_lt (g := gb175) (o := .cells #[.string a0_0, .string a0_1, .bool a0_2, .bool a0_3, .bool a0_4, .slice (some ad176) l0_5.length c0_5] 42 (0, 0)) (by (with_reducible repeat (first | refine blk_drewN ?_ _ | refine blk_drew ?_ | refine blk_alloc ?_ _)); exact BK175.out)) : gb177 ≠ gb175)); clear BK175; clear HB; have BK175 := n0_; have HB := n1_; have BK177 := n2_; have GW177 := n3_; have GE177 := n4_; have NB175_177 := n5_; have NB177_175 := n6_; clear n0_ n1_ n2_ n3_ n4_ n5_ n6_; clear hb hbox hg; have hnb31 := NB177_175.out; have hnc31 := NB175_177.out; have hcz32_0 : w30.cell? ⟨gb177, 0, none⟩ = some (.int .i64 0) := (blk_cell BK177.out 0).trans rfl; have hcz32_1 : w30.cell? ⟨gb177, 1, none⟩ = some (.slice none 0 0) := (blk_cell BK177.out 1).trans rfl; have hfz32_0 := blk_frozen BK177.out 0; have hfz32_1 := blk_frozen BK177.out 1) | ((with_reducible refine gate_callee (f := 33) rfl ?_); refine goesL_ (some 39) rfl rfl Tryz.func33 (by kernel_rfl) rfl #[.agg #[.int .i64 ((rd_T66 l0_5 x32_2).f0), .slice A176_1 ((rd_T66 l0_5 x32_2).f1).length c176_1], .string a1] rfl (by (try simp only [List.map_toArray, List.map_cons, List.map_nil]); first | done | rfl | (simp only [List.length_drop, List.length_take]; rfl)) ?_; (with_reducible refine (spec_Fulfils.calls ((rd_T66 l0_5 x32_2).f0) _ _ ((rd_T66 l0_5 x32_2).f1) a1 t178 t179 _ ?side1 ?side2 A19.out).mono ?_); (case side1 => exact Kd.C_below HR176_1.out (by repeat (first | (with_reducible first | exact HB.out | apply below_alloc | apply pw_below_drewN | apply below_drew1 | refine below_set ?_ GE175.out | refine below_set ?_ GE177.out) | exact HB.out))); (case side2 => exact HC176_1.out); rintro e w33 ⟨rfl, hb⟩; refine ⟨_, rfl, ?_⟩; have n0_ := Aside0.mk (blk_below (g := gb175) (o := .cells #[.string a0_0, .string a0_1, .bool a0_2, .bool a0_3, .bool a0_4, .slice (some ad176) l0_5.length c0_5] 42 (0, 0)) (by (with_reducible repeat (first | refine blk_drewN ?_ _ | refine blk_drew ?_ | refine blk_alloc ?_ _)); refine blk_far ?_ NB175_177.out _; (with_reducible repeat (first | refine blk_drewN ?_ _ | refine blk_drew ?_ | refine blk_alloc ?_ _)); refine blk_far ?_ NB175_177.out _; (with_reducible repeat (first | refine blk_drewN ?_ _ | refine blk_drew ?_ | refine blk_alloc ?_ _)); exact BK175.out) hb); have n1_ := Aside0.mk (blk_below (g := gb177) (o := .cells #[.int .i64 ((rd_T66 l0_5 x32_2).f0), .slice A176_1 ((rd_T66 l0_5 x32_2).f1).length c176_1] 66 (0, 0)) (by (with_reducible repeat (first | refine blk_drewN ?_ _ | refine blk_drew ?_ | refine blk_alloc ?_ _)); refine blk_put (cs := #[.int .i64 ((rd_T66 l0_5 x32_2).f0), .slice none 0 0]) ?_ 1 _ rfl; (with_reducible repeat (first | refine blk_drewN ?_ _ | refine blk_drew ?_ | refine blk_alloc ?_ _)); refine blk_put (cs := #[.int .i64 0, .slice none 0 0]) ?_ 0 _ rfl; (with_reducible repeat (first | refine blk_drewN ?_ _ | refine blk_drew ?_ | refine blk_alloc ?_ _)); exact BK177.out) hb); have n2_ := Aside0.mk (below_step (by repeat (first | (with_reducible first | exact HB.out | apply below_alloc | apply pw_below_drewN | apply below_drew1 | refine below_set ?_ GE175.out | refine below_set ?_ GE177.out) | exact HB.out)) hb); clear BK175; clear BK177; clear HB; have BK175 := n0_; have BK177 := n1_; have HB := n2_; clear n0_ n1_ n2_; (try clear hb); (try clear hb2); (try clear hk); (try clear hi)))
                      go_roundg k2
                      case measure => have := HK1.out; have := HK2.out; omega
                      case rel => exact ⟨(wrap64 (x32_2 + 1)), (by first | rfl | (simp; done) | (simp [*]; done)), H', ⟨by have := HK1.out; have := HK2.out; omega⟩, ⟨by (with_reducible repeat (first | refine blk_drewN ?_ _ | refine blk_drew ?_ | refine blk_alloc ?_ _)); exact BK175.out⟩, ⟨by repeat (first | (with_reducible first | exact HB.out | apply below_alloc | apply pw_below_drewN | apply below_drew1 | refine below_set ?_ GE175.out | refine below_set ?_ GE177.out) | exact HB.out)⟩⟩
                  · rw [if_neg c18] at H
                    exact absurd H (by simp)
                · rw [if_neg c17] at H
                  exact absurd H (by simp)
              · rw [if_neg c16] at H
                have c16b0 : decide (x32_2 < (l0_5.length : Int)) = false := decide_eq_false c16
                clear c16
                obtain rfl := Option.some.inj H
                go_wp2
                go_ret
                exact ⟨by first | rfl | (simp [errW_none, errW_some] <;> rfl) | (simp [*, errW_none, errW_some] <;> rfl), by repeat (first | (with_reducible first | exact HB.out | apply below_alloc | apply pw_below_drewN | apply below_drew1 | refine below_set ?_ GE175.out) | exact HB.out)⟩

/-! ### spec_mayEnd: function 26 -/
def spec_mayEnd.f (l0 : List (S42)) (a1 : Int) : Option (Bool) := if 0 ≤ a1 then (if a1 < (l0.length : Int) then (if ((rd_T42 l0 a1).f2 = true) then (some false) else (if (((rd_T42 l0 a1).f0).size : Int) > 0 then (if 0 ≤ (wrap64 ((((rd_T42 l0 a1).f0).size : Int) - 1)) then (if (wrap64 ((((rd_T42 l0 a1).f0).size : Int) - 1)) < (((rd_T42 l0 a1).f0).size : Int) then (if (bt ((rd_T42 l0 a1).f0) (wrap64 ((((rd_T42 l0 a1).f0).size : Int) - 1))) = 47 then (if a1 = (wrap64 ((l0.length : Int) - 1)) then (some true) else (if 0 ≤ (wrap64 (a1 + 1)) then (if (wrap64 (a1 + 1)) < (l0.length : Int) then (some ((rd_T42 l0 (wrap64 (a1 + 1))).f4)) else (none)) else (none))) else (some false)) else (none)) else (none)) else (some false))) else (none)) else (none)
set_option maxHeartbeats 8000000 in
set_option maxRecDepth 100000 in
theorem spec_mayEnd.calls (A0 : Option Addr) (c0 : Nat) (l0 : List (S42)) (a1 : Int) (r : Bool) (w : World) (hr0 : Kd.C k42 w A0 l0.length l0) (hc0 : l0.length ≤ c0) (h : spec_mayEnd.f l0 a1 = some r) :
    Calls Tryz.prog 26 #[.slice A0 l0.length c0, .int .i64 a1] w fun e w' => e = .returned (.bool r) ∧ Drawn0 w w' := by
  have HR0 := Aside0.mk hr0
  have HC0 := Aside0.mk hc0
  clear hr0 hc0
  have H : (if 0 ≤ a1 then (if a1 < (l0.length : Int) then (if ((rd_T42 l0 a1).f2 = true) then (some false) else (if (((rd_T42 l0 a1).f0).size : Int) > 0 then (if 0 ≤ (wrap64 ((((rd_T42 l0 a1).f0).size : Int) - 1)) then (if (wrap64 ((((rd_T42 l0 a1).f0).size : Int) - 1)) < (((rd_T42 l0 a1).f0).size : Int) then (if (bt ((rd_T42 l0 a1).f0) (wrap64 ((((rd_T42 l0 a1).f0).size : Int) - 1))) = 47 then (if a1 = (wrap64 ((l0.length : Int) - 1)) then (some true) else (if 0 ≤ (wrap64 (a1 + 1)) then (if (wrap64 (a1 + 1)) < (l0.length : Int) then (some ((rd_T42 l0 (wrap64 (a1 + 1))).f4)) else (none)) else (none))) else (some false)) else (none)) else (none)) else (some false))) else (none)) else (none)) = some r := h
  clear h
  by_cases c3 : 0 ≤ a1
  · rw [if_pos c3] at H
    have c3b0 : decide (0 ≤ a1) = true := decide_eq_true c3
    clear c3
    by_cases c4 : a1 < (l0.length : Int)
    · rw [if_pos c4] at H
      have c4b0 : decide (a1 < (l0.length : Int)) = true := decide_eq_true c4
      clear c4
      obtain ⟨bq5, hbq5⟩ : ∃ b_ : Bool, b_ = ((rd_T42 l0 a1).f2) := ⟨_, rfl⟩
      replace H : (if (bq5 = true) then (some false) else (if (((rd_T42 l0 a1).f0).size : Int) > 0 then (if 0 ≤ (wrap64 ((((rd_T42 l0 a1).f0).size : Int) - 1)) then (if (wrap64 ((((rd_T42 l0 a1).f0).size : Int) - 1)) < (((rd_T42 l0 a1).f0).size : Int) then (if (bt ((rd_T42 l0 a1).f0) (wrap64 ((((rd_T42 l0 a1).f0).size : Int) - 1))) = 47 then (if a1 = (wrap64 ((l0.length : Int) - 1)) then (some true) else (if 0 ≤ (wrap64 (a1 + 1)) then (if (wrap64 (a1 + 1)) < (l0.length : Int) then (some ((rd_T42 l0 (wrap64 (a1 + 1))).f4)) else (none)) else (none))) else (some false)) else (none)) else (none)) else (some false))) = some r := by rw [← hbq5] at H; exact H
      have Nbq5 := Aside0.mk hbq5
      clear hbq5
      by_cases c6 : (bq5 = true)
      · subst c6
        have H1 : (some false) = some r := by rw [if_pos rfl] at H; exact H
        clear H
        have H := H1
        clear H1
        obtain rfl := Option.some.inj H
        have p180 : 0 ≤ (a1 : Int) := of_decide_eq_true (by first | (with_reducible assumption) | assumption)
        have q180 : a1 < (l0.length : Int) := of_decide_eq_true (by first | (with_reducible assumption) | assumption)
        obtain ⟨ad180, A180_5, c180_5, e180, hx180_0, hx180_1, hx180_2, hx180_3, hx180_4, hx180_5, hl180_5, hi180_5⟩ := at_T42 HR0.out a1 p180 q180
        (try rw [← Nbq5.out] at hx180_2)
        (try rw [← Nbq5.out] at hx180_3)
        (try rw [← Nbq5.out] at hx180_4)
        cases e180
        have HR180_5 := Aside0.mk hi180_5
        have HC180_5 := Aside0.mk hl180_5
        clear hi180_5 hl180_5
        replace p180 := eq_true p180
        replace q180 := eq_true q180
        have p181 : 0 ≤ (a1 : Int) := of_decide_eq_true (by first | (with_reducible assumption) | assumption)
        have q181 : a1 < (l0.length : Int) := of_decide_eq_true (by first | (with_reducible assumption) | assumption)
        obtain ⟨ad181, A181_5, c181_5, e181, hx181_0, hx181_1, hx181_2, hx181_3, hx181_4, hx181_5, hl181_5, hi181_5⟩ := at_T42 HR0.out a1 p181 q181
        (try rw [← Nbq5.out] at hx181_2)
        (try rw [← Nbq5.out] at hx181_3)
        (try rw [← Nbq5.out] at hx181_4)
        obtain rfl : ad180 = ad181 := (by injection e181)
        have HR181_5 := Aside0.mk hi181_5
        have HC181_5 := Aside0.mk hl181_5
        clear hi181_5 hl181_5
        replace p181 := eq_true p181
        replace q181 := eq_true q181
        have ea_ := Option.some.inj (hx180_5.symm.trans hx181_5)
        injection ea_ with ea_ en_ ec_
        subst ea_
        subst ec_
        clear en_
        go_enter Tryz.func26, Tryz.ntmps26
        go_wp2
        go_ret
        exact ⟨by first | rfl | (simp; done) | (simp [*]; done), by repeat (first | exact Drawn0.refl _ | apply Drawn0.step)⟩
      · replace c6 := Bool.eq_false_iff.mpr c6
        subst c6
        have H1 : (if (((rd_T42 l0 a1).f0).size : Int) > 0 then (if 0 ≤ (wrap64 ((((rd_T42 l0 a1).f0).size : Int) - 1)) then (if (wrap64 ((((rd_T42 l0 a1).f0).size : Int) - 1)) < (((rd_T42 l0 a1).f0).size : Int) then (if (bt ((rd_T42 l0 a1).f0) (wrap64 ((((rd_T42 l0 a1).f0).size : Int) - 1))) = 47 then (if a1 = (wrap64 ((l0.length : Int) - 1)) then (some true) else (if 0 ≤ (wrap64 (a1 + 1)) then (if (wrap64 (a1 + 1)) < (l0.length : Int) then (some ((rd_T42 l0 (wrap64 (a1 + 1))).f4)) else (none)) else (none))) else (some false)) else (none)) else (none)) else (some false)) = some r := by rw [if_neg (show ¬ (false = true) by decide)] at H; exact H
        clear H
        have H := H1
        clear H1
        by_cases c7 : (((rd_T42 l0 a1).f0).size : Int) > 0
        · rw [if_pos c7] at H
          have c7b0 : decide (0 < (((rd_T42 l0 a1).f0).size : Int)) = true := decide_eq_true c7
          have c7b1 : decide (0 < ((rd_T42 l0 a1).f0).size) = true := decide_eq_true (by omega)
          clear c7
          obtain ⟨ji8, hji8⟩ : ∃ j_ : Int, (wrap64 ((((rd_T42 l0 a1).f0).size : Int) - 1)) = j_ := ⟨_, rfl⟩
          replace H : (if 0 ≤ (ji8) then (if (ji8) < (((rd_T42 l0 a1).f0).size : Int) then (if (bt ((rd_T42 l0 a1).f0) (ji8)) = 47 then (if a1 = (wrap64 ((l0.length : Int) - 1)) then (some true) else (if 0 ≤ (wrap64 (a1 + 1)) then (if (wrap64 (a1 + 1)) < (l0.length : Int) then (some ((rd_T42 l0 (wrap64 (a1 + 1))).f4)) else (none)) else (none))) else (some false)) else (none)) else (none)) = some r := by first | (rw [hji8] at H; exact H) | (simp only [hji8] at H ⊢; exact H)
          have hji8w : (IntKind.i64.wrap ((((rd_T42 l0 a1).f0).size : Int) - 1)) = ji8 := (i64_w _).trans hji8
          by_cases c9 : 0 ≤ (ji8)
          · rw [if_pos c9] at H
            have c9b0 : decide (0 ≤ (ji8)) = true := decide_eq_true c9
            clear c9
            by_cases c10 : (ji8) < (((rd_T42 l0 a1).f0).size : Int)
            · rw [if_pos c10] at H
              have c10b0 : decide ((ji8) < (((rd_T42 l0 a1).f0).size : Int)) = true := decide_eq_true c10
              clear c10
              by_cases c12 : (bt ((rd_T42 l0 a1).f0) (ji8)) = 47
              · rw [if_pos c12] at H
                have c12b0 : ((bt ((rd_T42 l0 a1).f0) (ji8)) == 47) = true := beq_iff_eq.mpr c12
                have c12b1 : ((bt ((rd_T42 l0 a1).f0) (ji8)) != 47) = false := bne_eq_false_iff_eq.mpr c12
                clear c12
                by_cases c13 : a1 = (wrap64 ((l0.length : Int) - 1))
                · rw [if_pos c13] at H
                  have c13b0 : (a1 == (wrap64 ((l0.length : Int) - 1))) = true := beq_iff_eq.mpr c13
                  have c13b1 : (a1 != (wrap64 ((l0.length : Int) - 1))) = false := bne_eq_false_iff_eq.mpr c13
                  clear c13
                  obtain rfl := Option.some.inj H
                  have p180 : 0 ≤ (a1 : Int) := of_decide_eq_true (by first | (with_reducible assumption) | assumption)
                  have q180 : a1 < (l0.length : Int) := of_decide_eq_true (by first | (with_reducible assumption) | assumption)
                  obtain ⟨ad180, A180_5, c180_5, e180, hx180_0, hx180_1, hx180_2, hx180_3, hx180_4, hx180_5, hl180_5, hi180_5⟩ := at_T42 HR0.out a1 p180 q180
                  (try rw [← Nbq5.out] at hx180_2)
                  (try rw [← Nbq5.out] at hx180_3)
                  (try rw [← Nbq5.out] at hx180_4)
                  cases e180
                  have HR180_5 := Aside0.mk hi180_5
                  have HC180_5 := Aside0.mk hl180_5
                  clear hi180_5 hl180_5
                  replace p180 := eq_true p180
                  replace q180 := eq_true q180
                  have p181 : 0 ≤ (a1 : Int) := of_decide_eq_true (by first | (with_reducible assumption) | assumption)
                  have q181 : a1 < (l0.length : Int) := of_decide_eq_true (by first | (with_reducible assumption) | assumption)
                  obtain ⟨ad181, A181_5, c181_5, e181, hx181_0, hx181_1, hx181_2, hx181_3, hx181_4, hx181_5, hl181_5, hi181_5⟩ := at_T42 HR0.out a1 p181 q181
                  (try rw [← Nbq5.out] at hx181_2)
                  (try rw [← Nbq5.out] at hx181_3)
                  (try rw [← Nbq5.out] at hx181_4)
                  obtain rfl : ad180 = ad181 := (by injection e181)
                  have HR181_5 := Aside0.mk hi181_5
                  have HC181_5 := Aside0.mk hl181_5
                  clear hi181_5 hl181_5
                  replace p181 := eq_true p181
                  replace q181 := eq_true q181
                  have ea_ := Option.some.inj (hx180_5.symm.trans hx181_5)
                  injection ea_ with ea_ en_ ec_
                  subst ea_
                  subst ec_
                  clear en_
                  have p11 : 0 ≤ ((ji8) : Int) := of_decide_eq_true (by first | (with_reducible assumption) | assumption)
                  have q11 : (ji8) < (((rd_T42 l0 a1).f0).size : Int) := of_decide_eq_true (by first | (with_reducible assumption) | assumption)
                  have hx11 := bt_at ((rd_T42 l0 a1).f0) (ji8)
                  replace p11 := eq_true p11
                  replace q11 := eq_true q11
                  go_enter Tryz.func26, Tryz.ntmps26
                  go_wp2
                  go_ret
                  exact ⟨by first | rfl | (simp; done) | (simp only [← hji8] <;> (first | rfl | simp)) | (simp [*]; done), by repeat (first | exact Drawn0.refl _ | apply Drawn0.step)⟩
                · rw [if_neg c13] at H
                  have c13b0 : (a1 == (wrap64 ((l0.length : Int) - 1))) = false := beq_eq_false_iff_ne.mpr c13
                  have c13b1 : (a1 != (wrap64 ((l0.length : Int) - 1))) = true := bne_iff_ne.mpr c13
                  obtain ⟨ji14, hji14⟩ : ∃ j_ : Int, (wrap64 (a1 + 1)) = j_ := ⟨_, rfl⟩
                  replace H : (if 0 ≤ (ji14) then (if (ji14) < (l0.length : Int) then (some ((rd_T42 l0 (ji14)).f4)) else (none)) else (none)) = some r := by first | (rw [hji14] at H; exact H) | (simp only [hji14] at H ⊢; exact H)
                  have hji14w : (IntKind.i64.wrap (a1 + 1)) = ji14 := (i64_w _).trans hji14
                  by_cases c15 : 0 ≤ (ji14)
                  · rw [if_pos c15] at H
                    have c15b0 : decide (0 ≤ (ji14)) = true := decide_eq_true c15
                    clear c15
                    by_cases c16 : (ji14) < (l0.length : Int)
                    · rw [if_pos c16] at H
                      have c16b0 : decide ((ji14) < (l0.length : Int)) = true := decide_eq_true c16
                      clear c16
                      obtain rfl := Option.some.inj H
                      have p180 : 0 ≤ (a1 : Int) := of_decide_eq_true (by first | (with_reducible assumption) | assumption)
                      have q180 : a1 < (l0.length : Int) := of_decide_eq_true (by first | (with_reducible assumption) | assumption)
                      obtain ⟨ad180, A180_5, c180_5, e180, hx180_0, hx180_1, hx180_2, hx180_3, hx180_4, hx180_5, hl180_5, hi180_5⟩ := at_T42 HR0.out a1 p180 q180
                      (try rw [← Nbq5.out] at hx180_2)
                      (try rw [← Nbq5.out] at hx180_3)
                      (try rw [← Nbq5.out] at hx180_4)
                      cases e180
                      have HR180_5 := Aside0.mk hi180_5
                      have HC180_5 := Aside0.mk hl180_5
                      clear hi180_5 hl180_5
                      replace p180 := eq_true p180
                      replace q180 := eq_true q180
                      have p181 : 0 ≤ (a1 : Int) := of_decide_eq_true (by first | (with_reducible assumption) | assumption)
                      have q181 : a1 < (l0.length : Int) := of_decide_eq_true (by first | (with_reducible assumption) | assumption)
                      obtain ⟨ad181, A181_5, c181_5, e181, hx181_0, hx181_1, hx181_2, hx181_3, hx181_4, hx181_5, hl181_5, hi181_5⟩ := at_T42 HR0.out a1 p181 q181
                      (try rw [← Nbq5.out] at hx181_2)
                      (try rw [← Nbq5.out] at hx181_3)
                      (try rw [← Nbq5.out] at hx181_4)
                      obtain rfl : ad180 = ad181 := (by injection e181)
                      have HR181_5 := Aside0.mk hi181_5
                      have HC181_5 := Aside0.mk hl181_5
                      clear hi181_5 hl181_5
                      replace p181 := eq_true p181
                      replace q181 := eq_true q181
                      have ea_ := Option.some.inj (hx180_5.symm.trans hx181_5)
                      injection ea_ with ea_ en_ ec_
                      subst ea_
                      subst ec_
                      clear en_
                      have p11 : 0 ≤ ((ji8) : Int) := of_decide_eq_true (by first | (with_reducible assumption) | assumption)
                      have q11 : (ji8) < (((rd_T42 l0 a1).f0).size : Int) := of_decide_eq_true (by first | (with_reducible assumption) | assumption)
                      have hx11 := bt_at ((rd_T42 l0 a1).f0) (ji8)
                      replace p11 := eq_true p11
                      replace q11 := eq_true q11
                      have p182 : 0 ≤ ((ji14) : Int) := of_decide_eq_true (by first | (with_reducible assumption) | assumption)
                      have q182 : (ji14) < (l0.length : Int) := of_decide_eq_true (by first | (with_reducible assumption) | assumption)
                      obtain ⟨ad182, A182_5, c182_5, e182, hx182_0, hx182_1, hx182_2, hx182_3, hx182_4, hx182_5, hl182_5, hi182_5⟩ := at_T42 HR0.out (ji14) p182 q182
                      (try rw [← Nbq5.out] at hx182_2)
                      (try rw [← Nbq5.out] at hx182_3)
                      (try rw [← Nbq5.out] at hx182_4)
                      obtain rfl : ad180 = ad182 := (by injection e182)
                      have HR182_5 := Aside0.mk hi182_5
                      have HC182_5 := Aside0.mk hl182_5
                      clear hi182_5 hl182_5
                      replace p182 := eq_true p182
                      replace q182 := eq_true q182
                      go_enter Tryz.func26, Tryz.ntmps26
                      go_wp2
                      go_ret
                      exact ⟨by first | rfl | (simp; done) | (simp only [← hji8, ← hji14] <;> (first | rfl | simp)) | (simp [*]; done), by repeat (first | exact Drawn0.refl _ | apply Drawn0.step)⟩
                    · rw [if_neg c16] at H
                      exact absurd H (by simp)
                  · rw [if_neg c15] at H
                    exact absurd H (by simp)
              · rw [if_neg c12] at H
                have c12b0 : ((bt ((rd_T42 l0 a1).f0) (ji8)) == 47) = false := beq_eq_false_iff_ne.mpr c12
                have c12b1 : ((bt ((rd_T42 l0 a1).f0) (ji8)) != 47) = true := bne_iff_ne.mpr c12
                obtain rfl := Option.some.inj H
                have p180 : 0 ≤ (a1 : Int) := of_decide_eq_true (by first | (with_reducible assumption) | assumption)
                have q180 : a1 < (l0.length : Int) := of_decide_eq_true (by first | (with_reducible assumption) | assumption)
                obtain ⟨ad180, A180_5, c180_5, e180, hx180_0, hx180_1, hx180_2, hx180_3, hx180_4, hx180_5, hl180_5, hi180_5⟩ := at_T42 HR0.out a1 p180 q180
                (try rw [← Nbq5.out] at hx180_2)
                (try rw [← Nbq5.out] at hx180_3)
                (try rw [← Nbq5.out] at hx180_4)
                cases e180
                have HR180_5 := Aside0.mk hi180_5
                have HC180_5 := Aside0.mk hl180_5
                clear hi180_5 hl180_5
                replace p180 := eq_true p180
                replace q180 := eq_true q180
                have p181 : 0 ≤ (a1 : Int) := of_decide_eq_true (by first | (with_reducible assumption) | assumption)
                have q181 : a1 < (l0.length : Int) := of_decide_eq_true (by first | (with_reducible assumption) | assumption)
                obtain ⟨ad181, A181_5, c181_5, e181, hx181_0, hx181_1, hx181_2, hx181_3, hx181_4, hx181_5, hl181_5, hi181_5⟩ := at_T42 HR0.out a1 p181 q181
                (try rw [← Nbq5.out] at hx181_2)
                (try rw [← Nbq5.out] at hx181_3)
                (try rw [← Nbq5.out] at hx181_4)
                obtain rfl : ad180 = ad181 := (by injection e181)
                have HR181_5 := Aside0.mk hi181_5
                have HC181_5 := Aside0.mk hl181_5
                clear hi181_5 hl181_5
                replace p181 := eq_true p181
                replace q181 := eq_true q181
                have ea_ := Option.some.inj (hx180_5.symm.trans hx181_5)
                injection ea_ with ea_ en_ ec_
                subst ea_
                subst ec_
                clear en_
                have p11 : 0 ≤ ((ji8) : Int) := of_decide_eq_true (by first | (with_reducible assumption) | assumption)
                have q11 : (ji8) < (((rd_T42 l0 a1).f0).size : Int) := of_decide_eq_true (by first | (with_reducible assumption) | assumption)
                have hx11 := bt_at ((rd_T42 l0 a1).f0) (ji8)
                replace p11 := eq_true p11
                replace q11 := eq_true q11
                go_enter Tryz.func26, Tryz.ntmps26
                go_wp2
                go_ret
                exact ⟨by first | rfl | (simp; done) | (simp only [← hji8] <;> (first | rfl | simp)) | (simp [*]; done), by repeat (first | exact Drawn0.refl _ | apply Drawn0.step)⟩
            · rw [if_neg c10] at H
              exact absurd H (by simp)
          · rw [if_neg c9] at H
            exact absurd H (by simp)
        · rw [if_neg c7] at H
          have c7b0 : decide (0 < (((rd_T42 l0 a1).f0).size : Int)) = false := decide_eq_false c7
          have c7b1 : decide (0 < ((rd_T42 l0 a1).f0).size) = false := decide_eq_false (by omega)
          clear c7
          obtain rfl := Option.some.inj H
          have p180 : 0 ≤ (a1 : Int) := of_decide_eq_true (by first | (with_reducible assumption) | assumption)
          have q180 : a1 < (l0.length : Int) := of_decide_eq_true (by first | (with_reducible assumption) | assumption)
          obtain ⟨ad180, A180_5, c180_5, e180, hx180_0, hx180_1, hx180_2, hx180_3, hx180_4, hx180_5, hl180_5, hi180_5⟩ := at_T42 HR0.out a1 p180 q180
          (try rw [← Nbq5.out] at hx180_2)
          (try rw [← Nbq5.out] at hx180_3)
          (try rw [← Nbq5.out] at hx180_4)
          cases e180
          have HR180_5 := Aside0.mk hi180_5
          have HC180_5 := Aside0.mk hl180_5
          clear hi180_5 hl180_5
          replace p180 := eq_true p180
          replace q180 := eq_true q180
          have p181 : 0 ≤ (a1 : Int) := of_decide_eq_true (by first | (with_reducible assumption) | assumption)
          have q181 : a1 < (l0.length : Int) := of_decide_eq_true (by first | (with_reducible assumption) | assumption)
          obtain ⟨ad181, A181_5, c181_5, e181, hx181_0, hx181_1, hx181_2, hx181_3, hx181_4, hx181_5, hl181_5, hi181_5⟩ := at_T42 HR0.out a1 p181 q181
          (try rw [← Nbq5.out] at hx181_2)
          (try rw [← Nbq5.out] at hx181_3)
          (try rw [← Nbq5.out] at hx181_4)
          obtain rfl : ad180 = ad181 := (by injection e181)
          have HR181_5 := Aside0.mk hi181_5
          have HC181_5 := Aside0.mk hl181_5
          clear hi181_5 hl181_5
          replace p181 := eq_true p181
          replace q181 := eq_true q181
          have ea_ := Option.some.inj (hx180_5.symm.trans hx181_5)
          injection ea_ with ea_ en_ ec_
          subst ea_
          subst ec_
          clear en_
          go_enter Tryz.func26, Tryz.ntmps26
          go_wp2
          go_ret
          exact ⟨by first | rfl | (simp; done) | (simp [*]; done), by repeat (first | exact Drawn0.refl _ | apply Drawn0.step)⟩
    · rw [if_neg c4] at H
      exact absurd H (by simp)
  · rw [if_neg c3] at H
    exact absurd H (by simp)

end Go.Proofs.YtfahabnjplnbmaaGreatDoor.Q
