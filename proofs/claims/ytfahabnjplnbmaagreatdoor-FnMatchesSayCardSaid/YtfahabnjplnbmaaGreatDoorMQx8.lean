-- Laid by a program of this session's own, after the kit's print (two functions given by hand). Lean checks it.
import Derived.Test.YtfahabnjplnbmaaGreatDoorMQx0
import Derived.Test.YtfahabnjplnbmaaGreatDoorMQx7
namespace Go.Proofs.YtfahabnjplnbmaaGreatDoor.Q
open Go.RowKit Go.Proofs.YtfahabnjplnbmaaGreatDoorW.PrintWords Go.Proofs.YtfahabnjplnbmaaGreatDoorW.PrintLast Go.Proofs.YtfahabnjplnbmaaGreatDoorW.PrintMore
attribute [local go_sem] max2_int min2_int max_two min_two max_three min_three max_four min_four   -- for this text's walks alone
set_option linter.unusedVariables false
set_option linter.unusedSimpArgs false

/-! ### spec_Plain: function 24 -/
mutual
def spec_Plain.l0 : Nat → List (S42) → List (S42) → Int → Int → Option (Bool)
  | 0, _, _, _, _ => none
  | k + 1, x0, x5, x6, x7 => if x7 < x6 then (if 0 ≤ x7 then (if x7 < (x5.length : Int) then (if ((rd_T42 x5 x7).f2 = true) then (spec_Plain.j1 k x0 x7 x5 x6 x7 (x7 == (wrap64 ((x0.length : Int) - 1))) ((rd_T42 x5 x7).f0) ((rd_T42 x5 x7).f1) ((rd_T42 x5 x7).f2) ((rd_T42 x5 x7).f3) ((rd_T42 x5 x7).f4) ((rd_T42 x5 x7).f5)) else (spec_Plain.j1 k x0 x7 x5 x6 x7 true ((rd_T42 x5 x7).f0) ((rd_T42 x5 x7).f1) ((rd_T42 x5 x7).f2) ((rd_T42 x5 x7).f3) ((rd_T42 x5 x7).f4) ((rd_T42 x5 x7).f5))) else (none)) else (none)) else (some true)
def spec_Plain.j1 : Nat → List (S42) → Int → List (S42) → Int → Int → Bool → ByteArray → ByteArray → Bool → Bool → Bool → List (S66) → Option (Bool)
  | 0, _, _, _, _, _, _, _, _, _, _, _, _ => none
  | k + 1, x0, x3, x5, x6, x7, x21, x193000, x193001, x193002, x193003, x193004, x193005 => if x21 = true then (spec_Plain.l0 k x0 x5 x6 (wrap64 (x7 + 1))) else (if x193003 = true then (some false) else (if x193004 = true then (some false) else (if 0 ≤ (wrap64 (x3 + 1)) then (if (wrap64 (x3 + 1)) < (x0.length : Int) then (if (rd_T42 x0 (wrap64 (x3 + 1))).f2 = true then (some false) else (if 0 < (((rd_T42 x0 (wrap64 (x3 + 1))).f0).size : Int) then (if (bt ((rd_T42 x0 (wrap64 (x3 + 1))).f0) 0) = 47 then (spec_Plain.l0 k x0 x5 x6 (wrap64 (x7 + 1))) else (some false)) else (none))) else (none)) else (none))))
end
def spec_Plain.f (k : Nat) (l0 : List (S42)) : Option (Bool) := spec_Plain.l0 k l0 l0 (l0.length : Int) 0
theorem spec_Plain.mono_l : ∀ k, (∀ y0 y1 y2 y3, LeO (spec_Plain.l0 k y0 y1 y2 y3) (spec_Plain.l0 (k + 1) y0 y1 y2 y3)) ∧ (∀ y0 y1 y2 y3 y4 y5 y6 y7 y8 y9 y10 y11, LeO (spec_Plain.j1 k y0 y1 y2 y3 y4 y5 y6 y7 y8 y9 y10 y11) (spec_Plain.j1 (k + 1) y0 y1 y2 y3 y4 y5 y6 y7 y8 y9 y10 y11))
  | 0 => ⟨fun _ _ _ _ r h => by simp [spec_Plain.l0] at h, fun _ _ _ _ _ _ _ _ _ _ _ _ r h => by simp [spec_Plain.j1] at h⟩
  | k + 1 => by
    obtain ⟨ih0, ih1⟩ := spec_Plain.mono_l k
    refine ⟨?_, ?_⟩
    · intro y0 y1 y2 y3
      unfold spec_Plain.l0
      repeat' first
      | (with_reducible exact ih0 _ _ _ _)
      | (with_reducible exact ih1 _ _ _ _ _ _ _ _ _ _ _ _)
      | (with_reducible exact LeO.refl _)
      | (with_reducible exact LeO.none _)
      | (with_reducible refine LeO.ite ?_ ?_)
      | (with_reducible refine LeO.bind ?_ (fun _ => ?_))
      | exact ih0 _ _ _ _
      | exact ih1 _ _ _ _ _ _ _ _ _ _ _ _
      | exact LeO.none _
      | refine LeO.ite ?_ ?_
      | refine LeO.bind ?_ (fun _ => ?_)
    · intro y0 y1 y2 y3 y4 y5 y6 y7 y8 y9 y10 y11
      unfold spec_Plain.j1
      repeat' first
      | (with_reducible exact ih0 _ _ _ _)
      | (with_reducible exact ih1 _ _ _ _ _ _ _ _ _ _ _ _)
      | (with_reducible exact LeO.refl _)
      | (with_reducible exact LeO.none _)
      | (with_reducible refine LeO.ite ?_ ?_)
      | (with_reducible refine LeO.bind ?_ (fun _ => ?_))
      | exact ih0 _ _ _ _
      | exact ih1 _ _ _ _ _ _ _ _ _ _ _ _
      | exact LeO.none _
      | refine LeO.ite ?_ ?_
      | refine LeO.bind ?_ (fun _ => ?_)
theorem spec_Plain.mono : ∀ a0 k, LeO (spec_Plain.f k a0) (spec_Plain.f (k + 1) a0) := by
  intro a0 k
  obtain ⟨ih0, ih1⟩ := spec_Plain.mono_l k
  unfold spec_Plain.f
  repeat' first
      | (with_reducible exact ih0 _ _ _ _)
      | (with_reducible exact ih1 _ _ _ _ _ _ _ _ _ _ _ _)
      | (with_reducible exact LeO.refl _)
      | (with_reducible exact LeO.none _)
      | (with_reducible refine LeO.ite ?_ ?_)
      | (with_reducible refine LeO.bind ?_ (fun _ => ?_))
      | exact ih0 _ _ _ _
      | exact ih1 _ _ _ _ _ _ _ _ _ _ _ _
      | exact LeO.none _
      | refine LeO.ite ?_ ?_
      | refine LeO.bind ?_ (fun _ => ?_)
set_option maxHeartbeats 8000000 in
set_option maxRecDepth 100000 in
theorem spec_Plain.calls (k : Nat) (A0 : Option Addr) (c0 : Nat) (l0 : List (S42)) (r : Bool) (w : World) (hr0 : Kd.C k42 w A0 l0.length l0) (hc0 : l0.length ≤ c0) (h : spec_Plain.f k l0 = some r) :
    Calls Tryz.prog 24 #[.slice A0 l0.length c0] w fun e w' => e = .returned (.bool r) ∧ Below w.heap.size w w' := by
  have hu42 := Tryz.underlying42
  have HR0 := Aside0.mk hr0
  have HC0 := Aside0.mk hc0
  clear hr0 hc0
  have HB := Aside0.mk (Below.refl w.heap.size w)
  have H : (spec_Plain.l0 k l0 l0 (l0.length : Int) 0) = some r := h
  clear h
  have H' := Aside0.mk H
  clear H
  go_enter Tryz.func24, Tryz.ntmps24
  go_wp2
  go_loopg [7] k (fun kq v7 w' => ∃ (x7_1 : Int), v7 = .int .i64 x7_1 ∧ Aside0 (spec_Plain.l0 kq l0 l0 (l0.length : Int) x7_1 = some r) ∧ Aside0 (kq ≤ k) ∧ Aside0 (Below w.heap.size w w'))
  case atStart => exact ⟨(0), (by first | rfl | (simp; done) | (simp [*]; done)), H', ⟨Nat.le_refl _⟩, ⟨by repeat (first | (with_reducible first | exact HB.out | apply below_alloc | apply pw_below_drewN | apply below_drew1) | exact HB.out)⟩⟩
  case round =>
    clear H'
    obtain ⟨x7_1, rfl, HA, HK1, HB⟩ := hrel
    cases gk with
    | zero => exact absurd HA.out (by simp [spec_Plain.l0])
    | succ k1 =>
      have H := HA.out
      clear HA
      simp only [spec_Plain.l0] at H
      by_cases c2 : x7_1 < (l0.length : Int)
      · rw [if_pos c2] at H
        have c2b0 : decide (x7_1 < (l0.length : Int)) = true := decide_eq_true c2
        clear c2
        by_cases c3 : 0 ≤ x7_1
        · rw [if_pos c3] at H
          have c3b0 : decide (0 ≤ x7_1) = true := decide_eq_true c3
          clear c3
          by_cases c4 : x7_1 < (l0.length : Int)
          · rw [if_pos c4] at H
            have c4b0 : decide (x7_1 < (l0.length : Int)) = true := decide_eq_true c4
            clear c4
            have HC5 := Aside0.mk H
            clear H
            have p191 : 0 ≤ (x7_1 : Int) := of_decide_eq_true (by first | (with_reducible assumption) | assumption)
            have q191 : x7_1 < (l0.length : Int) := of_decide_eq_true (by first | (with_reducible assumption) | assumption)
            obtain ⟨ad191, A191_5, c191_5, e191, hx191_0, hx191_1, hx191_2, hx191_3, hx191_4, hx191_5, hl191_5, hi191_5⟩ := at_T42 HR0.out x7_1 p191 q191
            cases e191
            replace hx191_0 := (HB.out.cell (World.block_lt_of_cell? w _ hx191_0)).trans hx191_0
            replace hx191_1 := (HB.out.cell (World.block_lt_of_cell? w _ hx191_1)).trans hx191_1
            replace hx191_2 := (HB.out.cell (World.block_lt_of_cell? w _ hx191_2)).trans hx191_2
            replace hx191_3 := (HB.out.cell (World.block_lt_of_cell? w _ hx191_3)).trans hx191_3
            replace hx191_4 := (HB.out.cell (World.block_lt_of_cell? w _ hx191_4)).trans hx191_4
            replace hx191_5 := (HB.out.cell (World.block_lt_of_cell? w _ hx191_5)).trans hx191_5
            have HR191_5 := Aside0.mk hi191_5
            have HC191_5 := Aside0.mk hl191_5
            clear hi191_5 hl191_5
            replace p191 := eq_true p191
            replace q191 := eq_true q191
            go_upto_region 4 with (first | ((with_reducible refine gate_dst (N := 4) rfl ?_); (try (refine gate_guard (by rfl) ?_; dsimp only)); refine box_event ?hg (N := 4) ?hd (cs := #[.string (⟨#[]⟩ : ByteArray), .string (⟨#[]⟩ : ByteArray), .bool false, .bool false, .bool false, .slice none 0 0]) (t := 42) ?hr ?_; (case hd => rfl); (case hg => rfl); (case hr => first | (go_simp; done) | (go_simp; rfl)); intro gb192 hg w6 hbox hb; have n0_ := Aside0.mk (below_step (by repeat (first | (with_reducible first | exact HB.out | apply below_alloc | apply pw_below_drewN | apply below_drew1) | exact HB.out)) hb); have n1_ := Aside0.mk (hbox); have n2_ := Aside0.mk ((by rw [hg]; exact (below_size (by repeat (first | (with_reducible first | exact HB.out | apply below_alloc | apply pw_below_drewN | apply below_drew1) | exact HB.out))) : w.heap.size ≤ gb192)); have n3_ := Aside0.mk ((by rw [hg]; exact (below_size (by repeat (first | (with_reducible first | exact HB.out | apply below_alloc | apply pw_below_drewN | apply below_drew1) | exact HB.out))) : w.heap.size ≤ gb192)); clear HB; have HB := n0_; have BK192 := n1_; have GW192 := n2_; have GE192 := n3_; clear n0_ n1_ n2_ n3_; clear hb hbox hg; have hcz7_0 : w6.cell? ⟨gb192, 0, none⟩ = some (.string (⟨#[]⟩ : ByteArray)) := (blk_cell BK192.out 0).trans rfl; have hcz7_1 : w6.cell? ⟨gb192, 1, none⟩ = some (.string (⟨#[]⟩ : ByteArray)) := (blk_cell BK192.out 1).trans rfl; have hcz7_2 : w6.cell? ⟨gb192, 2, none⟩ = some (.bool false) := (blk_cell BK192.out 2).trans rfl; have hcz7_3 : w6.cell? ⟨gb192, 3, none⟩ = some (.bool false) := (blk_cell BK192.out 3).trans rfl; have hcz7_4 : w6.cell? ⟨gb192, 4, none⟩ = some (.bool false) := (blk_cell BK192.out 4).trans rfl; have hcz7_5 : w6.cell? ⟨gb192, 5, none⟩ = some (.slice none 0 0) := (blk_cell BK192.out 5).trans rfl; have hfz7_0 := blk_frozen BK192.out 0; have hfz7_1 := blk_frozen BK192.out 1; have hfz7_2 := blk_frozen BK192.out 2; have hfz7_3 := blk_frozen BK192.out 3; have hfz7_4 := blk_frozen BK192.out 4; have hfz7_5 := blk_frozen BK192.out 5))
            (try simp only [Act.put, List.setIfInBounds_toArray, List.set_cons_zero, List.set_cons_succ])
            go_cut [21] (fun v21 wc => ∃ (kq : Nat) (x21_4 : Bool), v21 = .bool x21_4 ∧ Aside0 (spec_Plain.j1 kq l0 x7_1 l0 (l0.length : Int) x7_1 x21_4 ((rd_T42 l0 x7_1).f0) ((rd_T42 l0 x7_1).f1) ((rd_T42 l0 x7_1).f2) ((rd_T42 l0 x7_1).f3) ((rd_T42 l0 x7_1).f4) ((rd_T42 l0 x7_1).f5) = some r) ∧ Aside0 (kq ≤ k1) ∧ Aside0 (wc.heap[gb192]? = some (.cells #[.string ((rd_T42 l0 x7_1).f0), .string ((rd_T42 l0 x7_1).f1), .bool ((rd_T42 l0 x7_1).f2), .bool ((rd_T42 l0 x7_1).f3), .bool ((rd_T42 l0 x7_1).f4), (.slice A191_5 ((rd_T42 l0 x7_1).f5).length c191_5)] 42 (0, 0))) ∧ Aside0 (Below w.heap.size w wc))
            case first =>
              have H := HC5.out
              clear HC5
              obtain ⟨bq8, hbq8⟩ : ∃ b_ : Bool, b_ = ((rd_T42 l0 x7_1).f2) := ⟨_, rfl⟩
              replace H : (if (bq8 = true) then (spec_Plain.j1 k1 l0 x7_1 l0 (l0.length : Int) x7_1 (x7_1 == (wrap64 ((l0.length : Int) - 1))) ((rd_T42 l0 x7_1).f0) ((rd_T42 l0 x7_1).f1) bq8 ((rd_T42 l0 x7_1).f3) ((rd_T42 l0 x7_1).f4) ((rd_T42 l0 x7_1).f5)) else (spec_Plain.j1 k1 l0 x7_1 l0 (l0.length : Int) x7_1 true ((rd_T42 l0 x7_1).f0) ((rd_T42 l0 x7_1).f1) bq8 ((rd_T42 l0 x7_1).f3) ((rd_T42 l0 x7_1).f4) ((rd_T42 l0 x7_1).f5))) = some r := by rw [← hbq8] at H; exact H
              have Nbq8 := Aside0.mk hbq8
              clear hbq8
              (try rw [← Nbq8.out])
              by_cases c9 : (bq8 = true)
              · subst c9
                have H1 : (spec_Plain.j1 k1 l0 x7_1 l0 (l0.length : Int) x7_1 (x7_1 == (wrap64 ((l0.length : Int) - 1))) ((rd_T42 l0 x7_1).f0) ((rd_T42 l0 x7_1).f1) true ((rd_T42 l0 x7_1).f3) ((rd_T42 l0 x7_1).f4) ((rd_T42 l0 x7_1).f5)) = some r := by rw [if_pos rfl] at H; exact H
                clear H
                have H := H1
                clear H1
                have H' := Aside0.mk H
                clear H
                have hcz10_0 : w6.cell? ⟨gb192, 0, none⟩ = some (.string (⟨#[]⟩ : ByteArray)) := (blk_cell BK192.out 0).trans rfl
                have hcz10_1 : w6.cell? ⟨gb192, 1, none⟩ = some (.string (⟨#[]⟩ : ByteArray)) := (blk_cell BK192.out 1).trans rfl
                have hcz10_2 : w6.cell? ⟨gb192, 2, none⟩ = some (.bool false) := (blk_cell BK192.out 2).trans rfl
                have hcz10_3 : w6.cell? ⟨gb192, 3, none⟩ = some (.bool false) := (blk_cell BK192.out 3).trans rfl
                have hcz10_4 : w6.cell? ⟨gb192, 4, none⟩ = some (.bool false) := (blk_cell BK192.out 4).trans rfl
                have hcz10_5 : w6.cell? ⟨gb192, 5, none⟩ = some (.slice none 0 0) := (blk_cell BK192.out 5).trans rfl
                have hfz10_0 := blk_frozen BK192.out 0
                have hfz10_1 := blk_frozen BK192.out 1
                have hfz10_2 := blk_frozen BK192.out 2
                have hfz10_3 := blk_frozen BK192.out 3
                have hfz10_4 := blk_frozen BK192.out 4
                have hfz10_5 := blk_frozen BK192.out 5
                go_wp2
                go_meet
                case rel => rw [← Nbq8.out]; exact ⟨_, ((x7_1 == (wrap64 ((l0.length : Int) - 1)))), (by first | rfl | (simp; done) | (simp [*]; done)), H', ⟨by have := HK1.out; first | omega | exact Nat.le_refl _⟩, ⟨by (with_reducible repeat (first | refine blk_drewN ?_ _ | refine blk_drew ?_ | refine blk_alloc ?_ _)); refine blk_put (cs := #[.string ((rd_T42 l0 x7_1).f0), .string ((rd_T42 l0 x7_1).f1), .bool (true), .bool ((rd_T42 l0 x7_1).f3), .bool ((rd_T42 l0 x7_1).f4), .slice none 0 0]) ?_ 5 _ rfl; (with_reducible repeat (first | refine blk_drewN ?_ _ | refine blk_drew ?_ | refine blk_alloc ?_ _)); refine blk_put (cs := #[.string ((rd_T42 l0 x7_1).f0), .string ((rd_T42 l0 x7_1).f1), .bool (true), .bool ((rd_T42 l0 x7_1).f3), .bool false, .slice none 0 0]) ?_ 4 _ rfl; (with_reducible repeat (first | refine blk_drewN ?_ _ | refine blk_drew ?_ | refine blk_alloc ?_ _)); refine blk_put (cs := #[.string ((rd_T42 l0 x7_1).f0), .string ((rd_T42 l0 x7_1).f1), .bool (true), .bool false, .bool false, .slice none 0 0]) ?_ 3 _ rfl; (with_reducible repeat (first | refine blk_drewN ?_ _ | refine blk_drew ?_ | refine blk_alloc ?_ _)); refine blk_put (cs := #[.string ((rd_T42 l0 x7_1).f0), .string ((rd_T42 l0 x7_1).f1), .bool false, .bool false, .bool false, .slice none 0 0]) ?_ 2 _ rfl; (with_reducible repeat (first | refine blk_drewN ?_ _ | refine blk_drew ?_ | refine blk_alloc ?_ _)); refine blk_put (cs := #[.string ((rd_T42 l0 x7_1).f0), .string (⟨#[]⟩ : ByteArray), .bool false, .bool false, .bool false, .slice none 0 0]) ?_ 1 _ rfl; (with_reducible repeat (first | refine blk_drewN ?_ _ | refine blk_drew ?_ | refine blk_alloc ?_ _)); refine blk_put (cs := #[.string (⟨#[]⟩ : ByteArray), .string (⟨#[]⟩ : ByteArray), .bool false, .bool false, .bool false, .slice none 0 0]) ?_ 0 _ rfl; (with_reducible repeat (first | refine blk_drewN ?_ _ | refine blk_drew ?_ | refine blk_alloc ?_ _)); exact BK192.out⟩, ⟨by repeat (first | (with_reducible first | exact HB.out | apply below_alloc | apply pw_below_drewN | apply below_drew1 | refine below_set ?_ GE192.out) | exact HB.out)⟩⟩
              · replace c9 := Bool.eq_false_iff.mpr c9
                subst c9
                have H1 : (spec_Plain.j1 k1 l0 x7_1 l0 (l0.length : Int) x7_1 true ((rd_T42 l0 x7_1).f0) ((rd_T42 l0 x7_1).f1) false ((rd_T42 l0 x7_1).f3) ((rd_T42 l0 x7_1).f4) ((rd_T42 l0 x7_1).f5)) = some r := by rw [if_neg (show ¬ (false = true) by decide)] at H; exact H
                clear H
                have H := H1
                clear H1
                have H' := Aside0.mk H
                clear H
                have hcz11_0 : w6.cell? ⟨gb192, 0, none⟩ = some (.string (⟨#[]⟩ : ByteArray)) := (blk_cell BK192.out 0).trans rfl
                have hcz11_1 : w6.cell? ⟨gb192, 1, none⟩ = some (.string (⟨#[]⟩ : ByteArray)) := (blk_cell BK192.out 1).trans rfl
                have hcz11_2 : w6.cell? ⟨gb192, 2, none⟩ = some (.bool false) := (blk_cell BK192.out 2).trans rfl
                have hcz11_3 : w6.cell? ⟨gb192, 3, none⟩ = some (.bool false) := (blk_cell BK192.out 3).trans rfl
                have hcz11_4 : w6.cell? ⟨gb192, 4, none⟩ = some (.bool false) := (blk_cell BK192.out 4).trans rfl
                have hcz11_5 : w6.cell? ⟨gb192, 5, none⟩ = some (.slice none 0 0) := (blk_cell BK192.out 5).trans rfl
                have hfz11_0 := blk_frozen BK192.out 0
                have hfz11_1 := blk_frozen BK192.out 1
                have hfz11_2 := blk_frozen BK192.out 2
                have hfz11_3 := blk_frozen BK192.out 3
                have hfz11_4 := blk_frozen BK192.out 4
                have hfz11_5 := blk_frozen BK192.out 5
                go_wp2
                go_meet
                case rel => rw [← Nbq8.out]; exact ⟨_, (true), (by first | rfl | (simp; done) | (simp [*]; done)), H', ⟨by have := HK1.out; first | omega | exact Nat.le_refl _⟩, ⟨by (with_reducible repeat (first | refine blk_drewN ?_ _ | refine blk_drew ?_ | refine blk_alloc ?_ _)); refine blk_put (cs := #[.string ((rd_T42 l0 x7_1).f0), .string ((rd_T42 l0 x7_1).f1), .bool (false), .bool ((rd_T42 l0 x7_1).f3), .bool ((rd_T42 l0 x7_1).f4), .slice none 0 0]) ?_ 5 _ rfl; (with_reducible repeat (first | refine blk_drewN ?_ _ | refine blk_drew ?_ | refine blk_alloc ?_ _)); refine blk_put (cs := #[.string ((rd_T42 l0 x7_1).f0), .string ((rd_T42 l0 x7_1).f1), .bool (false), .bool ((rd_T42 l0 x7_1).f3), .bool false, .slice none 0 0]) ?_ 4 _ rfl; (with_reducible repeat (first | refine blk_drewN ?_ _ | refine blk_drew ?_ | refine blk_alloc ?_ _)); refine blk_put (cs := #[.string ((rd_T42 l0 x7_1).f0), .string ((rd_T42 l0 x7_1).f1), .bool (false), .bool false, .bool false, .slice none 0 0]) ?_ 3 _ rfl; (with_reducible repeat (first | refine blk_drewN ?_ _ | refine blk_drew ?_ | refine blk_alloc ?_ _)); refine blk_put (cs := #[.string ((rd_T42 l0 x7_1).f0), .string ((rd_T42 l0 x7_1).f1), .bool false, .bool false, .bool false, .slice none 0 0]) ?_ 2 _ rfl; (with_reducible repeat (first | refine blk_drewN ?_ _ | refine blk_drew ?_ | refine blk_alloc ?_ _)); refine blk_put (cs := #[.string ((rd_T42 l0 x7_1).f0), .string (⟨#[]⟩ : ByteArray), .bool false, .bool false, .bool false, .slice none 0 0]) ?_ 1 _ rfl; (with_reducible repeat (first | refine blk_drewN ?_ _ | refine blk_drew ?_ | refine blk_alloc ?_ _)); refine blk_put (cs := #[.string (⟨#[]⟩ : ByteArray), .string (⟨#[]⟩ : ByteArray), .bool false, .bool false, .bool false, .slice none 0 0]) ?_ 0 _ rfl; (with_reducible repeat (first | refine blk_drewN ?_ _ | refine blk_drew ?_ | refine blk_alloc ?_ _)); exact BK192.out⟩, ⟨by repeat (first | (with_reducible first | exact HB.out | apply below_alloc | apply pw_below_drewN | apply below_drew1 | refine below_set ?_ GE192.out) | exact HB.out)⟩⟩
            case rest =>
              clear HC5
              try clear c1
              try clear p1
              try clear q1
              try clear hx1
              try clear c2
              try clear c2b0
              try clear p2
              try clear c3
              try clear c3b0
              try clear c4
              try clear c4b0
              try clear p6
              try clear q8
              try clear c9
              try clear hcz10_0
              try clear hcz10_1
              try clear hcz10_2
              try clear hcz10_3
              try clear hcz10_4
              try clear hcz10_5
              try clear hcz11_0
              try clear hcz11_1
              try clear hcz11_2
              try clear hcz11_3
              try clear hcz11_4
              try clear hcz11_5
              try clear hcz7_0
              try clear hcz7_1
              try clear hcz7_2
              try clear hcz7_3
              try clear hcz7_4
              try clear hcz7_5
              try clear hfz10_0
              try clear hfz10_1
              try clear hfz10_2
              try clear hfz10_3
              try clear hfz10_4
              try clear hfz10_5
              try clear hfz11_0
              try clear hfz11_1
              try clear hfz11_2
              try clear hfz11_3
              try clear hfz11_4
              try clear hfz11_5
              try clear hfz7_0
              try clear hfz7_1
              try clear hfz7_2
              try clear hfz7_3
              try clear hfz7_4
              try clear hfz7_5
              try clear hx191_0
              try clear hx191_1
              try clear hx191_2
              try clear hx191_3
              try clear hx191_4
              try clear hx191_5
              try clear p191
              try clear q191
              obtain ⟨kq, x21_4, rfl, HA, HJ4, BK192, HB⟩ := hcut
              cases kq with
              | zero => exact absurd HA.out (by simp [spec_Plain.j1])
              | succ kj4 =>
                have H := HA.out
                clear HA
                simp only [spec_Plain.j1] at H
                by_cases c12 : x21_4 = true
                · subst c12
                  have H1 : (spec_Plain.l0 kj4 l0 l0 (l0.length : Int) (wrap64 (x7_1 + 1))) = some r := by rw [if_pos rfl] at H; exact H
                  clear H
                  have H := H1
                  clear H1
                  have H' := Aside0.mk H
                  clear H
                  go_wp2
                  go_roundg kj4
                  case measure => have := HK1.out; have := HJ4.out; omega
                  case rel => exact ⟨(wrap64 (x7_1 + 1)), (by first | rfl | (simp; done) | (simp [*]; done)), H', ⟨by have := HK1.out; have := HJ4.out; omega⟩, ⟨by repeat (first | (with_reducible first | exact HB.out | apply below_alloc | apply pw_below_drewN | apply below_drew1 | refine below_set ?_ GE192.out) | exact HB.out)⟩⟩
                · replace c12 := Bool.eq_false_iff.mpr c12
                  subst c12
                  have H1 : (if ((rd_T42 l0 x7_1).f3) = true then (some false) else (if ((rd_T42 l0 x7_1).f4) = true then (some false) else (if 0 ≤ (wrap64 (x7_1 + 1)) then (if (wrap64 (x7_1 + 1)) < (l0.length : Int) then (if (rd_T42 l0 (wrap64 (x7_1 + 1))).f2 = true then (some false) else (if 0 < (((rd_T42 l0 (wrap64 (x7_1 + 1))).f0).size : Int) then (if (bt ((rd_T42 l0 (wrap64 (x7_1 + 1))).f0) 0) = 47 then (spec_Plain.l0 kj4 l0 l0 (l0.length : Int) (wrap64 (x7_1 + 1))) else (some false)) else (none))) else (none)) else (none)))) = some r := by rw [if_neg (show ¬ (false = true) by decide)] at H; exact H
                  clear H
                  have H := H1
                  clear H1
                  by_cases c13 : ((rd_T42 l0 x7_1).f3) = true
                  · rw [if_pos c13] at H
                    have c13b0 : ((rd_T42 l0 x7_1).f3) = true := c13
                    clear c13
                    obtain rfl := Option.some.inj H
                    have hcz14_0 : wc.cell? ⟨gb192, 0, none⟩ = some (.string ((rd_T42 l0 x7_1).f0)) := (blk_cell BK192.out 0).trans rfl
                    have hcz14_1 : wc.cell? ⟨gb192, 1, none⟩ = some (.string ((rd_T42 l0 x7_1).f1)) := (blk_cell BK192.out 1).trans rfl
                    have hcz14_2 : wc.cell? ⟨gb192, 2, none⟩ = some (.bool ((rd_T42 l0 x7_1).f2)) := (blk_cell BK192.out 2).trans rfl
                    have hcz14_3 : wc.cell? ⟨gb192, 3, none⟩ = some (.bool ((rd_T42 l0 x7_1).f3)) := (blk_cell BK192.out 3).trans rfl
                    have hcz14_4 : wc.cell? ⟨gb192, 4, none⟩ = some (.bool ((rd_T42 l0 x7_1).f4)) := (blk_cell BK192.out 4).trans rfl
                    have hcz14_5 : wc.cell? ⟨gb192, 5, none⟩ = some (.slice A191_5 ((rd_T42 l0 x7_1).f5).length c191_5) := (blk_cell BK192.out 5).trans rfl
                    have hfz14_0 := blk_frozen BK192.out 0
                    have hfz14_1 := blk_frozen BK192.out 1
                    have hfz14_2 := blk_frozen BK192.out 2
                    have hfz14_3 := blk_frozen BK192.out 3
                    have hfz14_4 := blk_frozen BK192.out 4
                    have hfz14_5 := blk_frozen BK192.out 5
                    go_wp2
                    go_ret
                    exact ⟨by first | rfl | (simp [errW_none, errW_some] <;> rfl) | (simp [*, errW_none, errW_some] <;> rfl), by repeat (first | (with_reducible first | exact HB.out | apply below_alloc | apply pw_below_drewN | apply below_drew1 | refine below_set ?_ GE192.out) | exact HB.out)⟩
                  · rw [if_neg c13] at H
                    have c13b0 : ((rd_T42 l0 x7_1).f3) = false := by simpa using c13
                    clear c13
                    by_cases c15 : ((rd_T42 l0 x7_1).f4) = true
                    · rw [if_pos c15] at H
                      have c15b0 : ((rd_T42 l0 x7_1).f4) = true := c15
                      clear c15
                      obtain rfl := Option.some.inj H
                      have hcz16_0 : wc.cell? ⟨gb192, 0, none⟩ = some (.string ((rd_T42 l0 x7_1).f0)) := (blk_cell BK192.out 0).trans rfl
                      have hcz16_1 : wc.cell? ⟨gb192, 1, none⟩ = some (.string ((rd_T42 l0 x7_1).f1)) := (blk_cell BK192.out 1).trans rfl
                      have hcz16_2 : wc.cell? ⟨gb192, 2, none⟩ = some (.bool ((rd_T42 l0 x7_1).f2)) := (blk_cell BK192.out 2).trans rfl
                      have hcz16_3 : wc.cell? ⟨gb192, 3, none⟩ = some (.bool ((rd_T42 l0 x7_1).f3)) := (blk_cell BK192.out 3).trans rfl
                      have hcz16_4 : wc.cell? ⟨gb192, 4, none⟩ = some (.bool ((rd_T42 l0 x7_1).f4)) := (blk_cell BK192.out 4).trans rfl
                      have hcz16_5 : wc.cell? ⟨gb192, 5, none⟩ = some (.slice A191_5 ((rd_T42 l0 x7_1).f5).length c191_5) := (blk_cell BK192.out 5).trans rfl
                      have hfz16_0 := blk_frozen BK192.out 0
                      have hfz16_1 := blk_frozen BK192.out 1
                      have hfz16_2 := blk_frozen BK192.out 2
                      have hfz16_3 := blk_frozen BK192.out 3
                      have hfz16_4 := blk_frozen BK192.out 4
                      have hfz16_5 := blk_frozen BK192.out 5
                      go_wp2
                      go_ret
                      exact ⟨by first | rfl | (simp [errW_none, errW_some] <;> rfl) | (simp [*, errW_none, errW_some] <;> rfl), by repeat (first | (with_reducible first | exact HB.out | apply below_alloc | apply pw_below_drewN | apply below_drew1 | refine below_set ?_ GE192.out) | exact HB.out)⟩
                    · rw [if_neg c15] at H
                      have c15b0 : ((rd_T42 l0 x7_1).f4) = false := by simpa using c15
                      clear c15
                      obtain ⟨ji17, hji17⟩ : ∃ j_ : Int, (wrap64 (x7_1 + 1)) = j_ := ⟨_, rfl⟩
                      replace H : (if 0 ≤ (ji17) then (if (ji17) < (l0.length : Int) then (if (rd_T42 l0 (ji17)).f2 = true then (some false) else (if 0 < (((rd_T42 l0 (ji17)).f0).size : Int) then (if (bt ((rd_T42 l0 (ji17)).f0) 0) = 47 then (spec_Plain.l0 kj4 l0 l0 (l0.length : Int) ji17) else (some false)) else (none))) else (none)) else (none)) = some r := by first | (rw [hji17] at H; exact H) | (simp only [hji17] at H ⊢; exact H)
                      have hji17w : (IntKind.i64.wrap (x7_1 + 1)) = ji17 := (i64_w _).trans hji17
                      by_cases c18 : 0 ≤ (ji17)
                      · rw [if_pos c18] at H
                        have c18b0 : decide (0 ≤ (ji17)) = true := decide_eq_true c18
                        clear c18
                        by_cases c19 : (ji17) < (l0.length : Int)
                        · rw [if_pos c19] at H
                          have c19b0 : decide ((ji17) < (l0.length : Int)) = true := decide_eq_true c19
                          clear c19
                          obtain ⟨bq20, hbq20⟩ : ∃ b_ : Bool, b_ = ((rd_T42 l0 (ji17)).f2) := ⟨_, rfl⟩
                          replace H : (if bq20 = true then (some false) else (if 0 < (((rd_T42 l0 (ji17)).f0).size : Int) then (if (bt ((rd_T42 l0 (ji17)).f0) 0) = 47 then (spec_Plain.l0 kj4 l0 l0 (l0.length : Int) ji17) else (some false)) else (none))) = some r := by rw [← hbq20] at H; exact H
                          have Nbq20 := Aside0.mk hbq20
                          clear hbq20
                          by_cases c21 : bq20 = true
                          · subst c21
                            have H1 : (some false) = some r := by rw [if_pos rfl] at H; exact H
                            clear H
                            have H := H1
                            clear H1
                            obtain rfl := Option.some.inj H
                            have hcz22_0 : wc.cell? ⟨gb192, 0, none⟩ = some (.string ((rd_T42 l0 x7_1).f0)) := (blk_cell BK192.out 0).trans rfl
                            have hcz22_1 : wc.cell? ⟨gb192, 1, none⟩ = some (.string ((rd_T42 l0 x7_1).f1)) := (blk_cell BK192.out 1).trans rfl
                            have hcz22_2 : wc.cell? ⟨gb192, 2, none⟩ = some (.bool ((rd_T42 l0 x7_1).f2)) := (blk_cell BK192.out 2).trans rfl
                            have hcz22_3 : wc.cell? ⟨gb192, 3, none⟩ = some (.bool ((rd_T42 l0 x7_1).f3)) := (blk_cell BK192.out 3).trans rfl
                            have hcz22_4 : wc.cell? ⟨gb192, 4, none⟩ = some (.bool ((rd_T42 l0 x7_1).f4)) := (blk_cell BK192.out 4).trans rfl
                            have hcz22_5 : wc.cell? ⟨gb192, 5, none⟩ = some (.slice A191_5 ((rd_T42 l0 x7_1).f5).length c191_5) := (blk_cell BK192.out 5).trans rfl
                            have hfz22_0 := blk_frozen BK192.out 0
                            have hfz22_1 := blk_frozen BK192.out 1
                            have hfz22_2 := blk_frozen BK192.out 2
                            have hfz22_3 := blk_frozen BK192.out 3
                            have hfz22_4 := blk_frozen BK192.out 4
                            have hfz22_5 := blk_frozen BK192.out 5
                            have p193 : 0 ≤ ((ji17) : Int) := of_decide_eq_true (by first | (with_reducible assumption) | assumption)
                            have q193 : (ji17) < (l0.length : Int) := of_decide_eq_true (by first | (with_reducible assumption) | assumption)
                            obtain ⟨ad193, A193_5, c193_5, e193, hx193_0, hx193_1, hx193_2, hx193_3, hx193_4, hx193_5, hl193_5, hi193_5⟩ := at_T42 HR0.out (ji17) p193 q193
                            (try rw [← Nbq20.out] at hx193_2)
                            (try rw [← Nbq20.out] at hx193_3)
                            (try rw [← Nbq20.out] at hx193_4)
                            obtain rfl : ad191 = ad193 := (by injection e193)
                            replace hx193_0 := (HB.out.cell (World.block_lt_of_cell? w _ hx193_0)).trans hx193_0
                            replace hx193_1 := (HB.out.cell (World.block_lt_of_cell? w _ hx193_1)).trans hx193_1
                            replace hx193_2 := (HB.out.cell (World.block_lt_of_cell? w _ hx193_2)).trans hx193_2
                            replace hx193_3 := (HB.out.cell (World.block_lt_of_cell? w _ hx193_3)).trans hx193_3
                            replace hx193_4 := (HB.out.cell (World.block_lt_of_cell? w _ hx193_4)).trans hx193_4
                            replace hx193_5 := (HB.out.cell (World.block_lt_of_cell? w _ hx193_5)).trans hx193_5
                            have HR193_5 := Aside0.mk hi193_5
                            have HC193_5 := Aside0.mk hl193_5
                            clear hi193_5 hl193_5
                            replace p193 := eq_true p193
                            replace q193 := eq_true q193
                            go_wp2
                            go_ret
                            exact ⟨by first | rfl | (simp [errW_none, errW_some] <;> rfl) | (simp only [← hji17]; first | rfl | (simp [errW_none, errW_some] <;> rfl)) | (simp [*, errW_none, errW_some] <;> rfl), by repeat (first | (with_reducible first | exact HB.out | apply below_alloc | apply pw_below_drewN | apply below_drew1 | refine below_set ?_ GE192.out) | exact HB.out)⟩
                          · replace c21 := Bool.eq_false_iff.mpr c21
                            subst c21
                            have H1 : (if 0 < (((rd_T42 l0 (ji17)).f0).size : Int) then (if (bt ((rd_T42 l0 (ji17)).f0) 0) = 47 then (spec_Plain.l0 kj4 l0 l0 (l0.length : Int) ji17) else (some false)) else (none)) = some r := by rw [if_neg (show ¬ (false = true) by decide)] at H; exact H
                            clear H
                            have H := H1
                            clear H1
                            by_cases c23 : 0 < (((rd_T42 l0 (ji17)).f0).size : Int)
                            · rw [if_pos c23] at H
                              have c23b0 : decide (0 < (((rd_T42 l0 (ji17)).f0).size : Int)) = true := decide_eq_true c23
                              have c23b1 : decide (0 < ((rd_T42 l0 (ji17)).f0).size) = true := decide_eq_true (by omega)
                              clear c23
                              by_cases c25 : (bt ((rd_T42 l0 (ji17)).f0) 0) = 47
                              · rw [if_pos c25] at H
                                have c25b0 : ((bt ((rd_T42 l0 (ji17)).f0) 0) == 47) = true := beq_iff_eq.mpr c25
                                have c25b1 : ((bt ((rd_T42 l0 (ji17)).f0) 0) != 47) = false := bne_eq_false_iff_eq.mpr c25
                                clear c25
                                have H' := Aside0.mk H
                                clear H
                                have hcz26_0 : wc.cell? ⟨gb192, 0, none⟩ = some (.string ((rd_T42 l0 x7_1).f0)) := (blk_cell BK192.out 0).trans rfl
                                have hcz26_1 : wc.cell? ⟨gb192, 1, none⟩ = some (.string ((rd_T42 l0 x7_1).f1)) := (blk_cell BK192.out 1).trans rfl
                                have hcz26_2 : wc.cell? ⟨gb192, 2, none⟩ = some (.bool ((rd_T42 l0 x7_1).f2)) := (blk_cell BK192.out 2).trans rfl
                                have hcz26_3 : wc.cell? ⟨gb192, 3, none⟩ = some (.bool ((rd_T42 l0 x7_1).f3)) := (blk_cell BK192.out 3).trans rfl
                                have hcz26_4 : wc.cell? ⟨gb192, 4, none⟩ = some (.bool ((rd_T42 l0 x7_1).f4)) := (blk_cell BK192.out 4).trans rfl
                                have hcz26_5 : wc.cell? ⟨gb192, 5, none⟩ = some (.slice A191_5 ((rd_T42 l0 x7_1).f5).length c191_5) := (blk_cell BK192.out 5).trans rfl
                                have hfz26_0 := blk_frozen BK192.out 0
                                have hfz26_1 := blk_frozen BK192.out 1
                                have hfz26_2 := blk_frozen BK192.out 2
                                have hfz26_3 := blk_frozen BK192.out 3
                                have hfz26_4 := blk_frozen BK192.out 4
                                have hfz26_5 := blk_frozen BK192.out 5
                                have p193 : 0 ≤ ((ji17) : Int) := of_decide_eq_true (by first | (with_reducible assumption) | assumption)
                                have q193 : (ji17) < (l0.length : Int) := of_decide_eq_true (by first | (with_reducible assumption) | assumption)
                                obtain ⟨ad193, A193_5, c193_5, e193, hx193_0, hx193_1, hx193_2, hx193_3, hx193_4, hx193_5, hl193_5, hi193_5⟩ := at_T42 HR0.out (ji17) p193 q193
                                (try rw [← Nbq20.out] at hx193_2)
                                (try rw [← Nbq20.out] at hx193_3)
                                (try rw [← Nbq20.out] at hx193_4)
                                obtain rfl : ad191 = ad193 := (by injection e193)
                                replace hx193_0 := (HB.out.cell (World.block_lt_of_cell? w _ hx193_0)).trans hx193_0
                                replace hx193_1 := (HB.out.cell (World.block_lt_of_cell? w _ hx193_1)).trans hx193_1
                                replace hx193_2 := (HB.out.cell (World.block_lt_of_cell? w _ hx193_2)).trans hx193_2
                                replace hx193_3 := (HB.out.cell (World.block_lt_of_cell? w _ hx193_3)).trans hx193_3
                                replace hx193_4 := (HB.out.cell (World.block_lt_of_cell? w _ hx193_4)).trans hx193_4
                                replace hx193_5 := (HB.out.cell (World.block_lt_of_cell? w _ hx193_5)).trans hx193_5
                                have HR193_5 := Aside0.mk hi193_5
                                have HC193_5 := Aside0.mk hl193_5
                                clear hi193_5 hl193_5
                                replace p193 := eq_true p193
                                replace q193 := eq_true q193
                                have p194 : 0 ≤ ((ji17) : Int) := of_decide_eq_true (by first | (with_reducible assumption) | assumption)
                                have q194 : (ji17) < (l0.length : Int) := of_decide_eq_true (by first | (with_reducible assumption) | assumption)
                                obtain ⟨ad194, A194_5, c194_5, e194, hx194_0, hx194_1, hx194_2, hx194_3, hx194_4, hx194_5, hl194_5, hi194_5⟩ := at_T42 HR0.out (ji17) p194 q194
                                (try rw [← Nbq20.out] at hx194_2)
                                (try rw [← Nbq20.out] at hx194_3)
                                (try rw [← Nbq20.out] at hx194_4)
                                obtain rfl : ad191 = ad194 := (by injection e194)
                                replace hx194_0 := (HB.out.cell (World.block_lt_of_cell? w _ hx194_0)).trans hx194_0
                                replace hx194_1 := (HB.out.cell (World.block_lt_of_cell? w _ hx194_1)).trans hx194_1
                                replace hx194_2 := (HB.out.cell (World.block_lt_of_cell? w _ hx194_2)).trans hx194_2
                                replace hx194_3 := (HB.out.cell (World.block_lt_of_cell? w _ hx194_3)).trans hx194_3
                                replace hx194_4 := (HB.out.cell (World.block_lt_of_cell? w _ hx194_4)).trans hx194_4
                                replace hx194_5 := (HB.out.cell (World.block_lt_of_cell? w _ hx194_5)).trans hx194_5
                                have HR194_5 := Aside0.mk hi194_5
                                have HC194_5 := Aside0.mk hl194_5
                                clear hi194_5 hl194_5
                                replace p194 := eq_true p194
                                replace q194 := eq_true q194
                                have ea_ := Option.some.inj (hx193_5.symm.trans hx194_5)
                                injection ea_ with ea_ en_ ec_
                                subst ea_
                                subst ec_
                                clear en_
                                have p24 : 0 ≤ (0 : Int) := (by omega)
                                have q24 : 0 < ((rd_T42 l0 (ji17)).f0).size := (by have : (0 : Int) < (((rd_T42 l0 (ji17)).f0).size : Int) := of_decide_eq_true (by first | (with_reducible assumption) | assumption); omega)
                                have hx24 : ∀ h : 0 < ((rd_T42 l0 (ji17)).f0).size, ((((rd_T42 l0 (ji17)).f0)[0]'h).toNat : Int) = bt ((rd_T42 l0 (ji17)).f0) 0 := bt_at ((rd_T42 l0 (ji17)).f0) 0
                                clear p24
                                have qi24 : (0 < (((rd_T42 l0 (ji17)).f0).size : Int)) = True := eq_true (of_decide_eq_true (by first | (with_reducible assumption) | assumption))
                                replace q24 := eq_true q24
                                go_wp2
                                go_roundg kj4
                                case measure => have := HK1.out; have := HJ4.out; omega
                                case rel => exact ⟨(ji17), (by first | rfl | (simp; done) | (simp only [← hji17] <;> (first | rfl | simp)) | (simp [*]; done)), H', ⟨by have := HK1.out; have := HJ4.out; omega⟩, ⟨by repeat (first | (with_reducible first | exact HB.out | apply below_alloc | apply pw_below_drewN | apply below_drew1 | refine below_set ?_ GE192.out) | exact HB.out)⟩⟩
                              · rw [if_neg c25] at H
                                have c25b0 : ((bt ((rd_T42 l0 (ji17)).f0) 0) == 47) = false := beq_eq_false_iff_ne.mpr c25
                                have c25b1 : ((bt ((rd_T42 l0 (ji17)).f0) 0) != 47) = true := bne_iff_ne.mpr c25
                                obtain rfl := Option.some.inj H
                                have hcz27_0 : wc.cell? ⟨gb192, 0, none⟩ = some (.string ((rd_T42 l0 x7_1).f0)) := (blk_cell BK192.out 0).trans rfl
                                have hcz27_1 : wc.cell? ⟨gb192, 1, none⟩ = some (.string ((rd_T42 l0 x7_1).f1)) := (blk_cell BK192.out 1).trans rfl
                                have hcz27_2 : wc.cell? ⟨gb192, 2, none⟩ = some (.bool ((rd_T42 l0 x7_1).f2)) := (blk_cell BK192.out 2).trans rfl
                                have hcz27_3 : wc.cell? ⟨gb192, 3, none⟩ = some (.bool ((rd_T42 l0 x7_1).f3)) := (blk_cell BK192.out 3).trans rfl
                                have hcz27_4 : wc.cell? ⟨gb192, 4, none⟩ = some (.bool ((rd_T42 l0 x7_1).f4)) := (blk_cell BK192.out 4).trans rfl
                                have hcz27_5 : wc.cell? ⟨gb192, 5, none⟩ = some (.slice A191_5 ((rd_T42 l0 x7_1).f5).length c191_5) := (blk_cell BK192.out 5).trans rfl
                                have hfz27_0 := blk_frozen BK192.out 0
                                have hfz27_1 := blk_frozen BK192.out 1
                                have hfz27_2 := blk_frozen BK192.out 2
                                have hfz27_3 := blk_frozen BK192.out 3
                                have hfz27_4 := blk_frozen BK192.out 4
                                have hfz27_5 := blk_frozen BK192.out 5
                                have p193 : 0 ≤ ((ji17) : Int) := of_decide_eq_true (by first | (with_reducible assumption) | assumption)
                                have q193 : (ji17) < (l0.length : Int) := of_decide_eq_true (by first | (with_reducible assumption) | assumption)
                                obtain ⟨ad193, A193_5, c193_5, e193, hx193_0, hx193_1, hx193_2, hx193_3, hx193_4, hx193_5, hl193_5, hi193_5⟩ := at_T42 HR0.out (ji17) p193 q193
                                (try rw [← Nbq20.out] at hx193_2)
                                (try rw [← Nbq20.out] at hx193_3)
                                (try rw [← Nbq20.out] at hx193_4)
                                obtain rfl : ad191 = ad193 := (by injection e193)
                                replace hx193_0 := (HB.out.cell (World.block_lt_of_cell? w _ hx193_0)).trans hx193_0
                                replace hx193_1 := (HB.out.cell (World.block_lt_of_cell? w _ hx193_1)).trans hx193_1
                                replace hx193_2 := (HB.out.cell (World.block_lt_of_cell? w _ hx193_2)).trans hx193_2
                                replace hx193_3 := (HB.out.cell (World.block_lt_of_cell? w _ hx193_3)).trans hx193_3
                                replace hx193_4 := (HB.out.cell (World.block_lt_of_cell? w _ hx193_4)).trans hx193_4
                                replace hx193_5 := (HB.out.cell (World.block_lt_of_cell? w _ hx193_5)).trans hx193_5
                                have HR193_5 := Aside0.mk hi193_5
                                have HC193_5 := Aside0.mk hl193_5
                                clear hi193_5 hl193_5
                                replace p193 := eq_true p193
                                replace q193 := eq_true q193
                                have p194 : 0 ≤ ((ji17) : Int) := of_decide_eq_true (by first | (with_reducible assumption) | assumption)
                                have q194 : (ji17) < (l0.length : Int) := of_decide_eq_true (by first | (with_reducible assumption) | assumption)
                                obtain ⟨ad194, A194_5, c194_5, e194, hx194_0, hx194_1, hx194_2, hx194_3, hx194_4, hx194_5, hl194_5, hi194_5⟩ := at_T42 HR0.out (ji17) p194 q194
                                (try rw [← Nbq20.out] at hx194_2)
                                (try rw [← Nbq20.out] at hx194_3)
                                (try rw [← Nbq20.out] at hx194_4)
                                obtain rfl : ad191 = ad194 := (by injection e194)
                                replace hx194_0 := (HB.out.cell (World.block_lt_of_cell? w _ hx194_0)).trans hx194_0
                                replace hx194_1 := (HB.out.cell (World.block_lt_of_cell? w _ hx194_1)).trans hx194_1
                                replace hx194_2 := (HB.out.cell (World.block_lt_of_cell? w _ hx194_2)).trans hx194_2
                                replace hx194_3 := (HB.out.cell (World.block_lt_of_cell? w _ hx194_3)).trans hx194_3
                                replace hx194_4 := (HB.out.cell (World.block_lt_of_cell? w _ hx194_4)).trans hx194_4
                                replace hx194_5 := (HB.out.cell (World.block_lt_of_cell? w _ hx194_5)).trans hx194_5
                                have HR194_5 := Aside0.mk hi194_5
                                have HC194_5 := Aside0.mk hl194_5
                                clear hi194_5 hl194_5
                                replace p194 := eq_true p194
                                replace q194 := eq_true q194
                                have ea_ := Option.some.inj (hx193_5.symm.trans hx194_5)
                                injection ea_ with ea_ en_ ec_
                                subst ea_
                                subst ec_
                                clear en_
                                have p24 : 0 ≤ (0 : Int) := (by omega)
                                have q24 : 0 < ((rd_T42 l0 (ji17)).f0).size := (by have : (0 : Int) < (((rd_T42 l0 (ji17)).f0).size : Int) := of_decide_eq_true (by first | (with_reducible assumption) | assumption); omega)
                                have hx24 : ∀ h : 0 < ((rd_T42 l0 (ji17)).f0).size, ((((rd_T42 l0 (ji17)).f0)[0]'h).toNat : Int) = bt ((rd_T42 l0 (ji17)).f0) 0 := bt_at ((rd_T42 l0 (ji17)).f0) 0
                                clear p24
                                have qi24 : (0 < (((rd_T42 l0 (ji17)).f0).size : Int)) = True := eq_true (of_decide_eq_true (by first | (with_reducible assumption) | assumption))
                                replace q24 := eq_true q24
                                go_wp2
                                go_ret
                                exact ⟨by first | rfl | (simp [errW_none, errW_some] <;> rfl) | (simp only [← hji17]; first | rfl | (simp [errW_none, errW_some] <;> rfl)) | (simp [*, errW_none, errW_some] <;> rfl), by repeat (first | (with_reducible first | exact HB.out | apply below_alloc | apply pw_below_drewN | apply below_drew1 | refine below_set ?_ GE192.out) | exact HB.out)⟩
                            · rw [if_neg c23] at H
                              exact absurd H (by simp)
                        · rw [if_neg c19] at H
                          exact absurd H (by simp)
                      · rw [if_neg c18] at H
                        exact absurd H (by simp)
          · rw [if_neg c4] at H
            exact absurd H (by simp)
        · rw [if_neg c3] at H
          exact absurd H (by simp)
      · rw [if_neg c2] at H
        have c2b0 : decide (x7_1 < (l0.length : Int)) = false := decide_eq_false c2
        clear c2
        obtain rfl := Option.some.inj H
        go_wp2
        go_ret
        exact ⟨by first | rfl | (simp [errW_none, errW_some] <;> rfl) | (simp [*, errW_none, errW_some] <;> rfl), by repeat (first | (with_reducible first | exact HB.out | apply below_alloc | apply pw_below_drewN | apply below_drew1) | exact HB.out)⟩

/-! ### spec_Could: function 11 -/
mutual
def spec_Could.l0 : Nat → List (S42) → ByteArray → Bool → Int → List (S42) → Int → Int → Option (Int)
  | 0, _, _, _, _, _, _, _ => none
  | k + 1, x0, x1, x2, x7, x10, x11, x12 => if x12 < x11 then (if 0 ≤ x12 then (if x12 < (x10.length : Int) then (if (rd_T42 x10 x12).f2 = true then (spec_Could.l0 k x0 x1 x2 (wrap64 (x7 + 1)) x10 x11 (wrap64 (x12 + 1))) else (spec_Could.l0 k x0 x1 x2 x7 x10 x11 (wrap64 (x12 + 1)))) else (none)) else (none)) else (if x7 > 6 then (spec_Could.j1 k x0 x1 x2 true) else (spec_Could.j1 k x0 x1 x2 (decide ((x1.size : Int) > 60))))
def spec_Could.j1 : Nat → List (S42) → ByteArray → Bool → Bool → Option (Int)
  | 0, _, _, _, _ => none
  | k + 1, x0, x1, x2, x27 => if x27 = true then (some 2) else ((spec_could.f k x0 0 x1 x2).bind fun t197 => (if t197 = true then ((spec_Plain.f k x0).bind fun t198 => (if t198 = true then (some 1) else (some 2))) else (some 0)))
end
def spec_Could.f (k : Nat) (l0 : List (S42)) (a1 : ByteArray) (a2 : Bool) : Option (Int) := spec_Could.l0 k l0 a1 a2 0 l0 (l0.length : Int) 0
theorem spec_Could.mono_l : ∀ k, (∀ y0 y1 y2 y3 y4 y5 y6, LeO (spec_Could.l0 k y0 y1 y2 y3 y4 y5 y6) (spec_Could.l0 (k + 1) y0 y1 y2 y3 y4 y5 y6)) ∧ (∀ y0 y1 y2 y3, LeO (spec_Could.j1 k y0 y1 y2 y3) (spec_Could.j1 (k + 1) y0 y1 y2 y3))
  | 0 => ⟨fun _ _ _ _ _ _ _ r h => by simp [spec_Could.l0] at h, fun _ _ _ _ r h => by simp [spec_Could.j1] at h⟩
  | k + 1 => by
    obtain ⟨ih0, ih1⟩ := spec_Could.mono_l k
    refine ⟨?_, ?_⟩
    · intro y0 y1 y2 y3 y4 y5 y6
      unfold spec_Could.l0
      repeat' first
      | (with_reducible exact ih0 _ _ _ _ _ _ _)
      | (with_reducible exact ih1 _ _ _ _)
      | (with_reducible exact spec_Plain.mono _ _)
      | (with_reducible exact spec_could.mono _ _ _ _ _)
      | (with_reducible exact LeO.refl _)
      | (with_reducible exact LeO.none _)
      | (with_reducible refine LeO.ite ?_ ?_)
      | (with_reducible refine LeO.bind ?_ (fun _ => ?_))
      | exact ih0 _ _ _ _ _ _ _
      | exact ih1 _ _ _ _
      | exact spec_Plain.mono _ _
      | exact spec_could.mono _ _ _ _ _
      | exact LeO.none _
      | refine LeO.ite ?_ ?_
      | refine LeO.bind ?_ (fun _ => ?_)
    · intro y0 y1 y2 y3
      unfold spec_Could.j1
      repeat' first
      | (with_reducible exact ih0 _ _ _ _ _ _ _)
      | (with_reducible exact ih1 _ _ _ _)
      | (with_reducible exact spec_Plain.mono _ _)
      | (with_reducible exact spec_could.mono _ _ _ _ _)
      | (with_reducible exact LeO.refl _)
      | (with_reducible exact LeO.none _)
      | (with_reducible refine LeO.ite ?_ ?_)
      | (with_reducible refine LeO.bind ?_ (fun _ => ?_))
      | exact ih0 _ _ _ _ _ _ _
      | exact ih1 _ _ _ _
      | exact spec_Plain.mono _ _
      | exact spec_could.mono _ _ _ _ _
      | exact LeO.none _
      | refine LeO.ite ?_ ?_
      | refine LeO.bind ?_ (fun _ => ?_)
theorem spec_Could.mono : ∀ a0 a1 a2 k, LeO (spec_Could.f k a0 a1 a2) (spec_Could.f (k + 1) a0 a1 a2) := by
  intro a0 a1 a2 k
  obtain ⟨ih0, ih1⟩ := spec_Could.mono_l k
  unfold spec_Could.f
  repeat' first
      | (with_reducible exact ih0 _ _ _ _ _ _ _)
      | (with_reducible exact ih1 _ _ _ _)
      | (with_reducible exact spec_Plain.mono _ _)
      | (with_reducible exact spec_could.mono _ _ _ _ _)
      | (with_reducible exact LeO.refl _)
      | (with_reducible exact LeO.none _)
      | (with_reducible refine LeO.ite ?_ ?_)
      | (with_reducible refine LeO.bind ?_ (fun _ => ?_))
      | exact ih0 _ _ _ _ _ _ _
      | exact ih1 _ _ _ _
      | exact spec_Plain.mono _ _
      | exact spec_could.mono _ _ _ _ _
      | exact LeO.none _
      | refine LeO.ite ?_ ?_
      | refine LeO.bind ?_ (fun _ => ?_)
set_option maxHeartbeats 8000000 in
set_option maxRecDepth 100000 in
theorem spec_Could.calls (k : Nat) (A0 : Option Addr) (c0 : Nat) (l0 : List (S42)) (a1 : ByteArray) (a2 : Bool) (r : Int) (w : World) (hr0 : Kd.C k42 w A0 l0.length l0) (hc0 : l0.length ≤ c0) (h : spec_Could.f k l0 a1 a2 = some r) :
    Calls Tryz.prog 11 #[.slice A0 l0.length c0, .string a1, .bool a2] w fun e w' => e = .returned (.int .i64 r) ∧ Below w.heap.size w w' := by
  have hu42 := Tryz.underlying42
  have HR0 := Aside0.mk hr0
  have HC0 := Aside0.mk hc0
  clear hr0 hc0
  have HB := Aside0.mk (Below.refl w.heap.size w)
  have H : (spec_Could.l0 k l0 a1 a2 0 l0 (l0.length : Int) 0) = some r := h
  clear h
  have H' := Aside0.mk H
  clear H
  go_enter Tryz.func11, Tryz.ntmps11
  go_wp2
  go_loopg [7, 12] k (fun kq v7 v12 w' => ∃ (x7_1 : Int) (x12_1 : Int), v7 = .int .i64 x7_1 ∧ v12 = .int .i64 x12_1 ∧ Aside0 (spec_Could.l0 kq l0 a1 a2 x7_1 l0 (l0.length : Int) x12_1 = some r) ∧ Aside0 (kq ≤ k) ∧ Aside0 (Below w.heap.size w w'))
  case atStart => exact ⟨(0), (0), (by first | rfl | (simp; done) | (simp [*]; done)), (by first | rfl | (simp; done) | (simp [*]; done)), H', ⟨Nat.le_refl _⟩, ⟨by repeat (first | (with_reducible first | exact HB.out | apply below_alloc | apply pw_below_drewN | apply below_drew1) | exact HB.out)⟩⟩
  case round =>
    clear H'
    try clear c1
    try clear p2
    obtain ⟨x7_1, x12_1, rfl, rfl, HA, HK1, HB⟩ := hrel
    cases gk with
    | zero => exact absurd HA.out (by simp [spec_Could.l0])
    | succ k1 =>
      have H := HA.out
      clear HA
      simp only [spec_Could.l0] at H
      by_cases c4 : x12_1 < (l0.length : Int)
      · rw [if_pos c4] at H
        have c4b0 : decide (x12_1 < (l0.length : Int)) = true := decide_eq_true c4
        clear c4
        by_cases c5 : 0 ≤ x12_1
        · rw [if_pos c5] at H
          have c5b0 : decide (0 ≤ x12_1) = true := decide_eq_true c5
          clear c5
          by_cases c6 : x12_1 < (l0.length : Int)
          · rw [if_pos c6] at H
            have c6b0 : decide (x12_1 < (l0.length : Int)) = true := decide_eq_true c6
            clear c6
            obtain ⟨bq7, hbq7⟩ : ∃ b_ : Bool, b_ = ((rd_T42 l0 x12_1).f2) := ⟨_, rfl⟩
            replace H : (if bq7 = true then (spec_Could.l0 k1 l0 a1 a2 (wrap64 (x7_1 + 1)) l0 (l0.length : Int) (wrap64 (x12_1 + 1))) else (spec_Could.l0 k1 l0 a1 a2 x7_1 l0 (l0.length : Int) (wrap64 (x12_1 + 1)))) = some r := by rw [← hbq7] at H; exact H
            have Nbq7 := Aside0.mk hbq7
            clear hbq7
            by_cases c8 : bq7 = true
            · subst c8
              have H1 : (spec_Could.l0 k1 l0 a1 a2 (wrap64 (x7_1 + 1)) l0 (l0.length : Int) (wrap64 (x12_1 + 1))) = some r := by rw [if_pos rfl] at H; exact H
              clear H
              have H := H1
              clear H1
              have H' := Aside0.mk H
              clear H
              have p195 : 0 ≤ (x12_1 : Int) := of_decide_eq_true (by first | (with_reducible assumption) | assumption)
              have q195 : x12_1 < (l0.length : Int) := of_decide_eq_true (by first | (with_reducible assumption) | assumption)
              obtain ⟨ad195, A195_5, c195_5, e195, hx195_0, hx195_1, hx195_2, hx195_3, hx195_4, hx195_5, hl195_5, hi195_5⟩ := at_T42 HR0.out x12_1 p195 q195
              (try rw [← Nbq7.out] at hx195_2)
              (try rw [← Nbq7.out] at hx195_3)
              (try rw [← Nbq7.out] at hx195_4)
              cases e195
              replace hx195_0 := (HB.out.cell (World.block_lt_of_cell? w _ hx195_0)).trans hx195_0
              replace hx195_1 := (HB.out.cell (World.block_lt_of_cell? w _ hx195_1)).trans hx195_1
              replace hx195_2 := (HB.out.cell (World.block_lt_of_cell? w _ hx195_2)).trans hx195_2
              replace hx195_3 := (HB.out.cell (World.block_lt_of_cell? w _ hx195_3)).trans hx195_3
              replace hx195_4 := (HB.out.cell (World.block_lt_of_cell? w _ hx195_4)).trans hx195_4
              replace hx195_5 := (HB.out.cell (World.block_lt_of_cell? w _ hx195_5)).trans hx195_5
              have HR195_5 := Aside0.mk hi195_5
              have HC195_5 := Aside0.mk hl195_5
              clear hi195_5 hl195_5
              replace p195 := eq_true p195
              replace q195 := eq_true q195
              go_wp2_with (first | ((with_reducible refine gate_dst (N := 9) rfl ?_); (try (refine gate_guard (by rfl) ?_; dsimp only)); refine box_event ?hg (N := 9) ?hd (cs := #[.string (⟨#[]⟩ : ByteArray), .string (⟨#[]⟩ : ByteArray), .bool false, .bool false, .bool false, .slice none 0 0]) (t := 42) ?hr ?_; (case hd => rfl); (case hg => rfl); (case hr => first | (go_simp; done) | (go_simp; rfl)); intro gb196 hg w9 hbox hb; have n0_ := Aside0.mk (below_step (by repeat (first | (with_reducible first | exact HB.out | apply below_alloc | apply pw_below_drewN | apply below_drew1) | exact HB.out)) hb); have n1_ := Aside0.mk (hbox); have n2_ := Aside0.mk ((by rw [hg]; exact (below_size (by repeat (first | (with_reducible first | exact HB.out | apply below_alloc | apply pw_below_drewN | apply below_drew1) | exact HB.out))) : w.heap.size ≤ gb196)); have n3_ := Aside0.mk ((by rw [hg]; exact (below_size (by repeat (first | (with_reducible first | exact HB.out | apply below_alloc | apply pw_below_drewN | apply below_drew1) | exact HB.out))) : w.heap.size ≤ gb196)); clear HB; have HB := n0_; have BK196 := n1_; have GW196 := n2_; have GE196 := n3_; clear n0_ n1_ n2_ n3_; clear hb hbox hg; have hcz10_0 : w9.cell? ⟨gb196, 0, none⟩ = some (.string (⟨#[]⟩ : ByteArray)) := (blk_cell BK196.out 0).trans rfl; have hcz10_1 : w9.cell? ⟨gb196, 1, none⟩ = some (.string (⟨#[]⟩ : ByteArray)) := (blk_cell BK196.out 1).trans rfl; have hcz10_2 : w9.cell? ⟨gb196, 2, none⟩ = some (.bool false) := (blk_cell BK196.out 2).trans rfl; have hcz10_3 : w9.cell? ⟨gb196, 3, none⟩ = some (.bool false) := (blk_cell BK196.out 3).trans rfl; have hcz10_4 : w9.cell? ⟨gb196, 4, none⟩ = some (.bool false) := (blk_cell BK196.out 4).trans rfl; have hcz10_5 : w9.cell? ⟨gb196, 5, none⟩ = some (.slice none 0 0) := (blk_cell BK196.out 5).trans rfl; have hfz10_0 := blk_frozen BK196.out 0; have hfz10_1 := blk_frozen BK196.out 1; have hfz10_2 := blk_frozen BK196.out 2; have hfz10_3 := blk_frozen BK196.out 3; have hfz10_4 := blk_frozen BK196.out 4; have hfz10_5 := blk_frozen BK196.out 5))
              go_roundg k1
              case measure => have := HK1.out; omega
              case rel => exact ⟨(wrap64 (x7_1 + 1)), (wrap64 (x12_1 + 1)), (by first | rfl | (simp; done) | (simp [*]; done)), (by first | rfl | (simp; done) | (simp [*]; done)), H', ⟨by have := HK1.out; omega⟩, ⟨by repeat (first | (with_reducible first | exact HB.out | apply below_alloc | apply pw_below_drewN | apply below_drew1 | refine below_set ?_ GE196.out) | exact HB.out)⟩⟩
            · replace c8 := Bool.eq_false_iff.mpr c8
              subst c8
              have H1 : (spec_Could.l0 k1 l0 a1 a2 x7_1 l0 (l0.length : Int) (wrap64 (x12_1 + 1))) = some r := by rw [if_neg (show ¬ (false = true) by decide)] at H; exact H
              clear H
              have H := H1
              clear H1
              have H' := Aside0.mk H
              clear H
              have p195 : 0 ≤ (x12_1 : Int) := of_decide_eq_true (by first | (with_reducible assumption) | assumption)
              have q195 : x12_1 < (l0.length : Int) := of_decide_eq_true (by first | (with_reducible assumption) | assumption)
              obtain ⟨ad195, A195_5, c195_5, e195, hx195_0, hx195_1, hx195_2, hx195_3, hx195_4, hx195_5, hl195_5, hi195_5⟩ := at_T42 HR0.out x12_1 p195 q195
              (try rw [← Nbq7.out] at hx195_2)
              (try rw [← Nbq7.out] at hx195_3)
              (try rw [← Nbq7.out] at hx195_4)
              cases e195
              replace hx195_0 := (HB.out.cell (World.block_lt_of_cell? w _ hx195_0)).trans hx195_0
              replace hx195_1 := (HB.out.cell (World.block_lt_of_cell? w _ hx195_1)).trans hx195_1
              replace hx195_2 := (HB.out.cell (World.block_lt_of_cell? w _ hx195_2)).trans hx195_2
              replace hx195_3 := (HB.out.cell (World.block_lt_of_cell? w _ hx195_3)).trans hx195_3
              replace hx195_4 := (HB.out.cell (World.block_lt_of_cell? w _ hx195_4)).trans hx195_4
              replace hx195_5 := (HB.out.cell (World.block_lt_of_cell? w _ hx195_5)).trans hx195_5
              have HR195_5 := Aside0.mk hi195_5
              have HC195_5 := Aside0.mk hl195_5
              clear hi195_5 hl195_5
              replace p195 := eq_true p195
              replace q195 := eq_true q195
              go_wp2_with (first | ((with_reducible refine gate_dst (N := 9) rfl ?_); (try (refine gate_guard (by rfl) ?_; dsimp only)); refine box_event ?hg (N := 9) ?hd (cs := #[.string (⟨#[]⟩ : ByteArray), .string (⟨#[]⟩ : ByteArray), .bool false, .bool false, .bool false, .slice none 0 0]) (t := 42) ?hr ?_; (case hd => rfl); (case hg => rfl); (case hr => first | (go_simp; done) | (go_simp; rfl)); intro gb196 hg w11 hbox hb; have n0_ := Aside0.mk (below_step (by repeat (first | (with_reducible first | exact HB.out | apply below_alloc | apply pw_below_drewN | apply below_drew1) | exact HB.out)) hb); have n1_ := Aside0.mk (hbox); have n2_ := Aside0.mk ((by rw [hg]; exact (below_size (by repeat (first | (with_reducible first | exact HB.out | apply below_alloc | apply pw_below_drewN | apply below_drew1) | exact HB.out))) : w.heap.size ≤ gb196)); have n3_ := Aside0.mk ((by rw [hg]; exact (below_size (by repeat (first | (with_reducible first | exact HB.out | apply below_alloc | apply pw_below_drewN | apply below_drew1) | exact HB.out))) : w.heap.size ≤ gb196)); clear HB; have HB := n0_; have BK196 := n1_; have GW196 := n2_; have GE196 := n3_; clear n0_ n1_ n2_ n3_; clear hb hbox hg; have hcz12_0 : w11.cell? ⟨gb196, 0, none⟩ = some (.string (⟨#[]⟩ : ByteArray)) := (blk_cell BK196.out 0).trans rfl; have hcz12_1 : w11.cell? ⟨gb196, 1, none⟩ = some (.string (⟨#[]⟩ : ByteArray)) := (blk_cell BK196.out 1).trans rfl; have hcz12_2 : w11.cell? ⟨gb196, 2, none⟩ = some (.bool false) := (blk_cell BK196.out 2).trans rfl; have hcz12_3 : w11.cell? ⟨gb196, 3, none⟩ = some (.bool false) := (blk_cell BK196.out 3).trans rfl; have hcz12_4 : w11.cell? ⟨gb196, 4, none⟩ = some (.bool false) := (blk_cell BK196.out 4).trans rfl; have hcz12_5 : w11.cell? ⟨gb196, 5, none⟩ = some (.slice none 0 0) := (blk_cell BK196.out 5).trans rfl; have hfz12_0 := blk_frozen BK196.out 0; have hfz12_1 := blk_frozen BK196.out 1; have hfz12_2 := blk_frozen BK196.out 2; have hfz12_3 := blk_frozen BK196.out 3; have hfz12_4 := blk_frozen BK196.out 4; have hfz12_5 := blk_frozen BK196.out 5))
              go_roundg k1
              case measure => have := HK1.out; omega
              case rel => exact ⟨(x7_1), (wrap64 (x12_1 + 1)), (by first | rfl | (simp; done) | (simp [*]; done)), (by first | rfl | (simp; done) | (simp [*]; done)), H', ⟨by have := HK1.out; omega⟩, ⟨by repeat (first | (with_reducible first | exact HB.out | apply below_alloc | apply pw_below_drewN | apply below_drew1 | refine below_set ?_ GE196.out) | exact HB.out)⟩⟩
          · rw [if_neg c6] at H
            exact absurd H (by simp)
        · rw [if_neg c5] at H
          exact absurd H (by simp)
      · rw [if_neg c4] at H
        have c4b0 : decide (x12_1 < (l0.length : Int)) = false := decide_eq_false c4
        clear c4
        have HC13 := Aside0.mk H
        clear H
        go_upto_region 8 with (fail)
        go_cut [27] (fun v27 wc => ∃ (kq : Nat) (x27_12 : Bool), v27 = .bool x27_12 ∧ Aside0 (spec_Could.j1 kq l0 a1 a2 x27_12 = some r) ∧ Aside0 (kq ≤ k1) ∧ Aside0 (Below w.heap.size w wc))
        case first =>
          have H := HC13.out
          clear HC13
          by_cases c14 : x7_1 > 6
          · rw [if_pos c14] at H
            have c14b0 : decide (6 < x7_1) = true := decide_eq_true c14
            clear c14
            (first | rw [c14b0] | (simp only [i64_w, i32_w]; rw [c14b0]) | skip)
            have H' := Aside0.mk H
            clear H
            go_wp2
            go_meet
            case rel => exact ⟨_, (true), (by first | rfl | (simp; done) | (simp [*]; done)), H', ⟨by have := HK1.out; first | omega | exact Nat.le_refl _⟩, ⟨by repeat (first | (with_reducible first | exact HB.out | apply below_alloc | apply pw_below_drewN | apply below_drew1) | exact HB.out)⟩⟩
          · rw [if_neg c14] at H
            have c14b0 : decide (6 < x7_1) = false := decide_eq_false c14
            clear c14
            (first | rw [c14b0] | (simp only [i64_w, i32_w]; rw [c14b0]) | skip)
            have H' := Aside0.mk H
            clear H
            go_wp2
            go_meet
            case rel => exact ⟨_, (decide ((a1.size : Int) > 60)), (by first | rfl | (simp; done) | (simp [*]; done)), H', ⟨by have := HK1.out; first | omega | exact Nat.le_refl _⟩, ⟨by repeat (first | (with_reducible first | exact HB.out | apply below_alloc | apply pw_below_drewN | apply below_drew1) | exact HB.out)⟩⟩
        case rest =>
          clear HC13
          try clear c1
          try clear p1
          try clear q1
          try clear hx1
          try clear p2
          try clear c4
          try clear c4b0
          try clear c5
          try clear c5b0
          try clear c6
          try clear c6b0
          try clear p6
          try clear q7
          try clear c8
          try clear c11
          try clear c14
          try clear c14b0
          try clear hcz10_0
          try clear hcz10_1
          try clear hcz10_2
          try clear hcz10_3
          try clear hcz10_4
          try clear hcz10_5
          try clear hcz12_0
          try clear hcz12_1
          try clear hcz12_2
          try clear hcz12_3
          try clear hcz12_4
          try clear hcz12_5
          try clear hfz10_0
          try clear hfz10_1
          try clear hfz10_2
          try clear hfz10_3
          try clear hfz10_4
          try clear hfz10_5
          try clear hfz12_0
          try clear hfz12_1
          try clear hfz12_2
          try clear hfz12_3
          try clear hfz12_4
          try clear hfz12_5
          try clear hx195_0
          try clear hx195_1
          try clear hx195_2
          try clear hx195_3
          try clear hx195_4
          try clear hx195_5
          try clear p195
          try clear p2
          try clear q195
          obtain ⟨kq, x27_12, rfl, HA, HJ12, HB⟩ := hcut
          cases kq with
          | zero => exact absurd HA.out (by simp [spec_Could.j1])
          | succ kj12 =>
            have H := HA.out
            clear HA
            simp only [spec_Could.j1] at H
            by_cases c15 : x27_12 = true
            · subst c15
              have H1 : (some 2) = some r := by rw [if_pos rfl] at H; exact H
              clear H
              have H := H1
              clear H1
              obtain rfl := Option.some.inj H
              go_wp2
              go_ret
              exact ⟨by first | rfl | (simp [errW_none, errW_some] <;> rfl) | (simp [*, errW_none, errW_some] <;> rfl), by repeat (first | (with_reducible first | exact HB.out | apply below_alloc | apply pw_below_drewN | apply below_drew1) | exact HB.out)⟩
            · replace c15 := Bool.eq_false_iff.mpr c15
              subst c15
              have H1 : ((spec_could.f kj12 l0 0 a1 a2).bind fun t197 => (if t197 = true then ((spec_Plain.f kj12 l0).bind fun t198 => (if t198 = true then (some 1) else (some 2))) else (some 0))) = some r := by rw [if_neg (show ¬ (false = true) by decide)] at H; exact H
              clear H
              have H := H1
              clear H1
              replace H := Option.bind_eq_some_iff.mp H
              obtain ⟨t197, A160, H⟩ := H
              replace H : (if t197 = true then ((spec_Plain.f kj12 l0).bind fun t198 => (if t198 = true then (some 1) else (some 2))) else (some 0)) = some r := H
              have A16 := Aside0.mk A160
              clear A160
              by_cases c17 : t197 = true
              · subst c17
                have H1 : ((spec_Plain.f kj12 l0).bind fun t198 => (if t198 = true then (some 1) else (some 2))) = some r := by rw [if_pos rfl] at H; exact H
                clear H
                have H := H1
                clear H1
                replace H := Option.bind_eq_some_iff.mp H
                obtain ⟨t198, A180, H⟩ := H
                replace H : (if t198 = true then (some 1) else (some 2)) = some r := H
                have A18 := Aside0.mk A180
                clear A180
                by_cases c19 : t198 = true
                · subst c19
                  have H1 : (some 1) = some r := by rw [if_pos rfl] at H; exact H
                  clear H
                  have H := H1
                  clear H1
                  obtain rfl := Option.some.inj H
                  go_wp2_with (first | ((with_reducible refine gate_callee (f := 23) rfl ?_); refine goesL_ (some 31) rfl rfl Tryz.func23 (by kernel_rfl) rfl #[.slice A0 l0.length c0, .int .i64 0, .string a1, .bool a2] rfl (by (try simp only [List.map_toArray, List.map_cons, List.map_nil]); first | done | rfl | (simp only [List.length_drop, List.length_take]; rfl)) ?_; (with_reducible refine (spec_could.calls kj12 _ _ l0 0 a1 a2 true _ ?side1 ?side2 A16.out).mono ?_); (case side1 => repeat (first | exact (Kd.C_below HR0.out HB.out) | (with_reducible refine Kd.C_alloc ?_ _) | (with_reducible refine Kd.C_drewN ?_ _) | (with_reducible refine Kd.C_drew ?_))); (case side2 => exact HC0.out); rintro e w20 ⟨rfl, hb⟩; refine ⟨_, rfl, ?_⟩; have n0_ := Aside0.mk (below_step (by repeat (first | (with_reducible first | exact HB.out | apply below_alloc | apply pw_below_drewN | apply below_drew1) | exact HB.out)) hb); clear HB; have HB := n0_; clear n0_; (try clear hb); (try clear hb2); (try clear hk); (try clear hi)) | ((with_reducible refine gate_callee (f := 24) rfl ?_); refine goesL_ (some 34) rfl rfl Tryz.func24 (by kernel_rfl) rfl #[.slice A0 l0.length c0] rfl (by (try simp only [List.map_toArray, List.map_cons, List.map_nil]); first | done | rfl | (simp only [List.length_drop, List.length_take]; rfl)) ?_; (with_reducible refine (spec_Plain.calls kj12 _ _ l0 true _ ?side1 ?side2 A18.out).mono ?_); (case side1 => repeat (first | exact (Kd.C_below HR0.out HB.out) | (with_reducible refine Kd.C_alloc ?_ _) | (with_reducible refine Kd.C_drewN ?_ _) | (with_reducible refine Kd.C_drew ?_))); (case side2 => exact HC0.out); rintro e w21 ⟨rfl, hb⟩; refine ⟨_, rfl, ?_⟩; have n0_ := Aside0.mk (below_step (by repeat (first | (with_reducible first | exact HB.out | apply below_alloc | apply pw_below_drewN | apply below_drew1) | exact HB.out)) hb); clear HB; have HB := n0_; clear n0_; (try clear hb); (try clear hb2); (try clear hk); (try clear hi)))
                  go_ret
                  exact ⟨by first | rfl | (simp [errW_none, errW_some] <;> rfl) | (simp [*, errW_none, errW_some] <;> rfl), by repeat (first | (with_reducible first | exact HB.out | apply below_alloc | apply pw_below_drewN | apply below_drew1) | exact HB.out)⟩
                · replace c19 := Bool.eq_false_iff.mpr c19
                  subst c19
                  have H1 : (some 2) = some r := by rw [if_neg (show ¬ (false = true) by decide)] at H; exact H
                  clear H
                  have H := H1
                  clear H1
                  obtain rfl := Option.some.inj H
                  go_wp2_with (first | ((with_reducible refine gate_callee (f := 23) rfl ?_); refine goesL_ (some 31) rfl rfl Tryz.func23 (by kernel_rfl) rfl #[.slice A0 l0.length c0, .int .i64 0, .string a1, .bool a2] rfl (by (try simp only [List.map_toArray, List.map_cons, List.map_nil]); first | done | rfl | (simp only [List.length_drop, List.length_take]; rfl)) ?_; (with_reducible refine (spec_could.calls kj12 _ _ l0 0 a1 a2 true _ ?side1 ?side2 A16.out).mono ?_); (case side1 => repeat (first | exact (Kd.C_below HR0.out HB.out) | (with_reducible refine Kd.C_alloc ?_ _) | (with_reducible refine Kd.C_drewN ?_ _) | (with_reducible refine Kd.C_drew ?_))); (case side2 => exact HC0.out); rintro e w22 ⟨rfl, hb⟩; refine ⟨_, rfl, ?_⟩; have n0_ := Aside0.mk (below_step (by repeat (first | (with_reducible first | exact HB.out | apply below_alloc | apply pw_below_drewN | apply below_drew1) | exact HB.out)) hb); clear HB; have HB := n0_; clear n0_; (try clear hb); (try clear hb2); (try clear hk); (try clear hi)) | ((with_reducible refine gate_callee (f := 24) rfl ?_); refine goesL_ (some 34) rfl rfl Tryz.func24 (by kernel_rfl) rfl #[.slice A0 l0.length c0] rfl (by (try simp only [List.map_toArray, List.map_cons, List.map_nil]); first | done | rfl | (simp only [List.length_drop, List.length_take]; rfl)) ?_; (with_reducible refine (spec_Plain.calls kj12 _ _ l0 false _ ?side1 ?side2 A18.out).mono ?_); (case side1 => repeat (first | exact (Kd.C_below HR0.out HB.out) | (with_reducible refine Kd.C_alloc ?_ _) | (with_reducible refine Kd.C_drewN ?_ _) | (with_reducible refine Kd.C_drew ?_))); (case side2 => exact HC0.out); rintro e w23 ⟨rfl, hb⟩; refine ⟨_, rfl, ?_⟩; have n0_ := Aside0.mk (below_step (by repeat (first | (with_reducible first | exact HB.out | apply below_alloc | apply pw_below_drewN | apply below_drew1) | exact HB.out)) hb); clear HB; have HB := n0_; clear n0_; (try clear hb); (try clear hb2); (try clear hk); (try clear hi)))
                  go_ret
                  exact ⟨by first | rfl | (simp [errW_none, errW_some] <;> rfl) | (simp [*, errW_none, errW_some] <;> rfl), by repeat (first | (with_reducible first | exact HB.out | apply below_alloc | apply pw_below_drewN | apply below_drew1) | exact HB.out)⟩
              · replace c17 := Bool.eq_false_iff.mpr c17
                subst c17
                have H1 : (some 0) = some r := by rw [if_neg (show ¬ (false = true) by decide)] at H; exact H
                clear H
                have H := H1
                clear H1
                obtain rfl := Option.some.inj H
                go_wp2_with (first | ((with_reducible refine gate_callee (f := 23) rfl ?_); refine goesL_ (some 31) rfl rfl Tryz.func23 (by kernel_rfl) rfl #[.slice A0 l0.length c0, .int .i64 0, .string a1, .bool a2] rfl (by (try simp only [List.map_toArray, List.map_cons, List.map_nil]); first | done | rfl | (simp only [List.length_drop, List.length_take]; rfl)) ?_; (with_reducible refine (spec_could.calls kj12 _ _ l0 0 a1 a2 false _ ?side1 ?side2 A16.out).mono ?_); (case side1 => repeat (first | exact (Kd.C_below HR0.out HB.out) | (with_reducible refine Kd.C_alloc ?_ _) | (with_reducible refine Kd.C_drewN ?_ _) | (with_reducible refine Kd.C_drew ?_))); (case side2 => exact HC0.out); rintro e w24 ⟨rfl, hb⟩; refine ⟨_, rfl, ?_⟩; have n0_ := Aside0.mk (below_step (by repeat (first | (with_reducible first | exact HB.out | apply below_alloc | apply pw_below_drewN | apply below_drew1) | exact HB.out)) hb); clear HB; have HB := n0_; clear n0_; (try clear hb); (try clear hb2); (try clear hk); (try clear hi)))
                go_ret
                exact ⟨by first | rfl | (simp [errW_none, errW_some] <;> rfl) | (simp [*, errW_none, errW_some] <;> rfl), by repeat (first | (with_reducible first | exact HB.out | apply below_alloc | apply pw_below_drewN | apply below_drew1) | exact HB.out)⟩

end Go.Proofs.YtfahabnjplnbmaaGreatDoor.Q
