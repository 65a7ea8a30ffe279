-- Laid by a program of this session's own, after the kit's print (two functions given by hand). Lean checks it.
import Derived.Test.YtfahabnjplnbmaaGreatDoorVQx0
import Derived.Test.YtfahabnjplnbmaaGreatDoorVQx6
namespace Go.Proofs.YtfahabnjplnbmaaGreatDoor.Q
open Go.RowKit Go.Proofs.YtfahabnjplnbmaaGreatDoorW.PrintWords Go.Proofs.YtfahabnjplnbmaaGreatDoorW.PrintLast Go.Proofs.YtfahabnjplnbmaaGreatDoorW.PrintMore
attribute [local go_sem] max2_int min2_int max_two min_two max_three min_three max_four min_four   -- for this text's walks alone
set_option linter.unusedVariables false
set_option linter.unusedSimpArgs false

/-! ### spec_Holds: function 12 -/
mutual
def spec_Holds.l0 : Nat → List (S42) → List ByteArray → ByteArray → Bool → Int → List (S42) → Int → Int → Option (Bool)
  | 0, _, _, _, _, _, _, _, _ => none
  | k + 1, x0, x1, x2, x3, x9, x13, x14, x15 => if x15 < x14 then (if 0 ≤ x15 then (if x15 < (x13.length : Int) then (if (rd_T42 x13 x15).f2 = true then (if x9 ≥ (x1.length : Int) then (some false) else (if 0 ≤ x9 then (if x9 < (x1.length : Int) then ((spec_within.f k ((rd_T42 x13 x15).f0) ((rd_T42 x13 x15).f1) ((rd_T42 x13 x15).f2) ((rd_T42 x13 x15).f3) ((rd_T42 x13 x15).f4) ((rd_T42 x13 x15).f5) (rdOf ByteArray.empty x1 x9)).bind fun t214 => (if t214 = true then ((spec_begins.f x2 (rdOf ByteArray.empty x1 x9)).bind fun t216 => (if t216 = true then (if 0 ≤ ((rdOf ByteArray.empty x1 x9).size : Int) then (if ((rdOf ByteArray.empty x1 x9).size : Int) ≤ (x2.size : Int) then (spec_Holds.l0 k x0 x1 (x2.extract (((rdOf ByteArray.empty x1 x9).size : Int) : Int).toNat x2.size) x3 (wrap64 (x9 + 1)) x13 x14 (wrap64 (x15 + 1))) else (none)) else (none)) else (some false))) else (some false))) else (none)) else (none))) else ((spec_mayEnd.f x0 x15).bind fun t218 => (if t218 = true then (if 0 ≤ (wrap64 ((((rd_T42 x13 x15).f0).size : Int) - 1)) then (if (wrap64 ((((rd_T42 x13 x15).f0).size : Int) - 1)) ≤ (((rd_T42 x13 x15).f0).size : Int) then (spec_Holds.j1 k x0 x1 x2 x3 x9 ((rd_T42 x13 x15).f0) x13 x14 x15 (x2.toList == (((rd_T42 x13 x15).f0).extract 0 ((wrap64 ((((rd_T42 x13 x15).f0).size : Int) - 1)) : Int).toNat).toList)) else (none)) else (none)) else (spec_Holds.j1 k x0 x1 x2 x3 x9 ((rd_T42 x13 x15).f0) x13 x14 x15 false)))) else (none)) else (none)) else (if x9 = (x1.length : Int) then (if x3 = true then (some true) else (some (x2.toList == ([] : List UInt8)))) else (some false))
def spec_Holds.j1 : Nat → List (S42) → List ByteArray → ByteArray → Bool → Int → ByteArray → List (S42) → Int → Int → Bool → Option (Bool)
  | 0, _, _, _, _, _, _, _, _, _, _ => none
  | k + 1, x0, x1, x2, x3, x9, x12, x13, x14, x15, x66 => if x66 = true then (spec_Holds.l0 k x0 x1 (⟨#[]⟩ : ByteArray) x3 x9 x13 x14 (wrap64 (x15 + 1))) else ((spec_begins.f x2 x12).bind fun t219 => (if t219 = true then (if 0 ≤ (x12.size : Int) then (if (x12.size : Int) ≤ (x2.size : Int) then (spec_Holds.l0 k x0 x1 (x2.extract ((x12.size : Int) : Int).toNat x2.size) x3 x9 x13 x14 (wrap64 (x15 + 1))) else (none)) else (none)) else (some false)))
end
def spec_Holds.f (k : Nat) (l0 : List (S42)) (l1 : List ByteArray) (a2 : ByteArray) (a3 : Bool) : Option (Bool) := spec_Holds.l0 k l0 l1 a2 a3 0 l0 (l0.length : Int) 0
theorem spec_Holds.mono_l : ∀ k, (∀ y0 y1 y2 y3 y4 y5 y6 y7, LeO (spec_Holds.l0 k y0 y1 y2 y3 y4 y5 y6 y7) (spec_Holds.l0 (k + 1) y0 y1 y2 y3 y4 y5 y6 y7)) ∧ (∀ y0 y1 y2 y3 y4 y5 y6 y7 y8 y9, LeO (spec_Holds.j1 k y0 y1 y2 y3 y4 y5 y6 y7 y8 y9) (spec_Holds.j1 (k + 1) y0 y1 y2 y3 y4 y5 y6 y7 y8 y9))
  | 0 => ⟨fun _ _ _ _ _ _ _ _ r h => by simp [spec_Holds.l0] at h, fun _ _ _ _ _ _ _ _ _ _ r h => by simp [spec_Holds.j1] at h⟩
  | k + 1 => by
    obtain ⟨ih0, ih1⟩ := spec_Holds.mono_l k
    refine ⟨?_, ?_⟩
    · intro y0 y1 y2 y3 y4 y5 y6 y7
      unfold spec_Holds.l0
      repeat' first
      | (with_reducible exact ih0 _ _ _ _ _ _ _ _)
      | (with_reducible exact ih1 _ _ _ _ _ _ _ _ _ _)
      | (with_reducible exact spec_within.mono _ _ _ _ _ _ _ _)
      | (with_reducible exact LeO.refl _)
      | (with_reducible exact LeO.none _)
      | (with_reducible refine LeO.ite ?_ ?_)
      | (with_reducible refine LeO.bind ?_ (fun _ => ?_))
      | exact ih0 _ _ _ _ _ _ _ _
      | exact ih1 _ _ _ _ _ _ _ _ _ _
      | exact spec_within.mono _ _ _ _ _ _ _ _
      | exact LeO.none _
      | refine LeO.ite ?_ ?_
      | refine LeO.bind ?_ (fun _ => ?_)
    · intro y0 y1 y2 y3 y4 y5 y6 y7 y8 y9
      unfold spec_Holds.j1
      repeat' first
      | (with_reducible exact ih0 _ _ _ _ _ _ _ _)
      | (with_reducible exact ih1 _ _ _ _ _ _ _ _ _ _)
      | (with_reducible exact spec_within.mono _ _ _ _ _ _ _ _)
      | (with_reducible exact LeO.refl _)
      | (with_reducible exact LeO.none _)
      | (with_reducible refine LeO.ite ?_ ?_)
      | (with_reducible refine LeO.bind ?_ (fun _ => ?_))
      | exact ih0 _ _ _ _ _ _ _ _
      | exact ih1 _ _ _ _ _ _ _ _ _ _
      | exact spec_within.mono _ _ _ _ _ _ _ _
      | exact LeO.none _
      | refine LeO.ite ?_ ?_
      | refine LeO.bind ?_ (fun _ => ?_)
theorem spec_Holds.mono : ∀ a0 a1 a2 a3 k, LeO (spec_Holds.f k a0 a1 a2 a3) (spec_Holds.f (k + 1) a0 a1 a2 a3) := by
  intro a0 a1 a2 a3 k
  obtain ⟨ih0, ih1⟩ := spec_Holds.mono_l k
  unfold spec_Holds.f
  repeat' first
      | (with_reducible exact ih0 _ _ _ _ _ _ _ _)
      | (with_reducible exact ih1 _ _ _ _ _ _ _ _ _ _)
      | (with_reducible exact spec_within.mono _ _ _ _ _ _ _ _)
      | (with_reducible exact LeO.refl _)
      | (with_reducible exact LeO.none _)
      | (with_reducible refine LeO.ite ?_ ?_)
      | (with_reducible refine LeO.bind ?_ (fun _ => ?_))
      | exact ih0 _ _ _ _ _ _ _ _
      | exact ih1 _ _ _ _ _ _ _ _ _ _
      | exact spec_within.mono _ _ _ _ _ _ _ _
      | exact LeO.none _
      | refine LeO.ite ?_ ?_
      | refine LeO.bind ?_ (fun _ => ?_)
def spec_Holds.T6 : Bool × List (List Nat × List Nat) := (true, [([], []), ([], []), ([1], [1]), ([0, 2], [0, 2]), ([3], [3]), ([4], [4]), ([4], [4]), ([4], [4]), ([6, 7, 4], [4, 6, 7]), ([8, 4], [4, 8]), ([5, 9, 4, 4], [4, 5, 9]), ([10, 4], [4, 10]), ([4, 11], [4, 11]), ([12, 10], [12]), ([13], [13]), ([13], [13]), ([13], [13]), ([15, 16, 13], [13, 15, 16]), ([17, 13], [13, 17]), ([14, 18, 13, 13], [13, 14, 18]), ([19, 13], [13, 19]), ([13, 20], [13, 20])])
def spec_Holds.B6 : List Nat := [0, 0, 2, 7, 15, 31, 31, 31, 223, 479, 1023, 2047, 4095, 8191, 16383, 16383, 16383, 114687, 245759, 524287, 1048575, 2097151]
theorem spec_Holds.tab6 : rtab .any (opsOf Tryz.f12 6) = spec_Holds.T6 := by kernel_rfl
theorem spec_Holds.bits6 : waitsOk spec_Holds.T6.2 spec_Holds.B6 = true := by kernel_rfl
set_option maxHeartbeats 8000000 in
set_option maxRecDepth 100000 in
theorem spec_Holds.calls (k : Nat) (A0 : Option Addr) (c0 : Nat) (l0 : List (S42)) (A1 : Option Addr) (c1 : Nat) (l1 : List ByteArray) (a2 : ByteArray) (a3 : Bool) (r : Bool) (w : World) (hr0 : Kd.C k42 w A0 l0.length l0) (hc0 : l0.length ≤ c0) (hr1 : Kd.C Kd.string w A1 l1.length l1) (hc1 : l1.length ≤ c1) (h : spec_Holds.f k l0 l1 a2 a3 = some r) :
    Calls Tryz.prog 12 #[.slice A0 l0.length c0, .slice A1 l1.length c1, .string a2, .bool a3] w fun e w' => e = .returned (.bool r) ∧ Below w.heap.size w w' := by
  have hu42 := Tryz.underlying42
  have HR0 := Aside0.mk hr0
  have HC0 := Aside0.mk hc0
  clear hr0 hc0
  have HR1 := Aside0.mk hr1
  have HC1 := Aside0.mk hc1
  clear hr1 hc1
  have HB := Aside0.mk (Below.refl w.heap.size w)
  have H : (spec_Holds.l0 k l0 l1 a2 a3 0 l0 (l0.length : Int) 0) = some r := h
  clear h
  have H' := Aside0.mk H
  clear H
  go_enter Tryz.func12, Tryz.ntmps12
  go_wp2
  go_loopg [2, 9, 15] k (fun kq v2 v9 v15 w' => ∃ (x2_1 : ByteArray) (x9_1 : Int) (x15_1 : Int), v2 = .string x2_1 ∧ v9 = .int .i64 x9_1 ∧ v15 = .int .i64 x15_1 ∧ Aside0 (spec_Holds.l0 kq l0 l1 x2_1 a3 x9_1 l0 (l0.length : Int) x15_1 = some r) ∧ Aside0 (kq ≤ k) ∧ Aside0 (Below w.heap.size w w'))
  case atStart => exact ⟨(a2), (0), (0), (by first | rfl | (simp; done) | (simp [*]; done)), (by first | rfl | (simp; done) | (simp [*]; done)), (by first | rfl | (simp; done) | (simp [*]; done)), H', ⟨Nat.le_refl _⟩, ⟨by repeat (first | (with_reducible first | exact HB.out | apply below_alloc | apply pw_below_drewN | apply below_drew1) | exact HB.out)⟩⟩
  case round =>
    clear H'
    try clear c1
    try clear p2
    obtain ⟨x2_1, x9_1, x15_1, rfl, rfl, rfl, HA, HK1, HB⟩ := hrel
    cases gk with
    | zero => exact absurd HA.out (by simp [spec_Holds.l0])
    | succ k1 =>
      have H := HA.out
      clear HA
      simp only [spec_Holds.l0] at H
      by_cases c5 : x15_1 < (l0.length : Int)
      · rw [if_pos c5] at H
        have c5b0 : decide (x15_1 < (l0.length : Int)) = true := decide_eq_true c5
        clear c5
        by_cases c6 : 0 ≤ x15_1
        · rw [if_pos c6] at H
          have c6b0 : decide (0 ≤ x15_1) = true := decide_eq_true c6
          clear c6
          by_cases c7 : x15_1 < (l0.length : Int)
          · rw [if_pos c7] at H
            have c7b0 : decide (x15_1 < (l0.length : Int)) = true := decide_eq_true c7
            clear c7
            obtain ⟨bq8, hbq8⟩ : ∃ b_ : Bool, b_ = ((rd_T42 l0 x15_1).f2) := ⟨_, rfl⟩
            replace H : (if bq8 = true then (if x9_1 ≥ (l1.length : Int) then (some false) else (if 0 ≤ x9_1 then (if x9_1 < (l1.length : Int) then ((spec_within.f k1 ((rd_T42 l0 x15_1).f0) ((rd_T42 l0 x15_1).f1) (bq8) ((rd_T42 l0 x15_1).f3) ((rd_T42 l0 x15_1).f4) ((rd_T42 l0 x15_1).f5) (rdOf ByteArray.empty l1 x9_1)).bind fun t214 => (if t214 = true then ((spec_begins.f x2_1 (rdOf ByteArray.empty l1 x9_1)).bind fun t216 => (if t216 = true then (if 0 ≤ ((rdOf ByteArray.empty l1 x9_1).size : Int) then (if ((rdOf ByteArray.empty l1 x9_1).size : Int) ≤ (x2_1.size : Int) then (spec_Holds.l0 k1 l0 l1 (x2_1.extract (((rdOf ByteArray.empty l1 x9_1).size : Int) : Int).toNat x2_1.size) a3 (wrap64 (x9_1 + 1)) l0 (l0.length : Int) (wrap64 (x15_1 + 1))) else (none)) else (none)) else (some false))) else (some false))) else (none)) else (none))) else ((spec_mayEnd.f l0 x15_1).bind fun t218 => (if t218 = true then (if 0 ≤ (wrap64 ((((rd_T42 l0 x15_1).f0).size : Int) - 1)) then (if (wrap64 ((((rd_T42 l0 x15_1).f0).size : Int) - 1)) ≤ (((rd_T42 l0 x15_1).f0).size : Int) then (spec_Holds.j1 k1 l0 l1 x2_1 a3 x9_1 ((rd_T42 l0 x15_1).f0) l0 (l0.length : Int) x15_1 (x2_1.toList == (((rd_T42 l0 x15_1).f0).extract 0 ((wrap64 ((((rd_T42 l0 x15_1).f0).size : Int) - 1)) : Int).toNat).toList)) else (none)) else (none)) else (spec_Holds.j1 k1 l0 l1 x2_1 a3 x9_1 ((rd_T42 l0 x15_1).f0) l0 (l0.length : Int) x15_1 false)))) = some r := by rw [← hbq8] at H; exact H
            have Nbq8 := Aside0.mk hbq8
            clear hbq8
            by_cases c9 : bq8 = true
            · subst c9
              have H1 : (if x9_1 ≥ (l1.length : Int) then (some false) else (if 0 ≤ x9_1 then (if x9_1 < (l1.length : Int) then ((spec_within.f k1 ((rd_T42 l0 x15_1).f0) ((rd_T42 l0 x15_1).f1) (true) ((rd_T42 l0 x15_1).f3) ((rd_T42 l0 x15_1).f4) ((rd_T42 l0 x15_1).f5) (rdOf ByteArray.empty l1 x9_1)).bind fun t214 => (if t214 = true then ((spec_begins.f x2_1 (rdOf ByteArray.empty l1 x9_1)).bind fun t216 => (if t216 = true then (if 0 ≤ ((rdOf ByteArray.empty l1 x9_1).size : Int) then (if ((rdOf ByteArray.empty l1 x9_1).size : Int) ≤ (x2_1.size : Int) then (spec_Holds.l0 k1 l0 l1 (x2_1.extract (((rdOf ByteArray.empty l1 x9_1).size : Int) : Int).toNat x2_1.size) a3 (wrap64 (x9_1 + 1)) l0 (l0.length : Int) (wrap64 (x15_1 + 1))) else (none)) else (none)) else (some false))) else (some false))) else (none)) else (none))) = some r := by rw [if_pos rfl] at H; exact H
              clear H
              have H := H1
              clear H1
              by_cases c10 : x9_1 ≥ (l1.length : Int)
              · rw [if_pos c10] at H
                have c10b0 : decide ((l1.length : Int) ≤ x9_1) = true := decide_eq_true c10
                clear c10
                obtain rfl := Option.some.inj H
                have p211 : 0 ≤ (x15_1 : Int) := of_decide_eq_true (by first | (with_reducible assumption) | assumption)
                have q211 : x15_1 < (l0.length : Int) := of_decide_eq_true (by first | (with_reducible assumption) | assumption)
                obtain ⟨ad211, A211_5, c211_5, e211, hx211_0, hx211_1, hx211_2, hx211_3, hx211_4, hx211_5, hl211_5, hi211_5⟩ := at_T42 HR0.out x15_1 p211 q211
                (try rw [← Nbq8.out] at hx211_2)
                (try rw [← Nbq8.out] at hx211_3)
                (try rw [← Nbq8.out] at hx211_4)
                cases e211
                replace hx211_0 := (HB.out.cell (World.block_lt_of_cell? w _ hx211_0)).trans hx211_0
                replace hx211_1 := (HB.out.cell (World.block_lt_of_cell? w _ hx211_1)).trans hx211_1
                replace hx211_2 := (HB.out.cell (World.block_lt_of_cell? w _ hx211_2)).trans hx211_2
                replace hx211_3 := (HB.out.cell (World.block_lt_of_cell? w _ hx211_3)).trans hx211_3
                replace hx211_4 := (HB.out.cell (World.block_lt_of_cell? w _ hx211_4)).trans hx211_4
                replace hx211_5 := (HB.out.cell (World.block_lt_of_cell? w _ hx211_5)).trans hx211_5
                have HR211_5 := Aside0.mk hi211_5
                have HC211_5 := Aside0.mk hl211_5
                clear hi211_5 hl211_5
                replace p211 := eq_true p211
                replace q211 := eq_true q211
                try go_wp2_with (first | ((with_reducible refine gate_dst (N := 11) rfl ?_); (try (refine gate_guard (by rfl) ?_; dsimp only)); refine box_event ?hg (N := 11) ?hd (cs := #[.string (⟨#[]⟩ : ByteArray), .string (⟨#[]⟩ : ByteArray), .bool false, .bool false, .bool false, .slice none 0 0]) (t := 42) ?hr ?_; (case hd => rfl); (case hg => rfl); (case hr => first | (go_simp; done) | (go_simp; rfl)); intro gb212 hg w11 hbox hb; have n0_ := Aside0.mk (below_step (by repeat (first | (with_reducible first | exact HB.out | apply below_alloc | apply pw_below_drewN | apply below_drew1) | exact HB.out)) hb); have n1_ := Aside0.mk (hbox); have n2_ := Aside0.mk ((by rw [hg]; exact (below_size (by repeat (first | (with_reducible first | exact HB.out | apply below_alloc | apply pw_below_drewN | apply below_drew1) | exact HB.out))) : w.heap.size ≤ gb212)); have n3_ := Aside0.mk ((by rw [hg]; exact (below_size (by repeat (first | (with_reducible first | exact HB.out | apply below_alloc | apply pw_below_drewN | apply below_drew1) | exact HB.out))) : w.heap.size ≤ gb212)); clear HB; have HB := n0_; have BK212 := n1_; have GW212 := n2_; have GE212 := n3_; clear n0_ n1_ n2_ n3_; clear hb hbox hg; have hcz12_0 : w11.cell? ⟨gb212, 0, none⟩ = some (.string (⟨#[]⟩ : ByteArray)) := (blk_cell BK212.out 0).trans rfl; have hcz12_1 : w11.cell? ⟨gb212, 1, none⟩ = some (.string (⟨#[]⟩ : ByteArray)) := (blk_cell BK212.out 1).trans rfl; have hcz12_2 : w11.cell? ⟨gb212, 2, none⟩ = some (.bool false) := (blk_cell BK212.out 2).trans rfl; have hcz12_3 : w11.cell? ⟨gb212, 3, none⟩ = some (.bool false) := (blk_cell BK212.out 3).trans rfl; have hcz12_4 : w11.cell? ⟨gb212, 4, none⟩ = some (.bool false) := (blk_cell BK212.out 4).trans rfl; have hcz12_5 : w11.cell? ⟨gb212, 5, none⟩ = some (.slice none 0 0) := (blk_cell BK212.out 5).trans rfl; have hfz12_0 := blk_frozen BK212.out 0; have hfz12_1 := blk_frozen BK212.out 1; have hfz12_2 := blk_frozen BK212.out 2; have hfz12_3 := blk_frozen BK212.out 3; have hfz12_4 := blk_frozen BK212.out 4; have hfz12_5 := blk_frozen BK212.out 5))
                have n0_ : Aside0 (((((((w11.setCell ⟨gb212, 0, none⟩ (.string ((rd_T42 l0 x15_1).f0))).setCell ⟨gb212, 1, none⟩ (.string ((rd_T42 l0 x15_1).f1))).setCell ⟨gb212, 2, none⟩ (.bool true)).setCell ⟨gb212, 3, none⟩ (.bool ((rd_T42 l0 x15_1).f3))).setCell ⟨gb212, 4, none⟩ (.bool ((rd_T42 l0 x15_1).f4))).setCell ⟨gb212, 5, none⟩ (.slice A211_5 ((rd_T42 l0 x15_1).f5).length c211_5)).heap[gb212]? = some (.cells #[.string ((rd_T42 l0 x15_1).f0), .string ((rd_T42 l0 x15_1).f1), .bool true, .bool ((rd_T42 l0 x15_1).f3), .bool ((rd_T42 l0 x15_1).f4), .slice A211_5 ((rd_T42 l0 x15_1).f5).length c211_5] 42 (0, 0))) := ⟨by (with_reducible repeat (first | refine blk_drewN ?_ _ | refine blk_drew ?_ | refine blk_alloc ?_ _)); refine blk_put (cs := #[.string ((rd_T42 l0 x15_1).f0), .string ((rd_T42 l0 x15_1).f1), .bool true, .bool ((rd_T42 l0 x15_1).f3), .bool ((rd_T42 l0 x15_1).f4), .slice none 0 0]) ?_ 5 _ rfl; (with_reducible repeat (first | refine blk_drewN ?_ _ | refine blk_drew ?_ | refine blk_alloc ?_ _)); refine blk_put (cs := #[.string ((rd_T42 l0 x15_1).f0), .string ((rd_T42 l0 x15_1).f1), .bool true, .bool ((rd_T42 l0 x15_1).f3), .bool false, .slice none 0 0]) ?_ 4 _ rfl; (with_reducible repeat (first | refine blk_drewN ?_ _ | refine blk_drew ?_ | refine blk_alloc ?_ _)); refine blk_put (cs := #[.string ((rd_T42 l0 x15_1).f0), .string ((rd_T42 l0 x15_1).f1), .bool true, .bool false, .bool false, .slice none 0 0]) ?_ 3 _ rfl; (with_reducible repeat (first | refine blk_drewN ?_ _ | refine blk_drew ?_ | refine blk_alloc ?_ _)); refine blk_put (cs := #[.string ((rd_T42 l0 x15_1).f0), .string ((rd_T42 l0 x15_1).f1), .bool false, .bool false, .bool false, .slice none 0 0]) ?_ 2 _ rfl; (with_reducible repeat (first | refine blk_drewN ?_ _ | refine blk_drew ?_ | refine blk_alloc ?_ _)); refine blk_put (cs := #[.string ((rd_T42 l0 x15_1).f0), .string (⟨#[]⟩ : ByteArray), .bool false, .bool false, .bool false, .slice none 0 0]) ?_ 1 _ rfl; (with_reducible repeat (first | refine blk_drewN ?_ _ | refine blk_drew ?_ | refine blk_alloc ?_ _)); refine blk_put (cs := #[.string (⟨#[]⟩ : ByteArray), .string (⟨#[]⟩ : ByteArray), .bool false, .bool false, .bool false, .slice none 0 0]) ?_ 0 _ rfl; (with_reducible repeat (first | refine blk_drewN ?_ _ | refine blk_drew ?_ | refine blk_alloc ?_ _)); exact BK212.out⟩
                have n1_ : Aside0 (Below w.heap.size w ((((((w11.setCell ⟨gb212, 0, none⟩ (.string ((rd_T42 l0 x15_1).f0))).setCell ⟨gb212, 1, none⟩ (.string ((rd_T42 l0 x15_1).f1))).setCell ⟨gb212, 2, none⟩ (.bool true)).setCell ⟨gb212, 3, none⟩ (.bool ((rd_T42 l0 x15_1).f3))).setCell ⟨gb212, 4, none⟩ (.bool ((rd_T42 l0 x15_1).f4))).setCell ⟨gb212, 5, none⟩ (.slice A211_5 ((rd_T42 l0 x15_1).f5).length c211_5))) := ⟨by repeat (first | (with_reducible first | exact HB.out | apply below_alloc | apply pw_below_drewN | apply below_drew1 | refine below_set ?_ GE212.out) | exact HB.out)⟩
                (try clear BK212)
                (try clear HB)
                generalize ((((((w11.setCell ⟨gb212, 0, none⟩ (.string ((rd_T42 l0 x15_1).f0))).setCell ⟨gb212, 1, none⟩ (.string ((rd_T42 l0 x15_1).f1))).setCell ⟨gb212, 2, none⟩ (.bool true)).setCell ⟨gb212, 3, none⟩ (.bool ((rd_T42 l0 x15_1).f3))).setCell ⟨gb212, 4, none⟩ (.bool ((rd_T42 l0 x15_1).f4))).setCell ⟨gb212, 5, none⟩ (.slice A211_5 ((rd_T42 l0 x15_1).f5).length c211_5)) = w13 at n0_ n1_ ⊢
                have BK212 := n0_
                have HB := n1_
                clear n0_ n1_
                have n0_ := Aside0.mk (blk_drew BK212.out)
                have n1_ := Aside0.mk (below_drew1 HB.out)
                clear BK212
                clear HB
                have BK212 := n0_
                have HB := n1_
                clear n0_ n1_
                refine start_ (n := 22) (S := fun w' => True) (ds := []) #[false, false, false, false, false, false, false, false, false, false, false, false, false, false, false, false, false, false, false, false, false, false] (by kernel_rfl) rfl rfl trivial (fun hHeld => ?_); refine with_tabW spec_Holds.tab6 spec_Holds.bits6 (fun HT_ HW_ => ?_)
                generalize w13.drew = w14 at BK212 HB hHeld ⊢
                refine pure_ (i := 0) (N := some 22) (v := ?_) (a' := ?_) #[true, false, false, false, false, false, false, false, false, false, false, false, false, false, false, false, false, false, false, false, false, false] rfl rfl (any_of HT_.out (by kernel_rfl)) (fun _ _ _ h => h) (Or.inl ⟨by rfl, ?_⟩) ?_ ?_
                rotate_left
                · intro w'
                  go_simp
                  with_reducible rfl
                rotate_left
                · simp only [Act.put, List.setIfInBounds_toArray, List.set_cons_zero, List.set_cons_succ, i64_w, i32_w]
                  rfl
                refine pure_ (i := 1) (N := some 23) (v := ?_) (a' := ?_) #[true, true, false, false, false, false, false, false, false, false, false, false, false, false, false, false, false, false, false, false, false, false] rfl rfl (any_of HT_.out (by kernel_rfl)) (fun _ _ _ h => h) (Or.inl ⟨by rfl, ?_⟩) ?_ ?_
                rotate_left
                · intro w'
                  go_simp
                  with_reducible rfl
                rotate_left
                · simp only [Act.put, List.setIfInBounds_toArray, List.set_cons_zero, List.set_cons_succ, i64_w, i32_w]
                  rfl
                refine pure_ (i := 2) (N := some 24) (v := ?_) (a' := ?_) #[true, true, true, false, false, false, false, false, false, false, false, false, false, false, false, false, false, false, false, false, false, false] rfl rfl (any_of HT_.out (by kernel_rfl)) (fun _ _ _ h => h) (Or.inl ⟨by rfl, ?_⟩) ?_ ?_
                rotate_left
                · intro w'
                  go_simp
                  with_reducible rfl
                rotate_left
                · simp only [Act.put, List.setIfInBounds_toArray, List.set_cons_zero, List.set_cons_succ, i64_w, i32_w]
                  rfl
                refine pure_ (i := 3) (N := some 25) (v := ?_) (a' := ?_) #[true, true, true, true, false, false, false, false, false, false, false, false, false, false, false, false, false, false, false, false, false, false] rfl rfl (any_of HT_.out (by kernel_rfl)) (fun _ _ _ h => h) (Or.inl ⟨by rfl, ?_⟩) ?_ ?_
                rotate_left
                · intro w'
                  go_simp
                  with_reducible rfl
                rotate_left
                · simp only [Act.put, List.setIfInBounds_toArray, List.set_cons_zero, List.set_cons_succ, i64_w, i32_w]
                  rfl
                refine pure_ (i := 4) (N := some 26) (v := ?_) (a' := ?_) #[true, true, true, true, true, false, false, false, false, false, false, false, false, false, false, false, false, false, false, false, false, false] rfl rfl (any_of HT_.out (by kernel_rfl)) (fun _ _ _ h => h) (Or.inl ⟨by rfl, ?_⟩) ?_ ?_
                rotate_left
                · intro w'
                  go_simp
                  with_reducible rfl
                rotate_left
                · simp only [Act.put, List.setIfInBounds_toArray, List.set_cons_zero, List.set_cons_succ, i64_w, i32_w]
                  rfl
                refine pure_ (i := 5) (N := some 27) (v := undef) (a' := ?_) #[true, true, true, true, true, true, false, false, false, false, false, false, false, false, false, false, false, false, false, false, false, false] rfl rfl (any_of HT_.out (by kernel_rfl)) (fun _ _ _ h => h) (Or.inr ⟨by rfl, rfl⟩) ?_ ?_
                rotate_left
                · simp only [Act.put, List.setIfInBounds_toArray, List.set_cons_zero, List.set_cons_succ, i64_w, i32_w]
                  rfl
                refine pure_ (i := 6) (N := some 28) (v := undef) (a' := ?_) #[true, true, true, true, true, true, true, false, false, false, false, false, false, false, false, false, false, false, false, false, false, false] rfl rfl (any_of HT_.out (by kernel_rfl)) (fun _ _ _ h => h) (Or.inr ⟨by rfl, rfl⟩) ?_ ?_
                rotate_left
                · simp only [Act.put, List.setIfInBounds_toArray, List.set_cons_zero, List.set_cons_succ, i64_w, i32_w]
                  rfl
                refine pure_ (i := 7) (N := some 29) (v := undef) (a' := ?_) #[true, true, true, true, true, true, true, true, false, false, false, false, false, false, false, false, false, false, false, false, false, false] rfl rfl (any_of HT_.out (by kernel_rfl)) (fun _ _ _ h => h) (Or.inr ⟨by rfl, rfl⟩) ?_ ?_
                rotate_left
                · simp only [Act.put, List.setIfInBounds_toArray, List.set_cons_zero, List.set_cons_succ, i64_w, i32_w]
                  rfl
                refine pure_ (i := 8) (N := some 30) (v := undef) (a' := ?_) #[true, true, true, true, true, true, true, true, true, false, false, false, false, false, false, false, false, false, false, false, false, false] rfl rfl (any_of HT_.out (by kernel_rfl)) (fun _ _ _ h => h) (Or.inr ⟨by rfl, rfl⟩) ?_ ?_
                rotate_left
                · simp only [Act.put, List.setIfInBounds_toArray, List.set_cons_zero, List.set_cons_succ, i64_w, i32_w]
                  rfl
                refine pure_ (i := 9) (N := some 31) (v := undef) (a' := ?_) #[true, true, true, true, true, true, true, true, true, true, false, false, false, false, false, false, false, false, false, false, false, false] rfl rfl (any_of HT_.out (by kernel_rfl)) (fun _ _ _ h => h) (Or.inr ⟨by rfl, rfl⟩) ?_ ?_
                rotate_left
                · simp only [Act.put, List.setIfInBounds_toArray, List.set_cons_zero, List.set_cons_succ, i64_w, i32_w]
                  rfl
                refine pure_ (i := 10) (N := some 32) (v := undef) (a' := ?_) #[true, true, true, true, true, true, true, true, true, true, true, false, false, false, false, false, false, false, false, false, false, false] rfl rfl (any_of HT_.out (by kernel_rfl)) (fun _ _ _ h => h) (Or.inr ⟨by rfl, rfl⟩) ?_ ?_
                rotate_left
                · simp only [Act.put, List.setIfInBounds_toArray, List.set_cons_zero, List.set_cons_succ, i64_w, i32_w]
                  rfl
                refine pure_ (i := 11) (N := some 33) (v := undef) (a' := ?_) #[true, true, true, true, true, true, true, true, true, true, true, true, false, false, false, false, false, false, false, false, false, false] rfl rfl (any_of HT_.out (by kernel_rfl)) (fun _ _ _ h => h) (Or.inr ⟨by rfl, rfl⟩) ?_ ?_
                rotate_left
                · simp only [Act.put, List.setIfInBounds_toArray, List.set_cons_zero, List.set_cons_succ, i64_w, i32_w]
                  rfl
                refine pure_ (i := 12) (N := some 34) (v := ?_) (a' := ?_) #[true, true, true, true, true, true, true, true, true, true, true, true, true, false, false, false, false, false, false, false, false, false] rfl rfl (any_of HT_.out (by kernel_rfl)) (fun _ _ _ h => h) (Or.inl ⟨by rfl, ?_⟩) ?_ ?_
                rotate_left
                · intro w'
                  go_simp
                  with_reducible rfl
                rotate_left
                · simp only [Act.put, List.setIfInBounds_toArray, List.set_cons_zero, List.set_cons_succ, i64_w, i32_w]
                  rfl
                refine pure_ (i := 13) (N := some 35) (v := ?_) (a' := ?_) #[true, true, true, true, true, true, true, true, true, true, true, true, true, true, false, false, false, false, false, false, false, false] rfl rfl (any_of HT_.out (by kernel_rfl)) (fun _ _ _ h => h) (Or.inl ⟨by rfl, ?_⟩) ?_ ?_
                rotate_left
                · intro w'
                  go_simp
                  with_reducible rfl
                rotate_left
                · simp only [Act.put, List.setIfInBounds_toArray, List.set_cons_zero, List.set_cons_succ, i64_w, i32_w]
                  rfl
                refine pure_ (i := 14) (N := some 36) (v := undef) (a' := ?_) #[true, true, true, true, true, true, true, true, true, true, true, true, true, true, true, false, false, false, false, false, false, false] rfl rfl (any_of HT_.out (by kernel_rfl)) (fun _ _ _ h => h) (Or.inr ⟨by rfl, rfl⟩) ?_ ?_
                rotate_left
                · simp only [Act.put, List.setIfInBounds_toArray, List.set_cons_zero, List.set_cons_succ, i64_w, i32_w]
                  rfl
                refine pure_ (i := 15) (N := some 37) (v := undef) (a' := ?_) #[true, true, true, true, true, true, true, true, true, true, true, true, true, true, true, true, false, false, false, false, false, false] rfl rfl (any_of HT_.out (by kernel_rfl)) (fun _ _ _ h => h) (Or.inr ⟨by rfl, rfl⟩) ?_ ?_
                rotate_left
                · simp only [Act.put, List.setIfInBounds_toArray, List.set_cons_zero, List.set_cons_succ, i64_w, i32_w]
                  rfl
                refine pure_ (i := 16) (N := some 38) (v := undef) (a' := ?_) #[true, true, true, true, true, true, true, true, true, true, true, true, true, true, true, true, true, false, false, false, false, false] rfl rfl (any_of HT_.out (by kernel_rfl)) (fun _ _ _ h => h) (Or.inr ⟨by rfl, rfl⟩) ?_ ?_
                rotate_left
                · simp only [Act.put, List.setIfInBounds_toArray, List.set_cons_zero, List.set_cons_succ, i64_w, i32_w]
                  rfl
                refine pure_ (i := 17) (N := some 39) (v := undef) (a' := ?_) #[true, true, true, true, true, true, true, true, true, true, true, true, true, true, true, true, true, true, false, false, false, false] rfl rfl (any_of HT_.out (by kernel_rfl)) (fun _ _ _ h => h) (Or.inr ⟨by rfl, rfl⟩) ?_ ?_
                rotate_left
                · simp only [Act.put, List.setIfInBounds_toArray, List.set_cons_zero, List.set_cons_succ, i64_w, i32_w]
                  rfl
                refine pure_ (i := 18) (N := some 40) (v := undef) (a' := ?_) #[true, true, true, true, true, true, true, true, true, true, true, true, true, true, true, true, true, true, true, false, false, false] rfl rfl (any_of HT_.out (by kernel_rfl)) (fun _ _ _ h => h) (Or.inr ⟨by rfl, rfl⟩) ?_ ?_
                rotate_left
                · simp only [Act.put, List.setIfInBounds_toArray, List.set_cons_zero, List.set_cons_succ, i64_w, i32_w]
                  rfl
                refine pure_ (i := 19) (N := some 41) (v := undef) (a' := ?_) #[true, true, true, true, true, true, true, true, true, true, true, true, true, true, true, true, true, true, true, true, false, false] rfl rfl (any_of HT_.out (by kernel_rfl)) (fun _ _ _ h => h) (Or.inr ⟨by rfl, rfl⟩) ?_ ?_
                rotate_left
                · simp only [Act.put, List.setIfInBounds_toArray, List.set_cons_zero, List.set_cons_succ, i64_w, i32_w]
                  rfl
                refine pure_ (i := 20) (N := some 42) (v := undef) (a' := ?_) #[true, true, true, true, true, true, true, true, true, true, true, true, true, true, true, true, true, true, true, true, true, false] rfl rfl (any_of HT_.out (by kernel_rfl)) (fun _ _ _ h => h) (Or.inr ⟨by rfl, rfl⟩) ?_ ?_
                rotate_left
                · simp only [Act.put, List.setIfInBounds_toArray, List.set_cons_zero, List.set_cons_succ, i64_w, i32_w]
                  rfl
                refine pure_ (i := 21) (N := some 43) (v := ?_) (a' := ?_) #[true, true, true, true, true, true, true, true, true, true, true, true, true, true, true, true, true, true, true, true, true, true] rfl rfl (any_of HT_.out (by kernel_rfl)) (fun _ _ _ h => h) (Or.inl ⟨by rfl, ?_⟩) ?_ ?_
                rotate_left
                · intro w'
                  go_simp
                  with_reducible rfl
                rotate_left
                · simp only [Act.put, List.setIfInBounds_toArray, List.set_cons_zero, List.set_cons_succ, i64_w, i32_w]
                  rfl
                refine done_ (done_of HT_.out (by kernel_rfl)) ?_
                try go_wp2
                go_ret
                exact ⟨by first | rfl | (simp [errW_none, errW_some] <;> rfl) | (simp [*, errW_none, errW_some] <;> rfl), by repeat (first | (with_reducible first | exact HB.out | apply below_alloc | apply pw_below_drewN | apply below_drew1 | refine below_set ?_ GE212.out) | exact HB.out)⟩
              · rw [if_neg c10] at H
                have c10b0 : decide ((l1.length : Int) ≤ x9_1) = false := decide_eq_false c10
                clear c10
                by_cases c15 : 0 ≤ x9_1
                · rw [if_pos c15] at H
                  have c15b0 : decide (0 ≤ x9_1) = true := decide_eq_true c15
                  clear c15
                  by_cases c16 : x9_1 < (l1.length : Int)
                  · rw [if_pos c16] at H
                    have c16b0 : decide (x9_1 < (l1.length : Int)) = true := decide_eq_true c16
                    clear c16
                    replace H := Option.bind_eq_some_iff.mp H
                    obtain ⟨t214, A170, H⟩ := H
                    replace H : (if t214 = true then ((spec_begins.f x2_1 (rdOf ByteArray.empty l1 x9_1)).bind fun t216 => (if t216 = true then (if 0 ≤ ((rdOf ByteArray.empty l1 x9_1).size : Int) then (if ((rdOf ByteArray.empty l1 x9_1).size : Int) ≤ (x2_1.size : Int) then (spec_Holds.l0 k1 l0 l1 (x2_1.extract (((rdOf ByteArray.empty l1 x9_1).size : Int) : Int).toNat x2_1.size) a3 (wrap64 (x9_1 + 1)) l0 (l0.length : Int) (wrap64 (x15_1 + 1))) else (none)) else (none)) else (some false))) else (some false)) = some r := H
                    have A17 := Aside0.mk A170
                    clear A170
                    by_cases c18 : t214 = true
                    · subst c18
                      have H1 : ((spec_begins.f x2_1 (rdOf ByteArray.empty l1 x9_1)).bind fun t216 => (if t216 = true then (if 0 ≤ ((rdOf ByteArray.empty l1 x9_1).size : Int) then (if ((rdOf ByteArray.empty l1 x9_1).size : Int) ≤ (x2_1.size : Int) then (spec_Holds.l0 k1 l0 l1 (x2_1.extract (((rdOf ByteArray.empty l1 x9_1).size : Int) : Int).toNat x2_1.size) a3 (wrap64 (x9_1 + 1)) l0 (l0.length : Int) (wrap64 (x15_1 + 1))) else (none)) else (none)) else (some false))) = some r := by rw [if_pos rfl] at H; exact H
                      clear H
                      have H := H1
                      clear H1
                      replace H := Option.bind_eq_some_iff.mp H
                      obtain ⟨t216, A190, H⟩ := H
                      replace H : (if t216 = true then (if 0 ≤ ((rdOf ByteArray.empty l1 x9_1).size : Int) then (if ((rdOf ByteArray.empty l1 x9_1).size : Int) ≤ (x2_1.size : Int) then (spec_Holds.l0 k1 l0 l1 (x2_1.extract (((rdOf ByteArray.empty l1 x9_1).size : Int) : Int).toNat x2_1.size) a3 (wrap64 (x9_1 + 1)) l0 (l0.length : Int) (wrap64 (x15_1 + 1))) else (none)) else (none)) else (some false)) = some r := H
                      have A19 := Aside0.mk A190
                      clear A190
                      by_cases c20 : t216 = true
                      · subst c20
                        have H1 : (if 0 ≤ ((rdOf ByteArray.empty l1 x9_1).size : Int) then (if ((rdOf ByteArray.empty l1 x9_1).size : Int) ≤ (x2_1.size : Int) then (spec_Holds.l0 k1 l0 l1 (x2_1.extract (((rdOf ByteArray.empty l1 x9_1).size : Int) : Int).toNat x2_1.size) a3 (wrap64 (x9_1 + 1)) l0 (l0.length : Int) (wrap64 (x15_1 + 1))) else (none)) else (none)) = some r := by rw [if_pos rfl] at H; exact H
                        clear H
                        have H := H1
                        clear H1
                        by_cases c21 : 0 ≤ ((rdOf ByteArray.empty l1 x9_1).size : Int)
                        · rw [if_pos c21] at H
                          have c21b0 := eq_true c21
                          have c21b1 : decide (0 ≤ ((rdOf ByteArray.empty l1 x9_1).size : Int)) = true := decide_eq_true c21
                          clear c21
                          by_cases c22 : ((rdOf ByteArray.empty l1 x9_1).size : Int) ≤ (x2_1.size : Int)
                          · rw [if_pos c22] at H
                            have c22b0 := eq_true c22
                            have c22b1 : decide (((rdOf ByteArray.empty l1 x9_1).size : Int) ≤ (x2_1.size : Int)) = true := decide_eq_true c22
                            clear c22
                            have H' := Aside0.mk H
                            clear H
                            have p211 : 0 ≤ (x15_1 : Int) := of_decide_eq_true (by first | (with_reducible assumption) | assumption)
                            have q211 : x15_1 < (l0.length : Int) := of_decide_eq_true (by first | (with_reducible assumption) | assumption)
                            obtain ⟨ad211, A211_5, c211_5, e211, hx211_0, hx211_1, hx211_2, hx211_3, hx211_4, hx211_5, hl211_5, hi211_5⟩ := at_T42 HR0.out x15_1 p211 q211
                            (try rw [← Nbq8.out] at hx211_2)
                            (try rw [← Nbq8.out] at hx211_3)
                            (try rw [← Nbq8.out] at hx211_4)
                            cases e211
                            replace hx211_0 := (HB.out.cell (World.block_lt_of_cell? w _ hx211_0)).trans hx211_0
                            replace hx211_1 := (HB.out.cell (World.block_lt_of_cell? w _ hx211_1)).trans hx211_1
                            replace hx211_2 := (HB.out.cell (World.block_lt_of_cell? w _ hx211_2)).trans hx211_2
                            replace hx211_3 := (HB.out.cell (World.block_lt_of_cell? w _ hx211_3)).trans hx211_3
                            replace hx211_4 := (HB.out.cell (World.block_lt_of_cell? w _ hx211_4)).trans hx211_4
                            replace hx211_5 := (HB.out.cell (World.block_lt_of_cell? w _ hx211_5)).trans hx211_5
                            have HR211_5 := Aside0.mk hi211_5
                            have HC211_5 := Aside0.mk hl211_5
                            clear hi211_5 hl211_5
                            replace p211 := eq_true p211
                            replace q211 := eq_true q211
                            try go_wp2_with (first | ((with_reducible refine gate_dst (N := 11) rfl ?_); (try (refine gate_guard (by rfl) ?_; dsimp only)); refine box_event ?hg (N := 11) ?hd (cs := #[.string (⟨#[]⟩ : ByteArray), .string (⟨#[]⟩ : ByteArray), .bool false, .bool false, .bool false, .slice none 0 0]) (t := 42) ?hr ?_; (case hd => rfl); (case hg => rfl); (case hr => first | (go_simp; done) | (go_simp; rfl)); intro gb212 hg w23 hbox hb; have n0_ := Aside0.mk (below_step (by repeat (first | (with_reducible first | exact HB.out | apply below_alloc | apply pw_below_drewN | apply below_drew1) | exact HB.out)) hb); have n1_ := Aside0.mk (hbox); have n2_ := Aside0.mk ((by rw [hg]; exact (below_size (by repeat (first | (with_reducible first | exact HB.out | apply below_alloc | apply pw_below_drewN | apply below_drew1) | exact HB.out))) : w.heap.size ≤ gb212)); have n3_ := Aside0.mk ((by rw [hg]; exact (below_size (by repeat (first | (with_reducible first | exact HB.out | apply below_alloc | apply pw_below_drewN | apply below_drew1) | exact HB.out))) : w.heap.size ≤ gb212)); clear HB; have HB := n0_; have BK212 := n1_; have GW212 := n2_; have GE212 := n3_; clear n0_ n1_ n2_ n3_; clear hb hbox hg; have hcz24_0 : w23.cell? ⟨gb212, 0, none⟩ = some (.string (⟨#[]⟩ : ByteArray)) := (blk_cell BK212.out 0).trans rfl; have hcz24_1 : w23.cell? ⟨gb212, 1, none⟩ = some (.string (⟨#[]⟩ : ByteArray)) := (blk_cell BK212.out 1).trans rfl; have hcz24_2 : w23.cell? ⟨gb212, 2, none⟩ = some (.bool false) := (blk_cell BK212.out 2).trans rfl; have hcz24_3 : w23.cell? ⟨gb212, 3, none⟩ = some (.bool false) := (blk_cell BK212.out 3).trans rfl; have hcz24_4 : w23.cell? ⟨gb212, 4, none⟩ = some (.bool false) := (blk_cell BK212.out 4).trans rfl; have hcz24_5 : w23.cell? ⟨gb212, 5, none⟩ = some (.slice none 0 0) := (blk_cell BK212.out 5).trans rfl; have hfz24_0 := blk_frozen BK212.out 0; have hfz24_1 := blk_frozen BK212.out 1; have hfz24_2 := blk_frozen BK212.out 2; have hfz24_3 := blk_frozen BK212.out 3; have hfz24_4 := blk_frozen BK212.out 4; have hfz24_5 := blk_frozen BK212.out 5))
                            have n0_ : Aside0 (((((((w23.setCell ⟨gb212, 0, none⟩ (.string ((rd_T42 l0 x15_1).f0))).setCell ⟨gb212, 1, none⟩ (.string ((rd_T42 l0 x15_1).f1))).setCell ⟨gb212, 2, none⟩ (.bool true)).setCell ⟨gb212, 3, none⟩ (.bool ((rd_T42 l0 x15_1).f3))).setCell ⟨gb212, 4, none⟩ (.bool ((rd_T42 l0 x15_1).f4))).setCell ⟨gb212, 5, none⟩ (.slice A211_5 ((rd_T42 l0 x15_1).f5).length c211_5)).heap[gb212]? = some (.cells #[.string ((rd_T42 l0 x15_1).f0), .string ((rd_T42 l0 x15_1).f1), .bool true, .bool ((rd_T42 l0 x15_1).f3), .bool ((rd_T42 l0 x15_1).f4), .slice A211_5 ((rd_T42 l0 x15_1).f5).length c211_5] 42 (0, 0))) := ⟨by (with_reducible repeat (first | refine blk_drewN ?_ _ | refine blk_drew ?_ | refine blk_alloc ?_ _)); refine blk_put (cs := #[.string ((rd_T42 l0 x15_1).f0), .string ((rd_T42 l0 x15_1).f1), .bool true, .bool ((rd_T42 l0 x15_1).f3), .bool ((rd_T42 l0 x15_1).f4), .slice none 0 0]) ?_ 5 _ rfl; (with_reducible repeat (first | refine blk_drewN ?_ _ | refine blk_drew ?_ | refine blk_alloc ?_ _)); refine blk_put (cs := #[.string ((rd_T42 l0 x15_1).f0), .string ((rd_T42 l0 x15_1).f1), .bool true, .bool ((rd_T42 l0 x15_1).f3), .bool false, .slice none 0 0]) ?_ 4 _ rfl; (with_reducible repeat (first | refine blk_drewN ?_ _ | refine blk_drew ?_ | refine blk_alloc ?_ _)); refine blk_put (cs := #[.string ((rd_T42 l0 x15_1).f0), .string ((rd_T42 l0 x15_1).f1), .bool true, .bool false, .bool false, .slice none 0 0]) ?_ 3 _ rfl; (with_reducible repeat (first | refine blk_drewN ?_ _ | refine blk_drew ?_ | refine blk_alloc ?_ _)); refine blk_put (cs := #[.string ((rd_T42 l0 x15_1).f0), .string ((rd_T42 l0 x15_1).f1), .bool false, .bool false, .bool false, .slice none 0 0]) ?_ 2 _ rfl; (with_reducible repeat (first | refine blk_drewN ?_ _ | refine blk_drew ?_ | refine blk_alloc ?_ _)); refine blk_put (cs := #[.string ((rd_T42 l0 x15_1).f0), .string (⟨#[]⟩ : ByteArray), .bool false, .bool false, .bool false, .slice none 0 0]) ?_ 1 _ rfl; (with_reducible repeat (first | refine blk_drewN ?_ _ | refine blk_drew ?_ | refine blk_alloc ?_ _)); refine blk_put (cs := #[.string (⟨#[]⟩ : ByteArray), .string (⟨#[]⟩ : ByteArray), .bool false, .bool false, .bool false, .slice none 0 0]) ?_ 0 _ rfl; (with_reducible repeat (first | refine blk_drewN ?_ _ | refine blk_drew ?_ | refine blk_alloc ?_ _)); exact BK212.out⟩
                            have n1_ : Aside0 (Below w.heap.size w ((((((w23.setCell ⟨gb212, 0, none⟩ (.string ((rd_T42 l0 x15_1).f0))).setCell ⟨gb212, 1, none⟩ (.string ((rd_T42 l0 x15_1).f1))).setCell ⟨gb212, 2, none⟩ (.bool true)).setCell ⟨gb212, 3, none⟩ (.bool ((rd_T42 l0 x15_1).f3))).setCell ⟨gb212, 4, none⟩ (.bool ((rd_T42 l0 x15_1).f4))).setCell ⟨gb212, 5, none⟩ (.slice A211_5 ((rd_T42 l0 x15_1).f5).length c211_5))) := ⟨by repeat (first | (with_reducible first | exact HB.out | apply below_alloc | apply pw_below_drewN | apply below_drew1 | refine below_set ?_ GE212.out) | exact HB.out)⟩
                            (try clear BK212)
                            (try clear HB)
                            generalize ((((((w23.setCell ⟨gb212, 0, none⟩ (.string ((rd_T42 l0 x15_1).f0))).setCell ⟨gb212, 1, none⟩ (.string ((rd_T42 l0 x15_1).f1))).setCell ⟨gb212, 2, none⟩ (.bool true)).setCell ⟨gb212, 3, none⟩ (.bool ((rd_T42 l0 x15_1).f3))).setCell ⟨gb212, 4, none⟩ (.bool ((rd_T42 l0 x15_1).f4))).setCell ⟨gb212, 5, none⟩ (.slice A211_5 ((rd_T42 l0 x15_1).f5).length c211_5)) = w25 at n0_ n1_ ⊢
                            have BK212 := n0_
                            have HB := n1_
                            clear n0_ n1_
                            have n0_ := Aside0.mk (blk_drew BK212.out)
                            have n1_ := Aside0.mk (below_drew1 HB.out)
                            clear BK212
                            clear HB
                            have BK212 := n0_
                            have HB := n1_
                            clear n0_ n1_
                            have p213 : 0 ≤ (x9_1 : Int) := of_decide_eq_true (by first | (with_reducible assumption) | assumption)
                            have q213 : x9_1 < (l1.length : Int) := of_decide_eq_true (by first | (with_reducible assumption) | assumption)
                            obtain ⟨ad213, e213, hx213_0⟩ := Kd.at_string HR1.out x9_1 p213 q213
                            have hw213_0 := hx213_0
                            cases e213
                            replace hx213_0 := (HB.out.cell (World.block_lt_of_cell? w _ hx213_0)).trans hx213_0
                            replace p213 := eq_true p213
                            replace q213 := eq_true q213
                            have p215 : 0 ≤ (x9_1 : Int) := of_decide_eq_true (by first | (with_reducible assumption) | assumption)
                            have q215 : x9_1 < (l1.length : Int) := of_decide_eq_true (by first | (with_reducible assumption) | assumption)
                            obtain ⟨ad215, e215, hx215_0⟩ := Kd.at_string HR1.out x9_1 p215 q215
                            have hw215_0 := hx215_0
                            obtain rfl : ad213 = ad215 := (by injection e215)
                            replace hx215_0 := (HB.out.cell (World.block_lt_of_cell? w _ hx215_0)).trans hx215_0
                            replace p215 := eq_true p215
                            replace q215 := eq_true q215
                            refine start_ (n := 22) (S := fun w' => w'.cell? ⟨gb212, 0, none⟩ = some (.string ((rd_T42 l0 x15_1).f0)) ∧ w'.cell? ⟨gb212, 1, none⟩ = some (.string ((rd_T42 l0 x15_1).f1)) ∧ w'.cell? ⟨gb212, 2, none⟩ = some (.bool true) ∧ w'.cell? ⟨gb212, 3, none⟩ = some (.bool ((rd_T42 l0 x15_1).f3)) ∧ w'.cell? ⟨gb212, 4, none⟩ = some (.bool ((rd_T42 l0 x15_1).f4)) ∧ w'.cell? ⟨gb212, 5, none⟩ = some (.slice A211_5 ((rd_T42 l0 x15_1).f5).length c211_5) ∧ w'.cell? (ad213.add (x9_1).toNat) = some (.string (rdOf ByteArray.empty l1 x9_1)) ∧ w'.cell? (ad213.add (x9_1).toNat) = some (.string (rdOf ByteArray.empty l1 x9_1))) (ds := []) #[false, false, false, false, false, false, false, false, false, false, false, false, false, false, false, false, false, false, false, false, false, false] (by kernel_rfl) rfl rfl ⟨(blk_cell BK212.out 0).trans rfl, (blk_cell BK212.out 1).trans rfl, (blk_cell BK212.out 2).trans rfl, (blk_cell BK212.out 3).trans rfl, (blk_cell BK212.out 4).trans rfl, (blk_cell BK212.out 5).trans rfl, ((HB.out.cell (World.block_lt_of_cell? w _ hw213_0)).trans hw213_0), ((HB.out.cell (World.block_lt_of_cell? w _ hw215_0)).trans hw215_0)⟩ (fun hHeld => ?_); refine with_tabW spec_Holds.tab6 spec_Holds.bits6 (fun HT_ HW_ => ?_)
                            generalize w25.drew = w26 at BK212 HB hx213_0 hx215_0 hHeld ⊢
                            refine pure_ (i := 0) (N := some 22) (v := ?_) (a' := ?_) #[true, false, false, false, false, false, false, false, false, false, false, false, false, false, false, false, false, false, false, false, false, false] rfl rfl (any_of HT_.out (by kernel_rfl)) (fun _ _ _ h => h) (Or.inl ⟨by rfl, ?_⟩) ?_ ?_
                            rotate_left
                            · intro w'
                              go_simp
                              with_reducible rfl
                            rotate_left
                            · simp only [Act.put, List.setIfInBounds_toArray, List.set_cons_zero, List.set_cons_succ, i64_w, i32_w]
                              rfl
                            refine pure_ (i := 1) (N := some 23) (v := ?_) (a' := ?_) #[true, true, false, false, false, false, false, false, false, false, false, false, false, false, false, false, false, false, false, false, false, false] rfl rfl (any_of HT_.out (by kernel_rfl)) (fun _ _ _ h => h) (Or.inl ⟨by rfl, ?_⟩) ?_ ?_
                            rotate_left
                            · intro w'
                              go_simp
                              with_reducible rfl
                            rotate_left
                            · simp only [Act.put, List.setIfInBounds_toArray, List.set_cons_zero, List.set_cons_succ, i64_w, i32_w]
                              rfl
                            refine pure_ (i := 2) (N := some 24) (v := ?_) (a' := ?_) #[true, true, true, false, false, false, false, false, false, false, false, false, false, false, false, false, false, false, false, false, false, false] rfl rfl (any_of HT_.out (by kernel_rfl)) (fun _ _ _ h => h) (Or.inl ⟨by rfl, ?_⟩) ?_ ?_
                            rotate_left
                            · intro w'
                              go_simp
                              with_reducible rfl
                            rotate_left
                            · simp only [Act.put, List.setIfInBounds_toArray, List.set_cons_zero, List.set_cons_succ, i64_w, i32_w]
                              rfl
                            refine pure_ (i := 3) (N := some 25) (v := ?_) (a' := ?_) #[true, true, true, true, false, false, false, false, false, false, false, false, false, false, false, false, false, false, false, false, false, false] rfl rfl (any_of HT_.out (by kernel_rfl)) (fun _ _ _ h => h) (Or.inl ⟨by rfl, ?_⟩) ?_ ?_
                            rotate_left
                            · intro w'
                              go_simp
                              with_reducible rfl
                            rotate_left
                            · simp only [Act.put, List.setIfInBounds_toArray, List.set_cons_zero, List.set_cons_succ, i64_w, i32_w]
                              rfl
                            refine pure_ (i := 4) (N := some 26) (v := ?_) (a' := ?_) #[true, true, true, true, true, false, false, false, false, false, false, false, false, false, false, false, false, false, false, false, false, false] rfl rfl (any_of HT_.out (by kernel_rfl)) (fun _ _ _ h => h) (Or.inl ⟨by rfl, ?_⟩) ?_ ?_
                            rotate_left
                            · intro w'
                              go_simp
                              with_reducible rfl
                            rotate_left
                            · simp only [Act.put, List.setIfInBounds_toArray, List.set_cons_zero, List.set_cons_succ, i64_w, i32_w]
                              rfl
                            refine pure_ (i := 6) (N := some 28) (v := ?_) (a' := ?_) #[true, true, true, true, true, false, true, false, false, false, false, false, false, false, false, false, false, false, false, false, false, false] rfl rfl (any_of HT_.out (by kernel_rfl)) (fun _ _ _ h => h) (Or.inl ⟨by rfl, ?_⟩) ?_ ?_
                            rotate_left
                            · intro w'
                              go_simp
                              with_reducible rfl
                            rotate_left
                            · simp only [Act.put, List.setIfInBounds_toArray, List.set_cons_zero, List.set_cons_succ, i64_w, i32_w]
                              rfl
                            refine pure_ (i := 7) (N := some 29) (v := ?_) (a' := ?_) #[true, true, true, true, true, false, true, true, false, false, false, false, false, false, false, false, false, false, false, false, false, false] rfl rfl (any_of HT_.out (by kernel_rfl)) (fun _ _ _ h => h) (Or.inl ⟨by rfl, ?_⟩) ?_ ?_
                            rotate_left
                            · intro w'
                              go_simp
                              with_reducible rfl
                            rotate_left
                            · simp only [Act.put, List.setIfInBounds_toArray, List.set_cons_zero, List.set_cons_succ, i64_w, i32_w]
                              rfl
                            refine pure_ (i := 8) (N := some 30) (v := ?_) (a' := ?_) #[true, true, true, true, true, false, true, true, true, false, false, false, false, false, false, false, false, false, false, false, false, false] rfl rfl (any_of HT_.out (by kernel_rfl)) (fun _ _ _ h => h) (Or.inl ⟨by rfl, ?_⟩) ?_ ?_
                            rotate_left
                            · intro w'
                              go_simp
                              with_reducible rfl
                            rotate_left
                            · simp only [Act.put, List.setIfInBounds_toArray, List.set_cons_zero, List.set_cons_succ, i64_w, i32_w]
                              rfl
                            refine take_ (i := 5) (N := some 27) (v := ?_) (a' := ?_) #[true, true, true, true, true, true, true, true, true, false, false, false, false, false, false, false, false, false, false, false, false, false] rfl rfl (take_ofW HT_.out HW_.out (by kernel_rfl)) (fun _ _ _ h => h) (Or.inl ⟨by rfl, ?_⟩) hHeld ?_ ?_
                            rotate_left
                            · rintro w' ⟨s0, s1, s2, s3, s4, s5, s6, s7⟩
                              go_simp
                              with_reducible rfl
                            rotate_left
                            · simp only [Act.put, List.setIfInBounds_toArray, List.set_cons_zero, List.set_cons_succ, i64_w, i32_w]
                              rfl
                            refine take_ (i := 9) (N := some 31) (v := ?_) (a' := ?_) #[true, true, true, true, true, true, true, true, true, true, false, false, false, false, false, false, false, false, false, false, false, false] rfl rfl (take_ofW HT_.out HW_.out (by kernel_rfl)) (fun _ _ _ h => h) (Or.inl ⟨by rfl, ?_⟩) hHeld ?_ ?_
                            rotate_left
                            · rintro w' ⟨s0, s1, s2, s3, s4, s5, s6, s7⟩
                              go_simp
                              with_reducible rfl
                            rotate_left
                            · simp only [Act.put, List.setIfInBounds_toArray, List.set_cons_zero, List.set_cons_succ, i64_w, i32_w]
                              rfl
                            refine one_ (i := 10) (N := some 32) #[true, true, true, true, true, true, true, true, true, true, true, false, false, false, false, false, false, false, false, false, false, false] rfl rfl (one_of HT_.out (by kernel_rfl)) (by decide) (fun K hK => ?_)
                            refine goes_ Tryz.func25 (by kernel_rfl) rfl #[.agg #[.string ((rd_T42 l0 x15_1).f0), .string ((rd_T42 l0 x15_1).f1), .bool true, .bool ((rd_T42 l0 x15_1).f3), .bool ((rd_T42 l0 x15_1).f4), .slice A211_5 ((rd_T42 l0 x15_1).f5).length c211_5], .string (rdOf ByteArray.empty l1 x9_1)] (by rfl) rfl rfl (by (try simp only [List.map_toArray, List.map_cons, List.map_nil]); first | done | rfl | (simp only [List.length_drop, List.length_take]; rfl)) ?_
                            with_reducible refine (spec_within.calls k1 ((rd_T42 l0 x15_1).f0) ((rd_T42 l0 x15_1).f1) true ((rd_T42 l0 x15_1).f3) ((rd_T42 l0 x15_1).f4) _ _ ((rd_T42 l0 x15_1).f5) (rdOf ByteArray.empty l1 x9_1) true _ ?side1 ?side2 A17.out).mono ?_
                            (case side1 => repeat (first | exact (Kd.C_below HR211_5.out HB.out) | (with_reducible refine Kd.C_alloc ?_ _) | (with_reducible refine Kd.C_drewN ?_ _) | (with_reducible refine Kd.C_drew ?_)))
                            (case side2 => exact HC211_5.out)
                            rintro e w27 ⟨rfl, hb⟩
                            refine ⟨_, rfl, ?_⟩
                            have n0_ := Aside0.mk (blk_below (g := gb212) (o := .cells #[.string ((rd_T42 l0 x15_1).f0), .string ((rd_T42 l0 x15_1).f1), .bool true, .bool ((rd_T42 l0 x15_1).f3), .bool ((rd_T42 l0 x15_1).f4), .slice A211_5 ((rd_T42 l0 x15_1).f5).length c211_5] 42 (0, 0)) (by (with_reducible repeat (first | refine blk_drewN ?_ _ | refine blk_drew ?_ | refine blk_alloc ?_ _)); exact BK212.out) hb)
                            have n1_ := Aside0.mk (below_step (by repeat (first | (with_reducible first | exact HB.out | apply below_alloc | apply pw_below_drewN | apply below_drew1 | refine below_set ?_ GE212.out) | exact HB.out)) hb)
                            clear BK212
                            clear HB
                            have BK212 := n0_
                            have HB := n1_
                            clear n0_ n1_
                            (try clear hb)
                            (try clear hb2)
                            (try clear hk)
                            (try clear hi)
                            refine hK.out _ _ ⟨(blk_cell BK212.out 0).trans rfl, (blk_cell BK212.out 1).trans rfl, (blk_cell BK212.out 2).trans rfl, (blk_cell BK212.out 3).trans rfl, (blk_cell BK212.out 4).trans rfl, (blk_cell BK212.out 5).trans rfl, ((HB.out.cell (World.block_lt_of_cell? w _ hw213_0)).trans hw213_0), ((HB.out.cell (World.block_lt_of_cell? w _ hw215_0)).trans hw215_0)⟩ (fun hHeld => ?_)
                            clear hK K
                            refine norm_ (a' := ?_) ?_ ?_
                            rotate_left
                            · show Act.put _ (some 32) _ = _
                              simp only [Act.put, List.setIfInBounds_toArray, List.set_cons_zero, List.set_cons_succ, i64_w, i32_w]
                              rfl
                            refine pure_ (i := 11) (N := some 33) (v := ?_) (a' := ?_) #[true, true, true, true, true, true, true, true, true, true, true, true, false, false, false, false, false, false, false, false, false, false] rfl rfl (any_of HT_.out (by kernel_rfl)) (fun _ _ _ h => h) (Or.inl ⟨by rfl, ?_⟩) ?_ ?_
                            rotate_left
                            · intro w'
                              go_simp
                              with_reducible rfl
                            rotate_left
                            · simp only [Act.put, List.setIfInBounds_toArray, List.set_cons_zero, List.set_cons_succ, i64_w, i32_w]
                              rfl
                            refine pure_ (i := 12) (N := some 34) (v := ?_) (a' := ?_) #[true, true, true, true, true, true, true, true, true, true, true, true, true, false, false, false, false, false, false, false, false, false] rfl rfl (any_of HT_.out (by kernel_rfl)) (fun _ _ _ h => h) (Or.inl ⟨by rfl, ?_⟩) ?_ ?_
                            rotate_left
                            · intro w'
                              go_simp
                              with_reducible rfl
                            rotate_left
                            · simp only [Act.put, List.setIfInBounds_toArray, List.set_cons_zero, List.set_cons_succ, i64_w, i32_w]
                              rfl
                            refine pure_ (i := 13) (N := some 35) (v := ?_) (a' := ?_) #[true, true, true, true, true, true, true, true, true, true, true, true, true, true, false, false, false, false, false, false, false, false] rfl rfl (any_of HT_.out (by kernel_rfl)) (fun _ _ _ h => h) (Or.inl ⟨by rfl, ?_⟩) ?_ ?_
                            rotate_left
                            · intro w'
                              go_simp
                              with_reducible rfl
                            rotate_left
                            · simp only [Act.put, List.setIfInBounds_toArray, List.set_cons_zero, List.set_cons_succ, i64_w, i32_w]
                              rfl
                            refine pure_ (i := 14) (N := some 36) (v := ?_) (a' := ?_) #[true, true, true, true, true, true, true, true, true, true, true, true, true, true, true, false, false, false, false, false, false, false] rfl rfl (any_of HT_.out (by kernel_rfl)) (fun _ _ _ h => h) (Or.inl ⟨by rfl, ?_⟩) ?_ ?_
                            rotate_left
                            · intro w'
                              go_simp
                              with_reducible rfl
                            rotate_left
                            · simp only [Act.put, List.setIfInBounds_toArray, List.set_cons_zero, List.set_cons_succ, i64_w, i32_w]
                              rfl
                            refine pure_ (i := 15) (N := some 37) (v := ?_) (a' := ?_) #[true, true, true, true, true, true, true, true, true, true, true, true, true, true, true, true, false, false, false, false, false, false] rfl rfl (any_of HT_.out (by kernel_rfl)) (fun _ _ _ h => h) (Or.inl ⟨by rfl, ?_⟩) ?_ ?_
                            rotate_left
                            · intro w'
                              go_simp
                              with_reducible rfl
                            rotate_left
                            · simp only [Act.put, List.setIfInBounds_toArray, List.set_cons_zero, List.set_cons_succ, i64_w, i32_w]
                              rfl
                            refine pure_ (i := 16) (N := some 38) (v := ?_) (a' := ?_) #[true, true, true, true, true, true, true, true, true, true, true, true, true, true, true, true, true, false, false, false, false, false] rfl rfl (any_of HT_.out (by kernel_rfl)) (fun _ _ _ h => h) (Or.inl ⟨by rfl, ?_⟩) ?_ ?_
                            rotate_left
                            · intro w'
                              go_simp
                              with_reducible rfl
                            rotate_left
                            · simp only [Act.put, List.setIfInBounds_toArray, List.set_cons_zero, List.set_cons_succ, i64_w, i32_w]
                              rfl
                            refine pure_ (i := 17) (N := some 39) (v := ?_) (a' := ?_) #[true, true, true, true, true, true, true, true, true, true, true, true, true, true, true, true, true, true, false, false, false, false] rfl rfl (any_of HT_.out (by kernel_rfl)) (fun _ _ _ h => h) (Or.inl ⟨by rfl, ?_⟩) ?_ ?_
                            rotate_left
                            · intro w'
                              go_simp
                              with_reducible rfl
                            rotate_left
                            · simp only [Act.put, List.setIfInBounds_toArray, List.set_cons_zero, List.set_cons_succ, i64_w, i32_w]
                              rfl
                            refine take_ (i := 18) (N := some 40) (v := ?_) (a' := ?_) #[true, true, true, true, true, true, true, true, true, true, true, true, true, true, true, true, true, true, true, false, false, false] rfl rfl (take_ofW HT_.out HW_.out (by kernel_rfl)) (fun _ _ _ h => h) (Or.inl ⟨by rfl, ?_⟩) hHeld ?_ ?_
                            rotate_left
                            · rintro w' ⟨s0, s1, s2, s3, s4, s5, s6, s7⟩
                              go_simp
                              with_reducible rfl
                            rotate_left
                            · simp only [Act.put, List.setIfInBounds_toArray, List.set_cons_zero, List.set_cons_succ, i64_w, i32_w]
                              rfl
                            refine one_ (i := 19) (N := some 41) #[true, true, true, true, true, true, true, true, true, true, true, true, true, true, true, true, true, true, true, true, false, false] rfl rfl (one_of HT_.out (by kernel_rfl)) (by decide) (fun K hK => ?_)
                            refine goes_ Tryz.func19 (by kernel_rfl) rfl #[.string x2_1, .string (rdOf ByteArray.empty l1 x9_1)] (by rfl) rfl rfl (by (try simp only [List.map_toArray, List.map_cons, List.map_nil]); first | done | rfl | (simp only [List.length_drop, List.length_take]; rfl)) ?_
                            with_reducible refine (spec_begins.calls x2_1 (rdOf ByteArray.empty l1 x9_1) true _ A19.out).mono ?_
                            rintro e w' ⟨rfl, ⟨nd, rfl⟩⟩
                            refine ⟨_, rfl, ?_⟩
                            refine hK.out _ _ ⟨(blk_cell BK212.out 0).trans rfl, (blk_cell BK212.out 1).trans rfl, (blk_cell BK212.out 2).trans rfl, (blk_cell BK212.out 3).trans rfl, (blk_cell BK212.out 4).trans rfl, (blk_cell BK212.out 5).trans rfl, ((HB.out.cell (World.block_lt_of_cell? w _ hw213_0)).trans hw213_0), ((HB.out.cell (World.block_lt_of_cell? w _ hw215_0)).trans hw215_0)⟩ (fun hHeld => ?_)
                            clear hK K
                            refine norm_ (a' := ?_) ?_ ?_
                            rotate_left
                            · show Act.put _ (some 41) _ = _
                              simp only [Act.put, List.setIfInBounds_toArray, List.set_cons_zero, List.set_cons_succ, i64_w, i32_w]
                              rfl
                            refine pure_ (i := 20) (N := some 42) (v := ?_) (a' := ?_) #[true, true, true, true, true, true, true, true, true, true, true, true, true, true, true, true, true, true, true, true, true, false] rfl rfl (any_of HT_.out (by kernel_rfl)) (fun _ _ _ h => h) (Or.inl ⟨by rfl, ?_⟩) ?_ ?_
                            rotate_left
                            · intro w'
                              go_simp
                              with_reducible rfl
                            rotate_left
                            · simp only [Act.put, List.setIfInBounds_toArray, List.set_cons_zero, List.set_cons_succ, i64_w, i32_w]
                              rfl
                            refine pure_ (i := 21) (N := some 43) (v := ?_) (a' := ?_) #[true, true, true, true, true, true, true, true, true, true, true, true, true, true, true, true, true, true, true, true, true, true] rfl rfl (any_of HT_.out (by kernel_rfl)) (fun _ _ _ h => h) (Or.inl ⟨by rfl, ?_⟩) ?_ ?_
                            rotate_left
                            · intro w'
                              go_simp
                              with_reducible rfl
                            rotate_left
                            · simp only [Act.put, List.setIfInBounds_toArray, List.set_cons_zero, List.set_cons_succ, i64_w, i32_w]
                              rfl
                            refine done_ (done_of HT_.out (by kernel_rfl)) ?_
                            have p217 : 0 ≤ (x9_1 : Int) := of_decide_eq_true (by first | (with_reducible assumption) | assumption)
                            have q217 : x9_1 < (l1.length : Int) := of_decide_eq_true (by first | (with_reducible assumption) | assumption)
                            obtain ⟨ad217, e217, hx217_0⟩ := Kd.at_string HR1.out x9_1 p217 q217
                            obtain rfl : ad213 = ad217 := (by injection e217)
                            replace hx217_0 := (HB.out.cell (World.block_lt_of_cell? w _ hx217_0)).trans hx217_0
                            replace p217 := eq_true p217
                            replace q217 := eq_true q217
                            try go_wp2
                            go_roundg k1
                            case measure => have := HK1.out; omega
                            case rel => exact ⟨(x2_1.extract (((rdOf ByteArray.empty l1 x9_1).size : Int) : Int).toNat x2_1.size), (wrap64 (x9_1 + 1)), (wrap64 (x15_1 + 1)), (by first | rfl | (simp; done) | (simp [*]; done)), (by first | rfl | (simp; done) | (simp [*]; done)), (by first | rfl | (simp; done) | (simp [*]; done)), H', ⟨by have := HK1.out; omega⟩, ⟨by repeat (first | (with_reducible first | exact HB.out | apply below_alloc | apply pw_below_drewN | apply below_drew1 | refine below_set ?_ GE212.out) | exact HB.out)⟩⟩
                          · rw [if_neg c22] at H
                            exact absurd H (by simp)
                        · rw [if_neg c21] at H
                          exact absurd H (by simp)
                      · replace c20 := Bool.eq_false_iff.mpr c20
                        subst c20
                        have H1 : (some false) = some r := by rw [if_neg (show ¬ (false = true) by decide)] at H; exact H
                        clear H
                        have H := H1
                        clear H1
                        obtain rfl := Option.some.inj H
                        have p211 : 0 ≤ (x15_1 : Int) := of_decide_eq_true (by first | (with_reducible assumption) | assumption)
                        have q211 : x15_1 < (l0.length : Int) := of_decide_eq_true (by first | (with_reducible assumption) | assumption)
                        obtain ⟨ad211, A211_5, c211_5, e211, hx211_0, hx211_1, hx211_2, hx211_3, hx211_4, hx211_5, hl211_5, hi211_5⟩ := at_T42 HR0.out x15_1 p211 q211
                        (try rw [← Nbq8.out] at hx211_2)
                        (try rw [← Nbq8.out] at hx211_3)
                        (try rw [← Nbq8.out] at hx211_4)
                        cases e211
                        replace hx211_0 := (HB.out.cell (World.block_lt_of_cell? w _ hx211_0)).trans hx211_0
                        replace hx211_1 := (HB.out.cell (World.block_lt_of_cell? w _ hx211_1)).trans hx211_1
                        replace hx211_2 := (HB.out.cell (World.block_lt_of_cell? w _ hx211_2)).trans hx211_2
                        replace hx211_3 := (HB.out.cell (World.block_lt_of_cell? w _ hx211_3)).trans hx211_3
                        replace hx211_4 := (HB.out.cell (World.block_lt_of_cell? w _ hx211_4)).trans hx211_4
                        replace hx211_5 := (HB.out.cell (World.block_lt_of_cell? w _ hx211_5)).trans hx211_5
                        have HR211_5 := Aside0.mk hi211_5
                        have HC211_5 := Aside0.mk hl211_5
                        clear hi211_5 hl211_5
                        replace p211 := eq_true p211
                        replace q211 := eq_true q211
                        try go_wp2_with (first | ((with_reducible refine gate_dst (N := 11) rfl ?_); (try (refine gate_guard (by rfl) ?_; dsimp only)); refine box_event ?hg (N := 11) ?hd (cs := #[.string (⟨#[]⟩ : ByteArray), .string (⟨#[]⟩ : ByteArray), .bool false, .bool false, .bool false, .slice none 0 0]) (t := 42) ?hr ?_; (case hd => rfl); (case hg => rfl); (case hr => first | (go_simp; done) | (go_simp; rfl)); intro gb212 hg w28 hbox hb; have n0_ := Aside0.mk (below_step (by repeat (first | (with_reducible first | exact HB.out | apply below_alloc | apply pw_below_drewN | apply below_drew1) | exact HB.out)) hb); have n1_ := Aside0.mk (hbox); have n2_ := Aside0.mk ((by rw [hg]; exact (below_size (by repeat (first | (with_reducible first | exact HB.out | apply below_alloc | apply pw_below_drewN | apply below_drew1) | exact HB.out))) : w.heap.size ≤ gb212)); have n3_ := Aside0.mk ((by rw [hg]; exact (below_size (by repeat (first | (with_reducible first | exact HB.out | apply below_alloc | apply pw_below_drewN | apply below_drew1) | exact HB.out))) : w.heap.size ≤ gb212)); clear HB; have HB := n0_; have BK212 := n1_; have GW212 := n2_; have GE212 := n3_; clear n0_ n1_ n2_ n3_; clear hb hbox hg; have hcz29_0 : w28.cell? ⟨gb212, 0, none⟩ = some (.string (⟨#[]⟩ : ByteArray)) := (blk_cell BK212.out 0).trans rfl; have hcz29_1 : w28.cell? ⟨gb212, 1, none⟩ = some (.string (⟨#[]⟩ : ByteArray)) := (blk_cell BK212.out 1).trans rfl; have hcz29_2 : w28.cell? ⟨gb212, 2, none⟩ = some (.bool false) := (blk_cell BK212.out 2).trans rfl; have hcz29_3 : w28.cell? ⟨gb212, 3, none⟩ = some (.bool false) := (blk_cell BK212.out 3).trans rfl; have hcz29_4 : w28.cell? ⟨gb212, 4, none⟩ = some (.bool false) := (blk_cell BK212.out 4).trans rfl; have hcz29_5 : w28.cell? ⟨gb212, 5, none⟩ = some (.slice none 0 0) := (blk_cell BK212.out 5).trans rfl; have hfz29_0 := blk_frozen BK212.out 0; have hfz29_1 := blk_frozen BK212.out 1; have hfz29_2 := blk_frozen BK212.out 2; have hfz29_3 := blk_frozen BK212.out 3; have hfz29_4 := blk_frozen BK212.out 4; have hfz29_5 := blk_frozen BK212.out 5))
                        have n0_ : Aside0 (((((((w28.setCell ⟨gb212, 0, none⟩ (.string ((rd_T42 l0 x15_1).f0))).setCell ⟨gb212, 1, none⟩ (.string ((rd_T42 l0 x15_1).f1))).setCell ⟨gb212, 2, none⟩ (.bool true)).setCell ⟨gb212, 3, none⟩ (.bool ((rd_T42 l0 x15_1).f3))).setCell ⟨gb212, 4, none⟩ (.bool ((rd_T42 l0 x15_1).f4))).setCell ⟨gb212, 5, none⟩ (.slice A211_5 ((rd_T42 l0 x15_1).f5).length c211_5)).heap[gb212]? = some (.cells #[.string ((rd_T42 l0 x15_1).f0), .string ((rd_T42 l0 x15_1).f1), .bool true, .bool ((rd_T42 l0 x15_1).f3), .bool ((rd_T42 l0 x15_1).f4), .slice A211_5 ((rd_T42 l0 x15_1).f5).length c211_5] 42 (0, 0))) := ⟨by (with_reducible repeat (first | refine blk_drewN ?_ _ | refine blk_drew ?_ | refine blk_alloc ?_ _)); refine blk_put (cs := #[.string ((rd_T42 l0 x15_1).f0), .string ((rd_T42 l0 x15_1).f1), .bool true, .bool ((rd_T42 l0 x15_1).f3), .bool ((rd_T42 l0 x15_1).f4), .slice none 0 0]) ?_ 5 _ rfl; (with_reducible repeat (first | refine blk_drewN ?_ _ | refine blk_drew ?_ | refine blk_alloc ?_ _)); refine blk_put (cs := #[.string ((rd_T42 l0 x15_1).f0), .string ((rd_T42 l0 x15_1).f1), .bool true, .bool ((rd_T42 l0 x15_1).f3), .bool false, .slice none 0 0]) ?_ 4 _ rfl; (with_reducible repeat (first | refine blk_drewN ?_ _ | refine blk_drew ?_ | refine blk_alloc ?_ _)); refine blk_put (cs := #[.string ((rd_T42 l0 x15_1).f0), .string ((rd_T42 l0 x15_1).f1), .bool true, .bool false, .bool false, .slice none 0 0]) ?_ 3 _ rfl; (with_reducible repeat (first | refine blk_drewN ?_ _ | refine blk_drew ?_ | refine blk_alloc ?_ _)); refine blk_put (cs := #[.string ((rd_T42 l0 x15_1).f0), .string ((rd_T42 l0 x15_1).f1), .bool false, .bool false, .bool false, .slice none 0 0]) ?_ 2 _ rfl; (with_reducible repeat (first | refine blk_drewN ?_ _ | refine blk_drew ?_ | refine blk_alloc ?_ _)); refine blk_put (cs := #[.string ((rd_T42 l0 x15_1).f0), .string (⟨#[]⟩ : ByteArray), .bool false, .bool false, .bool false, .slice none 0 0]) ?_ 1 _ rfl; (with_reducible repeat (first | refine blk_drewN ?_ _ | refine blk_drew ?_ | refine blk_alloc ?_ _)); refine blk_put (cs := #[.string (⟨#[]⟩ : ByteArray), .string (⟨#[]⟩ : ByteArray), .bool false, .bool false, .bool false, .slice none 0 0]) ?_ 0 _ rfl; (with_reducible repeat (first | refine blk_drewN ?_ _ | refine blk_drew ?_ | refine blk_alloc ?_ _)); exact BK212.out⟩
                        have n1_ : Aside0 (Below w.heap.size w ((((((w28.setCell ⟨gb212, 0, none⟩ (.string ((rd_T42 l0 x15_1).f0))).setCell ⟨gb212, 1, none⟩ (.string ((rd_T42 l0 x15_1).f1))).setCell ⟨gb212, 2, none⟩ (.bool true)).setCell ⟨gb212, 3, none⟩ (.bool ((rd_T42 l0 x15_1).f3))).setCell ⟨gb212, 4, none⟩ (.bool ((rd_T42 l0 x15_1).f4))).setCell ⟨gb212, 5, none⟩ (.slice A211_5 ((rd_T42 l0 x15_1).f5).length c211_5))) := ⟨by repeat (first | (with_reducible first | exact HB.out | apply below_alloc | apply pw_below_drewN | apply below_drew1 | refine below_set ?_ GE212.out) | exact HB.out)⟩
                        (try clear BK212)
                        (try clear HB)
                        generalize ((((((w28.setCell ⟨gb212, 0, none⟩ (.string ((rd_T42 l0 x15_1).f0))).setCell ⟨gb212, 1, none⟩ (.string ((rd_T42 l0 x15_1).f1))).setCell ⟨gb212, 2, none⟩ (.bool true)).setCell ⟨gb212, 3, none⟩ (.bool ((rd_T42 l0 x15_1).f3))).setCell ⟨gb212, 4, none⟩ (.bool ((rd_T42 l0 x15_1).f4))).setCell ⟨gb212, 5, none⟩ (.slice A211_5 ((rd_T42 l0 x15_1).f5).length c211_5)) = w30 at n0_ n1_ ⊢
                        have BK212 := n0_
                        have HB := n1_
                        clear n0_ n1_
                        have n0_ := Aside0.mk (blk_drew BK212.out)
                        have n1_ := Aside0.mk (below_drew1 HB.out)
                        clear BK212
                        clear HB
                        have BK212 := n0_
                        have HB := n1_
                        clear n0_ n1_
                        have p213 : 0 ≤ (x9_1 : Int) := of_decide_eq_true (by first | (with_reducible assumption) | assumption)
                        have q213 : x9_1 < (l1.length : Int) := of_decide_eq_true (by first | (with_reducible assumption) | assumption)
                        obtain ⟨ad213, e213, hx213_0⟩ := Kd.at_string HR1.out x9_1 p213 q213
                        have hw213_0 := hx213_0
                        cases e213
                        replace hx213_0 := (HB.out.cell (World.block_lt_of_cell? w _ hx213_0)).trans hx213_0
                        replace p213 := eq_true p213
                        replace q213 := eq_true q213
                        have p215 : 0 ≤ (x9_1 : Int) := of_decide_eq_true (by first | (with_reducible assumption) | assumption)
                        have q215 : x9_1 < (l1.length : Int) := of_decide_eq_true (by first | (with_reducible assumption) | assumption)
                        obtain ⟨ad215, e215, hx215_0⟩ := Kd.at_string HR1.out x9_1 p215 q215
                        have hw215_0 := hx215_0
                        obtain rfl : ad213 = ad215 := (by injection e215)
                        replace hx215_0 := (HB.out.cell (World.block_lt_of_cell? w _ hx215_0)).trans hx215_0
                        replace p215 := eq_true p215
                        replace q215 := eq_true q215
                        refine start_ (n := 22) (S := fun w' => w'.cell? ⟨gb212, 0, none⟩ = some (.string ((rd_T42 l0 x15_1).f0)) ∧ w'.cell? ⟨gb212, 1, none⟩ = some (.string ((rd_T42 l0 x15_1).f1)) ∧ w'.cell? ⟨gb212, 2, none⟩ = some (.bool true) ∧ w'.cell? ⟨gb212, 3, none⟩ = some (.bool ((rd_T42 l0 x15_1).f3)) ∧ w'.cell? ⟨gb212, 4, none⟩ = some (.bool ((rd_T42 l0 x15_1).f4)) ∧ w'.cell? ⟨gb212, 5, none⟩ = some (.slice A211_5 ((rd_T42 l0 x15_1).f5).length c211_5) ∧ w'.cell? (ad213.add (x9_1).toNat) = some (.string (rdOf ByteArray.empty l1 x9_1)) ∧ w'.cell? (ad213.add (x9_1).toNat) = some (.string (rdOf ByteArray.empty l1 x9_1))) (ds := []) #[false, false, false, false, false, false, false, false, false, false, false, false, false, false, false, false, false, false, false, false, false, false] (by kernel_rfl) rfl rfl ⟨(blk_cell BK212.out 0).trans rfl, (blk_cell BK212.out 1).trans rfl, (blk_cell BK212.out 2).trans rfl, (blk_cell BK212.out 3).trans rfl, (blk_cell BK212.out 4).trans rfl, (blk_cell BK212.out 5).trans rfl, ((HB.out.cell (World.block_lt_of_cell? w _ hw213_0)).trans hw213_0), ((HB.out.cell (World.block_lt_of_cell? w _ hw215_0)).trans hw215_0)⟩ (fun hHeld => ?_); refine with_tabW spec_Holds.tab6 spec_Holds.bits6 (fun HT_ HW_ => ?_)
                        generalize w30.drew = w31 at BK212 HB hx213_0 hx215_0 hHeld ⊢
                        refine pure_ (i := 0) (N := some 22) (v := ?_) (a' := ?_) #[true, false, false, false, false, false, false, false, false, false, false, false, false, false, false, false, false, false, false, false, false, false] rfl rfl (any_of HT_.out (by kernel_rfl)) (fun _ _ _ h => h) (Or.inl ⟨by rfl, ?_⟩) ?_ ?_
                        rotate_left
                        · intro w'
                          go_simp
                          with_reducible rfl
                        rotate_left
                        · simp only [Act.put, List.setIfInBounds_toArray, List.set_cons_zero, List.set_cons_succ, i64_w, i32_w]
                          rfl
                        refine pure_ (i := 1) (N := some 23) (v := ?_) (a' := ?_) #[true, true, false, false, false, false, false, false, false, false, false, false, false, false, false, false, false, false, false, false, false, false] rfl rfl (any_of HT_.out (by kernel_rfl)) (fun _ _ _ h => h) (Or.inl ⟨by rfl, ?_⟩) ?_ ?_
                        rotate_left
                        · intro w'
                          go_simp
                          with_reducible rfl
                        rotate_left
                        · simp only [Act.put, List.setIfInBounds_toArray, List.set_cons_zero, List.set_cons_succ, i64_w, i32_w]
                          rfl
                        refine pure_ (i := 2) (N := some 24) (v := ?_) (a' := ?_) #[true, true, true, false, false, false, false, false, false, false, false, false, false, false, false, false, false, false, false, false, false, false] rfl rfl (any_of HT_.out (by kernel_rfl)) (fun _ _ _ h => h) (Or.inl ⟨by rfl, ?_⟩) ?_ ?_
                        rotate_left
                        · intro w'
                          go_simp
                          with_reducible rfl
                        rotate_left
                        · simp only [Act.put, List.setIfInBounds_toArray, List.set_cons_zero, List.set_cons_succ, i64_w, i32_w]
                          rfl
                        refine pure_ (i := 3) (N := some 25) (v := ?_) (a' := ?_) #[true, true, true, true, false, false, false, false, false, false, false, false, false, false, false, false, false, false, false, false, false, false] rfl rfl (any_of HT_.out (by kernel_rfl)) (fun _ _ _ h => h) (Or.inl ⟨by rfl, ?_⟩) ?_ ?_
                        rotate_left
                        · intro w'
                          go_simp
                          with_reducible rfl
                        rotate_left
                        · simp only [Act.put, List.setIfInBounds_toArray, List.set_cons_zero, List.set_cons_succ, i64_w, i32_w]
                          rfl
                        refine pure_ (i := 4) (N := some 26) (v := ?_) (a' := ?_) #[true, true, true, true, true, false, false, false, false, false, false, false, false, false, false, false, false, false, false, false, false, false] rfl rfl (any_of HT_.out (by kernel_rfl)) (fun _ _ _ h => h) (Or.inl ⟨by rfl, ?_⟩) ?_ ?_
                        rotate_left
                        · intro w'
                          go_simp
                          with_reducible rfl
                        rotate_left
                        · simp only [Act.put, List.setIfInBounds_toArray, List.set_cons_zero, List.set_cons_succ, i64_w, i32_w]
                          rfl
                        refine pure_ (i := 6) (N := some 28) (v := ?_) (a' := ?_) #[true, true, true, true, true, false, true, false, false, false, false, false, false, false, false, false, false, false, false, false, false, false] rfl rfl (any_of HT_.out (by kernel_rfl)) (fun _ _ _ h => h) (Or.inl ⟨by rfl, ?_⟩) ?_ ?_
                        rotate_left
                        · intro w'
                          go_simp
                          with_reducible rfl
                        rotate_left
                        · simp only [Act.put, List.setIfInBounds_toArray, List.set_cons_zero, List.set_cons_succ, i64_w, i32_w]
                          rfl
                        refine pure_ (i := 7) (N := some 29) (v := ?_) (a' := ?_) #[true, true, true, true, true, false, true, true, false, false, false, false, false, false, false, false, false, false, false, false, false, false] rfl rfl (any_of HT_.out (by kernel_rfl)) (fun _ _ _ h => h) (Or.inl ⟨by rfl, ?_⟩) ?_ ?_
                        rotate_left
                        · intro w'
                          go_simp
                          with_reducible rfl
                        rotate_left
                        · simp only [Act.put, List.setIfInBounds_toArray, List.set_cons_zero, List.set_cons_succ, i64_w, i32_w]
                          rfl
                        refine pure_ (i := 8) (N := some 30) (v := ?_) (a' := ?_) #[true, true, true, true, true, false, true, true, true, false, false, false, false, false, false, false, false, false, false, false, false, false] rfl rfl (any_of HT_.out (by kernel_rfl)) (fun _ _ _ h => h) (Or.inl ⟨by rfl, ?_⟩) ?_ ?_
                        rotate_left
                        · intro w'
                          go_simp
                          with_reducible rfl
                        rotate_left
                        · simp only [Act.put, List.setIfInBounds_toArray, List.set_cons_zero, List.set_cons_succ, i64_w, i32_w]
                          rfl
                        refine take_ (i := 5) (N := some 27) (v := ?_) (a' := ?_) #[true, true, true, true, true, true, true, true, true, false, false, false, false, false, false, false, false, false, false, false, false, false] rfl rfl (take_ofW HT_.out HW_.out (by kernel_rfl)) (fun _ _ _ h => h) (Or.inl ⟨by rfl, ?_⟩) hHeld ?_ ?_
                        rotate_left
                        · rintro w' ⟨s0, s1, s2, s3, s4, s5, s6, s7⟩
                          go_simp
                          with_reducible rfl
                        rotate_left
                        · simp only [Act.put, List.setIfInBounds_toArray, List.set_cons_zero, List.set_cons_succ, i64_w, i32_w]
                          rfl
                        refine take_ (i := 9) (N := some 31) (v := ?_) (a' := ?_) #[true, true, true, true, true, true, true, true, true, true, false, false, false, false, false, false, false, false, false, false, false, false] rfl rfl (take_ofW HT_.out HW_.out (by kernel_rfl)) (fun _ _ _ h => h) (Or.inl ⟨by rfl, ?_⟩) hHeld ?_ ?_
                        rotate_left
                        · rintro w' ⟨s0, s1, s2, s3, s4, s5, s6, s7⟩
                          go_simp
                          with_reducible rfl
                        rotate_left
                        · simp only [Act.put, List.setIfInBounds_toArray, List.set_cons_zero, List.set_cons_succ, i64_w, i32_w]
                          rfl
                        refine one_ (i := 10) (N := some 32) #[true, true, true, true, true, true, true, true, true, true, true, false, false, false, false, false, false, false, false, false, false, false] rfl rfl (one_of HT_.out (by kernel_rfl)) (by decide) (fun K hK => ?_)
                        refine goes_ Tryz.func25 (by kernel_rfl) rfl #[.agg #[.string ((rd_T42 l0 x15_1).f0), .string ((rd_T42 l0 x15_1).f1), .bool true, .bool ((rd_T42 l0 x15_1).f3), .bool ((rd_T42 l0 x15_1).f4), .slice A211_5 ((rd_T42 l0 x15_1).f5).length c211_5], .string (rdOf ByteArray.empty l1 x9_1)] (by rfl) rfl rfl (by (try simp only [List.map_toArray, List.map_cons, List.map_nil]); first | done | rfl | (simp only [List.length_drop, List.length_take]; rfl)) ?_
                        with_reducible refine (spec_within.calls k1 ((rd_T42 l0 x15_1).f0) ((rd_T42 l0 x15_1).f1) true ((rd_T42 l0 x15_1).f3) ((rd_T42 l0 x15_1).f4) _ _ ((rd_T42 l0 x15_1).f5) (rdOf ByteArray.empty l1 x9_1) true _ ?side1 ?side2 A17.out).mono ?_
                        (case side1 => repeat (first | exact (Kd.C_below HR211_5.out HB.out) | (with_reducible refine Kd.C_alloc ?_ _) | (with_reducible refine Kd.C_drewN ?_ _) | (with_reducible refine Kd.C_drew ?_)))
                        (case side2 => exact HC211_5.out)
                        rintro e w32 ⟨rfl, hb⟩
                        refine ⟨_, rfl, ?_⟩
                        have n0_ := Aside0.mk (blk_below (g := gb212) (o := .cells #[.string ((rd_T42 l0 x15_1).f0), .string ((rd_T42 l0 x15_1).f1), .bool true, .bool ((rd_T42 l0 x15_1).f3), .bool ((rd_T42 l0 x15_1).f4), .slice A211_5 ((rd_T42 l0 x15_1).f5).length c211_5] 42 (0, 0)) (by (with_reducible repeat (first | refine blk_drewN ?_ _ | refine blk_drew ?_ | refine blk_alloc ?_ _)); exact BK212.out) hb)
                        have n1_ := Aside0.mk (below_step (by repeat (first | (with_reducible first | exact HB.out | apply below_alloc | apply pw_below_drewN | apply below_drew1 | refine below_set ?_ GE212.out) | exact HB.out)) hb)
                        clear BK212
                        clear HB
                        have BK212 := n0_
                        have HB := n1_
                        clear n0_ n1_
                        (try clear hb)
                        (try clear hb2)
                        (try clear hk)
                        (try clear hi)
                        refine hK.out _ _ ⟨(blk_cell BK212.out 0).trans rfl, (blk_cell BK212.out 1).trans rfl, (blk_cell BK212.out 2).trans rfl, (blk_cell BK212.out 3).trans rfl, (blk_cell BK212.out 4).trans rfl, (blk_cell BK212.out 5).trans rfl, ((HB.out.cell (World.block_lt_of_cell? w _ hw213_0)).trans hw213_0), ((HB.out.cell (World.block_lt_of_cell? w _ hw215_0)).trans hw215_0)⟩ (fun hHeld => ?_)
                        clear hK K
                        refine norm_ (a' := ?_) ?_ ?_
                        rotate_left
                        · show Act.put _ (some 32) _ = _
                          simp only [Act.put, List.setIfInBounds_toArray, List.set_cons_zero, List.set_cons_succ, i64_w, i32_w]
                          rfl
                        refine pure_ (i := 11) (N := some 33) (v := ?_) (a' := ?_) #[true, true, true, true, true, true, true, true, true, true, true, true, false, false, false, false, false, false, false, false, false, false] rfl rfl (any_of HT_.out (by kernel_rfl)) (fun _ _ _ h => h) (Or.inl ⟨by rfl, ?_⟩) ?_ ?_
                        rotate_left
                        · intro w'
                          go_simp
                          with_reducible rfl
                        rotate_left
                        · simp only [Act.put, List.setIfInBounds_toArray, List.set_cons_zero, List.set_cons_succ, i64_w, i32_w]
                          rfl
                        refine pure_ (i := 12) (N := some 34) (v := ?_) (a' := ?_) #[true, true, true, true, true, true, true, true, true, true, true, true, true, false, false, false, false, false, false, false, false, false] rfl rfl (any_of HT_.out (by kernel_rfl)) (fun _ _ _ h => h) (Or.inl ⟨by rfl, ?_⟩) ?_ ?_
                        rotate_left
                        · intro w'
                          go_simp
                          with_reducible rfl
                        rotate_left
                        · simp only [Act.put, List.setIfInBounds_toArray, List.set_cons_zero, List.set_cons_succ, i64_w, i32_w]
                          rfl
                        refine pure_ (i := 13) (N := some 35) (v := ?_) (a' := ?_) #[true, true, true, true, true, true, true, true, true, true, true, true, true, true, false, false, false, false, false, false, false, false] rfl rfl (any_of HT_.out (by kernel_rfl)) (fun _ _ _ h => h) (Or.inl ⟨by rfl, ?_⟩) ?_ ?_
                        rotate_left
                        · intro w'
                          go_simp
                          with_reducible rfl
                        rotate_left
                        · simp only [Act.put, List.setIfInBounds_toArray, List.set_cons_zero, List.set_cons_succ, i64_w, i32_w]
                          rfl
                        refine pure_ (i := 14) (N := some 36) (v := ?_) (a' := ?_) #[true, true, true, true, true, true, true, true, true, true, true, true, true, true, true, false, false, false, false, false, false, false] rfl rfl (any_of HT_.out (by kernel_rfl)) (fun _ _ _ h => h) (Or.inl ⟨by rfl, ?_⟩) ?_ ?_
                        rotate_left
                        · intro w'
                          go_simp
                          with_reducible rfl
                        rotate_left
                        · simp only [Act.put, List.setIfInBounds_toArray, List.set_cons_zero, List.set_cons_succ, i64_w, i32_w]
                          rfl
                        refine pure_ (i := 15) (N := some 37) (v := ?_) (a' := ?_) #[true, true, true, true, true, true, true, true, true, true, true, true, true, true, true, true, false, false, false, false, false, false] rfl rfl (any_of HT_.out (by kernel_rfl)) (fun _ _ _ h => h) (Or.inl ⟨by rfl, ?_⟩) ?_ ?_
                        rotate_left
                        · intro w'
                          go_simp
                          with_reducible rfl
                        rotate_left
                        · simp only [Act.put, List.setIfInBounds_toArray, List.set_cons_zero, List.set_cons_succ, i64_w, i32_w]
                          rfl
                        refine pure_ (i := 16) (N := some 38) (v := ?_) (a' := ?_) #[true, true, true, true, true, true, true, true, true, true, true, true, true, true, true, true, true, false, false, false, false, false] rfl rfl (any_of HT_.out (by kernel_rfl)) (fun _ _ _ h => h) (Or.inl ⟨by rfl, ?_⟩) ?_ ?_
                        rotate_left
                        · intro w'
                          go_simp
                          with_reducible rfl
                        rotate_left
                        · simp only [Act.put, List.setIfInBounds_toArray, List.set_cons_zero, List.set_cons_succ, i64_w, i32_w]
                          rfl
                        refine pure_ (i := 17) (N := some 39) (v := ?_) (a' := ?_) #[true, true, true, true, true, true, true, true, true, true, true, true, true, true, true, true, true, true, false, false, false, false] rfl rfl (any_of HT_.out (by kernel_rfl)) (fun _ _ _ h => h) (Or.inl ⟨by rfl, ?_⟩) ?_ ?_
                        rotate_left
                        · intro w'
                          go_simp
                          with_reducible rfl
                        rotate_left
                        · simp only [Act.put, List.setIfInBounds_toArray, List.set_cons_zero, List.set_cons_succ, i64_w, i32_w]
                          rfl
                        refine take_ (i := 18) (N := some 40) (v := ?_) (a' := ?_) #[true, true, true, true, true, true, true, true, true, true, true, true, true, true, true, true, true, true, true, false, false, false] rfl rfl (take_ofW HT_.out HW_.out (by kernel_rfl)) (fun _ _ _ h => h) (Or.inl ⟨by rfl, ?_⟩) hHeld ?_ ?_
                        rotate_left
                        · rintro w' ⟨s0, s1, s2, s3, s4, s5, s6, s7⟩
                          go_simp
                          with_reducible rfl
                        rotate_left
                        · simp only [Act.put, List.setIfInBounds_toArray, List.set_cons_zero, List.set_cons_succ, i64_w, i32_w]
                          rfl
                        refine one_ (i := 19) (N := some 41) #[true, true, true, true, true, true, true, true, true, true, true, true, true, true, true, true, true, true, true, true, false, false] rfl rfl (one_of HT_.out (by kernel_rfl)) (by decide) (fun K hK => ?_)
                        refine goes_ Tryz.func19 (by kernel_rfl) rfl #[.string x2_1, .string (rdOf ByteArray.empty l1 x9_1)] (by rfl) rfl rfl (by (try simp only [List.map_toArray, List.map_cons, List.map_nil]); first | done | rfl | (simp only [List.length_drop, List.length_take]; rfl)) ?_
                        with_reducible refine (spec_begins.calls x2_1 (rdOf ByteArray.empty l1 x9_1) false _ A19.out).mono ?_
                        rintro e w' ⟨rfl, ⟨nd, rfl⟩⟩
                        refine ⟨_, rfl, ?_⟩
                        refine hK.out _ _ ⟨(blk_cell BK212.out 0).trans rfl, (blk_cell BK212.out 1).trans rfl, (blk_cell BK212.out 2).trans rfl, (blk_cell BK212.out 3).trans rfl, (blk_cell BK212.out 4).trans rfl, (blk_cell BK212.out 5).trans rfl, ((HB.out.cell (World.block_lt_of_cell? w _ hw213_0)).trans hw213_0), ((HB.out.cell (World.block_lt_of_cell? w _ hw215_0)).trans hw215_0)⟩ (fun hHeld => ?_)
                        clear hK K
                        refine norm_ (a' := ?_) ?_ ?_
                        rotate_left
                        · show Act.put _ (some 41) _ = _
                          simp only [Act.put, List.setIfInBounds_toArray, List.set_cons_zero, List.set_cons_succ, i64_w, i32_w]
                          rfl
                        refine pure_ (i := 20) (N := some 42) (v := ?_) (a' := ?_) #[true, true, true, true, true, true, true, true, true, true, true, true, true, true, true, true, true, true, true, true, true, false] rfl rfl (any_of HT_.out (by kernel_rfl)) (fun _ _ _ h => h) (Or.inl ⟨by rfl, ?_⟩) ?_ ?_
                        rotate_left
                        · intro w'
                          go_simp
                          with_reducible rfl
                        rotate_left
                        · simp only [Act.put, List.setIfInBounds_toArray, List.set_cons_zero, List.set_cons_succ, i64_w, i32_w]
                          rfl
                        refine pure_ (i := 21) (N := some 43) (v := ?_) (a' := ?_) #[true, true, true, true, true, true, true, true, true, true, true, true, true, true, true, true, true, true, true, true, true, true] rfl rfl (any_of HT_.out (by kernel_rfl)) (fun _ _ _ h => h) (Or.inl ⟨by rfl, ?_⟩) ?_ ?_
                        rotate_left
                        · intro w'
                          go_simp
                          with_reducible rfl
                        rotate_left
                        · simp only [Act.put, List.setIfInBounds_toArray, List.set_cons_zero, List.set_cons_succ, i64_w, i32_w]
                          rfl
                        refine done_ (done_of HT_.out (by kernel_rfl)) ?_
                        try go_wp2
                        go_ret
                        exact ⟨by first | rfl | (simp [errW_none, errW_some] <;> rfl) | (simp [*, errW_none, errW_some] <;> rfl), by repeat (first | (with_reducible first | exact HB.out | apply below_alloc | apply pw_below_drewN | apply below_drew1 | refine below_set ?_ GE212.out) | exact HB.out)⟩
                    · replace c18 := Bool.eq_false_iff.mpr c18
                      subst c18
                      have H1 : (some false) = some r := by rw [if_neg (show ¬ (false = true) by decide)] at H; exact H
                      clear H
                      have H := H1
                      clear H1
                      obtain rfl := Option.some.inj H
                      have p211 : 0 ≤ (x15_1 : Int) := of_decide_eq_true (by first | (with_reducible assumption) | assumption)
                      have q211 : x15_1 < (l0.length : Int) := of_decide_eq_true (by first | (with_reducible assumption) | assumption)
                      obtain ⟨ad211, A211_5, c211_5, e211, hx211_0, hx211_1, hx211_2, hx211_3, hx211_4, hx211_5, hl211_5, hi211_5⟩ := at_T42 HR0.out x15_1 p211 q211
                      (try rw [← Nbq8.out] at hx211_2)
                      (try rw [← Nbq8.out] at hx211_3)
                      (try rw [← Nbq8.out] at hx211_4)
                      cases e211
                      replace hx211_0 := (HB.out.cell (World.block_lt_of_cell? w _ hx211_0)).trans hx211_0
                      replace hx211_1 := (HB.out.cell (World.block_lt_of_cell? w _ hx211_1)).trans hx211_1
                      replace hx211_2 := (HB.out.cell (World.block_lt_of_cell? w _ hx211_2)).trans hx211_2
                      replace hx211_3 := (HB.out.cell (World.block_lt_of_cell? w _ hx211_3)).trans hx211_3
                      replace hx211_4 := (HB.out.cell (World.block_lt_of_cell? w _ hx211_4)).trans hx211_4
                      replace hx211_5 := (HB.out.cell (World.block_lt_of_cell? w _ hx211_5)).trans hx211_5
                      have HR211_5 := Aside0.mk hi211_5
                      have HC211_5 := Aside0.mk hl211_5
                      clear hi211_5 hl211_5
                      replace p211 := eq_true p211
                      replace q211 := eq_true q211
                      try go_wp2_with (first | ((with_reducible refine gate_dst (N := 11) rfl ?_); (try (refine gate_guard (by rfl) ?_; dsimp only)); refine box_event ?hg (N := 11) ?hd (cs := #[.string (⟨#[]⟩ : ByteArray), .string (⟨#[]⟩ : ByteArray), .bool false, .bool false, .bool false, .slice none 0 0]) (t := 42) ?hr ?_; (case hd => rfl); (case hg => rfl); (case hr => first | (go_simp; done) | (go_simp; rfl)); intro gb212 hg w33 hbox hb; have n0_ := Aside0.mk (below_step (by repeat (first | (with_reducible first | exact HB.out | apply below_alloc | apply pw_below_drewN | apply below_drew1) | exact HB.out)) hb); have n1_ := Aside0.mk (hbox); have n2_ := Aside0.mk ((by rw [hg]; exact (below_size (by repeat (first | (with_reducible first | exact HB.out | apply below_alloc | apply pw_below_drewN | apply below_drew1) | exact HB.out))) : w.heap.size ≤ gb212)); have n3_ := Aside0.mk ((by rw [hg]; exact (below_size (by repeat (first | (with_reducible first | exact HB.out | apply below_alloc | apply pw_below_drewN | apply below_drew1) | exact HB.out))) : w.heap.size ≤ gb212)); clear HB; have HB := n0_; have BK212 := n1_; have GW212 := n2_; have GE212 := n3_; clear n0_ n1_ n2_ n3_; clear hb hbox hg; have hcz34_0 : w33.cell? ⟨gb212, 0, none⟩ = some (.string (⟨#[]⟩ : ByteArray)) := (blk_cell BK212.out 0).trans rfl; have hcz34_1 : w33.cell? ⟨gb212, 1, none⟩ = some (.string (⟨#[]⟩ : ByteArray)) := (blk_cell BK212.out 1).trans rfl; have hcz34_2 : w33.cell? ⟨gb212, 2, none⟩ = some (.bool false) := (blk_cell BK212.out 2).trans rfl; have hcz34_3 : w33.cell? ⟨gb212, 3, none⟩ = some (.bool false) := (blk_cell BK212.out 3).trans rfl; have hcz34_4 : w33.cell? ⟨gb212, 4, none⟩ = some (.bool false) := (blk_cell BK212.out 4).trans rfl; have hcz34_5 : w33.cell? ⟨gb212, 5, none⟩ = some (.slice none 0 0) := (blk_cell BK212.out 5).trans rfl; have hfz34_0 := blk_frozen BK212.out 0; have hfz34_1 := blk_frozen BK212.out 1; have hfz34_2 := blk_frozen BK212.out 2; have hfz34_3 := blk_frozen BK212.out 3; have hfz34_4 := blk_frozen BK212.out 4; have hfz34_5 := blk_frozen BK212.out 5))
                      have n0_ : Aside0 (((((((w33.setCell ⟨gb212, 0, none⟩ (.string ((rd_T42 l0 x15_1).f0))).setCell ⟨gb212, 1, none⟩ (.string ((rd_T42 l0 x15_1).f1))).setCell ⟨gb212, 2, none⟩ (.bool true)).setCell ⟨gb212, 3, none⟩ (.bool ((rd_T42 l0 x15_1).f3))).setCell ⟨gb212, 4, none⟩ (.bool ((rd_T42 l0 x15_1).f4))).setCell ⟨gb212, 5, none⟩ (.slice A211_5 ((rd_T42 l0 x15_1).f5).length c211_5)).heap[gb212]? = some (.cells #[.string ((rd_T42 l0 x15_1).f0), .string ((rd_T42 l0 x15_1).f1), .bool true, .bool ((rd_T42 l0 x15_1).f3), .bool ((rd_T42 l0 x15_1).f4), .slice A211_5 ((rd_T42 l0 x15_1).f5).length c211_5] 42 (0, 0))) := ⟨by (with_reducible repeat (first | refine blk_drewN ?_ _ | refine blk_drew ?_ | refine blk_alloc ?_ _)); refine blk_put (cs := #[.string ((rd_T42 l0 x15_1).f0), .string ((rd_T42 l0 x15_1).f1), .bool true, .bool ((rd_T42 l0 x15_1).f3), .bool ((rd_T42 l0 x15_1).f4), .slice none 0 0]) ?_ 5 _ rfl; (with_reducible repeat (first | refine blk_drewN ?_ _ | refine blk_drew ?_ | refine blk_alloc ?_ _)); refine blk_put (cs := #[.string ((rd_T42 l0 x15_1).f0), .string ((rd_T42 l0 x15_1).f1), .bool true, .bool ((rd_T42 l0 x15_1).f3), .bool false, .slice none 0 0]) ?_ 4 _ rfl; (with_reducible repeat (first | refine blk_drewN ?_ _ | refine blk_drew ?_ | refine blk_alloc ?_ _)); refine blk_put (cs := #[.string ((rd_T42 l0 x15_1).f0), .string ((rd_T42 l0 x15_1).f1), .bool true, .bool false, .bool false, .slice none 0 0]) ?_ 3 _ rfl; (with_reducible repeat (first | refine blk_drewN ?_ _ | refine blk_drew ?_ | refine blk_alloc ?_ _)); refine blk_put (cs := #[.string ((rd_T42 l0 x15_1).f0), .string ((rd_T42 l0 x15_1).f1), .bool false, .bool false, .bool false, .slice none 0 0]) ?_ 2 _ rfl; (with_reducible repeat (first | refine blk_drewN ?_ _ | refine blk_drew ?_ | refine blk_alloc ?_ _)); refine blk_put (cs := #[.string ((rd_T42 l0 x15_1).f0), .string (⟨#[]⟩ : ByteArray), .bool false, .bool false, .bool false, .slice none 0 0]) ?_ 1 _ rfl; (with_reducible repeat (first | refine blk_drewN ?_ _ | refine blk_drew ?_ | refine blk_alloc ?_ _)); refine blk_put (cs := #[.string (⟨#[]⟩ : ByteArray), .string (⟨#[]⟩ : ByteArray), .bool false, .bool false, .bool false, .slice none 0 0]) ?_ 0 _ rfl; (with_reducible repeat (first | refine blk_drewN ?_ _ | refine blk_drew ?_ | refine blk_alloc ?_ _)); exact BK212.out⟩
                      have n1_ : Aside0 (Below w.heap.size w ((((((w33.setCell ⟨gb212, 0, none⟩ (.string ((rd_T42 l0 x15_1).f0))).setCell ⟨gb212, 1, none⟩ (.string ((rd_T42 l0 x15_1).f1))).setCell ⟨gb212, 2, none⟩ (.bool true)).setCell ⟨gb212, 3, none⟩ (.bool ((rd_T42 l0 x15_1).f3))).setCell ⟨gb212, 4, none⟩ (.bool ((rd_T42 l0 x15_1).f4))).setCell ⟨gb212, 5, none⟩ (.slice A211_5 ((rd_T42 l0 x15_1).f5).length c211_5))) := ⟨by repeat (first | (with_reducible first | exact HB.out | apply below_alloc | apply pw_below_drewN | apply below_drew1 | refine below_set ?_ GE212.out) | exact HB.out)⟩
                      (try clear BK212)
                      (try clear HB)
                      generalize ((((((w33.setCell ⟨gb212, 0, none⟩ (.string ((rd_T42 l0 x15_1).f0))).setCell ⟨gb212, 1, none⟩ (.string ((rd_T42 l0 x15_1).f1))).setCell ⟨gb212, 2, none⟩ (.bool true)).setCell ⟨gb212, 3, none⟩ (.bool ((rd_T42 l0 x15_1).f3))).setCell ⟨gb212, 4, none⟩ (.bool ((rd_T42 l0 x15_1).f4))).setCell ⟨gb212, 5, none⟩ (.slice A211_5 ((rd_T42 l0 x15_1).f5).length c211_5)) = w35 at n0_ n1_ ⊢
                      have BK212 := n0_
                      have HB := n1_
                      clear n0_ n1_
                      have n0_ := Aside0.mk (blk_drew BK212.out)
                      have n1_ := Aside0.mk (below_drew1 HB.out)
                      clear BK212
                      clear HB
                      have BK212 := n0_
                      have HB := n1_
                      clear n0_ n1_
                      have p213 : 0 ≤ (x9_1 : Int) := of_decide_eq_true (by first | (with_reducible assumption) | assumption)
                      have q213 : x9_1 < (l1.length : Int) := of_decide_eq_true (by first | (with_reducible assumption) | assumption)
                      obtain ⟨ad213, e213, hx213_0⟩ := Kd.at_string HR1.out x9_1 p213 q213
                      have hw213_0 := hx213_0
                      cases e213
                      replace hx213_0 := (HB.out.cell (World.block_lt_of_cell? w _ hx213_0)).trans hx213_0
                      replace p213 := eq_true p213
                      replace q213 := eq_true q213
                      refine start_ (n := 22) (S := fun w' => w'.cell? ⟨gb212, 0, none⟩ = some (.string ((rd_T42 l0 x15_1).f0)) ∧ w'.cell? ⟨gb212, 1, none⟩ = some (.string ((rd_T42 l0 x15_1).f1)) ∧ w'.cell? ⟨gb212, 2, none⟩ = some (.bool true) ∧ w'.cell? ⟨gb212, 3, none⟩ = some (.bool ((rd_T42 l0 x15_1).f3)) ∧ w'.cell? ⟨gb212, 4, none⟩ = some (.bool ((rd_T42 l0 x15_1).f4)) ∧ w'.cell? ⟨gb212, 5, none⟩ = some (.slice A211_5 ((rd_T42 l0 x15_1).f5).length c211_5) ∧ w'.cell? (ad213.add (x9_1).toNat) = some (.string (rdOf ByteArray.empty l1 x9_1))) (ds := []) #[false, false, false, false, false, false, false, false, false, false, false, false, false, false, false, false, false, false, false, false, false, false] (by kernel_rfl) rfl rfl ⟨(blk_cell BK212.out 0).trans rfl, (blk_cell BK212.out 1).trans rfl, (blk_cell BK212.out 2).trans rfl, (blk_cell BK212.out 3).trans rfl, (blk_cell BK212.out 4).trans rfl, (blk_cell BK212.out 5).trans rfl, ((HB.out.cell (World.block_lt_of_cell? w _ hw213_0)).trans hw213_0)⟩ (fun hHeld => ?_); refine with_tabW spec_Holds.tab6 spec_Holds.bits6 (fun HT_ HW_ => ?_)
                      generalize w35.drew = w36 at BK212 HB hx213_0 hHeld ⊢
                      refine pure_ (i := 0) (N := some 22) (v := ?_) (a' := ?_) #[true, false, false, false, false, false, false, false, false, false, false, false, false, false, false, false, false, false, false, false, false, false] rfl rfl (any_of HT_.out (by kernel_rfl)) (fun _ _ _ h => h) (Or.inl ⟨by rfl, ?_⟩) ?_ ?_
                      rotate_left
                      · intro w'
                        go_simp
                        with_reducible rfl
                      rotate_left
                      · simp only [Act.put, List.setIfInBounds_toArray, List.set_cons_zero, List.set_cons_succ, i64_w, i32_w]
                        rfl
                      refine pure_ (i := 1) (N := some 23) (v := ?_) (a' := ?_) #[true, true, false, false, false, false, false, false, false, false, false, false, false, false, false, false, false, false, false, false, false, false] rfl rfl (any_of HT_.out (by kernel_rfl)) (fun _ _ _ h => h) (Or.inl ⟨by rfl, ?_⟩) ?_ ?_
                      rotate_left
                      · intro w'
                        go_simp
                        with_reducible rfl
                      rotate_left
                      · simp only [Act.put, List.setIfInBounds_toArray, List.set_cons_zero, List.set_cons_succ, i64_w, i32_w]
                        rfl
                      refine pure_ (i := 2) (N := some 24) (v := ?_) (a' := ?_) #[true, true, true, false, false, false, false, false, false, false, false, false, false, false, false, false, false, false, false, false, false, false] rfl rfl (any_of HT_.out (by kernel_rfl)) (fun _ _ _ h => h) (Or.inl ⟨by rfl, ?_⟩) ?_ ?_
                      rotate_left
                      · intro w'
                        go_simp
                        with_reducible rfl
                      rotate_left
                      · simp only [Act.put, List.setIfInBounds_toArray, List.set_cons_zero, List.set_cons_succ, i64_w, i32_w]
                        rfl
                      refine pure_ (i := 3) (N := some 25) (v := ?_) (a' := ?_) #[true, true, true, true, false, false, false, false, false, false, false, false, false, false, false, false, false, false, false, false, false, false] rfl rfl (any_of HT_.out (by kernel_rfl)) (fun _ _ _ h => h) (Or.inl ⟨by rfl, ?_⟩) ?_ ?_
                      rotate_left
                      · intro w'
                        go_simp
                        with_reducible rfl
                      rotate_left
                      · simp only [Act.put, List.setIfInBounds_toArray, List.set_cons_zero, List.set_cons_succ, i64_w, i32_w]
                        rfl
                      refine pure_ (i := 4) (N := some 26) (v := ?_) (a' := ?_) #[true, true, true, true, true, false, false, false, false, false, false, false, false, false, false, false, false, false, false, false, false, false] rfl rfl (any_of HT_.out (by kernel_rfl)) (fun _ _ _ h => h) (Or.inl ⟨by rfl, ?_⟩) ?_ ?_
                      rotate_left
                      · intro w'
                        go_simp
                        with_reducible rfl
                      rotate_left
                      · simp only [Act.put, List.setIfInBounds_toArray, List.set_cons_zero, List.set_cons_succ, i64_w, i32_w]
                        rfl
                      refine pure_ (i := 6) (N := some 28) (v := ?_) (a' := ?_) #[true, true, true, true, true, false, true, false, false, false, false, false, false, false, false, false, false, false, false, false, false, false] rfl rfl (any_of HT_.out (by kernel_rfl)) (fun _ _ _ h => h) (Or.inl ⟨by rfl, ?_⟩) ?_ ?_
                      rotate_left
                      · intro w'
                        go_simp
                        with_reducible rfl
                      rotate_left
                      · simp only [Act.put, List.setIfInBounds_toArray, List.set_cons_zero, List.set_cons_succ, i64_w, i32_w]
                        rfl
                      refine pure_ (i := 7) (N := some 29) (v := ?_) (a' := ?_) #[true, true, true, true, true, false, true, true, false, false, false, false, false, false, false, false, false, false, false, false, false, false] rfl rfl (any_of HT_.out (by kernel_rfl)) (fun _ _ _ h => h) (Or.inl ⟨by rfl, ?_⟩) ?_ ?_
                      rotate_left
                      · intro w'
                        go_simp
                        with_reducible rfl
                      rotate_left
                      · simp only [Act.put, List.setIfInBounds_toArray, List.set_cons_zero, List.set_cons_succ, i64_w, i32_w]
                        rfl
                      refine pure_ (i := 8) (N := some 30) (v := ?_) (a' := ?_) #[true, true, true, true, true, false, true, true, true, false, false, false, false, false, false, false, false, false, false, false, false, false] rfl rfl (any_of HT_.out (by kernel_rfl)) (fun _ _ _ h => h) (Or.inl ⟨by rfl, ?_⟩) ?_ ?_
                      rotate_left
                      · intro w'
                        go_simp
                        with_reducible rfl
                      rotate_left
                      · simp only [Act.put, List.setIfInBounds_toArray, List.set_cons_zero, List.set_cons_succ, i64_w, i32_w]
                        rfl
                      refine take_ (i := 5) (N := some 27) (v := ?_) (a' := ?_) #[true, true, true, true, true, true, true, true, true, false, false, false, false, false, false, false, false, false, false, false, false, false] rfl rfl (take_ofW HT_.out HW_.out (by kernel_rfl)) (fun _ _ _ h => h) (Or.inl ⟨by rfl, ?_⟩) hHeld ?_ ?_
                      rotate_left
                      · rintro w' ⟨s0, s1, s2, s3, s4, s5, s6⟩
                        go_simp
                        with_reducible rfl
                      rotate_left
                      · simp only [Act.put, List.setIfInBounds_toArray, List.set_cons_zero, List.set_cons_succ, i64_w, i32_w]
                        rfl
                      refine take_ (i := 9) (N := some 31) (v := ?_) (a' := ?_) #[true, true, true, true, true, true, true, true, true, true, false, false, false, false, false, false, false, false, false, false, false, false] rfl rfl (take_ofW HT_.out HW_.out (by kernel_rfl)) (fun _ _ _ h => h) (Or.inl ⟨by rfl, ?_⟩) hHeld ?_ ?_
                      rotate_left
                      · rintro w' ⟨s0, s1, s2, s3, s4, s5, s6⟩
                        go_simp
                        with_reducible rfl
                      rotate_left
                      · simp only [Act.put, List.setIfInBounds_toArray, List.set_cons_zero, List.set_cons_succ, i64_w, i32_w]
                        rfl
                      refine one_ (i := 10) (N := some 32) #[true, true, true, true, true, true, true, true, true, true, true, false, false, false, false, false, false, false, false, false, false, false] rfl rfl (one_of HT_.out (by kernel_rfl)) (by decide) (fun K hK => ?_)
                      refine goes_ Tryz.func25 (by kernel_rfl) rfl #[.agg #[.string ((rd_T42 l0 x15_1).f0), .string ((rd_T42 l0 x15_1).f1), .bool true, .bool ((rd_T42 l0 x15_1).f3), .bool ((rd_T42 l0 x15_1).f4), .slice A211_5 ((rd_T42 l0 x15_1).f5).length c211_5], .string (rdOf ByteArray.empty l1 x9_1)] (by rfl) rfl rfl (by (try simp only [List.map_toArray, List.map_cons, List.map_nil]); first | done | rfl | (simp only [List.length_drop, List.length_take]; rfl)) ?_
                      with_reducible refine (spec_within.calls k1 ((rd_T42 l0 x15_1).f0) ((rd_T42 l0 x15_1).f1) true ((rd_T42 l0 x15_1).f3) ((rd_T42 l0 x15_1).f4) _ _ ((rd_T42 l0 x15_1).f5) (rdOf ByteArray.empty l1 x9_1) false _ ?side1 ?side2 A17.out).mono ?_
                      (case side1 => repeat (first | exact (Kd.C_below HR211_5.out HB.out) | (with_reducible refine Kd.C_alloc ?_ _) | (with_reducible refine Kd.C_drewN ?_ _) | (with_reducible refine Kd.C_drew ?_)))
                      (case side2 => exact HC211_5.out)
                      rintro e w37 ⟨rfl, hb⟩
                      refine ⟨_, rfl, ?_⟩
                      have n0_ := Aside0.mk (blk_below (g := gb212) (o := .cells #[.string ((rd_T42 l0 x15_1).f0), .string ((rd_T42 l0 x15_1).f1), .bool true, .bool ((rd_T42 l0 x15_1).f3), .bool ((rd_T42 l0 x15_1).f4), .slice A211_5 ((rd_T42 l0 x15_1).f5).length c211_5] 42 (0, 0)) (by (with_reducible repeat (first | refine blk_drewN ?_ _ | refine blk_drew ?_ | refine blk_alloc ?_ _)); exact BK212.out) hb)
                      have n1_ := Aside0.mk (below_step (by repeat (first | (with_reducible first | exact HB.out | apply below_alloc | apply pw_below_drewN | apply below_drew1 | refine below_set ?_ GE212.out) | exact HB.out)) hb)
                      clear BK212
                      clear HB
                      have BK212 := n0_
                      have HB := n1_
                      clear n0_ n1_
                      (try clear hb)
                      (try clear hb2)
                      (try clear hk)
                      (try clear hi)
                      refine hK.out _ _ ⟨(blk_cell BK212.out 0).trans rfl, (blk_cell BK212.out 1).trans rfl, (blk_cell BK212.out 2).trans rfl, (blk_cell BK212.out 3).trans rfl, (blk_cell BK212.out 4).trans rfl, (blk_cell BK212.out 5).trans rfl, ((HB.out.cell (World.block_lt_of_cell? w _ hw213_0)).trans hw213_0)⟩ (fun hHeld => ?_)
                      clear hK K
                      refine norm_ (a' := ?_) ?_ ?_
                      rotate_left
                      · show Act.put _ (some 32) _ = _
                        simp only [Act.put, List.setIfInBounds_toArray, List.set_cons_zero, List.set_cons_succ, i64_w, i32_w]
                        rfl
                      refine pure_ (i := 11) (N := some 33) (v := ?_) (a' := ?_) #[true, true, true, true, true, true, true, true, true, true, true, true, false, false, false, false, false, false, false, false, false, false] rfl rfl (any_of HT_.out (by kernel_rfl)) (fun _ _ _ h => h) (Or.inl ⟨by rfl, ?_⟩) ?_ ?_
                      rotate_left
                      · intro w'
                        go_simp
                        with_reducible rfl
                      rotate_left
                      · simp only [Act.put, List.setIfInBounds_toArray, List.set_cons_zero, List.set_cons_succ, i64_w, i32_w]
                        rfl
                      refine pure_ (i := 12) (N := some 34) (v := ?_) (a' := ?_) #[true, true, true, true, true, true, true, true, true, true, true, true, true, false, false, false, false, false, false, false, false, false] rfl rfl (any_of HT_.out (by kernel_rfl)) (fun _ _ _ h => h) (Or.inl ⟨by rfl, ?_⟩) ?_ ?_
                      rotate_left
                      · intro w'
                        go_simp
                        with_reducible rfl
                      rotate_left
                      · simp only [Act.put, List.setIfInBounds_toArray, List.set_cons_zero, List.set_cons_succ, i64_w, i32_w]
                        rfl
                      refine pure_ (i := 13) (N := some 35) (v := ?_) (a' := ?_) #[true, true, true, true, true, true, true, true, true, true, true, true, true, true, false, false, false, false, false, false, false, false] rfl rfl (any_of HT_.out (by kernel_rfl)) (fun _ _ _ h => h) (Or.inl ⟨by rfl, ?_⟩) ?_ ?_
                      rotate_left
                      · intro w'
                        go_simp
                        with_reducible rfl
                      rotate_left
                      · simp only [Act.put, List.setIfInBounds_toArray, List.set_cons_zero, List.set_cons_succ, i64_w, i32_w]
                        rfl
                      refine pure_ (i := 14) (N := some 36) (v := undef) (a' := ?_) #[true, true, true, true, true, true, true, true, true, true, true, true, true, true, true, false, false, false, false, false, false, false] rfl rfl (any_of HT_.out (by kernel_rfl)) (fun _ _ _ h => h) (Or.inr ⟨by rfl, rfl⟩) ?_ ?_
                      rotate_left
                      · simp only [Act.put, List.setIfInBounds_toArray, List.set_cons_zero, List.set_cons_succ, i64_w, i32_w]
                        rfl
                      refine pure_ (i := 15) (N := some 37) (v := undef) (a' := ?_) #[true, true, true, true, true, true, true, true, true, true, true, true, true, true, true, true, false, false, false, false, false, false] rfl rfl (any_of HT_.out (by kernel_rfl)) (fun _ _ _ h => h) (Or.inr ⟨by rfl, rfl⟩) ?_ ?_
                      rotate_left
                      · simp only [Act.put, List.setIfInBounds_toArray, List.set_cons_zero, List.set_cons_succ, i64_w, i32_w]
                        rfl
                      refine pure_ (i := 16) (N := some 38) (v := undef) (a' := ?_) #[true, true, true, true, true, true, true, true, true, true, true, true, true, true, true, true, true, false, false, false, false, false] rfl rfl (any_of HT_.out (by kernel_rfl)) (fun _ _ _ h => h) (Or.inr ⟨by rfl, rfl⟩) ?_ ?_
                      rotate_left
                      · simp only [Act.put, List.setIfInBounds_toArray, List.set_cons_zero, List.set_cons_succ, i64_w, i32_w]
                        rfl
                      refine pure_ (i := 17) (N := some 39) (v := undef) (a' := ?_) #[true, true, true, true, true, true, true, true, true, true, true, true, true, true, true, true, true, true, false, false, false, false] rfl rfl (any_of HT_.out (by kernel_rfl)) (fun _ _ _ h => h) (Or.inr ⟨by rfl, rfl⟩) ?_ ?_
                      rotate_left
                      · simp only [Act.put, List.setIfInBounds_toArray, List.set_cons_zero, List.set_cons_succ, i64_w, i32_w]
                        rfl
                      refine pure_ (i := 18) (N := some 40) (v := undef) (a' := ?_) #[true, true, true, true, true, true, true, true, true, true, true, true, true, true, true, true, true, true, true, false, false, false] rfl rfl (any_of HT_.out (by kernel_rfl)) (fun _ _ _ h => h) (Or.inr ⟨by rfl, rfl⟩) ?_ ?_
                      rotate_left
                      · simp only [Act.put, List.setIfInBounds_toArray, List.set_cons_zero, List.set_cons_succ, i64_w, i32_w]
                        rfl
                      refine pure_ (i := 19) (N := some 41) (v := undef) (a' := ?_) #[true, true, true, true, true, true, true, true, true, true, true, true, true, true, true, true, true, true, true, true, false, false] rfl rfl (any_of HT_.out (by kernel_rfl)) (fun _ _ _ h => h) (Or.inr ⟨by rfl, rfl⟩) ?_ ?_
                      rotate_left
                      · simp only [Act.put, List.setIfInBounds_toArray, List.set_cons_zero, List.set_cons_succ, i64_w, i32_w]
                        rfl
                      refine pure_ (i := 20) (N := some 42) (v := undef) (a' := ?_) #[true, true, true, true, true, true, true, true, true, true, true, true, true, true, true, true, true, true, true, true, true, false] rfl rfl (any_of HT_.out (by kernel_rfl)) (fun _ _ _ h => h) (Or.inr ⟨by rfl, rfl⟩) ?_ ?_
                      rotate_left
                      · simp only [Act.put, List.setIfInBounds_toArray, List.set_cons_zero, List.set_cons_succ, i64_w, i32_w]
                        rfl
                      refine pure_ (i := 21) (N := some 43) (v := ?_) (a' := ?_) #[true, true, true, true, true, true, true, true, true, true, true, true, true, true, true, true, true, true, true, true, true, true] rfl rfl (any_of HT_.out (by kernel_rfl)) (fun _ _ _ h => h) (Or.inl ⟨by rfl, ?_⟩) ?_ ?_
                      rotate_left
                      · intro w'
                        go_simp
                        with_reducible rfl
                      rotate_left
                      · simp only [Act.put, List.setIfInBounds_toArray, List.set_cons_zero, List.set_cons_succ, i64_w, i32_w]
                        rfl
                      refine done_ (done_of HT_.out (by kernel_rfl)) ?_
                      try go_wp2
                      go_ret
                      exact ⟨by first | rfl | (simp [errW_none, errW_some] <;> rfl) | (simp [*, errW_none, errW_some] <;> rfl), by repeat (first | (with_reducible first | exact HB.out | apply below_alloc | apply pw_below_drewN | apply below_drew1 | refine below_set ?_ GE212.out) | exact HB.out)⟩
                  · rw [if_neg c16] at H
                    exact absurd H (by simp)
                · rw [if_neg c15] at H
                  exact absurd H (by simp)
            · replace c9 := Bool.eq_false_iff.mpr c9
              subst c9
              have H1 : ((spec_mayEnd.f l0 x15_1).bind fun t218 => (if t218 = true then (if 0 ≤ (wrap64 ((((rd_T42 l0 x15_1).f0).size : Int) - 1)) then (if (wrap64 ((((rd_T42 l0 x15_1).f0).size : Int) - 1)) ≤ (((rd_T42 l0 x15_1).f0).size : Int) then (spec_Holds.j1 k1 l0 l1 x2_1 a3 x9_1 ((rd_T42 l0 x15_1).f0) l0 (l0.length : Int) x15_1 (x2_1.toList == (((rd_T42 l0 x15_1).f0).extract 0 ((wrap64 ((((rd_T42 l0 x15_1).f0).size : Int) - 1)) : Int).toNat).toList)) else (none)) else (none)) else (spec_Holds.j1 k1 l0 l1 x2_1 a3 x9_1 ((rd_T42 l0 x15_1).f0) l0 (l0.length : Int) x15_1 false))) = some r := by rw [if_neg (show ¬ (false = true) by decide)] at H; exact H
              clear H
              have H := H1
              clear H1
              have HC38 := Aside0.mk H
              clear H
              have p211 : 0 ≤ (x15_1 : Int) := of_decide_eq_true (by first | (with_reducible assumption) | assumption)
              have q211 : x15_1 < (l0.length : Int) := of_decide_eq_true (by first | (with_reducible assumption) | assumption)
              obtain ⟨ad211, A211_5, c211_5, e211, hx211_0, hx211_1, hx211_2, hx211_3, hx211_4, hx211_5, hl211_5, hi211_5⟩ := at_T42 HR0.out x15_1 p211 q211
              (try rw [← Nbq8.out] at hx211_2)
              (try rw [← Nbq8.out] at hx211_3)
              (try rw [← Nbq8.out] at hx211_4)
              cases e211
              replace hx211_0 := (HB.out.cell (World.block_lt_of_cell? w _ hx211_0)).trans hx211_0
              replace hx211_1 := (HB.out.cell (World.block_lt_of_cell? w _ hx211_1)).trans hx211_1
              replace hx211_2 := (HB.out.cell (World.block_lt_of_cell? w _ hx211_2)).trans hx211_2
              replace hx211_3 := (HB.out.cell (World.block_lt_of_cell? w _ hx211_3)).trans hx211_3
              replace hx211_4 := (HB.out.cell (World.block_lt_of_cell? w _ hx211_4)).trans hx211_4
              replace hx211_5 := (HB.out.cell (World.block_lt_of_cell? w _ hx211_5)).trans hx211_5
              have HR211_5 := Aside0.mk hi211_5
              have HC211_5 := Aside0.mk hl211_5
              clear hi211_5 hl211_5
              replace p211 := eq_true p211
              replace q211 := eq_true q211
              go_upto_region 11 with (first | ((with_reducible refine gate_dst (N := 11) rfl ?_); (try (refine gate_guard (by rfl) ?_; dsimp only)); refine box_event ?hg (N := 11) ?hd (cs := #[.string (⟨#[]⟩ : ByteArray), .string (⟨#[]⟩ : ByteArray), .bool false, .bool false, .bool false, .slice none 0 0]) (t := 42) ?hr ?_; (case hd => rfl); (case hg => rfl); (case hr => first | (go_simp; done) | (go_simp; rfl)); intro gb212 hg w39 hbox hb; have n0_ := Aside0.mk (below_step (by repeat (first | (with_reducible first | exact HB.out | apply below_alloc | apply pw_below_drewN | apply below_drew1) | exact HB.out)) hb); have n1_ := Aside0.mk (hbox); have n2_ := Aside0.mk ((by rw [hg]; exact (below_size (by repeat (first | (with_reducible first | exact HB.out | apply below_alloc | apply pw_below_drewN | apply below_drew1) | exact HB.out))) : w.heap.size ≤ gb212)); have n3_ := Aside0.mk ((by rw [hg]; exact (below_size (by repeat (first | (with_reducible first | exact HB.out | apply below_alloc | apply pw_below_drewN | apply below_drew1) | exact HB.out))) : w.heap.size ≤ gb212)); clear HB; have HB := n0_; have BK212 := n1_; have GW212 := n2_; have GE212 := n3_; clear n0_ n1_ n2_ n3_; clear hb hbox hg; have hcz40_0 : w39.cell? ⟨gb212, 0, none⟩ = some (.string (⟨#[]⟩ : ByteArray)) := (blk_cell BK212.out 0).trans rfl; have hcz40_1 : w39.cell? ⟨gb212, 1, none⟩ = some (.string (⟨#[]⟩ : ByteArray)) := (blk_cell BK212.out 1).trans rfl; have hcz40_2 : w39.cell? ⟨gb212, 2, none⟩ = some (.bool false) := (blk_cell BK212.out 2).trans rfl; have hcz40_3 : w39.cell? ⟨gb212, 3, none⟩ = some (.bool false) := (blk_cell BK212.out 3).trans rfl; have hcz40_4 : w39.cell? ⟨gb212, 4, none⟩ = some (.bool false) := (blk_cell BK212.out 4).trans rfl; have hcz40_5 : w39.cell? ⟨gb212, 5, none⟩ = some (.slice none 0 0) := (blk_cell BK212.out 5).trans rfl; have hfz40_0 := blk_frozen BK212.out 0; have hfz40_1 := blk_frozen BK212.out 1; have hfz40_2 := blk_frozen BK212.out 2; have hfz40_3 := blk_frozen BK212.out 3; have hfz40_4 := blk_frozen BK212.out 4; have hfz40_5 := blk_frozen BK212.out 5))
              (try simp only [Act.put, List.setIfInBounds_toArray, List.set_cons_zero, List.set_cons_succ])
              go_cut [66] (fun v66 wc => ∃ (kq : Nat) (x66_37 : Bool), v66 = .bool x66_37 ∧ Aside0 (spec_Holds.j1 kq l0 l1 x2_1 a3 x9_1 ((rd_T42 l0 x15_1).f0) l0 (l0.length : Int) x15_1 x66_37 = some r) ∧ Aside0 (kq ≤ k1) ∧ Aside0 (wc.heap[gb212]? = some (.cells #[.string ((rd_T42 l0 x15_1).f0), .string ((rd_T42 l0 x15_1).f1), .bool false, .bool ((rd_T42 l0 x15_1).f3), .bool ((rd_T42 l0 x15_1).f4), (.slice A211_5 ((rd_T42 l0 x15_1).f5).length c211_5)] 42 (0, 0))) ∧ Aside0 (Below w.heap.size w wc))
              case first =>
                have H := HC38.out
                clear HC38
                replace H := Option.bind_eq_some_iff.mp H
                obtain ⟨t218, A410, H⟩ := H
                replace H : (if t218 = true then (if 0 ≤ (wrap64 ((((rd_T42 l0 x15_1).f0).size : Int) - 1)) then (if (wrap64 ((((rd_T42 l0 x15_1).f0).size : Int) - 1)) ≤ (((rd_T42 l0 x15_1).f0).size : Int) then (spec_Holds.j1 k1 l0 l1 x2_1 a3 x9_1 ((rd_T42 l0 x15_1).f0) l0 (l0.length : Int) x15_1 (x2_1.toList == (((rd_T42 l0 x15_1).f0).extract 0 ((wrap64 ((((rd_T42 l0 x15_1).f0).size : Int) - 1)) : Int).toNat).toList)) else (none)) else (none)) else (spec_Holds.j1 k1 l0 l1 x2_1 a3 x9_1 ((rd_T42 l0 x15_1).f0) l0 (l0.length : Int) x15_1 false)) = some r := H
                have A41 := Aside0.mk A410
                clear A410
                by_cases c42 : t218 = true
                · subst c42
                  have H1 : (if 0 ≤ (wrap64 ((((rd_T42 l0 x15_1).f0).size : Int) - 1)) then (if (wrap64 ((((rd_T42 l0 x15_1).f0).size : Int) - 1)) ≤ (((rd_T42 l0 x15_1).f0).size : Int) then (spec_Holds.j1 k1 l0 l1 x2_1 a3 x9_1 ((rd_T42 l0 x15_1).f0) l0 (l0.length : Int) x15_1 (x2_1.toList == (((rd_T42 l0 x15_1).f0).extract 0 ((wrap64 ((((rd_T42 l0 x15_1).f0).size : Int) - 1)) : Int).toNat).toList)) else (none)) else (none)) = some r := by rw [if_pos rfl] at H; exact H
                  clear H
                  have H := H1
                  clear H1
                  obtain ⟨ji43, hji43⟩ : ∃ j_ : Int, (wrap64 ((((rd_T42 l0 x15_1).f0).size : Int) - 1)) = j_ := ⟨_, rfl⟩
                  replace H : (if 0 ≤ (ji43) then (if (ji43) ≤ (((rd_T42 l0 x15_1).f0).size : Int) then (spec_Holds.j1 k1 l0 l1 x2_1 a3 x9_1 ((rd_T42 l0 x15_1).f0) l0 (l0.length : Int) x15_1 (x2_1.toList == (((rd_T42 l0 x15_1).f0).extract 0 ((ji43) : Int).toNat).toList)) else (none)) else (none)) = some r := by first | (rw [hji43] at H; exact H) | (simp only [hji43] at H ⊢; exact H)
                  (try rw [hji43] at A41)
                  have hji43w : (IntKind.i64.wrap ((((rd_T42 l0 x15_1).f0).size : Int) - 1)) = ji43 := (i64_w _).trans hji43
                  by_cases c44 : 0 ≤ (ji43)
                  · rw [if_pos c44] at H
                    have c44b0 := eq_true c44
                    have c44b1 : decide (0 ≤ (ji43)) = true := decide_eq_true c44
                    clear c44
                    by_cases c45 : (ji43) ≤ (((rd_T42 l0 x15_1).f0).size : Int)
                    · rw [if_pos c45] at H
                      have c45b0 := eq_true c45
                      have c45b1 : decide ((ji43) ≤ (((rd_T42 l0 x15_1).f0).size : Int)) = true := decide_eq_true c45
                      clear c45
                      have H' := Aside0.mk H
                      clear H
                      go_wp2_with (first | ((with_reducible refine gate_callee (f := 26) rfl ?_); refine goesL_ (some 57) rfl rfl Tryz.func26 (by kernel_rfl) rfl #[.slice (some ad211) l0.length c0, .int .i64 x15_1] rfl (by (try simp only [List.map_toArray, List.map_cons, List.map_nil]); first | done | rfl | (simp only [List.length_drop, List.length_take]; rfl)) ?_; (with_reducible refine (spec_mayEnd.calls _ _ l0 x15_1 true _ ?side1 ?side2 A41.out).mono ?_); (case side1 => exact Kd.C_below HR0.out (by repeat (first | (with_reducible first | exact HB.out | apply below_alloc | apply pw_below_drewN | apply below_drew1 | refine below_set ?_ GE212.out) | exact HB.out))); (case side2 => exact HC0.out); rintro e w' ⟨rfl, ⟨nd, rfl⟩⟩; refine ⟨_, rfl, ?_⟩))
                      go_meet
                      case rel => exact ⟨_, ((x2_1.toList == (((rd_T42 l0 x15_1).f0).extract 0 ((ji43) : Int).toNat).toList)), (by first | rfl | (simp; done) | (simp only [← hji43] <;> (first | rfl | simp)) | (simp [*]; done)), H', ⟨by have := HK1.out; first | omega | exact Nat.le_refl _⟩, ⟨by (with_reducible repeat (first | refine blk_drewN ?_ _ | refine blk_drew ?_ | refine blk_alloc ?_ _)); refine blk_put (cs := #[.string ((rd_T42 l0 x15_1).f0), .string ((rd_T42 l0 x15_1).f1), .bool false, .bool ((rd_T42 l0 x15_1).f3), .bool ((rd_T42 l0 x15_1).f4), .slice none 0 0]) ?_ 5 _ rfl; (with_reducible repeat (first | refine blk_drewN ?_ _ | refine blk_drew ?_ | refine blk_alloc ?_ _)); refine blk_put (cs := #[.string ((rd_T42 l0 x15_1).f0), .string ((rd_T42 l0 x15_1).f1), .bool false, .bool ((rd_T42 l0 x15_1).f3), .bool false, .slice none 0 0]) ?_ 4 _ rfl; (with_reducible repeat (first | refine blk_drewN ?_ _ | refine blk_drew ?_ | refine blk_alloc ?_ _)); refine blk_put (cs := #[.string ((rd_T42 l0 x15_1).f0), .string ((rd_T42 l0 x15_1).f1), .bool false, .bool false, .bool false, .slice none 0 0]) ?_ 3 _ rfl; (with_reducible repeat (first | refine blk_drewN ?_ _ | refine blk_drew ?_ | refine blk_alloc ?_ _)); refine blk_put (cs := #[.string ((rd_T42 l0 x15_1).f0), .string ((rd_T42 l0 x15_1).f1), .bool false, .bool false, .bool false, .slice none 0 0]) ?_ 2 _ rfl; (with_reducible repeat (first | refine blk_drewN ?_ _ | refine blk_drew ?_ | refine blk_alloc ?_ _)); refine blk_put (cs := #[.string ((rd_T42 l0 x15_1).f0), .string (⟨#[]⟩ : ByteArray), .bool false, .bool false, .bool false, .slice none 0 0]) ?_ 1 _ rfl; (with_reducible repeat (first | refine blk_drewN ?_ _ | refine blk_drew ?_ | refine blk_alloc ?_ _)); refine blk_put (cs := #[.string (⟨#[]⟩ : ByteArray), .string (⟨#[]⟩ : ByteArray), .bool false, .bool false, .bool false, .slice none 0 0]) ?_ 0 _ rfl; (with_reducible repeat (first | refine blk_drewN ?_ _ | refine blk_drew ?_ | refine blk_alloc ?_ _)); exact BK212.out⟩, ⟨by repeat (first | (with_reducible first | exact HB.out | apply below_alloc | apply pw_below_drewN | apply below_drew1 | refine below_set ?_ GE212.out) | exact HB.out)⟩⟩
                    · rw [if_neg c45] at H
                      exact absurd H (by simp)
                  · rw [if_neg c44] at H
                    exact absurd H (by simp)
                · replace c42 := Bool.eq_false_iff.mpr c42
                  subst c42
                  have H1 : (spec_Holds.j1 k1 l0 l1 x2_1 a3 x9_1 ((rd_T42 l0 x15_1).f0) l0 (l0.length : Int) x15_1 false) = some r := by rw [if_neg (show ¬ (false = true) by decide)] at H; exact H
                  clear H
                  have H := H1
                  clear H1
                  have H' := Aside0.mk H
                  clear H
                  go_wp2_with (first | ((with_reducible refine gate_callee (f := 26) rfl ?_); refine goesL_ (some 57) rfl rfl Tryz.func26 (by kernel_rfl) rfl #[.slice (some ad211) l0.length c0, .int .i64 x15_1] rfl (by (try simp only [List.map_toArray, List.map_cons, List.map_nil]); first | done | rfl | (simp only [List.length_drop, List.length_take]; rfl)) ?_; (with_reducible refine (spec_mayEnd.calls _ _ l0 x15_1 false _ ?side1 ?side2 A41.out).mono ?_); (case side1 => exact Kd.C_below HR0.out (by repeat (first | (with_reducible first | exact HB.out | apply below_alloc | apply pw_below_drewN | apply below_drew1 | refine below_set ?_ GE212.out) | exact HB.out))); (case side2 => exact HC0.out); rintro e w' ⟨rfl, ⟨nd, rfl⟩⟩; refine ⟨_, rfl, ?_⟩))
                  go_meet
                  case rel => exact ⟨_, (false), (by first | rfl | (simp; done) | (simp [*]; done)), H', ⟨by have := HK1.out; first | omega | exact Nat.le_refl _⟩, ⟨by (with_reducible repeat (first | refine blk_drewN ?_ _ | refine blk_drew ?_ | refine blk_alloc ?_ _)); refine blk_put (cs := #[.string ((rd_T42 l0 x15_1).f0), .string ((rd_T42 l0 x15_1).f1), .bool false, .bool ((rd_T42 l0 x15_1).f3), .bool ((rd_T42 l0 x15_1).f4), .slice none 0 0]) ?_ 5 _ rfl; (with_reducible repeat (first | refine blk_drewN ?_ _ | refine blk_drew ?_ | refine blk_alloc ?_ _)); refine blk_put (cs := #[.string ((rd_T42 l0 x15_1).f0), .string ((rd_T42 l0 x15_1).f1), .bool false, .bool ((rd_T42 l0 x15_1).f3), .bool false, .slice none 0 0]) ?_ 4 _ rfl; (with_reducible repeat (first | refine blk_drewN ?_ _ | refine blk_drew ?_ | refine blk_alloc ?_ _)); refine blk_put (cs := #[.string ((rd_T42 l0 x15_1).f0), .string ((rd_T42 l0 x15_1).f1), .bool false, .bool false, .bool false, .slice none 0 0]) ?_ 3 _ rfl; (with_reducible repeat (first | refine blk_drewN ?_ _ | refine blk_drew ?_ | refine blk_alloc ?_ _)); refine blk_put (cs := #[.string ((rd_T42 l0 x15_1).f0), .string ((rd_T42 l0 x15_1).f1), .bool false, .bool false, .bool false, .slice none 0 0]) ?_ 2 _ rfl; (with_reducible repeat (first | refine blk_drewN ?_ _ | refine blk_drew ?_ | refine blk_alloc ?_ _)); refine blk_put (cs := #[.string ((rd_T42 l0 x15_1).f0), .string (⟨#[]⟩ : ByteArray), .bool false, .bool false, .bool false, .slice none 0 0]) ?_ 1 _ rfl; (with_reducible repeat (first | refine blk_drewN ?_ _ | refine blk_drew ?_ | refine blk_alloc ?_ _)); refine blk_put (cs := #[.string (⟨#[]⟩ : ByteArray), .string (⟨#[]⟩ : ByteArray), .bool false, .bool false, .bool false, .slice none 0 0]) ?_ 0 _ rfl; (with_reducible repeat (first | refine blk_drewN ?_ _ | refine blk_drew ?_ | refine blk_alloc ?_ _)); exact BK212.out⟩, ⟨by repeat (first | (with_reducible first | exact HB.out | apply below_alloc | apply pw_below_drewN | apply below_drew1 | refine below_set ?_ GE212.out) | exact HB.out)⟩⟩
              case rest =>
                clear HC38
                try clear c1
                try clear c2
                try clear p2
                try clear q2
                try clear hx2
                try clear c4
                try clear p6
                try clear q8
                try clear c9
                try clear c15
                try clear c16
                try clear c18
                try clear c19
                try clear c20
                try clear c21
                try clear p21
                try clear q21
                try clear hx21
                try clear c22
                try clear c25
                try clear c26
                try clear c42
                try clear c44
                try clear c44b0
                try clear c44b1
                try clear c45
                try clear c45b0
                try clear c45b1
                try clear hcz29_0
                try clear hcz29_1
                try clear hcz29_2
                try clear hcz29_3
                try clear hcz29_4
                try clear hcz29_5
                try clear hcz34_0
                try clear hcz34_1
                try clear hcz34_2
                try clear hcz34_3
                try clear hcz34_4
                try clear hcz34_5
                try clear hcz40_0
                try clear hcz40_1
                try clear hcz40_2
                try clear hcz40_3
                try clear hcz40_4
                try clear hcz40_5
                try clear hfz29_0
                try clear hfz29_1
                try clear hfz29_2
                try clear hfz29_3
                try clear hfz29_4
                try clear hfz29_5
                try clear hfz34_0
                try clear hfz34_1
                try clear hfz34_2
                try clear hfz34_3
                try clear hfz34_4
                try clear hfz34_5
                try clear hfz40_0
                try clear hfz40_1
                try clear hfz40_2
                try clear hfz40_3
                try clear hfz40_4
                try clear hfz40_5
                try clear hx211_0
                try clear hx211_1
                try clear hx211_2
                try clear hx211_3
                try clear hx211_4
                try clear hx211_5
                try clear hx213_0
                try clear hx215_0
                try clear hx217_0
                try clear p211
                try clear p213
                try clear p215
                try clear p217
                try clear q211
                try clear q213
                try clear q215
                try clear q217
                obtain ⟨kq, x66_37, rfl, HA, HJ37, BK212, HB⟩ := hcut
                cases kq with
                | zero => exact absurd HA.out (by simp [spec_Holds.j1])
                | succ kj37 =>
                  have H := HA.out
                  clear HA
                  simp only [spec_Holds.j1] at H
                  by_cases c46 : x66_37 = true
                  · subst c46
                    have H1 : (spec_Holds.l0 kj37 l0 l1 (⟨#[]⟩ : ByteArray) a3 x9_1 l0 (l0.length : Int) (wrap64 (x15_1 + 1))) = some r := by rw [if_pos rfl] at H; exact H
                    clear H
                    have H := H1
                    clear H1
                    have H' := Aside0.mk H
                    clear H
                    go_wp2
                    go_roundg kj37
                    case measure => have := HK1.out; have := HJ37.out; omega
                    case rel => exact ⟨((⟨#[]⟩ : ByteArray)), (x9_1), (wrap64 (x15_1 + 1)), (by first | rfl | (simp; done) | (simp [*]; done)), (by first | rfl | (simp; done) | (simp [*]; done)), (by first | rfl | (simp; done) | (simp [*]; done)), H', ⟨by have := HK1.out; have := HJ37.out; omega⟩, ⟨by repeat (first | (with_reducible first | exact HB.out | apply below_alloc | apply pw_below_drewN | apply below_drew1 | refine below_set ?_ GE212.out) | exact HB.out)⟩⟩
                  · replace c46 := Bool.eq_false_iff.mpr c46
                    subst c46
                    have H1 : ((spec_begins.f x2_1 ((rd_T42 l0 x15_1).f0)).bind fun t219 => (if t219 = true then (if 0 ≤ (((rd_T42 l0 x15_1).f0).size : Int) then (if (((rd_T42 l0 x15_1).f0).size : Int) ≤ (x2_1.size : Int) then (spec_Holds.l0 kj37 l0 l1 (x2_1.extract ((((rd_T42 l0 x15_1).f0).size : Int) : Int).toNat x2_1.size) a3 x9_1 l0 (l0.length : Int) (wrap64 (x15_1 + 1))) else (none)) else (none)) else (some false))) = some r := by rw [if_neg (show ¬ (false = true) by decide)] at H; exact H
                    clear H
                    have H := H1
                    clear H1
                    replace H := Option.bind_eq_some_iff.mp H
                    obtain ⟨t219, A470, H⟩ := H
                    replace H : (if t219 = true then (if 0 ≤ (((rd_T42 l0 x15_1).f0).size : Int) then (if (((rd_T42 l0 x15_1).f0).size : Int) ≤ (x2_1.size : Int) then (spec_Holds.l0 kj37 l0 l1 (x2_1.extract ((((rd_T42 l0 x15_1).f0).size : Int) : Int).toNat x2_1.size) a3 x9_1 l0 (l0.length : Int) (wrap64 (x15_1 + 1))) else (none)) else (none)) else (some false)) = some r := H
                    have A47 := Aside0.mk A470
                    clear A470
                    by_cases c48 : t219 = true
                    · subst c48
                      have H1 : (if 0 ≤ (((rd_T42 l0 x15_1).f0).size : Int) then (if (((rd_T42 l0 x15_1).f0).size : Int) ≤ (x2_1.size : Int) then (spec_Holds.l0 kj37 l0 l1 (x2_1.extract ((((rd_T42 l0 x15_1).f0).size : Int) : Int).toNat x2_1.size) a3 x9_1 l0 (l0.length : Int) (wrap64 (x15_1 + 1))) else (none)) else (none)) = some r := by rw [if_pos rfl] at H; exact H
                      clear H
                      have H := H1
                      clear H1
                      by_cases c49 : 0 ≤ (((rd_T42 l0 x15_1).f0).size : Int)
                      · rw [if_pos c49] at H
                        have c49b0 := eq_true c49
                        have c49b1 : decide (0 ≤ (((rd_T42 l0 x15_1).f0).size : Int)) = true := decide_eq_true c49
                        clear c49
                        by_cases c50 : (((rd_T42 l0 x15_1).f0).size : Int) ≤ (x2_1.size : Int)
                        · rw [if_pos c50] at H
                          have c50b0 := eq_true c50
                          have c50b1 : decide ((((rd_T42 l0 x15_1).f0).size : Int) ≤ (x2_1.size : Int)) = true := decide_eq_true c50
                          clear c50
                          have H' := Aside0.mk H
                          clear H
                          go_wp2_with (first | ((with_reducible refine gate_callee (f := 19) rfl ?_); refine goesL_ (some 69) rfl rfl Tryz.func19 (by kernel_rfl) rfl #[.string x2_1, .string ((rd_T42 l0 x15_1).f0)] rfl (by (try simp only [List.map_toArray, List.map_cons, List.map_nil]); first | done | rfl | (simp only [List.length_drop, List.length_take]; rfl)) ?_; (with_reducible refine (spec_begins.calls x2_1 ((rd_T42 l0 x15_1).f0) true _ A47.out).mono ?_); rintro e w' ⟨rfl, ⟨nd, rfl⟩⟩; refine ⟨_, rfl, ?_⟩))
                          go_roundg kj37
                          case measure => have := HK1.out; have := HJ37.out; omega
                          case rel => exact ⟨(x2_1.extract ((((rd_T42 l0 x15_1).f0).size : Int) : Int).toNat x2_1.size), (x9_1), (wrap64 (x15_1 + 1)), (by first | rfl | (simp; done) | (simp [*]; done)), (by first | rfl | (simp; done) | (simp [*]; done)), (by first | rfl | (simp; done) | (simp [*]; done)), H', ⟨by have := HK1.out; have := HJ37.out; omega⟩, ⟨by repeat (first | (with_reducible first | exact HB.out | apply below_alloc | apply pw_below_drewN | apply below_drew1 | refine below_set ?_ GE212.out) | exact HB.out)⟩⟩
                        · rw [if_neg c50] at H
                          exact absurd H (by simp)
                      · rw [if_neg c49] at H
                        exact absurd H (by simp)
                    · replace c48 := Bool.eq_false_iff.mpr c48
                      subst c48
                      have H1 : (some false) = some r := by rw [if_neg (show ¬ (false = true) by decide)] at H; exact H
                      clear H
                      have H := H1
                      clear H1
                      obtain rfl := Option.some.inj H
                      go_wp2_with (first | ((with_reducible refine gate_callee (f := 19) rfl ?_); refine goesL_ (some 69) rfl rfl Tryz.func19 (by kernel_rfl) rfl #[.string x2_1, .string ((rd_T42 l0 x15_1).f0)] rfl (by (try simp only [List.map_toArray, List.map_cons, List.map_nil]); first | done | rfl | (simp only [List.length_drop, List.length_take]; rfl)) ?_; (with_reducible refine (spec_begins.calls x2_1 ((rd_T42 l0 x15_1).f0) false _ A47.out).mono ?_); rintro e w' ⟨rfl, ⟨nd, rfl⟩⟩; refine ⟨_, rfl, ?_⟩))
                      go_ret
                      exact ⟨by first | rfl | (simp [errW_none, errW_some] <;> rfl) | (simp [*, errW_none, errW_some] <;> rfl), by repeat (first | (with_reducible first | exact HB.out | apply below_alloc | apply pw_below_drewN | apply below_drew1 | refine below_set ?_ GE212.out) | exact HB.out)⟩
          · rw [if_neg c7] at H
            exact absurd H (by simp)
        · rw [if_neg c6] at H
          exact absurd H (by simp)
      · rw [if_neg c5] at H
        have c5b0 : decide (x15_1 < (l0.length : Int)) = false := decide_eq_false c5
        clear c5
        by_cases c51 : x9_1 = (l1.length : Int)
        · rw [if_pos c51] at H
          have c51b0 : (x9_1 == (l1.length : Int)) = true := beq_iff_eq.mpr c51
          have c51b1 : (x9_1 != (l1.length : Int)) = false := bne_eq_false_iff_eq.mpr c51
          clear c51
          by_cases c52 : a3 = true
          · subst c52
            have H1 : (some true) = some r := by rw [if_pos rfl] at H; exact H
            clear H
            have H := H1
            clear H1
            obtain rfl := Option.some.inj H
            go_wp2
            go_ret
            exact ⟨by first | rfl | (simp [errW_none, errW_some] <;> rfl) | (simp [*, errW_none, errW_some] <;> rfl), by repeat (first | (with_reducible first | exact HB.out | apply below_alloc | apply pw_below_drewN | apply below_drew1) | exact HB.out)⟩
          · replace c52 := Bool.eq_false_iff.mpr c52
            subst c52
            have H1 : (some (x2_1.toList == ([] : List UInt8))) = some r := by rw [if_neg (show ¬ (false = true) by decide)] at H; exact H
            clear H
            have H := H1
            clear H1
            obtain rfl := Option.some.inj H
            go_wp2
            go_ret
            exact ⟨by first | rfl | (simp [errW_none, errW_some] <;> rfl) | (simp [*, errW_none, errW_some] <;> rfl), by repeat (first | (with_reducible first | exact HB.out | apply below_alloc | apply pw_below_drewN | apply below_drew1) | exact HB.out)⟩
        · rw [if_neg c51] at H
          have c51b0 : (x9_1 == (l1.length : Int)) = false := beq_eq_false_iff_ne.mpr c51
          have c51b1 : (x9_1 != (l1.length : Int)) = true := bne_iff_ne.mpr c51
          obtain rfl := Option.some.inj H
          go_wp2
          go_ret
          exact ⟨by first | rfl | (simp [errW_none, errW_some] <;> rfl) | (simp [*, errW_none, errW_some] <;> rfl), by repeat (first | (with_reducible first | exact HB.out | apply below_alloc | apply pw_below_drewN | apply below_drew1) | exact HB.out)⟩

end Go.Proofs.YtfahabnjplnbmaaGreatDoor.Q
