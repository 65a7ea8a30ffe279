-- Laid by a program of this session's own, after the kit's print (two functions given by hand). Lean checks it.
import Derived.Test.YtfahabnjplnbmaaGreatDoorMQx0
import Derived.Test.YtfahabnjplnbmaaGreatDoorMQx6
namespace Go.Proofs.YtfahabnjplnbmaaGreatDoor.Q
open Go.RowKit Go.Proofs.YtfahabnjplnbmaaGreatDoorW.PrintWords Go.Proofs.YtfahabnjplnbmaaGreatDoorW.PrintLast Go.Proofs.YtfahabnjplnbmaaGreatDoorW.PrintMore
attribute [local go_sem] max2_int min2_int max_two min_two max_three min_three max_four min_four   -- for this text's walks alone
set_option linter.unusedVariables false
set_option linter.unusedSimpArgs false

/-! ### spec_could: function 23 -/
mutual
def spec_could.l0 : Nat → List (S42) → Int → ByteArray → Bool → Int → ByteArray → ByteArray → Bool → Bool → Bool → List (S66) → Option (Bool)
  | 0, _, _, _, _, _, _, _, _, _, _, _ => none
  | k + 1, x0, x1, x2, x3, x10, x185000, x185001, x185002, x185003, x185004, x185005 => if x10 ≤ (x2.size : Int) then (if x10 > 0 then (if 0 ≤ (wrap64 (x10 - 1)) then (if (wrap64 (x10 - 1)) < (x2.size : Int) then (if (bt x2 (wrap64 (x10 - 1))) = 47 then (spec_could.j2 k x0 x1 x2 x3 x10 (!x185003) x185000 x185001 x185002 x185003 x185004 x185005) else (spec_could.j2 k x0 x1 x2 x3 x10 false x185000 x185001 x185002 x185003 x185004 x185005)) else (none)) else (none)) else (spec_could.j2 k x0 x1 x2 x3 x10 false x185000 x185001 x185002 x185003 x185004 x185005)) else (some false)
def spec_could.j2 : Nat → List (S42) → Int → ByteArray → Bool → Int → Bool → ByteArray → ByteArray → Bool → Bool → Bool → List (S66) → Option (Bool)
  | 0, _, _, _, _, _, _, _, _, _, _, _, _ => none
  | k + 1, x0, x1, x2, x3, x10, x83, x185000, x185001, x185002, x185003, x185004, x185005 => if x83 = true then (some false) else (if 0 ≤ x10 then (if x10 ≤ (x2.size : Int) then ((spec_within.f k x185000 x185001 x185002 x185003 x185004 x185005 (x2.extract 0 (x10 : Int).toNat)).bind fun t189 => (if t189 = true then ((spec_could.f k x0 (wrap64 (x1 + 1)) (x2.extract (x10 : Int).toNat x2.size) x3).bind fun t190 => (if t190 = true then (some true) else (spec_could.l0 k x0 x1 x2 x3 (wrap64 (x10 + 1)) x185000 x185001 x185002 x185003 x185004 x185005))) else (spec_could.l0 k x0 x1 x2 x3 (wrap64 (x10 + 1)) x185000 x185001 x185002 x185003 x185004 x185005))) else (none)) else (none))
def spec_could.j0 : Nat → List (S42) → Int → ByteArray → Bool → Bool → ByteArray → ByteArray → Bool → Bool → Bool → List (S66) → Option (Bool)
  | 0, _, _, _, _, _, _, _, _, _, _, _ => none
  | k + 1, x0, x1, x2, x3, x42, x185000, x185001, x185002, x185003, x185004, x185005 => if x42 = true then (some true) else ((spec_mayEnd.f x0 x1).bind fun t187 => (if t187 = true then (if 0 ≤ (wrap64 ((x185000.size : Int) - 1)) then (if (wrap64 ((x185000.size : Int) - 1)) ≤ (x185000.size : Int) then (if x2.toList = (x185000.extract 0 ((wrap64 ((x185000.size : Int) - 1)) : Int).toNat).toList then ((spec_could.f k x0 (wrap64 (x1 + 1)) (⟨#[]⟩ : ByteArray) x3).bind fun t188 => (some t188)) else (some false)) else (none)) else (none)) else (some false)))
def spec_could.f : Nat → List (S42) → Int → ByteArray → Bool → Option (Bool)
  | 0, _, _, _, _ => none
  | k + 1, l0, a1, a2, a3 => if a1 = (l0.length : Int) then (if a3 = true then (some true) else (some (a2.toList == ([] : List UInt8)))) else (if 0 ≤ a1 then (if a1 < (l0.length : Int) then (if ((rd_T42 l0 a1).f2 = true) then (spec_could.l0 k l0 a1 a2 a3 0 ((rd_T42 l0 a1).f0) ((rd_T42 l0 a1).f1) ((rd_T42 l0 a1).f2) ((rd_T42 l0 a1).f3) ((rd_T42 l0 a1).f4) ((rd_T42 l0 a1).f5)) else ((spec_begins.f a2 ((rd_T42 l0 a1).f0)).bind fun t185 => (if t185 = true then (if 0 ≤ (((rd_T42 l0 a1).f0).size : Int) then (if (((rd_T42 l0 a1).f0).size : Int) ≤ (a2.size : Int) then ((spec_could.f k l0 (wrap64 (a1 + 1)) (a2.extract ((((rd_T42 l0 a1).f0).size : Int) : Int).toNat a2.size) a3).bind fun t186 => (spec_could.j0 k l0 a1 a2 a3 t186 ((rd_T42 l0 a1).f0) ((rd_T42 l0 a1).f1) ((rd_T42 l0 a1).f2) ((rd_T42 l0 a1).f3) ((rd_T42 l0 a1).f4) ((rd_T42 l0 a1).f5))) else (none)) else (none)) else (spec_could.j0 k l0 a1 a2 a3 false ((rd_T42 l0 a1).f0) ((rd_T42 l0 a1).f1) ((rd_T42 l0 a1).f2) ((rd_T42 l0 a1).f3) ((rd_T42 l0 a1).f4) ((rd_T42 l0 a1).f5))))) else (none)) else (none))
end
theorem spec_could.mono_l : ∀ k, (∀ y0 y1 y2 y3, LeO (spec_could.f k y0 y1 y2 y3) (spec_could.f (k + 1) y0 y1 y2 y3)) ∧ (∀ y0 y1 y2 y3 y4 y5 y6 y7 y8 y9 y10, LeO (spec_could.l0 k y0 y1 y2 y3 y4 y5 y6 y7 y8 y9 y10) (spec_could.l0 (k + 1) y0 y1 y2 y3 y4 y5 y6 y7 y8 y9 y10)) ∧ (∀ y0 y1 y2 y3 y4 y5 y6 y7 y8 y9 y10 y11, LeO (spec_could.j2 k y0 y1 y2 y3 y4 y5 y6 y7 y8 y9 y10 y11) (spec_could.j2 (k + 1) y0 y1 y2 y3 y4 y5 y6 y7 y8 y9 y10 y11)) ∧ (∀ y0 y1 y2 y3 y4 y5 y6 y7 y8 y9 y10, LeO (spec_could.j0 k y0 y1 y2 y3 y4 y5 y6 y7 y8 y9 y10) (spec_could.j0 (k + 1) y0 y1 y2 y3 y4 y5 y6 y7 y8 y9 y10))
  | 0 => ⟨fun _ _ _ _ r h => by simp [spec_could.f] at h, fun _ _ _ _ _ _ _ _ _ _ _ r h => by simp [spec_could.l0] at h, fun _ _ _ _ _ _ _ _ _ _ _ _ r h => by simp [spec_could.j2] at h, fun _ _ _ _ _ _ _ _ _ _ _ r h => by simp [spec_could.j0] at h⟩
  | k + 1 => by
    obtain ⟨ih0, ih1, ih2, ih3⟩ := spec_could.mono_l k
    refine ⟨?_, ?_, ?_, ?_⟩
    · intro y0 y1 y2 y3
      unfold spec_could.f
      repeat' first
      | (with_reducible exact ih0 _ _ _ _)
      | (with_reducible exact ih1 _ _ _ _ _ _ _ _ _ _ _)
      | (with_reducible exact ih2 _ _ _ _ _ _ _ _ _ _ _ _)
      | (with_reducible exact ih3 _ _ _ _ _ _ _ _ _ _ _)
      | (with_reducible exact spec_within.mono _ _ _ _ _ _ _ _)
      | (with_reducible exact LeO.refl _)
      | (with_reducible exact LeO.none _)
      | (with_reducible refine LeO.ite ?_ ?_)
      | (with_reducible refine LeO.bind ?_ (fun _ => ?_))
      | exact ih0 _ _ _ _
      | exact ih1 _ _ _ _ _ _ _ _ _ _ _
      | exact ih2 _ _ _ _ _ _ _ _ _ _ _ _
      | exact ih3 _ _ _ _ _ _ _ _ _ _ _
      | exact spec_within.mono _ _ _ _ _ _ _ _
      | exact LeO.none _
      | refine LeO.ite ?_ ?_
      | refine LeO.bind ?_ (fun _ => ?_)
    · intro y0 y1 y2 y3 y4 y5 y6 y7 y8 y9 y10
      unfold spec_could.l0
      repeat' first
      | (with_reducible exact ih0 _ _ _ _)
      | (with_reducible exact ih1 _ _ _ _ _ _ _ _ _ _ _)
      | (with_reducible exact ih2 _ _ _ _ _ _ _ _ _ _ _ _)
      | (with_reducible exact ih3 _ _ _ _ _ _ _ _ _ _ _)
      | (with_reducible exact spec_within.mono _ _ _ _ _ _ _ _)
      | (with_reducible exact LeO.refl _)
      | (with_reducible exact LeO.none _)
      | (with_reducible refine LeO.ite ?_ ?_)
      | (with_reducible refine LeO.bind ?_ (fun _ => ?_))
      | exact ih0 _ _ _ _
      | exact ih1 _ _ _ _ _ _ _ _ _ _ _
      | exact ih2 _ _ _ _ _ _ _ _ _ _ _ _
      | exact ih3 _ _ _ _ _ _ _ _ _ _ _
      | exact spec_within.mono _ _ _ _ _ _ _ _
      | exact LeO.none _
      | refine LeO.ite ?_ ?_
      | refine LeO.bind ?_ (fun _ => ?_)
    · intro y0 y1 y2 y3 y4 y5 y6 y7 y8 y9 y10 y11
      unfold spec_could.j2
      repeat' first
      | (with_reducible exact ih0 _ _ _ _)
      | (with_reducible exact ih1 _ _ _ _ _ _ _ _ _ _ _)
      | (with_reducible exact ih2 _ _ _ _ _ _ _ _ _ _ _ _)
      | (with_reducible exact ih3 _ _ _ _ _ _ _ _ _ _ _)
      | (with_reducible exact spec_within.mono _ _ _ _ _ _ _ _)
      | (with_reducible exact LeO.refl _)
      | (with_reducible exact LeO.none _)
      | (with_reducible refine LeO.ite ?_ ?_)
      | (with_reducible refine LeO.bind ?_ (fun _ => ?_))
      | exact ih0 _ _ _ _
      | exact ih1 _ _ _ _ _ _ _ _ _ _ _
      | exact ih2 _ _ _ _ _ _ _ _ _ _ _ _
      | exact ih3 _ _ _ _ _ _ _ _ _ _ _
      | exact spec_within.mono _ _ _ _ _ _ _ _
      | exact LeO.none _
      | refine LeO.ite ?_ ?_
      | refine LeO.bind ?_ (fun _ => ?_)
    · intro y0 y1 y2 y3 y4 y5 y6 y7 y8 y9 y10
      unfold spec_could.j0
      repeat' first
      | (with_reducible exact ih0 _ _ _ _)
      | (with_reducible exact ih1 _ _ _ _ _ _ _ _ _ _ _)
      | (with_reducible exact ih2 _ _ _ _ _ _ _ _ _ _ _ _)
      | (with_reducible exact ih3 _ _ _ _ _ _ _ _ _ _ _)
      | (with_reducible exact spec_within.mono _ _ _ _ _ _ _ _)
      | (with_reducible exact LeO.refl _)
      | (with_reducible exact LeO.none _)
      | (with_reducible refine LeO.ite ?_ ?_)
      | (with_reducible refine LeO.bind ?_ (fun _ => ?_))
      | exact ih0 _ _ _ _
      | exact ih1 _ _ _ _ _ _ _ _ _ _ _
      | exact ih2 _ _ _ _ _ _ _ _ _ _ _ _
      | exact ih3 _ _ _ _ _ _ _ _ _ _ _
      | exact spec_within.mono _ _ _ _ _ _ _ _
      | exact LeO.none _
      | refine LeO.ite ?_ ?_
      | refine LeO.bind ?_ (fun _ => ?_)
theorem spec_could.mono : ∀ a0 a1 a2 a3 k, LeO (spec_could.f k a0 a1 a2 a3) (spec_could.f (k + 1) a0 a1 a2 a3) := by
  intro a0 a1 a2 a3 k
  obtain ⟨ih0, ih1, ih2, ih3⟩ := spec_could.mono_l k
  exact ih0 a0 a1 a2 a3
def spec_could.T13 : Bool × List (List Nat × List Nat) := (true, [([], []), ([], []), ([], []), ([1, 2], [1, 2]), ([0, 3], [0, 3]), ([4, 4], [4]), ([5], [5]), ([5], [5]), ([7, 5], [5, 7]), ([5], [5]), ([5], [5]), ([9, 10, 5], [5, 9, 10]), ([5], [5]), ([6, 8, 11, 12, 5, 5], [5, 6, 8, 11, 12]), ([5, 13], [5, 13])])
def spec_could.B13 : List Nat := [0, 0, 0, 6, 15, 31, 63, 63, 191, 63, 63, 1599, 63, 8191, 16383]
theorem spec_could.tab13 : rtab .any (opsOf Tryz.f23 13) = spec_could.T13 := by kernel_rfl
theorem spec_could.bits13 : waitsOk spec_could.T13.2 spec_could.B13 = true := by kernel_rfl
set_option maxHeartbeats 8000000 in
set_option maxRecDepth 100000 in
theorem spec_could.calls (k : Nat) : ∀ (A0 : Option Addr) (c0 : Nat) (l0 : List (S42)) (a1 : Int) (a2 : ByteArray) (a3 : Bool) (r : Bool) (w : World) (hr0 : Kd.C k42 w A0 l0.length l0) (hc0 : l0.length ≤ c0) (h : spec_could.f k l0 a1 a2 a3 = some r),
    Calls Tryz.prog 23 #[.slice A0 l0.length c0, .int .i64 a1, .string a2, .bool a3] w fun e w' => e = .returned (.bool r) ∧ Below w.heap.size w w' := by
  induction k using Nat.strongRecOn with
  | _ k ih =>
  intro A0 c0 l0 a1 a2 a3 r w hr0 hc0 h
  cases k with
  | zero => exact absurd h (by simp [spec_could.f])
  | succ k =>
  simp only [spec_could.f] at h
  have hu42 := Tryz.underlying42
  have HR0 := Aside0.mk hr0
  have HC0 := Aside0.mk hc0
  clear hr0 hc0
  have HB := Aside0.mk (Below.refl w.heap.size w)
  have H : (if a1 = (l0.length : Int) then (if a3 = true then (some true) else (some (a2.toList == ([] : List UInt8)))) else (if 0 ≤ a1 then (if a1 < (l0.length : Int) then (if ((rd_T42 l0 a1).f2 = true) then (spec_could.l0 k l0 a1 a2 a3 0 ((rd_T42 l0 a1).f0) ((rd_T42 l0 a1).f1) ((rd_T42 l0 a1).f2) ((rd_T42 l0 a1).f3) ((rd_T42 l0 a1).f4) ((rd_T42 l0 a1).f5)) else ((spec_begins.f a2 ((rd_T42 l0 a1).f0)).bind fun t185 => (if t185 = true then (if 0 ≤ (((rd_T42 l0 a1).f0).size : Int) then (if (((rd_T42 l0 a1).f0).size : Int) ≤ (a2.size : Int) then ((spec_could.f k l0 (wrap64 (a1 + 1)) (a2.extract ((((rd_T42 l0 a1).f0).size : Int) : Int).toNat a2.size) a3).bind fun t186 => (spec_could.j0 k l0 a1 a2 a3 t186 ((rd_T42 l0 a1).f0) ((rd_T42 l0 a1).f1) ((rd_T42 l0 a1).f2) ((rd_T42 l0 a1).f3) ((rd_T42 l0 a1).f4) ((rd_T42 l0 a1).f5))) else (none)) else (none)) else (spec_could.j0 k l0 a1 a2 a3 false ((rd_T42 l0 a1).f0) ((rd_T42 l0 a1).f1) ((rd_T42 l0 a1).f2) ((rd_T42 l0 a1).f3) ((rd_T42 l0 a1).f4) ((rd_T42 l0 a1).f5))))) else (none)) else (none))) = some r := h
  clear h
  by_cases c5 : a1 = (l0.length : Int)
  · rw [if_pos c5] at H
    have c5b0 : (a1 == (l0.length : Int)) = true := beq_iff_eq.mpr c5
    have c5b1 : (a1 != (l0.length : Int)) = false := bne_eq_false_iff_eq.mpr c5
    clear c5
    by_cases c6 : a3 = true
    · subst c6
      have H1 : (some true) = some r := by rw [if_pos rfl] at H; exact H
      clear H
      have H := H1
      clear H1
      obtain rfl := Option.some.inj H
      go_enter Tryz.func23, Tryz.ntmps23
      go_wp2
      go_ret
      exact ⟨by first | rfl | (simp [errW_none, errW_some] <;> rfl) | (simp [*, errW_none, errW_some] <;> rfl), by repeat (first | (with_reducible first | exact HB.out | apply below_alloc | apply pw_below_drewN | apply below_drew1) | exact HB.out)⟩
    · replace c6 := Bool.eq_false_iff.mpr c6
      subst c6
      have H1 : (some (a2.toList == ([] : List UInt8))) = some r := by rw [if_neg (show ¬ (false = true) by decide)] at H; exact H
      clear H
      have H := H1
      clear H1
      obtain rfl := Option.some.inj H
      go_enter Tryz.func23, Tryz.ntmps23
      go_wp2
      go_ret
      exact ⟨by first | rfl | (simp [errW_none, errW_some] <;> rfl) | (simp [*, errW_none, errW_some] <;> rfl), by repeat (first | (with_reducible first | exact HB.out | apply below_alloc | apply pw_below_drewN | apply below_drew1) | exact HB.out)⟩
  · rw [if_neg c5] at H
    have c5b0 : (a1 == (l0.length : Int)) = false := beq_eq_false_iff_ne.mpr c5
    have c5b1 : (a1 != (l0.length : Int)) = true := bne_iff_ne.mpr c5
    by_cases c7 : 0 ≤ a1
    · rw [if_pos c7] at H
      have c7b0 : decide (0 ≤ a1) = true := decide_eq_true c7
      clear c7
      by_cases c8 : a1 < (l0.length : Int)
      · rw [if_pos c8] at H
        have c8b0 : decide (a1 < (l0.length : Int)) = true := decide_eq_true c8
        clear c8
        obtain ⟨bq9, hbq9⟩ : ∃ b_ : Bool, b_ = ((rd_T42 l0 a1).f2) := ⟨_, rfl⟩
        replace H : (if (bq9 = true) then (spec_could.l0 k l0 a1 a2 a3 0 ((rd_T42 l0 a1).f0) ((rd_T42 l0 a1).f1) bq9 ((rd_T42 l0 a1).f3) ((rd_T42 l0 a1).f4) ((rd_T42 l0 a1).f5)) else ((spec_begins.f a2 ((rd_T42 l0 a1).f0)).bind fun t185 => (if t185 = true then (if 0 ≤ (((rd_T42 l0 a1).f0).size : Int) then (if (((rd_T42 l0 a1).f0).size : Int) ≤ (a2.size : Int) then ((spec_could.f k l0 (wrap64 (a1 + 1)) (a2.extract ((((rd_T42 l0 a1).f0).size : Int) : Int).toNat a2.size) a3).bind fun t186 => (spec_could.j0 k l0 a1 a2 a3 t186 ((rd_T42 l0 a1).f0) ((rd_T42 l0 a1).f1) bq9 ((rd_T42 l0 a1).f3) ((rd_T42 l0 a1).f4) ((rd_T42 l0 a1).f5))) else (none)) else (none)) else (spec_could.j0 k l0 a1 a2 a3 false ((rd_T42 l0 a1).f0) ((rd_T42 l0 a1).f1) bq9 ((rd_T42 l0 a1).f3) ((rd_T42 l0 a1).f4) ((rd_T42 l0 a1).f5))))) = some r := by rw [← hbq9] at H; exact H
        have Nbq9 := Aside0.mk hbq9
        clear hbq9
        by_cases c10 : (bq9 = true)
        · subst c10
          have H1 : (spec_could.l0 k l0 a1 a2 a3 0 ((rd_T42 l0 a1).f0) ((rd_T42 l0 a1).f1) true ((rd_T42 l0 a1).f3) ((rd_T42 l0 a1).f4) ((rd_T42 l0 a1).f5)) = some r := by rw [if_pos rfl] at H; exact H
          clear H
          have H := H1
          clear H1
          have H' := Aside0.mk H
          clear H
          have p183 : 0 ≤ (a1 : Int) := of_decide_eq_true (by first | (with_reducible assumption) | assumption)
          have q183 : a1 < (l0.length : Int) := of_decide_eq_true (by first | (with_reducible assumption) | assumption)
          obtain ⟨ad183, A183_5, c183_5, e183, hx183_0, hx183_1, hx183_2, hx183_3, hx183_4, hx183_5, hl183_5, hi183_5⟩ := at_T42 HR0.out a1 p183 q183
          (try rw [← Nbq9.out] at hx183_2)
          (try rw [← Nbq9.out] at hx183_3)
          (try rw [← Nbq9.out] at hx183_4)
          cases e183
          have HR183_5 := Aside0.mk hi183_5
          have HC183_5 := Aside0.mk hl183_5
          clear hi183_5 hl183_5
          replace p183 := eq_true p183
          replace q183 := eq_true q183
          go_enter Tryz.func23, Tryz.ntmps23
          go_wp2_with (first | ((with_reducible refine gate_dst (N := 9) rfl ?_); (try (refine gate_guard (by rfl) ?_; dsimp only)); refine box_event ?hg (N := 9) ?hd (cs := #[.string (⟨#[]⟩ : ByteArray), .string (⟨#[]⟩ : ByteArray), .bool false, .bool false, .bool false, .slice none 0 0]) (t := 42) ?hr ?_; (case hd => rfl); (case hg => rfl); (case hr => first | (go_simp; done) | (go_simp; rfl)); intro gb184 hg w11 hbox hb; have n0_ := Aside0.mk (below_step (by repeat (first | (with_reducible first | exact HB.out | apply below_alloc | apply pw_below_drewN | apply below_drew1) | exact HB.out)) hb); have n1_ := Aside0.mk (hbox); have n2_ := Aside0.mk ((by rw [hg]; exact (below_size (by repeat (first | (with_reducible first | exact HB.out | apply below_alloc | apply pw_below_drewN | apply below_drew1) | exact HB.out))) : w.heap.size ≤ gb184)); have n3_ := Aside0.mk ((by rw [hg]; exact (below_size (by repeat (first | (with_reducible first | exact HB.out | apply below_alloc | apply pw_below_drewN | apply below_drew1) | exact HB.out))) : w.heap.size ≤ gb184)); clear HB; have HB := n0_; have BK184 := n1_; have GW184 := n2_; have GE184 := n3_; clear n0_ n1_ n2_ n3_; clear hb hbox hg; have hcz12_0 : w11.cell? ⟨gb184, 0, none⟩ = some (.string (⟨#[]⟩ : ByteArray)) := (blk_cell BK184.out 0).trans rfl; have hcz12_1 : w11.cell? ⟨gb184, 1, none⟩ = some (.string (⟨#[]⟩ : ByteArray)) := (blk_cell BK184.out 1).trans rfl; have hcz12_2 : w11.cell? ⟨gb184, 2, none⟩ = some (.bool false) := (blk_cell BK184.out 2).trans rfl; have hcz12_3 : w11.cell? ⟨gb184, 3, none⟩ = some (.bool false) := (blk_cell BK184.out 3).trans rfl; have hcz12_4 : w11.cell? ⟨gb184, 4, none⟩ = some (.bool false) := (blk_cell BK184.out 4).trans rfl; have hcz12_5 : w11.cell? ⟨gb184, 5, none⟩ = some (.slice none 0 0) := (blk_cell BK184.out 5).trans rfl; have hfz12_0 := blk_frozen BK184.out 0; have hfz12_1 := blk_frozen BK184.out 1; have hfz12_2 := blk_frozen BK184.out 2; have hfz12_3 := blk_frozen BK184.out 3; have hfz12_4 := blk_frozen BK184.out 4; have hfz12_5 := blk_frozen BK184.out 5))
          go_loopg [10] k (fun kq v10 w' => ∃ (x10_1 : Int), v10 = .int .i64 x10_1 ∧ Aside0 (spec_could.l0 kq l0 a1 a2 a3 x10_1 ((rd_T42 l0 a1).f0) ((rd_T42 l0 a1).f1) true ((rd_T42 l0 a1).f3) ((rd_T42 l0 a1).f4) ((rd_T42 l0 a1).f5) = some r) ∧ Aside0 (kq ≤ k) ∧ Aside0 (w'.heap[gb184]? = some (.cells #[.string ((rd_T42 l0 a1).f0), .string ((rd_T42 l0 a1).f1), .bool true, .bool ((rd_T42 l0 a1).f3), .bool ((rd_T42 l0 a1).f4), (.slice A183_5 ((rd_T42 l0 a1).f5).length c183_5)] 42 (0, 0))) ∧ Aside0 (Below w.heap.size w w'))
          case atStart => exact ⟨(0), (by first | rfl | (simp; done) | (simp [*]; done)), H', ⟨Nat.le_refl _⟩, ⟨by (with_reducible repeat (first | refine blk_drewN ?_ _ | refine blk_drew ?_ | refine blk_alloc ?_ _)); refine blk_put (cs := #[.string ((rd_T42 l0 a1).f0), .string ((rd_T42 l0 a1).f1), .bool true, .bool ((rd_T42 l0 a1).f3), .bool ((rd_T42 l0 a1).f4), .slice none 0 0]) ?_ 5 _ rfl; (with_reducible repeat (first | refine blk_drewN ?_ _ | refine blk_drew ?_ | refine blk_alloc ?_ _)); refine blk_put (cs := #[.string ((rd_T42 l0 a1).f0), .string ((rd_T42 l0 a1).f1), .bool true, .bool ((rd_T42 l0 a1).f3), .bool false, .slice none 0 0]) ?_ 4 _ rfl; (with_reducible repeat (first | refine blk_drewN ?_ _ | refine blk_drew ?_ | refine blk_alloc ?_ _)); refine blk_put (cs := #[.string ((rd_T42 l0 a1).f0), .string ((rd_T42 l0 a1).f1), .bool true, .bool false, .bool false, .slice none 0 0]) ?_ 3 _ rfl; (with_reducible repeat (first | refine blk_drewN ?_ _ | refine blk_drew ?_ | refine blk_alloc ?_ _)); refine blk_put (cs := #[.string ((rd_T42 l0 a1).f0), .string ((rd_T42 l0 a1).f1), .bool false, .bool false, .bool false, .slice none 0 0]) ?_ 2 _ rfl; (with_reducible repeat (first | refine blk_drewN ?_ _ | refine blk_drew ?_ | refine blk_alloc ?_ _)); refine blk_put (cs := #[.string ((rd_T42 l0 a1).f0), .string (⟨#[]⟩ : ByteArray), .bool false, .bool false, .bool false, .slice none 0 0]) ?_ 1 _ rfl; (with_reducible repeat (first | refine blk_drewN ?_ _ | refine blk_drew ?_ | refine blk_alloc ?_ _)); refine blk_put (cs := #[.string (⟨#[]⟩ : ByteArray), .string (⟨#[]⟩ : ByteArray), .bool false, .bool false, .bool false, .slice none 0 0]) ?_ 0 _ rfl; (with_reducible repeat (first | refine blk_drewN ?_ _ | refine blk_drew ?_ | refine blk_alloc ?_ _)); exact BK184.out⟩, ⟨by repeat (first | (with_reducible first | exact HB.out | apply below_alloc | apply pw_below_drewN | apply below_drew1 | refine below_set ?_ GE184.out) | exact HB.out)⟩⟩
          case round =>
            clear H'
            try clear c1
            try clear p1
            try clear q1
            try clear hx1
            try clear c2
            try clear p2
            try clear c5
            try clear c5b0
            try clear c5b1
            try clear c6
            try clear p6
            try clear c7
            try clear c7b0
            try clear c8
            try clear c8b0
            try clear q9
            try clear c10
            try clear hcz12_0
            try clear hcz12_1
            try clear hcz12_2
            try clear hcz12_3
            try clear hcz12_4
            try clear hcz12_5
            try clear hfz12_0
            try clear hfz12_1
            try clear hfz12_2
            try clear hfz12_3
            try clear hfz12_4
            try clear hfz12_5
            try clear hx183_0
            try clear hx183_1
            try clear hx183_2
            try clear hx183_3
            try clear hx183_4
            try clear hx183_5
            try clear p183
            try clear q183
            obtain ⟨x10_1, rfl, HA, HK1, BK184, HB⟩ := hrel
            cases gk with
            | zero => exact absurd HA.out (by simp [spec_could.l0])
            | succ k1 =>
              have H := HA.out
              clear HA
              simp only [spec_could.l0] at H
              by_cases c13 : x10_1 ≤ (a2.size : Int)
              · rw [if_pos c13] at H
                have c13b0 : decide (x10_1 ≤ (a2.size : Int)) = true := decide_eq_true c13
                clear c13
                have HC14 := Aside0.mk H
                clear H
                go_upto_region 11 with (fail)
                go_cut [83] (fun v83 wc => ∃ (kq : Nat) (x83_13 : Bool), v83 = .bool x83_13 ∧ Aside0 (spec_could.j2 kq l0 a1 a2 a3 x10_1 x83_13 ((rd_T42 l0 a1).f0) ((rd_T42 l0 a1).f1) true ((rd_T42 l0 a1).f3) ((rd_T42 l0 a1).f4) ((rd_T42 l0 a1).f5) = some r) ∧ Aside0 (kq ≤ k1) ∧ Aside0 (wc.heap[gb184]? = some (.cells #[.string ((rd_T42 l0 a1).f0), .string ((rd_T42 l0 a1).f1), .bool true, .bool ((rd_T42 l0 a1).f3), .bool ((rd_T42 l0 a1).f4), (.slice A183_5 ((rd_T42 l0 a1).f5).length c183_5)] 42 (0, 0))) ∧ Aside0 (Below w.heap.size w wc))
                case first =>
                  have H := HC14.out
                  clear HC14
                  by_cases c15 : x10_1 > 0
                  · rw [if_pos c15] at H
                    have c15b0 : decide (0 < x10_1) = true := decide_eq_true c15
                    clear c15
                    (first | rw [c15b0] | (simp only [i64_w, i32_w]; rw [c15b0]) | skip)
                    obtain ⟨ji16, hji16⟩ : ∃ j_ : Int, (wrap64 (x10_1 - 1)) = j_ := ⟨_, rfl⟩
                    replace H : (if 0 ≤ (ji16) then (if (ji16) < (a2.size : Int) then (if (bt a2 (ji16)) = 47 then (spec_could.j2 k1 l0 a1 a2 a3 x10_1 (!((rd_T42 l0 a1).f3)) ((rd_T42 l0 a1).f0) ((rd_T42 l0 a1).f1) true ((rd_T42 l0 a1).f3) ((rd_T42 l0 a1).f4) ((rd_T42 l0 a1).f5)) else (spec_could.j2 k1 l0 a1 a2 a3 x10_1 false ((rd_T42 l0 a1).f0) ((rd_T42 l0 a1).f1) true ((rd_T42 l0 a1).f3) ((rd_T42 l0 a1).f4) ((rd_T42 l0 a1).f5))) else (none)) else (none)) = some r := by first | (rw [hji16] at H; exact H) | (simp only [hji16] at H ⊢; exact H)
                    have hji16w : (IntKind.i64.wrap (x10_1 - 1)) = ji16 := (i64_w _).trans hji16
                    by_cases c17 : 0 ≤ (ji16)
                    · rw [if_pos c17] at H
                      have c17b0 : decide (0 ≤ (ji16)) = true := decide_eq_true c17
                      clear c17
                      by_cases c18 : (ji16) < (a2.size : Int)
                      · rw [if_pos c18] at H
                        have c18b0 : decide ((ji16) < (a2.size : Int)) = true := decide_eq_true c18
                        clear c18
                        by_cases c20 : (bt a2 (ji16)) = 47
                        · rw [if_pos c20] at H
                          have c20b0 : ((bt a2 (ji16)) == 47) = true := beq_iff_eq.mpr c20
                          have c20b1 : ((bt a2 (ji16)) != 47) = false := bne_eq_false_iff_eq.mpr c20
                          clear c20
                          have H' := Aside0.mk H
                          clear H
                          have p19 : 0 ≤ ((ji16) : Int) := of_decide_eq_true (by first | (with_reducible assumption) | assumption)
                          have q19 : (ji16) < (a2.size : Int) := of_decide_eq_true (by first | (with_reducible assumption) | assumption)
                          have hx19 := bt_at a2 (ji16)
                          replace p19 := eq_true p19
                          replace q19 := eq_true q19
                          have hcz21_0 : wr.cell? ⟨gb184, 0, none⟩ = some (.string ((rd_T42 l0 a1).f0)) := (blk_cell BK184.out 0).trans rfl
                          have hcz21_1 : wr.cell? ⟨gb184, 1, none⟩ = some (.string ((rd_T42 l0 a1).f1)) := (blk_cell BK184.out 1).trans rfl
                          have hcz21_2 : wr.cell? ⟨gb184, 2, none⟩ = some (.bool true) := (blk_cell BK184.out 2).trans rfl
                          have hcz21_3 : wr.cell? ⟨gb184, 3, none⟩ = some (.bool ((rd_T42 l0 a1).f3)) := (blk_cell BK184.out 3).trans rfl
                          have hcz21_4 : wr.cell? ⟨gb184, 4, none⟩ = some (.bool ((rd_T42 l0 a1).f4)) := (blk_cell BK184.out 4).trans rfl
                          have hcz21_5 : wr.cell? ⟨gb184, 5, none⟩ = some (.slice A183_5 ((rd_T42 l0 a1).f5).length c183_5) := (blk_cell BK184.out 5).trans rfl
                          have hfz21_0 := blk_frozen BK184.out 0
                          have hfz21_1 := blk_frozen BK184.out 1
                          have hfz21_2 := blk_frozen BK184.out 2
                          have hfz21_3 := blk_frozen BK184.out 3
                          have hfz21_4 := blk_frozen BK184.out 4
                          have hfz21_5 := blk_frozen BK184.out 5
                          go_wp2
                          go_meet
                          case rel => exact ⟨_, (!((rd_T42 l0 a1).f3)), (by first | rfl | (simp; done) | (simp [*]; done)), H', ⟨by have := HK1.out; first | omega | exact Nat.le_refl _⟩, ⟨by (with_reducible repeat (first | refine blk_drewN ?_ _ | refine blk_drew ?_ | refine blk_alloc ?_ _)); exact BK184.out⟩, ⟨by repeat (first | (with_reducible first | exact HB.out | apply below_alloc | apply pw_below_drewN | apply below_drew1 | refine below_set ?_ GE184.out) | exact HB.out)⟩⟩
                        · rw [if_neg c20] at H
                          have c20b0 : ((bt a2 (ji16)) == 47) = false := beq_eq_false_iff_ne.mpr c20
                          have c20b1 : ((bt a2 (ji16)) != 47) = true := bne_iff_ne.mpr c20
                          have H' := Aside0.mk H
                          clear H
                          have p19 : 0 ≤ ((ji16) : Int) := of_decide_eq_true (by first | (with_reducible assumption) | assumption)
                          have q19 : (ji16) < (a2.size : Int) := of_decide_eq_true (by first | (with_reducible assumption) | assumption)
                          have hx19 := bt_at a2 (ji16)
                          replace p19 := eq_true p19
                          replace q19 := eq_true q19
                          go_wp2
                          go_meet
                          case rel => exact ⟨_, (false), (by first | rfl | (simp; done) | (simp [*]; done)), H', ⟨by have := HK1.out; first | omega | exact Nat.le_refl _⟩, ⟨by (with_reducible repeat (first | refine blk_drewN ?_ _ | refine blk_drew ?_ | refine blk_alloc ?_ _)); exact BK184.out⟩, ⟨by repeat (first | (with_reducible first | exact HB.out | apply below_alloc | apply pw_below_drewN | apply below_drew1 | refine below_set ?_ GE184.out) | exact HB.out)⟩⟩
                      · rw [if_neg c18] at H
                        exact absurd H (by simp)
                    · rw [if_neg c17] at H
                      exact absurd H (by simp)
                  · rw [if_neg c15] at H
                    have c15b0 : decide (0 < x10_1) = false := decide_eq_false c15
                    clear c15
                    (first | rw [c15b0] | (simp only [i64_w, i32_w]; rw [c15b0]) | skip)
                    have H' := Aside0.mk H
                    clear H
                    go_wp2
                    go_meet
                    case rel => exact ⟨_, (false), (by first | rfl | (simp; done) | (simp [*]; done)), H', ⟨by have := HK1.out; first | omega | exact Nat.le_refl _⟩, ⟨by (with_reducible repeat (first | refine blk_drewN ?_ _ | refine blk_drew ?_ | refine blk_alloc ?_ _)); exact BK184.out⟩, ⟨by repeat (first | (with_reducible first | exact HB.out | apply below_alloc | apply pw_below_drewN | apply below_drew1 | refine below_set ?_ GE184.out) | exact HB.out)⟩⟩
                case rest =>
                  clear HC14
                  try clear c1
                  try clear p1
                  try clear q1
                  try clear hx1
                  try clear c2
                  try clear p2
                  try clear c5
                  try clear c5b0
                  try clear c5b1
                  try clear c6
                  try clear p6
                  try clear c7
                  try clear c7b0
                  try clear c8
                  try clear c8b0
                  try clear q9
                  try clear c10
                  try clear c13
                  try clear c13b0
                  try clear c15
                  try clear c15b0
                  try clear c17
                  try clear c17b0
                  try clear c18
                  try clear c18b0
                  try clear p18
                  try clear q18
                  try clear hx18
                  try clear p19
                  try clear q19
                  try clear hx19
                  try clear c20
                  try clear c20b0
                  try clear c20b1
                  try clear hcz12_0
                  try clear hcz12_1
                  try clear hcz12_2
                  try clear hcz12_3
                  try clear hcz12_4
                  try clear hcz12_5
                  try clear hcz21_0
                  try clear hcz21_1
                  try clear hcz21_2
                  try clear hcz21_3
                  try clear hcz21_4
                  try clear hcz21_5
                  try clear hfz12_0
                  try clear hfz12_1
                  try clear hfz12_2
                  try clear hfz12_3
                  try clear hfz12_4
                  try clear hfz12_5
                  try clear hfz21_0
                  try clear hfz21_1
                  try clear hfz21_2
                  try clear hfz21_3
                  try clear hfz21_4
                  try clear hfz21_5
                  try clear hx183_0
                  try clear hx183_1
                  try clear hx183_2
                  try clear hx183_3
                  try clear hx183_4
                  try clear hx183_5
                  try clear p1
                  try clear p183
                  try clear p19
                  try clear p2
                  try clear p6
                  try clear q1
                  try clear q183
                  try clear q19
                  try clear q9
                  obtain ⟨kq, x83_13, rfl, HA, HJ13, BK184, HB⟩ := hcut
                  cases kq with
                  | zero => exact absurd HA.out (by simp [spec_could.j2])
                  | succ kj13 =>
                    have H := HA.out
                    clear HA
                    simp only [spec_could.j2] at H
                    by_cases c22 : x83_13 = true
                    · subst c22
                      have H1 : (some false) = some r := by rw [if_pos rfl] at H; exact H
                      clear H
                      have H := H1
                      clear H1
                      obtain rfl := Option.some.inj H
                      go_wp2
                      go_ret
                      exact ⟨by first | rfl | (simp [errW_none, errW_some] <;> rfl) | (simp [*, errW_none, errW_some] <;> rfl), by repeat (first | (with_reducible first | exact HB.out | apply below_alloc | apply pw_below_drewN | apply below_drew1 | refine below_set ?_ GE184.out) | exact HB.out)⟩
                    · replace c22 := Bool.eq_false_iff.mpr c22
                      subst c22
                      have H1 : (if 0 ≤ x10_1 then (if x10_1 ≤ (a2.size : Int) then ((spec_within.f kj13 ((rd_T42 l0 a1).f0) ((rd_T42 l0 a1).f1) true ((rd_T42 l0 a1).f3) ((rd_T42 l0 a1).f4) ((rd_T42 l0 a1).f5) (a2.extract 0 (x10_1 : Int).toNat)).bind fun t189 => (if t189 = true then ((spec_could.f kj13 l0 (wrap64 (a1 + 1)) (a2.extract (x10_1 : Int).toNat a2.size) a3).bind fun t190 => (if t190 = true then (some true) else (spec_could.l0 kj13 l0 a1 a2 a3 (wrap64 (x10_1 + 1)) ((rd_T42 l0 a1).f0) ((rd_T42 l0 a1).f1) true ((rd_T42 l0 a1).f3) ((rd_T42 l0 a1).f4) ((rd_T42 l0 a1).f5)))) else (spec_could.l0 kj13 l0 a1 a2 a3 (wrap64 (x10_1 + 1)) ((rd_T42 l0 a1).f0) ((rd_T42 l0 a1).f1) true ((rd_T42 l0 a1).f3) ((rd_T42 l0 a1).f4) ((rd_T42 l0 a1).f5)))) else (none)) else (none)) = some r := by rw [if_neg (show ¬ (false = true) by decide)] at H; exact H
                      clear H
                      have H := H1
                      clear H1
                      by_cases c23 : 0 ≤ x10_1
                      · rw [if_pos c23] at H
                        have c23b0 := eq_true c23
                        have c23b1 : decide (0 ≤ x10_1) = true := decide_eq_true c23
                        clear c23
                        by_cases c24 : x10_1 ≤ (a2.size : Int)
                        · rw [if_pos c24] at H
                          have c24b0 := eq_true c24
                          have c24b1 : decide (x10_1 ≤ (a2.size : Int)) = true := decide_eq_true c24
                          clear c24
                          replace H := Option.bind_eq_some_iff.mp H
                          obtain ⟨t189, A250, H⟩ := H
                          replace H : (if t189 = true then ((spec_could.f kj13 l0 (wrap64 (a1 + 1)) (a2.extract (x10_1 : Int).toNat a2.size) a3).bind fun t190 => (if t190 = true then (some true) else (spec_could.l0 kj13 l0 a1 a2 a3 (wrap64 (x10_1 + 1)) ((rd_T42 l0 a1).f0) ((rd_T42 l0 a1).f1) true ((rd_T42 l0 a1).f3) ((rd_T42 l0 a1).f4) ((rd_T42 l0 a1).f5)))) else (spec_could.l0 kj13 l0 a1 a2 a3 (wrap64 (x10_1 + 1)) ((rd_T42 l0 a1).f0) ((rd_T42 l0 a1).f1) true ((rd_T42 l0 a1).f3) ((rd_T42 l0 a1).f4) ((rd_T42 l0 a1).f5))) = some r := H
                          have A25 := Aside0.mk A250
                          clear A250
                          by_cases c26 : t189 = true
                          · subst c26
                            have H1 : ((spec_could.f kj13 l0 (wrap64 (a1 + 1)) (a2.extract (x10_1 : Int).toNat a2.size) a3).bind fun t190 => (if t190 = true then (some true) else (spec_could.l0 kj13 l0 a1 a2 a3 (wrap64 (x10_1 + 1)) ((rd_T42 l0 a1).f0) ((rd_T42 l0 a1).f1) true ((rd_T42 l0 a1).f3) ((rd_T42 l0 a1).f4) ((rd_T42 l0 a1).f5)))) = some r := by rw [if_pos rfl] at H; exact H
                            clear H
                            have H := H1
                            clear H1
                            have c27b0 := eq_true (of_decide_eq_true (by first | (with_reducible assumption) | assumption) : 0 ≤ x10_1)
                            have c28b0 := eq_true (of_decide_eq_true (by first | (with_reducible assumption) | assumption) : x10_1 ≤ (a2.size : Int))
                            replace H := Option.bind_eq_some_iff.mp H
                            obtain ⟨t190, A290, H⟩ := H
                            replace H : (if t190 = true then (some true) else (spec_could.l0 kj13 l0 a1 a2 a3 (wrap64 (x10_1 + 1)) ((rd_T42 l0 a1).f0) ((rd_T42 l0 a1).f1) true ((rd_T42 l0 a1).f3) ((rd_T42 l0 a1).f4) ((rd_T42 l0 a1).f5))) = some r := H
                            have A29 := Aside0.mk A290
                            clear A290
                            by_cases c30 : t190 = true
                            · subst c30
                              have H1 : (some true) = some r := by rw [if_pos rfl] at H; exact H
                              clear H
                              have H := H1
                              clear H1
                              obtain rfl := Option.some.inj H
                              try go_wp2
                              have n0_ := Aside0.mk (blk_drew BK184.out)
                              have n1_ := Aside0.mk (below_drew1 HB.out)
                              clear BK184
                              clear HB
                              have BK184 := n0_
                              have HB := n1_
                              clear n0_ n1_
                              refine start_ (n := 15) (S := fun w' => w'.cell? ⟨gb184, 0, none⟩ = some (.string ((rd_T42 l0 a1).f0)) ∧ w'.cell? ⟨gb184, 1, none⟩ = some (.string ((rd_T42 l0 a1).f1)) ∧ w'.cell? ⟨gb184, 2, none⟩ = some (.bool true) ∧ w'.cell? ⟨gb184, 3, none⟩ = some (.bool ((rd_T42 l0 a1).f3)) ∧ w'.cell? ⟨gb184, 4, none⟩ = some (.bool ((rd_T42 l0 a1).f4)) ∧ w'.cell? ⟨gb184, 5, none⟩ = some (.slice A183_5 ((rd_T42 l0 a1).f5).length c183_5)) (ds := []) #[false, false, false, false, false, false, false, false, false, false, false, false, false, false, false] (by kernel_rfl) rfl rfl ⟨(blk_cell BK184.out 0).trans rfl, (blk_cell BK184.out 1).trans rfl, (blk_cell BK184.out 2).trans rfl, (blk_cell BK184.out 3).trans rfl, (blk_cell BK184.out 4).trans rfl, (blk_cell BK184.out 5).trans rfl⟩ (fun hHeld => ?_); refine with_tabW spec_could.tab13 spec_could.bits13 (fun HT_ HW_ => ?_)
                              generalize wc.drew = w31 at BK184 HB hHeld ⊢
                              refine pure_ (i := 1) (N := some 85) (v := ?_) (a' := ?_) #[false, true, false, false, false, false, false, false, false, false, false, false, false, false, false] rfl rfl (any_of HT_.out (by kernel_rfl)) (fun _ _ _ h => h) (Or.inl ⟨by rfl, ?_⟩) ?_ ?_
                              rotate_left
                              · intro w'
                                go_simp
                                with_reducible rfl
                              rotate_left
                              · simp only [Act.put, List.setIfInBounds_toArray, List.set_cons_zero, List.set_cons_succ, i64_w, i32_w]
                                rfl
                              refine pure_ (i := 2) (N := some 86) (v := ?_) (a' := ?_) #[false, true, true, false, false, false, false, false, false, false, false, false, false, false, false] rfl rfl (any_of HT_.out (by kernel_rfl)) (fun _ _ _ h => h) (Or.inl ⟨by rfl, ?_⟩) ?_ ?_
                              rotate_left
                              · intro w'
                                go_simp
                                with_reducible rfl
                              rotate_left
                              · simp only [Act.put, List.setIfInBounds_toArray, List.set_cons_zero, List.set_cons_succ, i64_w, i32_w]
                                rfl
                              refine pure_ (i := 3) (N := some 87) (v := ?_) (a' := ?_) #[false, true, true, true, false, false, false, false, false, false, false, false, false, false, false] rfl rfl (any_of HT_.out (by kernel_rfl)) (fun _ _ _ h => h) (Or.inl ⟨by rfl, ?_⟩) ?_ ?_
                              rotate_left
                              · intro w'
                                go_simp
                                with_reducible rfl
                              rotate_left
                              · simp only [Act.put, List.setIfInBounds_toArray, List.set_cons_zero, List.set_cons_succ, i64_w, i32_w]
                                rfl
                              refine take_ (i := 0) (N := some 84) (v := ?_) (a' := ?_) #[true, true, true, true, false, false, false, false, false, false, false, false, false, false, false] rfl rfl (take_ofW HT_.out HW_.out (by kernel_rfl)) (fun _ _ _ h => h) (Or.inl ⟨by rfl, ?_⟩) hHeld ?_ ?_
                              rotate_left
                              · rintro w' ⟨s0, s1, s2, s3, s4, s5⟩
                                go_simp
                                with_reducible rfl
                              rotate_left
                              · simp only [Act.put, List.setIfInBounds_toArray, List.set_cons_zero, List.set_cons_succ, i64_w, i32_w]
                                rfl
                              refine one_ (i := 4) (N := some 88) #[true, true, true, true, true, false, false, false, false, false, false, false, false, false, false] rfl rfl (one_of HT_.out (by kernel_rfl)) (by decide) (fun K hK => ?_)
                              refine goes_ Tryz.func25 (by kernel_rfl) rfl #[.agg #[.string ((rd_T42 l0 a1).f0), .string ((rd_T42 l0 a1).f1), .bool true, .bool ((rd_T42 l0 a1).f3), .bool ((rd_T42 l0 a1).f4), .slice A183_5 ((rd_T42 l0 a1).f5).length c183_5], .string (a2.extract 0 (x10_1 : Int).toNat)] (by rfl) rfl rfl (by (try simp only [List.map_toArray, List.map_cons, List.map_nil]); first | done | rfl | (simp only [List.length_drop, List.length_take]; rfl)) ?_
                              with_reducible refine (spec_within.calls kj13 ((rd_T42 l0 a1).f0) ((rd_T42 l0 a1).f1) true ((rd_T42 l0 a1).f3) ((rd_T42 l0 a1).f4) _ _ ((rd_T42 l0 a1).f5) (a2.extract 0 (x10_1 : Int).toNat) true _ ?side1 ?side2 A25.out).mono ?_
                              (case side1 => repeat (first | exact (Kd.C_below HR183_5.out HB.out) | (with_reducible refine Kd.C_alloc ?_ _) | (with_reducible refine Kd.C_drewN ?_ _) | (with_reducible refine Kd.C_drew ?_)))
                              (case side2 => exact HC183_5.out)
                              rintro e w32 ⟨rfl, hb⟩
                              refine ⟨_, rfl, ?_⟩
                              have n0_ := Aside0.mk (blk_below (g := gb184) (o := .cells #[.string ((rd_T42 l0 a1).f0), .string ((rd_T42 l0 a1).f1), .bool true, .bool ((rd_T42 l0 a1).f3), .bool ((rd_T42 l0 a1).f4), .slice A183_5 ((rd_T42 l0 a1).f5).length c183_5] 42 (0, 0)) (by (with_reducible repeat (first | refine blk_drewN ?_ _ | refine blk_drew ?_ | refine blk_alloc ?_ _)); exact BK184.out) hb)
                              have n1_ := Aside0.mk (below_step (by repeat (first | (with_reducible first | exact HB.out | apply below_alloc | apply pw_below_drewN | apply below_drew1 | refine below_set ?_ GE184.out) | exact HB.out)) hb)
                              clear BK184
                              clear HB
                              have BK184 := n0_
                              have HB := n1_
                              clear n0_ n1_
                              (try clear hb)
                              (try clear hb2)
                              (try clear hk)
                              (try clear hi)
                              refine hK.out _ _ ⟨(blk_cell BK184.out 0).trans rfl, (blk_cell BK184.out 1).trans rfl, (blk_cell BK184.out 2).trans rfl, (blk_cell BK184.out 3).trans rfl, (blk_cell BK184.out 4).trans rfl, (blk_cell BK184.out 5).trans rfl⟩ (fun hHeld => ?_)
                              clear hK K
                              refine norm_ (a' := ?_) ?_ ?_
                              rotate_left
                              · show Act.put _ (some 88) _ = _
                                simp only [Act.put, List.setIfInBounds_toArray, List.set_cons_zero, List.set_cons_succ, i64_w, i32_w]
                                rfl
                              refine pure_ (i := 5) (N := some 89) (v := ?_) (a' := ?_) #[true, true, true, true, true, true, false, false, false, false, false, false, false, false, false] rfl rfl (any_of HT_.out (by kernel_rfl)) (fun _ _ _ h => h) (Or.inl ⟨by rfl, ?_⟩) ?_ ?_
                              rotate_left
                              · intro w'
                                go_simp
                                with_reducible rfl
                              rotate_left
                              · simp only [Act.put, List.setIfInBounds_toArray, List.set_cons_zero, List.set_cons_succ, i64_w, i32_w]
                                rfl
                              refine pure_ (i := 6) (N := some 90) (v := ?_) (a' := ?_) #[true, true, true, true, true, true, true, false, false, false, false, false, false, false, false] rfl rfl (any_of HT_.out (by kernel_rfl)) (fun _ _ _ h => h) (Or.inl ⟨by rfl, ?_⟩) ?_ ?_
                              rotate_left
                              · intro w'
                                go_simp
                                with_reducible rfl
                              rotate_left
                              · simp only [Act.put, List.setIfInBounds_toArray, List.set_cons_zero, List.set_cons_succ, i64_w, i32_w]
                                rfl
                              refine pure_ (i := 7) (N := some 91) (v := ?_) (a' := ?_) #[true, true, true, true, true, true, true, true, false, false, false, false, false, false, false] rfl rfl (any_of HT_.out (by kernel_rfl)) (fun _ _ _ h => h) (Or.inl ⟨by rfl, ?_⟩) ?_ ?_
                              rotate_left
                              · intro w'
                                go_simp
                                with_reducible rfl
                              rotate_left
                              · simp only [Act.put, List.setIfInBounds_toArray, List.set_cons_zero, List.set_cons_succ, i64_w, i32_w]
                                rfl
                              refine pure_ (i := 8) (N := some 92) (v := ?_) (a' := ?_) #[true, true, true, true, true, true, true, true, true, false, false, false, false, false, false] rfl rfl (any_of HT_.out (by kernel_rfl)) (fun _ _ _ h => h) (Or.inl ⟨by rfl, ?_⟩) ?_ ?_
                              rotate_left
                              · intro w'
                                go_simp
                                with_reducible rfl
                              rotate_left
                              · simp only [Act.put, List.setIfInBounds_toArray, List.set_cons_zero, List.set_cons_succ, i64_w, i32_w]
                                rfl
                              refine pure_ (i := 9) (N := some 93) (v := ?_) (a' := ?_) #[true, true, true, true, true, true, true, true, true, true, false, false, false, false, false] rfl rfl (any_of HT_.out (by kernel_rfl)) (fun _ _ _ h => h) (Or.inl ⟨by rfl, ?_⟩) ?_ ?_
                              rotate_left
                              · intro w'
                                go_simp
                                with_reducible rfl
                              rotate_left
                              · simp only [Act.put, List.setIfInBounds_toArray, List.set_cons_zero, List.set_cons_succ, i64_w, i32_w]
                                rfl
                              refine pure_ (i := 10) (N := some 94) (v := ?_) (a' := ?_) #[true, true, true, true, true, true, true, true, true, true, true, false, false, false, false] rfl rfl (any_of HT_.out (by kernel_rfl)) (fun _ _ _ h => h) (Or.inl ⟨by rfl, ?_⟩) ?_ ?_
                              rotate_left
                              · intro w'
                                go_simp
                                with_reducible rfl
                              rotate_left
                              · simp only [Act.put, List.setIfInBounds_toArray, List.set_cons_zero, List.set_cons_succ, i64_w, i32_w]
                                rfl
                              refine pure_ (i := 11) (N := some 95) (v := ?_) (a' := ?_) #[true, true, true, true, true, true, true, true, true, true, true, true, false, false, false] rfl rfl (any_of HT_.out (by kernel_rfl)) (fun _ _ _ h => h) (Or.inl ⟨by rfl, ?_⟩) ?_ ?_
                              rotate_left
                              · intro w'
                                go_simp
                                with_reducible rfl
                              rotate_left
                              · simp only [Act.put, List.setIfInBounds_toArray, List.set_cons_zero, List.set_cons_succ, i64_w, i32_w]
                                rfl
                              refine pure_ (i := 12) (N := some 96) (v := ?_) (a' := ?_) #[true, true, true, true, true, true, true, true, true, true, true, true, true, false, false] rfl rfl (any_of HT_.out (by kernel_rfl)) (fun _ _ _ h => h) (Or.inl ⟨by rfl, ?_⟩) ?_ ?_
                              rotate_left
                              · intro w'
                                go_simp
                                with_reducible rfl
                              rotate_left
                              · simp only [Act.put, List.setIfInBounds_toArray, List.set_cons_zero, List.set_cons_succ, i64_w, i32_w]
                                rfl
                              refine one_ (i := 13) (N := some 97) #[true, true, true, true, true, true, true, true, true, true, true, true, true, true, false] rfl rfl (one_of HT_.out (by kernel_rfl)) (by decide) (fun K hK => ?_)
                              refine goes_ Tryz.func23 (by kernel_rfl) rfl #[.slice (some ad183) l0.length c0, .int .i64 (wrap64 (a1 + 1)), .string (a2.extract (x10_1 : Int).toNat a2.size), .bool a3] (by rfl) rfl rfl (by (try simp only [List.map_toArray, List.map_cons, List.map_nil]); first | done | rfl | (simp only [List.length_drop, List.length_take]; rfl)) ?_
                              with_reducible refine (ih kj13 (by have := HK1.out; have := HJ13.out; omega) _ _ l0 (wrap64 (a1 + 1)) (a2.extract (x10_1 : Int).toNat a2.size) a3 true _ ?side1 ?side2 A29.out).mono ?_
                              (case side1 => repeat (first | exact (Kd.C_below HR0.out HB.out) | (with_reducible refine Kd.C_alloc ?_ _) | (with_reducible refine Kd.C_drewN ?_ _) | (with_reducible refine Kd.C_drew ?_)))
                              (case side2 => exact HC0.out)
                              rintro e w33 ⟨rfl, hb⟩
                              refine ⟨_, rfl, ?_⟩
                              have n0_ := Aside0.mk (blk_below (g := gb184) (o := .cells #[.string ((rd_T42 l0 a1).f0), .string ((rd_T42 l0 a1).f1), .bool true, .bool ((rd_T42 l0 a1).f3), .bool ((rd_T42 l0 a1).f4), .slice A183_5 ((rd_T42 l0 a1).f5).length c183_5] 42 (0, 0)) (by (with_reducible repeat (first | refine blk_drewN ?_ _ | refine blk_drew ?_ | refine blk_alloc ?_ _)); exact BK184.out) hb)
                              have n1_ := Aside0.mk (below_step (by repeat (first | (with_reducible first | exact HB.out | apply below_alloc | apply pw_below_drewN | apply below_drew1 | refine below_set ?_ GE184.out) | exact HB.out)) hb)
                              clear BK184
                              clear HB
                              have BK184 := n0_
                              have HB := n1_
                              clear n0_ n1_
                              (try clear hb)
                              (try clear hb2)
                              (try clear hk)
                              (try clear hi)
                              refine hK.out _ _ ⟨(blk_cell BK184.out 0).trans rfl, (blk_cell BK184.out 1).trans rfl, (blk_cell BK184.out 2).trans rfl, (blk_cell BK184.out 3).trans rfl, (blk_cell BK184.out 4).trans rfl, (blk_cell BK184.out 5).trans rfl⟩ (fun hHeld => ?_)
                              clear hK K
                              refine norm_ (a' := ?_) ?_ ?_
                              rotate_left
                              · show Act.put _ (some 97) _ = _
                                simp only [Act.put, List.setIfInBounds_toArray, List.set_cons_zero, List.set_cons_succ, i64_w, i32_w]
                                rfl
                              refine pure_ (i := 14) (N := some 98) (v := ?_) (a' := ?_) #[true, true, true, true, true, true, true, true, true, true, true, true, true, true, true] rfl rfl (any_of HT_.out (by kernel_rfl)) (fun _ _ _ h => h) (Or.inl ⟨by rfl, ?_⟩) ?_ ?_
                              rotate_left
                              · intro w'
                                go_simp
                                with_reducible rfl
                              rotate_left
                              · simp only [Act.put, List.setIfInBounds_toArray, List.set_cons_zero, List.set_cons_succ, i64_w, i32_w]
                                rfl
                              refine done_ (done_of HT_.out (by kernel_rfl)) ?_
                              try go_wp2
                              go_ret
                              exact ⟨by first | rfl | (simp [errW_none, errW_some] <;> rfl) | (simp [*, errW_none, errW_some] <;> rfl), by repeat (first | (with_reducible first | exact HB.out | apply below_alloc | apply pw_below_drewN | apply below_drew1 | refine below_set ?_ GE184.out) | exact HB.out)⟩
                            · replace c30 := Bool.eq_false_iff.mpr c30
                              subst c30
                              have H1 : (spec_could.l0 kj13 l0 a1 a2 a3 (wrap64 (x10_1 + 1)) ((rd_T42 l0 a1).f0) ((rd_T42 l0 a1).f1) true ((rd_T42 l0 a1).f3) ((rd_T42 l0 a1).f4) ((rd_T42 l0 a1).f5)) = some r := by rw [if_neg (show ¬ (false = true) by decide)] at H; exact H
                              clear H
                              have H := H1
                              clear H1
                              have H' := Aside0.mk H
                              clear H
                              try go_wp2
                              have n0_ := Aside0.mk (blk_drew BK184.out)
                              have n1_ := Aside0.mk (below_drew1 HB.out)
                              clear BK184
                              clear HB
                              have BK184 := n0_
                              have HB := n1_
                              clear n0_ n1_
                              refine start_ (n := 15) (S := fun w' => w'.cell? ⟨gb184, 0, none⟩ = some (.string ((rd_T42 l0 a1).f0)) ∧ w'.cell? ⟨gb184, 1, none⟩ = some (.string ((rd_T42 l0 a1).f1)) ∧ w'.cell? ⟨gb184, 2, none⟩ = some (.bool true) ∧ w'.cell? ⟨gb184, 3, none⟩ = some (.bool ((rd_T42 l0 a1).f3)) ∧ w'.cell? ⟨gb184, 4, none⟩ = some (.bool ((rd_T42 l0 a1).f4)) ∧ w'.cell? ⟨gb184, 5, none⟩ = some (.slice A183_5 ((rd_T42 l0 a1).f5).length c183_5)) (ds := []) #[false, false, false, false, false, false, false, false, false, false, false, false, false, false, false] (by kernel_rfl) rfl rfl ⟨(blk_cell BK184.out 0).trans rfl, (blk_cell BK184.out 1).trans rfl, (blk_cell BK184.out 2).trans rfl, (blk_cell BK184.out 3).trans rfl, (blk_cell BK184.out 4).trans rfl, (blk_cell BK184.out 5).trans rfl⟩ (fun hHeld => ?_); refine with_tabW spec_could.tab13 spec_could.bits13 (fun HT_ HW_ => ?_)
                              generalize wc.drew = w34 at BK184 HB hHeld ⊢
                              refine pure_ (i := 1) (N := some 85) (v := ?_) (a' := ?_) #[false, true, false, false, false, false, false, false, false, false, false, false, false, false, false] rfl rfl (any_of HT_.out (by kernel_rfl)) (fun _ _ _ h => h) (Or.inl ⟨by rfl, ?_⟩) ?_ ?_
                              rotate_left
                              · intro w'
                                go_simp
                                with_reducible rfl
                              rotate_left
                              · simp only [Act.put, List.setIfInBounds_toArray, List.set_cons_zero, List.set_cons_succ, i64_w, i32_w]
                                rfl
                              refine pure_ (i := 2) (N := some 86) (v := ?_) (a' := ?_) #[false, true, true, false, false, false, false, false, false, false, false, false, false, false, false] rfl rfl (any_of HT_.out (by kernel_rfl)) (fun _ _ _ h => h) (Or.inl ⟨by rfl, ?_⟩) ?_ ?_
                              rotate_left
                              · intro w'
                                go_simp
                                with_reducible rfl
                              rotate_left
                              · simp only [Act.put, List.setIfInBounds_toArray, List.set_cons_zero, List.set_cons_succ, i64_w, i32_w]
                                rfl
                              refine pure_ (i := 3) (N := some 87) (v := ?_) (a' := ?_) #[false, true, true, true, false, false, false, false, false, false, false, false, false, false, false] rfl rfl (any_of HT_.out (by kernel_rfl)) (fun _ _ _ h => h) (Or.inl ⟨by rfl, ?_⟩) ?_ ?_
                              rotate_left
                              · intro w'
                                go_simp
                                with_reducible rfl
                              rotate_left
                              · simp only [Act.put, List.setIfInBounds_toArray, List.set_cons_zero, List.set_cons_succ, i64_w, i32_w]
                                rfl
                              refine take_ (i := 0) (N := some 84) (v := ?_) (a' := ?_) #[true, true, true, true, false, false, false, false, false, false, false, false, false, false, false] rfl rfl (take_ofW HT_.out HW_.out (by kernel_rfl)) (fun _ _ _ h => h) (Or.inl ⟨by rfl, ?_⟩) hHeld ?_ ?_
                              rotate_left
                              · rintro w' ⟨s0, s1, s2, s3, s4, s5⟩
                                go_simp
                                with_reducible rfl
                              rotate_left
                              · simp only [Act.put, List.setIfInBounds_toArray, List.set_cons_zero, List.set_cons_succ, i64_w, i32_w]
                                rfl
                              refine one_ (i := 4) (N := some 88) #[true, true, true, true, true, false, false, false, false, false, false, false, false, false, false] rfl rfl (one_of HT_.out (by kernel_rfl)) (by decide) (fun K hK => ?_)
                              refine goes_ Tryz.func25 (by kernel_rfl) rfl #[.agg #[.string ((rd_T42 l0 a1).f0), .string ((rd_T42 l0 a1).f1), .bool true, .bool ((rd_T42 l0 a1).f3), .bool ((rd_T42 l0 a1).f4), .slice A183_5 ((rd_T42 l0 a1).f5).length c183_5], .string (a2.extract 0 (x10_1 : Int).toNat)] (by rfl) rfl rfl (by (try simp only [List.map_toArray, List.map_cons, List.map_nil]); first | done | rfl | (simp only [List.length_drop, List.length_take]; rfl)) ?_
                              with_reducible refine (spec_within.calls kj13 ((rd_T42 l0 a1).f0) ((rd_T42 l0 a1).f1) true ((rd_T42 l0 a1).f3) ((rd_T42 l0 a1).f4) _ _ ((rd_T42 l0 a1).f5) (a2.extract 0 (x10_1 : Int).toNat) true _ ?side1 ?side2 A25.out).mono ?_
                              (case side1 => repeat (first | exact (Kd.C_below HR183_5.out HB.out) | (with_reducible refine Kd.C_alloc ?_ _) | (with_reducible refine Kd.C_drewN ?_ _) | (with_reducible refine Kd.C_drew ?_)))
                              (case side2 => exact HC183_5.out)
                              rintro e w35 ⟨rfl, hb⟩
                              refine ⟨_, rfl, ?_⟩
                              have n0_ := Aside0.mk (blk_below (g := gb184) (o := .cells #[.string ((rd_T42 l0 a1).f0), .string ((rd_T42 l0 a1).f1), .bool true, .bool ((rd_T42 l0 a1).f3), .bool ((rd_T42 l0 a1).f4), .slice A183_5 ((rd_T42 l0 a1).f5).length c183_5] 42 (0, 0)) (by (with_reducible repeat (first | refine blk_drewN ?_ _ | refine blk_drew ?_ | refine blk_alloc ?_ _)); exact BK184.out) hb)
                              have n1_ := Aside0.mk (below_step (by repeat (first | (with_reducible first | exact HB.out | apply below_alloc | apply pw_below_drewN | apply below_drew1 | refine below_set ?_ GE184.out) | exact HB.out)) hb)
                              clear BK184
                              clear HB
                              have BK184 := n0_
                              have HB := n1_
                              clear n0_ n1_
                              (try clear hb)
                              (try clear hb2)
                              (try clear hk)
                              (try clear hi)
                              refine hK.out _ _ ⟨(blk_cell BK184.out 0).trans rfl, (blk_cell BK184.out 1).trans rfl, (blk_cell BK184.out 2).trans rfl, (blk_cell BK184.out 3).trans rfl, (blk_cell BK184.out 4).trans rfl, (blk_cell BK184.out 5).trans rfl⟩ (fun hHeld => ?_)
                              clear hK K
                              refine norm_ (a' := ?_) ?_ ?_
                              rotate_left
                              · show Act.put _ (some 88) _ = _
                                simp only [Act.put, List.setIfInBounds_toArray, List.set_cons_zero, List.set_cons_succ, i64_w, i32_w]
                                rfl
                              refine pure_ (i := 5) (N := some 89) (v := ?_) (a' := ?_) #[true, true, true, true, true, true, false, false, false, false, false, false, false, false, false] rfl rfl (any_of HT_.out (by kernel_rfl)) (fun _ _ _ h => h) (Or.inl ⟨by rfl, ?_⟩) ?_ ?_
                              rotate_left
                              · intro w'
                                go_simp
                                with_reducible rfl
                              rotate_left
                              · simp only [Act.put, List.setIfInBounds_toArray, List.set_cons_zero, List.set_cons_succ, i64_w, i32_w]
                                rfl
                              refine pure_ (i := 6) (N := some 90) (v := ?_) (a' := ?_) #[true, true, true, true, true, true, true, false, false, false, false, false, false, false, false] rfl rfl (any_of HT_.out (by kernel_rfl)) (fun _ _ _ h => h) (Or.inl ⟨by rfl, ?_⟩) ?_ ?_
                              rotate_left
                              · intro w'
                                go_simp
                                with_reducible rfl
                              rotate_left
                              · simp only [Act.put, List.setIfInBounds_toArray, List.set_cons_zero, List.set_cons_succ, i64_w, i32_w]
                                rfl
                              refine pure_ (i := 7) (N := some 91) (v := ?_) (a' := ?_) #[true, true, true, true, true, true, true, true, false, false, false, false, false, false, false] rfl rfl (any_of HT_.out (by kernel_rfl)) (fun _ _ _ h => h) (Or.inl ⟨by rfl, ?_⟩) ?_ ?_
                              rotate_left
                              · intro w'
                                go_simp
                                with_reducible rfl
                              rotate_left
                              · simp only [Act.put, List.setIfInBounds_toArray, List.set_cons_zero, List.set_cons_succ, i64_w, i32_w]
                                rfl
                              refine pure_ (i := 8) (N := some 92) (v := ?_) (a' := ?_) #[true, true, true, true, true, true, true, true, true, false, false, false, false, false, false] rfl rfl (any_of HT_.out (by kernel_rfl)) (fun _ _ _ h => h) (Or.inl ⟨by rfl, ?_⟩) ?_ ?_
                              rotate_left
                              · intro w'
                                go_simp
                                with_reducible rfl
                              rotate_left
                              · simp only [Act.put, List.setIfInBounds_toArray, List.set_cons_zero, List.set_cons_succ, i64_w, i32_w]
                                rfl
                              refine pure_ (i := 9) (N := some 93) (v := ?_) (a' := ?_) #[true, true, true, true, true, true, true, true, true, true, false, false, false, false, false] rfl rfl (any_of HT_.out (by kernel_rfl)) (fun _ _ _ h => h) (Or.inl ⟨by rfl, ?_⟩) ?_ ?_
                              rotate_left
                              · intro w'
                                go_simp
                                with_reducible rfl
                              rotate_left
                              · simp only [Act.put, List.setIfInBounds_toArray, List.set_cons_zero, List.set_cons_succ, i64_w, i32_w]
                                rfl
                              refine pure_ (i := 10) (N := some 94) (v := ?_) (a' := ?_) #[true, true, true, true, true, true, true, true, true, true, true, false, false, false, false] rfl rfl (any_of HT_.out (by kernel_rfl)) (fun _ _ _ h => h) (Or.inl ⟨by rfl, ?_⟩) ?_ ?_
                              rotate_left
                              · intro w'
                                go_simp
                                with_reducible rfl
                              rotate_left
                              · simp only [Act.put, List.setIfInBounds_toArray, List.set_cons_zero, List.set_cons_succ, i64_w, i32_w]
                                rfl
                              refine pure_ (i := 11) (N := some 95) (v := ?_) (a' := ?_) #[true, true, true, true, true, true, true, true, true, true, true, true, false, false, false] rfl rfl (any_of HT_.out (by kernel_rfl)) (fun _ _ _ h => h) (Or.inl ⟨by rfl, ?_⟩) ?_ ?_
                              rotate_left
                              · intro w'
                                go_simp
                                with_reducible rfl
                              rotate_left
                              · simp only [Act.put, List.setIfInBounds_toArray, List.set_cons_zero, List.set_cons_succ, i64_w, i32_w]
                                rfl
                              refine pure_ (i := 12) (N := some 96) (v := ?_) (a' := ?_) #[true, true, true, true, true, true, true, true, true, true, true, true, true, false, false] rfl rfl (any_of HT_.out (by kernel_rfl)) (fun _ _ _ h => h) (Or.inl ⟨by rfl, ?_⟩) ?_ ?_
                              rotate_left
                              · intro w'
                                go_simp
                                with_reducible rfl
                              rotate_left
                              · simp only [Act.put, List.setIfInBounds_toArray, List.set_cons_zero, List.set_cons_succ, i64_w, i32_w]
                                rfl
                              refine one_ (i := 13) (N := some 97) #[true, true, true, true, true, true, true, true, true, true, true, true, true, true, false] rfl rfl (one_of HT_.out (by kernel_rfl)) (by decide) (fun K hK => ?_)
                              refine goes_ Tryz.func23 (by kernel_rfl) rfl #[.slice (some ad183) l0.length c0, .int .i64 (wrap64 (a1 + 1)), .string (a2.extract (x10_1 : Int).toNat a2.size), .bool a3] (by rfl) rfl rfl (by (try simp only [List.map_toArray, List.map_cons, List.map_nil]); first | done | rfl | (simp only [List.length_drop, List.length_take]; rfl)) ?_
                              with_reducible refine (ih kj13 (by have := HK1.out; have := HJ13.out; omega) _ _ l0 (wrap64 (a1 + 1)) (a2.extract (x10_1 : Int).toNat a2.size) a3 false _ ?side1 ?side2 A29.out).mono ?_
                              (case side1 => repeat (first | exact (Kd.C_below HR0.out HB.out) | (with_reducible refine Kd.C_alloc ?_ _) | (with_reducible refine Kd.C_drewN ?_ _) | (with_reducible refine Kd.C_drew ?_)))
                              (case side2 => exact HC0.out)
                              rintro e w36 ⟨rfl, hb⟩
                              refine ⟨_, rfl, ?_⟩
                              have n0_ := Aside0.mk (blk_below (g := gb184) (o := .cells #[.string ((rd_T42 l0 a1).f0), .string ((rd_T42 l0 a1).f1), .bool true, .bool ((rd_T42 l0 a1).f3), .bool ((rd_T42 l0 a1).f4), .slice A183_5 ((rd_T42 l0 a1).f5).length c183_5] 42 (0, 0)) (by (with_reducible repeat (first | refine blk_drewN ?_ _ | refine blk_drew ?_ | refine blk_alloc ?_ _)); exact BK184.out) hb)
                              have n1_ := Aside0.mk (below_step (by repeat (first | (with_reducible first | exact HB.out | apply below_alloc | apply pw_below_drewN | apply below_drew1 | refine below_set ?_ GE184.out) | exact HB.out)) hb)
                              clear BK184
                              clear HB
                              have BK184 := n0_
                              have HB := n1_
                              clear n0_ n1_
                              (try clear hb)
                              (try clear hb2)
                              (try clear hk)
                              (try clear hi)
                              refine hK.out _ _ ⟨(blk_cell BK184.out 0).trans rfl, (blk_cell BK184.out 1).trans rfl, (blk_cell BK184.out 2).trans rfl, (blk_cell BK184.out 3).trans rfl, (blk_cell BK184.out 4).trans rfl, (blk_cell BK184.out 5).trans rfl⟩ (fun hHeld => ?_)
                              clear hK K
                              refine norm_ (a' := ?_) ?_ ?_
                              rotate_left
                              · show Act.put _ (some 97) _ = _
                                simp only [Act.put, List.setIfInBounds_toArray, List.set_cons_zero, List.set_cons_succ, i64_w, i32_w]
                                rfl
                              refine pure_ (i := 14) (N := some 98) (v := ?_) (a' := ?_) #[true, true, true, true, true, true, true, true, true, true, true, true, true, true, true] rfl rfl (any_of HT_.out (by kernel_rfl)) (fun _ _ _ h => h) (Or.inl ⟨by rfl, ?_⟩) ?_ ?_
                              rotate_left
                              · intro w'
                                go_simp
                                with_reducible rfl
                              rotate_left
                              · simp only [Act.put, List.setIfInBounds_toArray, List.set_cons_zero, List.set_cons_succ, i64_w, i32_w]
                                rfl
                              refine done_ (done_of HT_.out (by kernel_rfl)) ?_
                              try go_wp2
                              go_roundg kj13
                              case measure => have := HK1.out; have := HJ13.out; omega
                              case rel => exact ⟨(wrap64 (x10_1 + 1)), (by first | rfl | (simp; done) | (simp [*]; done)), H', ⟨by have := HK1.out; have := HJ13.out; omega⟩, ⟨by (with_reducible repeat (first | refine blk_drewN ?_ _ | refine blk_drew ?_ | refine blk_alloc ?_ _)); exact BK184.out⟩, ⟨by repeat (first | (with_reducible first | exact HB.out | apply below_alloc | apply pw_below_drewN | apply below_drew1 | refine below_set ?_ GE184.out) | exact HB.out)⟩⟩
                          · replace c26 := Bool.eq_false_iff.mpr c26
                            subst c26
                            have H1 : (spec_could.l0 kj13 l0 a1 a2 a3 (wrap64 (x10_1 + 1)) ((rd_T42 l0 a1).f0) ((rd_T42 l0 a1).f1) true ((rd_T42 l0 a1).f3) ((rd_T42 l0 a1).f4) ((rd_T42 l0 a1).f5)) = some r := by rw [if_neg (show ¬ (false = true) by decide)] at H; exact H
                            clear H
                            have H := H1
                            clear H1
                            have H' := Aside0.mk H
                            clear H
                            try go_wp2
                            have n0_ := Aside0.mk (blk_drew BK184.out)
                            have n1_ := Aside0.mk (below_drew1 HB.out)
                            clear BK184
                            clear HB
                            have BK184 := n0_
                            have HB := n1_
                            clear n0_ n1_
                            refine start_ (n := 15) (S := fun w' => w'.cell? ⟨gb184, 0, none⟩ = some (.string ((rd_T42 l0 a1).f0)) ∧ w'.cell? ⟨gb184, 1, none⟩ = some (.string ((rd_T42 l0 a1).f1)) ∧ w'.cell? ⟨gb184, 2, none⟩ = some (.bool true) ∧ w'.cell? ⟨gb184, 3, none⟩ = some (.bool ((rd_T42 l0 a1).f3)) ∧ w'.cell? ⟨gb184, 4, none⟩ = some (.bool ((rd_T42 l0 a1).f4)) ∧ w'.cell? ⟨gb184, 5, none⟩ = some (.slice A183_5 ((rd_T42 l0 a1).f5).length c183_5)) (ds := []) #[false, false, false, false, false, false, false, false, false, false, false, false, false, false, false] (by kernel_rfl) rfl rfl ⟨(blk_cell BK184.out 0).trans rfl, (blk_cell BK184.out 1).trans rfl, (blk_cell BK184.out 2).trans rfl, (blk_cell BK184.out 3).trans rfl, (blk_cell BK184.out 4).trans rfl, (blk_cell BK184.out 5).trans rfl⟩ (fun hHeld => ?_); refine with_tabW spec_could.tab13 spec_could.bits13 (fun HT_ HW_ => ?_)
                            generalize wc.drew = w37 at BK184 HB hHeld ⊢
                            refine pure_ (i := 1) (N := some 85) (v := ?_) (a' := ?_) #[false, true, false, false, false, false, false, false, false, false, false, false, false, false, false] rfl rfl (any_of HT_.out (by kernel_rfl)) (fun _ _ _ h => h) (Or.inl ⟨by rfl, ?_⟩) ?_ ?_
                            rotate_left
                            · intro w'
                              go_simp
                              with_reducible rfl
                            rotate_left
                            · simp only [Act.put, List.setIfInBounds_toArray, List.set_cons_zero, List.set_cons_succ, i64_w, i32_w]
                              rfl
                            refine pure_ (i := 2) (N := some 86) (v := ?_) (a' := ?_) #[false, true, true, false, false, false, false, false, false, false, false, false, false, false, false] rfl rfl (any_of HT_.out (by kernel_rfl)) (fun _ _ _ h => h) (Or.inl ⟨by rfl, ?_⟩) ?_ ?_
                            rotate_left
                            · intro w'
                              go_simp
                              with_reducible rfl
                            rotate_left
                            · simp only [Act.put, List.setIfInBounds_toArray, List.set_cons_zero, List.set_cons_succ, i64_w, i32_w]
                              rfl
                            refine pure_ (i := 3) (N := some 87) (v := ?_) (a' := ?_) #[false, true, true, true, false, false, false, false, false, false, false, false, false, false, false] rfl rfl (any_of HT_.out (by kernel_rfl)) (fun _ _ _ h => h) (Or.inl ⟨by rfl, ?_⟩) ?_ ?_
                            rotate_left
                            · intro w'
                              go_simp
                              with_reducible rfl
                            rotate_left
                            · simp only [Act.put, List.setIfInBounds_toArray, List.set_cons_zero, List.set_cons_succ, i64_w, i32_w]
                              rfl
                            refine take_ (i := 0) (N := some 84) (v := ?_) (a' := ?_) #[true, true, true, true, false, false, false, false, false, false, false, false, false, false, false] rfl rfl (take_ofW HT_.out HW_.out (by kernel_rfl)) (fun _ _ _ h => h) (Or.inl ⟨by rfl, ?_⟩) hHeld ?_ ?_
                            rotate_left
                            · rintro w' ⟨s0, s1, s2, s3, s4, s5⟩
                              go_simp
                              with_reducible rfl
                            rotate_left
                            · simp only [Act.put, List.setIfInBounds_toArray, List.set_cons_zero, List.set_cons_succ, i64_w, i32_w]
                              rfl
                            refine one_ (i := 4) (N := some 88) #[true, true, true, true, true, false, false, false, false, false, false, false, false, false, false] rfl rfl (one_of HT_.out (by kernel_rfl)) (by decide) (fun K hK => ?_)
                            refine goes_ Tryz.func25 (by kernel_rfl) rfl #[.agg #[.string ((rd_T42 l0 a1).f0), .string ((rd_T42 l0 a1).f1), .bool true, .bool ((rd_T42 l0 a1).f3), .bool ((rd_T42 l0 a1).f4), .slice A183_5 ((rd_T42 l0 a1).f5).length c183_5], .string (a2.extract 0 (x10_1 : Int).toNat)] (by rfl) rfl rfl (by (try simp only [List.map_toArray, List.map_cons, List.map_nil]); first | done | rfl | (simp only [List.length_drop, List.length_take]; rfl)) ?_
                            with_reducible refine (spec_within.calls kj13 ((rd_T42 l0 a1).f0) ((rd_T42 l0 a1).f1) true ((rd_T42 l0 a1).f3) ((rd_T42 l0 a1).f4) _ _ ((rd_T42 l0 a1).f5) (a2.extract 0 (x10_1 : Int).toNat) false _ ?side1 ?side2 A25.out).mono ?_
                            (case side1 => repeat (first | exact (Kd.C_below HR183_5.out HB.out) | (with_reducible refine Kd.C_alloc ?_ _) | (with_reducible refine Kd.C_drewN ?_ _) | (with_reducible refine Kd.C_drew ?_)))
                            (case side2 => exact HC183_5.out)
                            rintro e w38 ⟨rfl, hb⟩
                            refine ⟨_, rfl, ?_⟩
                            have n0_ := Aside0.mk (blk_below (g := gb184) (o := .cells #[.string ((rd_T42 l0 a1).f0), .string ((rd_T42 l0 a1).f1), .bool true, .bool ((rd_T42 l0 a1).f3), .bool ((rd_T42 l0 a1).f4), .slice A183_5 ((rd_T42 l0 a1).f5).length c183_5] 42 (0, 0)) (by (with_reducible repeat (first | refine blk_drewN ?_ _ | refine blk_drew ?_ | refine blk_alloc ?_ _)); exact BK184.out) hb)
                            have n1_ := Aside0.mk (below_step (by repeat (first | (with_reducible first | exact HB.out | apply below_alloc | apply pw_below_drewN | apply below_drew1 | refine below_set ?_ GE184.out) | exact HB.out)) hb)
                            clear BK184
                            clear HB
                            have BK184 := n0_
                            have HB := n1_
                            clear n0_ n1_
                            (try clear hb)
                            (try clear hb2)
                            (try clear hk)
                            (try clear hi)
                            refine hK.out _ _ ⟨(blk_cell BK184.out 0).trans rfl, (blk_cell BK184.out 1).trans rfl, (blk_cell BK184.out 2).trans rfl, (blk_cell BK184.out 3).trans rfl, (blk_cell BK184.out 4).trans rfl, (blk_cell BK184.out 5).trans rfl⟩ (fun hHeld => ?_)
                            clear hK K
                            refine norm_ (a' := ?_) ?_ ?_
                            rotate_left
                            · show Act.put _ (some 88) _ = _
                              simp only [Act.put, List.setIfInBounds_toArray, List.set_cons_zero, List.set_cons_succ, i64_w, i32_w]
                              rfl
                            refine pure_ (i := 5) (N := some 89) (v := ?_) (a' := ?_) #[true, true, true, true, true, true, false, false, false, false, false, false, false, false, false] rfl rfl (any_of HT_.out (by kernel_rfl)) (fun _ _ _ h => h) (Or.inl ⟨by rfl, ?_⟩) ?_ ?_
                            rotate_left
                            · intro w'
                              go_simp
                              with_reducible rfl
                            rotate_left
                            · simp only [Act.put, List.setIfInBounds_toArray, List.set_cons_zero, List.set_cons_succ, i64_w, i32_w]
                              rfl
                            refine pure_ (i := 6) (N := some 90) (v := undef) (a' := ?_) #[true, true, true, true, true, true, true, false, false, false, false, false, false, false, false] rfl rfl (any_of HT_.out (by kernel_rfl)) (fun _ _ _ h => h) (Or.inr ⟨by rfl, rfl⟩) ?_ ?_
                            rotate_left
                            · simp only [Act.put, List.setIfInBounds_toArray, List.set_cons_zero, List.set_cons_succ, i64_w, i32_w]
                              rfl
                            refine pure_ (i := 7) (N := some 91) (v := undef) (a' := ?_) #[true, true, true, true, true, true, true, true, false, false, false, false, false, false, false] rfl rfl (any_of HT_.out (by kernel_rfl)) (fun _ _ _ h => h) (Or.inr ⟨by rfl, rfl⟩) ?_ ?_
                            rotate_left
                            · simp only [Act.put, List.setIfInBounds_toArray, List.set_cons_zero, List.set_cons_succ, i64_w, i32_w]
                              rfl
                            refine pure_ (i := 8) (N := some 92) (v := undef) (a' := ?_) #[true, true, true, true, true, true, true, true, true, false, false, false, false, false, false] rfl rfl (any_of HT_.out (by kernel_rfl)) (fun _ _ _ h => h) (Or.inr ⟨by rfl, rfl⟩) ?_ ?_
                            rotate_left
                            · simp only [Act.put, List.setIfInBounds_toArray, List.set_cons_zero, List.set_cons_succ, i64_w, i32_w]
                              rfl
                            refine pure_ (i := 9) (N := some 93) (v := undef) (a' := ?_) #[true, true, true, true, true, true, true, true, true, true, false, false, false, false, false] rfl rfl (any_of HT_.out (by kernel_rfl)) (fun _ _ _ h => h) (Or.inr ⟨by rfl, rfl⟩) ?_ ?_
                            rotate_left
                            · simp only [Act.put, List.setIfInBounds_toArray, List.set_cons_zero, List.set_cons_succ, i64_w, i32_w]
                              rfl
                            refine pure_ (i := 10) (N := some 94) (v := undef) (a' := ?_) #[true, true, true, true, true, true, true, true, true, true, true, false, false, false, false] rfl rfl (any_of HT_.out (by kernel_rfl)) (fun _ _ _ h => h) (Or.inr ⟨by rfl, rfl⟩) ?_ ?_
                            rotate_left
                            · simp only [Act.put, List.setIfInBounds_toArray, List.set_cons_zero, List.set_cons_succ, i64_w, i32_w]
                              rfl
                            refine pure_ (i := 11) (N := some 95) (v := undef) (a' := ?_) #[true, true, true, true, true, true, true, true, true, true, true, true, false, false, false] rfl rfl (any_of HT_.out (by kernel_rfl)) (fun _ _ _ h => h) (Or.inr ⟨by rfl, rfl⟩) ?_ ?_
                            rotate_left
                            · simp only [Act.put, List.setIfInBounds_toArray, List.set_cons_zero, List.set_cons_succ, i64_w, i32_w]
                              rfl
                            refine pure_ (i := 12) (N := some 96) (v := undef) (a' := ?_) #[true, true, true, true, true, true, true, true, true, true, true, true, true, false, false] rfl rfl (any_of HT_.out (by kernel_rfl)) (fun _ _ _ h => h) (Or.inr ⟨by rfl, rfl⟩) ?_ ?_
                            rotate_left
                            · simp only [Act.put, List.setIfInBounds_toArray, List.set_cons_zero, List.set_cons_succ, i64_w, i32_w]
                              rfl
                            refine pure_ (i := 13) (N := some 97) (v := undef) (a' := ?_) #[true, true, true, true, true, true, true, true, true, true, true, true, true, true, false] rfl rfl (any_of HT_.out (by kernel_rfl)) (fun _ _ _ h => h) (Or.inr ⟨by rfl, rfl⟩) ?_ ?_
                            rotate_left
                            · simp only [Act.put, List.setIfInBounds_toArray, List.set_cons_zero, List.set_cons_succ, i64_w, i32_w]
                              rfl
                            refine pure_ (i := 14) (N := some 98) (v := ?_) (a' := ?_) #[true, true, true, true, true, true, true, true, true, true, true, true, true, true, true] rfl rfl (any_of HT_.out (by kernel_rfl)) (fun _ _ _ h => h) (Or.inl ⟨by rfl, ?_⟩) ?_ ?_
                            rotate_left
                            · intro w'
                              go_simp
                              with_reducible rfl
                            rotate_left
                            · simp only [Act.put, List.setIfInBounds_toArray, List.set_cons_zero, List.set_cons_succ, i64_w, i32_w]
                              rfl
                            refine done_ (done_of HT_.out (by kernel_rfl)) ?_
                            try go_wp2
                            go_roundg kj13
                            case measure => have := HK1.out; have := HJ13.out; omega
                            case rel => exact ⟨(wrap64 (x10_1 + 1)), (by first | rfl | (simp; done) | (simp [*]; done)), H', ⟨by have := HK1.out; have := HJ13.out; omega⟩, ⟨by (with_reducible repeat (first | refine blk_drewN ?_ _ | refine blk_drew ?_ | refine blk_alloc ?_ _)); exact BK184.out⟩, ⟨by repeat (first | (with_reducible first | exact HB.out | apply below_alloc | apply pw_below_drewN | apply below_drew1 | refine below_set ?_ GE184.out) | exact HB.out)⟩⟩
                        · rw [if_neg c24] at H
                          exact absurd H (by simp)
                      · rw [if_neg c23] at H
                        exact absurd H (by simp)
              · rw [if_neg c13] at H
                have c13b0 : decide (x10_1 ≤ (a2.size : Int)) = false := decide_eq_false c13
                clear c13
                obtain rfl := Option.some.inj H
                go_wp2
                go_ret
                exact ⟨by first | rfl | (simp [errW_none, errW_some] <;> rfl) | (simp [*, errW_none, errW_some] <;> rfl), by repeat (first | (with_reducible first | exact HB.out | apply below_alloc | apply pw_below_drewN | apply below_drew1 | refine below_set ?_ GE184.out) | exact HB.out)⟩
        · replace c10 := Bool.eq_false_iff.mpr c10
          subst c10
          have H1 : ((spec_begins.f a2 ((rd_T42 l0 a1).f0)).bind fun t185 => (if t185 = true then (if 0 ≤ (((rd_T42 l0 a1).f0).size : Int) then (if (((rd_T42 l0 a1).f0).size : Int) ≤ (a2.size : Int) then ((spec_could.f k l0 (wrap64 (a1 + 1)) (a2.extract ((((rd_T42 l0 a1).f0).size : Int) : Int).toNat a2.size) a3).bind fun t186 => (spec_could.j0 k l0 a1 a2 a3 t186 ((rd_T42 l0 a1).f0) ((rd_T42 l0 a1).f1) false ((rd_T42 l0 a1).f3) ((rd_T42 l0 a1).f4) ((rd_T42 l0 a1).f5))) else (none)) else (none)) else (spec_could.j0 k l0 a1 a2 a3 false ((rd_T42 l0 a1).f0) ((rd_T42 l0 a1).f1) false ((rd_T42 l0 a1).f3) ((rd_T42 l0 a1).f4) ((rd_T42 l0 a1).f5)))) = some r := by rw [if_neg (show ¬ (false = true) by decide)] at H; exact H
          clear H
          have H := H1
          clear H1
          have HC39 := Aside0.mk H
          clear H
          have p183 : 0 ≤ (a1 : Int) := of_decide_eq_true (by first | (with_reducible assumption) | assumption)
          have q183 : a1 < (l0.length : Int) := of_decide_eq_true (by first | (with_reducible assumption) | assumption)
          obtain ⟨ad183, A183_5, c183_5, e183, hx183_0, hx183_1, hx183_2, hx183_3, hx183_4, hx183_5, hl183_5, hi183_5⟩ := at_T42 HR0.out a1 p183 q183
          (try rw [← Nbq9.out] at hx183_2)
          (try rw [← Nbq9.out] at hx183_3)
          (try rw [← Nbq9.out] at hx183_4)
          cases e183
          have HR183_5 := Aside0.mk hi183_5
          have HC183_5 := Aside0.mk hl183_5
          clear hi183_5 hl183_5
          replace p183 := eq_true p183
          replace q183 := eq_true q183
          go_enter Tryz.func23, Tryz.ntmps23
          go_upto_region 5 with (first | ((with_reducible refine gate_dst (N := 9) rfl ?_); (try (refine gate_guard (by rfl) ?_; dsimp only)); refine box_event ?hg (N := 9) ?hd (cs := #[.string (⟨#[]⟩ : ByteArray), .string (⟨#[]⟩ : ByteArray), .bool false, .bool false, .bool false, .slice none 0 0]) (t := 42) ?hr ?_; (case hd => rfl); (case hg => rfl); (case hr => first | (go_simp; done) | (go_simp; rfl)); intro gb184 hg w40 hbox hb; have n0_ := Aside0.mk (below_step (by repeat (first | (with_reducible first | exact HB.out | apply below_alloc | apply pw_below_drewN | apply below_drew1) | exact HB.out)) hb); have n1_ := Aside0.mk (hbox); have n2_ := Aside0.mk ((by rw [hg]; exact (below_size (by repeat (first | (with_reducible first | exact HB.out | apply below_alloc | apply pw_below_drewN | apply below_drew1) | exact HB.out))) : w.heap.size ≤ gb184)); have n3_ := Aside0.mk ((by rw [hg]; exact (below_size (by repeat (first | (with_reducible first | exact HB.out | apply below_alloc | apply pw_below_drewN | apply below_drew1) | exact HB.out))) : w.heap.size ≤ gb184)); clear HB; have HB := n0_; have BK184 := n1_; have GW184 := n2_; have GE184 := n3_; clear n0_ n1_ n2_ n3_; clear hb hbox hg; have hcz41_0 : w40.cell? ⟨gb184, 0, none⟩ = some (.string (⟨#[]⟩ : ByteArray)) := (blk_cell BK184.out 0).trans rfl; have hcz41_1 : w40.cell? ⟨gb184, 1, none⟩ = some (.string (⟨#[]⟩ : ByteArray)) := (blk_cell BK184.out 1).trans rfl; have hcz41_2 : w40.cell? ⟨gb184, 2, none⟩ = some (.bool false) := (blk_cell BK184.out 2).trans rfl; have hcz41_3 : w40.cell? ⟨gb184, 3, none⟩ = some (.bool false) := (blk_cell BK184.out 3).trans rfl; have hcz41_4 : w40.cell? ⟨gb184, 4, none⟩ = some (.bool false) := (blk_cell BK184.out 4).trans rfl; have hcz41_5 : w40.cell? ⟨gb184, 5, none⟩ = some (.slice none 0 0) := (blk_cell BK184.out 5).trans rfl; have hfz41_0 := blk_frozen BK184.out 0; have hfz41_1 := blk_frozen BK184.out 1; have hfz41_2 := blk_frozen BK184.out 2; have hfz41_3 := blk_frozen BK184.out 3; have hfz41_4 := blk_frozen BK184.out 4; have hfz41_5 := blk_frozen BK184.out 5))
          (try simp only [Act.put, List.setIfInBounds_toArray, List.set_cons_zero, List.set_cons_succ])
          go_cut [42] (fun v42 wc => ∃ (kq : Nat) (x42_38 : Bool), v42 = .bool x42_38 ∧ Aside0 (spec_could.j0 kq l0 a1 a2 a3 x42_38 ((rd_T42 l0 a1).f0) ((rd_T42 l0 a1).f1) false ((rd_T42 l0 a1).f3) ((rd_T42 l0 a1).f4) ((rd_T42 l0 a1).f5) = some r) ∧ Aside0 (kq ≤ k) ∧ Aside0 (wc.heap[gb184]? = some (.cells #[.string ((rd_T42 l0 a1).f0), .string ((rd_T42 l0 a1).f1), .bool false, .bool ((rd_T42 l0 a1).f3), .bool ((rd_T42 l0 a1).f4), (.slice A183_5 ((rd_T42 l0 a1).f5).length c183_5)] 42 (0, 0))) ∧ Aside0 (Below w.heap.size w wc))
          case first =>
            have H := HC39.out
            clear HC39
            replace H := Option.bind_eq_some_iff.mp H
            obtain ⟨t185, A420, H⟩ := H
            replace H : (if t185 = true then (if 0 ≤ (((rd_T42 l0 a1).f0).size : Int) then (if (((rd_T42 l0 a1).f0).size : Int) ≤ (a2.size : Int) then ((spec_could.f k l0 (wrap64 (a1 + 1)) (a2.extract ((((rd_T42 l0 a1).f0).size : Int) : Int).toNat a2.size) a3).bind fun t186 => (spec_could.j0 k l0 a1 a2 a3 t186 ((rd_T42 l0 a1).f0) ((rd_T42 l0 a1).f1) false ((rd_T42 l0 a1).f3) ((rd_T42 l0 a1).f4) ((rd_T42 l0 a1).f5))) else (none)) else (none)) else (spec_could.j0 k l0 a1 a2 a3 false ((rd_T42 l0 a1).f0) ((rd_T42 l0 a1).f1) false ((rd_T42 l0 a1).f3) ((rd_T42 l0 a1).f4) ((rd_T42 l0 a1).f5))) = some r := H
            have A42 := Aside0.mk A420
            clear A420
            by_cases c43 : t185 = true
            · subst c43
              have H1 : (if 0 ≤ (((rd_T42 l0 a1).f0).size : Int) then (if (((rd_T42 l0 a1).f0).size : Int) ≤ (a2.size : Int) then ((spec_could.f k l0 (wrap64 (a1 + 1)) (a2.extract ((((rd_T42 l0 a1).f0).size : Int) : Int).toNat a2.size) a3).bind fun t186 => (spec_could.j0 k l0 a1 a2 a3 t186 ((rd_T42 l0 a1).f0) ((rd_T42 l0 a1).f1) false ((rd_T42 l0 a1).f3) ((rd_T42 l0 a1).f4) ((rd_T42 l0 a1).f5))) else (none)) else (none)) = some r := by rw [if_pos rfl] at H; exact H
              clear H
              have H := H1
              clear H1
              by_cases c44 : 0 ≤ (((rd_T42 l0 a1).f0).size : Int)
              · rw [if_pos c44] at H
                have c44b0 := eq_true c44
                have c44b1 : decide (0 ≤ (((rd_T42 l0 a1).f0).size : Int)) = true := decide_eq_true c44
                clear c44
                by_cases c45 : (((rd_T42 l0 a1).f0).size : Int) ≤ (a2.size : Int)
                · rw [if_pos c45] at H
                  have c45b0 := eq_true c45
                  have c45b1 : decide ((((rd_T42 l0 a1).f0).size : Int) ≤ (a2.size : Int)) = true := decide_eq_true c45
                  clear c45
                  replace H := Option.bind_eq_some_iff.mp H
                  obtain ⟨t186, A460, H⟩ := H
                  replace H : (spec_could.j0 k l0 a1 a2 a3 t186 ((rd_T42 l0 a1).f0) ((rd_T42 l0 a1).f1) false ((rd_T42 l0 a1).f3) ((rd_T42 l0 a1).f4) ((rd_T42 l0 a1).f5)) = some r := H
                  have A46 := Aside0.mk A460
                  clear A460
                  have H' := Aside0.mk H
                  clear H
                  have hcz47_0 : w40.cell? ⟨gb184, 0, none⟩ = some (.string (⟨#[]⟩ : ByteArray)) := (blk_cell BK184.out 0).trans rfl
                  have hcz47_1 : w40.cell? ⟨gb184, 1, none⟩ = some (.string (⟨#[]⟩ : ByteArray)) := (blk_cell BK184.out 1).trans rfl
                  have hcz47_2 : w40.cell? ⟨gb184, 2, none⟩ = some (.bool false) := (blk_cell BK184.out 2).trans rfl
                  have hcz47_3 : w40.cell? ⟨gb184, 3, none⟩ = some (.bool false) := (blk_cell BK184.out 3).trans rfl
                  have hcz47_4 : w40.cell? ⟨gb184, 4, none⟩ = some (.bool false) := (blk_cell BK184.out 4).trans rfl
                  have hcz47_5 : w40.cell? ⟨gb184, 5, none⟩ = some (.slice none 0 0) := (blk_cell BK184.out 5).trans rfl
                  have hfz47_0 := blk_frozen BK184.out 0
                  have hfz47_1 := blk_frozen BK184.out 1
                  have hfz47_2 := blk_frozen BK184.out 2
                  have hfz47_3 := blk_frozen BK184.out 3
                  have hfz47_4 := blk_frozen BK184.out 4
                  have hfz47_5 := blk_frozen BK184.out 5
                  have A46b := Aside0.mk (show spec_could.f k l0 (wrap64 (a1 + 1)) (a2.extract ((rd_T42 l0 a1).f0).size a2.size) a3 = some t186 from A46.out)
                  go_wp2_with (first | ((with_reducible refine gate_callee (f := 19) rfl ?_); refine goesL_ (some 30) rfl rfl Tryz.func19 (by kernel_rfl) rfl #[.string a2, .string ((rd_T42 l0 a1).f0)] rfl (by (try simp only [List.map_toArray, List.map_cons, List.map_nil]); first | done | rfl | (simp only [List.length_drop, List.length_take]; rfl)) ?_; (with_reducible refine (spec_begins.calls a2 ((rd_T42 l0 a1).f0) true _ A42.out).mono ?_); rintro e w' ⟨rfl, ⟨nd, rfl⟩⟩; refine ⟨_, rfl, ?_⟩) | (go_at_call 23; (with_reducible refine (ih k (by omega) _ _ l0 (wrap64 (a1 + 1)) (a2.extract ((rd_T42 l0 a1).f0).size a2.size) a3 t186 _ ?side1 ?side2 A46b.out).mono ?_); (case side1 => exact Kd.C_below HR0.out (by repeat (first | (with_reducible first | exact HB.out | apply below_alloc | apply pw_below_drewN | apply below_drew1 | refine below_set ?_ GE184.out) | exact HB.out))); (case side2 => exact HC0.out); rintro e w48 ⟨rfl, hb⟩; have n0_ := Aside0.mk (blk_below (g := gb184) (o := .cells #[.string ((rd_T42 l0 a1).f0), .string ((rd_T42 l0 a1).f1), .bool false, .bool ((rd_T42 l0 a1).f3), .bool ((rd_T42 l0 a1).f4), .slice A183_5 ((rd_T42 l0 a1).f5).length c183_5] 42 (0, 0)) (by (with_reducible repeat (first | refine blk_drewN ?_ _ | refine blk_drew ?_ | refine blk_alloc ?_ _)); refine blk_put (cs := #[.string ((rd_T42 l0 a1).f0), .string ((rd_T42 l0 a1).f1), .bool false, .bool ((rd_T42 l0 a1).f3), .bool ((rd_T42 l0 a1).f4), .slice none 0 0]) ?_ 5 _ rfl; (with_reducible repeat (first | refine blk_drewN ?_ _ | refine blk_drew ?_ | refine blk_alloc ?_ _)); refine blk_put (cs := #[.string ((rd_T42 l0 a1).f0), .string ((rd_T42 l0 a1).f1), .bool false, .bool ((rd_T42 l0 a1).f3), .bool false, .slice none 0 0]) ?_ 4 _ rfl; (with_reducible repeat (first | refine blk_drewN ?_ _ | refine blk_drew ?_ | refine blk_alloc ?_ _)); refine blk_put (cs := #[.string ((rd_T42 l0 a1).f0), .string ((rd_T42 l0 a1).f1), .bool false, .bool false, .bool false, .slice none 0 0]) ?_ 3 _ rfl; (with_reducible repeat (first | refine blk_drewN ?_ _ | refine blk_drew ?_ | refine blk_alloc ?_ _)); refine blk_put (cs := #[.string ((rd_T42 l0 a1).f0), .string ((rd_T42 l0 a1).f1), .bool false, .bool false, .bool false, .slice none 0 0]) ?_ 2 _ rfl; (with_reducible repeat (first | refine blk_drewN ?_ _ | refine blk_drew ?_ | refine blk_alloc ?_ _)); refine blk_put (cs := #[.string ((rd_T42 l0 a1).f0), .string (⟨#[]⟩ : ByteArray), .bool false, .bool false, .bool false, .slice none 0 0]) ?_ 1 _ rfl; (with_reducible repeat (first | refine blk_drewN ?_ _ | refine blk_drew ?_ | refine blk_alloc ?_ _)); refine blk_put (cs := #[.string (⟨#[]⟩ : ByteArray), .string (⟨#[]⟩ : ByteArray), .bool false, .bool false, .bool false, .slice none 0 0]) ?_ 0 _ rfl; (with_reducible repeat (first | refine blk_drewN ?_ _ | refine blk_drew ?_ | refine blk_alloc ?_ _)); exact BK184.out) hb); have n1_ := Aside0.mk (below_step (by repeat (first | (with_reducible first | exact HB.out | apply below_alloc | apply pw_below_drewN | apply below_drew1 | refine below_set ?_ GE184.out) | exact HB.out)) hb); clear BK184; clear HB; have BK184 := n0_; have HB := n1_; clear n0_ n1_; (try clear hb); (try clear hb2); (try clear hk); (try clear hi)))
                  go_meet
                  case rel => exact ⟨_, (t186), (by first | rfl | (simp; done) | (simp [*]; done)), H', ⟨by first | omega | exact Nat.le_refl _⟩, ⟨by (with_reducible repeat (first | refine blk_drewN ?_ _ | refine blk_drew ?_ | refine blk_alloc ?_ _)); exact BK184.out⟩, ⟨by repeat (first | (with_reducible first | exact HB.out | apply below_alloc | apply pw_below_drewN | apply below_drew1 | refine below_set ?_ GE184.out) | exact HB.out)⟩⟩
                · rw [if_neg c45] at H
                  exact absurd H (by simp)
              · rw [if_neg c44] at H
                exact absurd H (by simp)
            · replace c43 := Bool.eq_false_iff.mpr c43
              subst c43
              have H1 : (spec_could.j0 k l0 a1 a2 a3 false ((rd_T42 l0 a1).f0) ((rd_T42 l0 a1).f1) false ((rd_T42 l0 a1).f3) ((rd_T42 l0 a1).f4) ((rd_T42 l0 a1).f5)) = some r := by rw [if_neg (show ¬ (false = true) by decide)] at H; exact H
              clear H
              have H := H1
              clear H1
              have H' := Aside0.mk H
              clear H
              have hcz49_0 : w40.cell? ⟨gb184, 0, none⟩ = some (.string (⟨#[]⟩ : ByteArray)) := (blk_cell BK184.out 0).trans rfl
              have hcz49_1 : w40.cell? ⟨gb184, 1, none⟩ = some (.string (⟨#[]⟩ : ByteArray)) := (blk_cell BK184.out 1).trans rfl
              have hcz49_2 : w40.cell? ⟨gb184, 2, none⟩ = some (.bool false) := (blk_cell BK184.out 2).trans rfl
              have hcz49_3 : w40.cell? ⟨gb184, 3, none⟩ = some (.bool false) := (blk_cell BK184.out 3).trans rfl
              have hcz49_4 : w40.cell? ⟨gb184, 4, none⟩ = some (.bool false) := (blk_cell BK184.out 4).trans rfl
              have hcz49_5 : w40.cell? ⟨gb184, 5, none⟩ = some (.slice none 0 0) := (blk_cell BK184.out 5).trans rfl
              have hfz49_0 := blk_frozen BK184.out 0
              have hfz49_1 := blk_frozen BK184.out 1
              have hfz49_2 := blk_frozen BK184.out 2
              have hfz49_3 := blk_frozen BK184.out 3
              have hfz49_4 := blk_frozen BK184.out 4
              have hfz49_5 := blk_frozen BK184.out 5
              go_wp2_with (first | ((with_reducible refine gate_callee (f := 19) rfl ?_); refine goesL_ (some 30) rfl rfl Tryz.func19 (by kernel_rfl) rfl #[.string a2, .string ((rd_T42 l0 a1).f0)] rfl (by (try simp only [List.map_toArray, List.map_cons, List.map_nil]); first | done | rfl | (simp only [List.length_drop, List.length_take]; rfl)) ?_; (with_reducible refine (spec_begins.calls a2 ((rd_T42 l0 a1).f0) false _ A42.out).mono ?_); rintro e w' ⟨rfl, ⟨nd, rfl⟩⟩; refine ⟨_, rfl, ?_⟩))
              go_meet
              case rel => exact ⟨_, (false), (by first | rfl | (simp; done) | (simp [*]; done)), H', ⟨by first | omega | exact Nat.le_refl _⟩, ⟨by (with_reducible repeat (first | refine blk_drewN ?_ _ | refine blk_drew ?_ | refine blk_alloc ?_ _)); refine blk_put (cs := #[.string ((rd_T42 l0 a1).f0), .string ((rd_T42 l0 a1).f1), .bool false, .bool ((rd_T42 l0 a1).f3), .bool ((rd_T42 l0 a1).f4), .slice none 0 0]) ?_ 5 _ rfl; (with_reducible repeat (first | refine blk_drewN ?_ _ | refine blk_drew ?_ | refine blk_alloc ?_ _)); refine blk_put (cs := #[.string ((rd_T42 l0 a1).f0), .string ((rd_T42 l0 a1).f1), .bool false, .bool ((rd_T42 l0 a1).f3), .bool false, .slice none 0 0]) ?_ 4 _ rfl; (with_reducible repeat (first | refine blk_drewN ?_ _ | refine blk_drew ?_ | refine blk_alloc ?_ _)); refine blk_put (cs := #[.string ((rd_T42 l0 a1).f0), .string ((rd_T42 l0 a1).f1), .bool false, .bool false, .bool false, .slice none 0 0]) ?_ 3 _ rfl; (with_reducible repeat (first | refine blk_drewN ?_ _ | refine blk_drew ?_ | refine blk_alloc ?_ _)); refine blk_put (cs := #[.string ((rd_T42 l0 a1).f0), .string ((rd_T42 l0 a1).f1), .bool false, .bool false, .bool false, .slice none 0 0]) ?_ 2 _ rfl; (with_reducible repeat (first | refine blk_drewN ?_ _ | refine blk_drew ?_ | refine blk_alloc ?_ _)); refine blk_put (cs := #[.string ((rd_T42 l0 a1).f0), .string (⟨#[]⟩ : ByteArray), .bool false, .bool false, .bool false, .slice none 0 0]) ?_ 1 _ rfl; (with_reducible repeat (first | refine blk_drewN ?_ _ | refine blk_drew ?_ | refine blk_alloc ?_ _)); refine blk_put (cs := #[.string (⟨#[]⟩ : ByteArray), .string (⟨#[]⟩ : ByteArray), .bool false, .bool false, .bool false, .slice none 0 0]) ?_ 0 _ rfl; (with_reducible repeat (first | refine blk_drewN ?_ _ | refine blk_drew ?_ | refine blk_alloc ?_ _)); exact BK184.out⟩, ⟨by repeat (first | (with_reducible first | exact HB.out | apply below_alloc | apply pw_below_drewN | apply below_drew1 | refine below_set ?_ GE184.out) | exact HB.out)⟩⟩
          case rest =>
            clear HC39
            try clear c1
            try clear p1
            try clear q1
            try clear hx1
            try clear c2
            try clear p2
            try clear c3
            try clear c4
            try clear p6
            try clear q9
            try clear c10
            try clear c13
            try clear c13b0
            try clear c18
            try clear p18
            try clear q18
            try clear hx18
            try clear c19
            try clear c23
            try clear c24
            try clear c25
            try clear c26
            try clear c27
            try clear c27b0
            try clear c28
            try clear c28b0
            try clear c30
            try clear c43
            try clear c44
            try clear c44b0
            try clear c44b1
            try clear c45
            try clear c45b0
            try clear c45b1
            try clear hcz41_0
            try clear hcz41_1
            try clear hcz41_2
            try clear hcz41_3
            try clear hcz41_4
            try clear hcz41_5
            try clear hcz47_0
            try clear hcz47_1
            try clear hcz47_2
            try clear hcz47_3
            try clear hcz47_4
            try clear hcz47_5
            try clear hcz49_0
            try clear hcz49_1
            try clear hcz49_2
            try clear hcz49_3
            try clear hcz49_4
            try clear hcz49_5
            try clear hfz41_0
            try clear hfz41_1
            try clear hfz41_2
            try clear hfz41_3
            try clear hfz41_4
            try clear hfz41_5
            try clear hfz47_0
            try clear hfz47_1
            try clear hfz47_2
            try clear hfz47_3
            try clear hfz47_4
            try clear hfz47_5
            try clear hfz49_0
            try clear hfz49_1
            try clear hfz49_2
            try clear hfz49_3
            try clear hfz49_4
            try clear hfz49_5
            try clear hx183_0
            try clear hx183_1
            try clear hx183_2
            try clear hx183_3
            try clear hx183_4
            try clear hx183_5
            try clear p183
            try clear q183
            obtain ⟨kq, x42_38, rfl, HA, HJ38, BK184, HB⟩ := hcut
            cases kq with
            | zero => exact absurd HA.out (by simp [spec_could.j0])
            | succ kj38 =>
              have H := HA.out
              clear HA
              simp only [spec_could.j0] at H
              by_cases c50 : x42_38 = true
              · subst c50
                have H1 : (some true) = some r := by rw [if_pos rfl] at H; exact H
                clear H
                have H := H1
                clear H1
                obtain rfl := Option.some.inj H
                go_wp2
                go_ret
                exact ⟨by first | rfl | (simp [errW_none, errW_some] <;> rfl) | (simp [*, errW_none, errW_some] <;> rfl), by repeat (first | (with_reducible first | exact HB.out | apply below_alloc | apply pw_below_drewN | apply below_drew1 | refine below_set ?_ GE184.out) | exact HB.out)⟩
              · replace c50 := Bool.eq_false_iff.mpr c50
                subst c50
                have H1 : ((spec_mayEnd.f l0 a1).bind fun t187 => (if t187 = true then (if 0 ≤ (wrap64 ((((rd_T42 l0 a1).f0).size : Int) - 1)) then (if (wrap64 ((((rd_T42 l0 a1).f0).size : Int) - 1)) ≤ (((rd_T42 l0 a1).f0).size : Int) then (if a2.toList = (((rd_T42 l0 a1).f0).extract 0 ((wrap64 ((((rd_T42 l0 a1).f0).size : Int) - 1)) : Int).toNat).toList then ((spec_could.f kj38 l0 (wrap64 (a1 + 1)) (⟨#[]⟩ : ByteArray) a3).bind fun t188 => (some t188)) else (some false)) else (none)) else (none)) else (some false))) = some r := by rw [if_neg (show ¬ (false = true) by decide)] at H; exact H
                clear H
                have H := H1
                clear H1
                replace H := Option.bind_eq_some_iff.mp H
                obtain ⟨t187, A510, H⟩ := H
                replace H : (if t187 = true then (if 0 ≤ (wrap64 ((((rd_T42 l0 a1).f0).size : Int) - 1)) then (if (wrap64 ((((rd_T42 l0 a1).f0).size : Int) - 1)) ≤ (((rd_T42 l0 a1).f0).size : Int) then (if a2.toList = (((rd_T42 l0 a1).f0).extract 0 ((wrap64 ((((rd_T42 l0 a1).f0).size : Int) - 1)) : Int).toNat).toList then ((spec_could.f kj38 l0 (wrap64 (a1 + 1)) (⟨#[]⟩ : ByteArray) a3).bind fun t188 => (some t188)) else (some false)) else (none)) else (none)) else (some false)) = some r := H
                have A51 := Aside0.mk A510
                clear A510
                by_cases c52 : t187 = true
                · subst c52
                  have H1 : (if 0 ≤ (wrap64 ((((rd_T42 l0 a1).f0).size : Int) - 1)) then (if (wrap64 ((((rd_T42 l0 a1).f0).size : Int) - 1)) ≤ (((rd_T42 l0 a1).f0).size : Int) then (if a2.toList = (((rd_T42 l0 a1).f0).extract 0 ((wrap64 ((((rd_T42 l0 a1).f0).size : Int) - 1)) : Int).toNat).toList then ((spec_could.f kj38 l0 (wrap64 (a1 + 1)) (⟨#[]⟩ : ByteArray) a3).bind fun t188 => (some t188)) else (some false)) else (none)) else (none)) = some r := by rw [if_pos rfl] at H; exact H
                  clear H
                  have H := H1
                  clear H1
                  obtain ⟨ji53, hji53⟩ : ∃ j_ : Int, (wrap64 ((((rd_T42 l0 a1).f0).size : Int) - 1)) = j_ := ⟨_, rfl⟩
                  replace H : (if 0 ≤ (ji53) then (if (ji53) ≤ (((rd_T42 l0 a1).f0).size : Int) then (if a2.toList = (((rd_T42 l0 a1).f0).extract 0 ((ji53) : Int).toNat).toList then ((spec_could.f kj38 l0 (wrap64 (a1 + 1)) (⟨#[]⟩ : ByteArray) a3).bind fun t188 => (some t188)) else (some false)) else (none)) else (none)) = some r := by first | (rw [hji53] at H; exact H) | (simp only [hji53] at H ⊢; exact H)
                  (try rw [hji53] at A51)
                  have hji53w : (IntKind.i64.wrap ((((rd_T42 l0 a1).f0).size : Int) - 1)) = ji53 := (i64_w _).trans hji53
                  by_cases c54 : 0 ≤ (ji53)
                  · rw [if_pos c54] at H
                    have c54b0 := eq_true c54
                    have c54b1 : decide (0 ≤ (ji53)) = true := decide_eq_true c54
                    clear c54
                    by_cases c55 : (ji53) ≤ (((rd_T42 l0 a1).f0).size : Int)
                    · rw [if_pos c55] at H
                      have c55b0 := eq_true c55
                      have c55b1 : decide ((ji53) ≤ (((rd_T42 l0 a1).f0).size : Int)) = true := decide_eq_true c55
                      clear c55
                      by_cases c56 : a2.toList = (((rd_T42 l0 a1).f0).extract 0 ((ji53) : Int).toNat).toList
                      · rw [if_pos c56] at H
                        have c56b0 : (a2.toList == (((rd_T42 l0 a1).f0).extract 0 ((ji53) : Int).toNat).toList) = true := beq_iff_eq.mpr c56
                        have c56b1 : (a2.toList != (((rd_T42 l0 a1).f0).extract 0 ((ji53) : Int).toNat).toList) = false := bne_eq_false_iff_eq.mpr c56
                        clear c56
                        replace H := Option.bind_eq_some_iff.mp H
                        obtain ⟨t188, A570, H⟩ := H
                        replace H : (some t188) = some r := H
                        have A57 := Aside0.mk A570
                        clear A570
                        obtain rfl := Option.some.inj H
                        go_wp2_with (first | ((with_reducible refine gate_callee (f := 26) rfl ?_); refine goesL_ (some 45) rfl rfl Tryz.func26 (by kernel_rfl) rfl #[.slice (some ad183) l0.length c0, .int .i64 a1] rfl (by (try simp only [List.map_toArray, List.map_cons, List.map_nil]); first | done | rfl | (simp only [List.length_drop, List.length_take]; rfl)) ?_; (with_reducible refine (spec_mayEnd.calls _ _ l0 a1 true _ ?side1 ?side2 A51.out).mono ?_); (case side1 => repeat (first | exact (Kd.C_below HR0.out HB.out) | (with_reducible refine Kd.C_alloc ?_ _) | (with_reducible refine Kd.C_drewN ?_ _) | (with_reducible refine Kd.C_drew ?_))); (case side2 => exact HC0.out); rintro e w' ⟨rfl, ⟨nd, rfl⟩⟩; refine ⟨_, rfl, ?_⟩; have hcz58_0 : wc.cell? ⟨gb184, 0, none⟩ = some (.string ((rd_T42 l0 a1).f0)) := (blk_cell BK184.out 0).trans rfl; have hcz58_1 : wc.cell? ⟨gb184, 1, none⟩ = some (.string ((rd_T42 l0 a1).f1)) := (blk_cell BK184.out 1).trans rfl; have hcz58_2 : wc.cell? ⟨gb184, 2, none⟩ = some (.bool false) := (blk_cell BK184.out 2).trans rfl; have hcz58_3 : wc.cell? ⟨gb184, 3, none⟩ = some (.bool ((rd_T42 l0 a1).f3)) := (blk_cell BK184.out 3).trans rfl; have hcz58_4 : wc.cell? ⟨gb184, 4, none⟩ = some (.bool ((rd_T42 l0 a1).f4)) := (blk_cell BK184.out 4).trans rfl; have hcz58_5 : wc.cell? ⟨gb184, 5, none⟩ = some (.slice A183_5 ((rd_T42 l0 a1).f5).length c183_5) := (blk_cell BK184.out 5).trans rfl; have hfz58_0 := blk_frozen BK184.out 0; have hfz58_1 := blk_frozen BK184.out 1; have hfz58_2 := blk_frozen BK184.out 2; have hfz58_3 := blk_frozen BK184.out 3; have hfz58_4 := blk_frozen BK184.out 4; have hfz58_5 := blk_frozen BK184.out 5) | (go_at_call 23; (with_reducible refine (ih kj38 (by have := HJ38.out; omega) _ _ l0 (wrap64 (a1 + 1)) (⟨#[]⟩ : ByteArray) a3 t188 _ ?side1 ?side2 A57.out).mono ?_); (case side1 => repeat (first | exact (Kd.C_below HR0.out (by repeat (first | (with_reducible first | exact HB.out | apply below_alloc | apply pw_below_drewN | apply below_drew1 | refine below_set ?_ GE184.out) | exact HB.out))) | (with_reducible refine Kd.C_alloc ?_ _) | (with_reducible refine Kd.C_drewN ?_ _) | (with_reducible refine Kd.C_drew ?_))); (case side2 => exact HC0.out); rintro e w59 ⟨rfl, hb⟩; have n0_ := Aside0.mk (blk_below (g := gb184) (o := .cells #[.string ((rd_T42 l0 a1).f0), .string ((rd_T42 l0 a1).f1), .bool false, .bool ((rd_T42 l0 a1).f3), .bool ((rd_T42 l0 a1).f4), .slice A183_5 ((rd_T42 l0 a1).f5).length c183_5] 42 (0, 0)) (by (with_reducible repeat (first | refine blk_drewN ?_ _ | refine blk_drew ?_ | refine blk_alloc ?_ _)); exact BK184.out) hb); have n1_ := Aside0.mk (below_step (by repeat (first | (with_reducible first | exact HB.out | apply below_alloc | apply pw_below_drewN | apply below_drew1 | refine below_set ?_ GE184.out) | exact HB.out)) hb); clear BK184; clear HB; have BK184 := n0_; have HB := n1_; clear n0_ n1_; (try clear hb); (try clear hb2); (try clear hk); (try clear hi)))
                        go_ret
                        exact ⟨by first | rfl | (simp [errW_none, errW_some] <;> rfl) | (simp only [← hji53]; first | rfl | (simp [errW_none, errW_some] <;> rfl)) | (simp [*, errW_none, errW_some] <;> rfl), by repeat (first | (with_reducible first | exact HB.out | apply below_alloc | apply pw_below_drewN | apply below_drew1 | refine below_set ?_ GE184.out) | exact HB.out)⟩
                      · rw [if_neg c56] at H
                        have c56b0 : (a2.toList == (((rd_T42 l0 a1).f0).extract 0 ((ji53) : Int).toNat).toList) = false := beq_eq_false_iff_ne.mpr c56
                        have c56b1 : (a2.toList != (((rd_T42 l0 a1).f0).extract 0 ((ji53) : Int).toNat).toList) = true := bne_iff_ne.mpr c56
                        obtain rfl := Option.some.inj H
                        go_wp2_with (first | ((with_reducible refine gate_callee (f := 26) rfl ?_); refine goesL_ (some 45) rfl rfl Tryz.func26 (by kernel_rfl) rfl #[.slice (some ad183) l0.length c0, .int .i64 a1] rfl (by (try simp only [List.map_toArray, List.map_cons, List.map_nil]); first | done | rfl | (simp only [List.length_drop, List.length_take]; rfl)) ?_; (with_reducible refine (spec_mayEnd.calls _ _ l0 a1 true _ ?side1 ?side2 A51.out).mono ?_); (case side1 => repeat (first | exact (Kd.C_below HR0.out HB.out) | (with_reducible refine Kd.C_alloc ?_ _) | (with_reducible refine Kd.C_drewN ?_ _) | (with_reducible refine Kd.C_drew ?_))); (case side2 => exact HC0.out); rintro e w' ⟨rfl, ⟨nd, rfl⟩⟩; refine ⟨_, rfl, ?_⟩; have hcz60_0 : wc.cell? ⟨gb184, 0, none⟩ = some (.string ((rd_T42 l0 a1).f0)) := (blk_cell BK184.out 0).trans rfl; have hcz60_1 : wc.cell? ⟨gb184, 1, none⟩ = some (.string ((rd_T42 l0 a1).f1)) := (blk_cell BK184.out 1).trans rfl; have hcz60_2 : wc.cell? ⟨gb184, 2, none⟩ = some (.bool false) := (blk_cell BK184.out 2).trans rfl; have hcz60_3 : wc.cell? ⟨gb184, 3, none⟩ = some (.bool ((rd_T42 l0 a1).f3)) := (blk_cell BK184.out 3).trans rfl; have hcz60_4 : wc.cell? ⟨gb184, 4, none⟩ = some (.bool ((rd_T42 l0 a1).f4)) := (blk_cell BK184.out 4).trans rfl; have hcz60_5 : wc.cell? ⟨gb184, 5, none⟩ = some (.slice A183_5 ((rd_T42 l0 a1).f5).length c183_5) := (blk_cell BK184.out 5).trans rfl; have hfz60_0 := blk_frozen BK184.out 0; have hfz60_1 := blk_frozen BK184.out 1; have hfz60_2 := blk_frozen BK184.out 2; have hfz60_3 := blk_frozen BK184.out 3; have hfz60_4 := blk_frozen BK184.out 4; have hfz60_5 := blk_frozen BK184.out 5))
                        go_ret
                        exact ⟨by first | rfl | (simp [errW_none, errW_some] <;> rfl) | (simp only [← hji53]; first | rfl | (simp [errW_none, errW_some] <;> rfl)) | (simp [*, errW_none, errW_some] <;> rfl), by repeat (first | (with_reducible first | exact HB.out | apply below_alloc | apply pw_below_drewN | apply below_drew1 | refine below_set ?_ GE184.out) | exact HB.out)⟩
                    · rw [if_neg c55] at H
                      exact absurd H (by simp)
                  · rw [if_neg c54] at H
                    exact absurd H (by simp)
                · replace c52 := Bool.eq_false_iff.mpr c52
                  subst c52
                  have H1 : (some false) = some r := by rw [if_neg (show ¬ (false = true) by decide)] at H; exact H
                  clear H
                  have H := H1
                  clear H1
                  obtain rfl := Option.some.inj H
                  go_wp2_with (first | ((with_reducible refine gate_callee (f := 26) rfl ?_); refine goesL_ (some 45) rfl rfl Tryz.func26 (by kernel_rfl) rfl #[.slice (some ad183) l0.length c0, .int .i64 a1] rfl (by (try simp only [List.map_toArray, List.map_cons, List.map_nil]); first | done | rfl | (simp only [List.length_drop, List.length_take]; rfl)) ?_; (with_reducible refine (spec_mayEnd.calls _ _ l0 a1 false _ ?side1 ?side2 A51.out).mono ?_); (case side1 => repeat (first | exact (Kd.C_below HR0.out HB.out) | (with_reducible refine Kd.C_alloc ?_ _) | (with_reducible refine Kd.C_drewN ?_ _) | (with_reducible refine Kd.C_drew ?_))); (case side2 => exact HC0.out); rintro e w' ⟨rfl, ⟨nd, rfl⟩⟩; refine ⟨_, rfl, ?_⟩))
                  go_ret
                  exact ⟨by first | rfl | (simp [errW_none, errW_some] <;> rfl) | (simp [*, errW_none, errW_some] <;> rfl), by repeat (first | (with_reducible first | exact HB.out | apply below_alloc | apply pw_below_drewN | apply below_drew1 | refine below_set ?_ GE184.out) | exact HB.out)⟩
      · rw [if_neg c8] at H
        exact absurd H (by simp)
    · rw [if_neg c7] at H
      exact absurd H (by simp)

end Go.Proofs.YtfahabnjplnbmaaGreatDoor.Q
