/- zzCount by value. -/
import Derived.Test.YtfahabnjplnbmaaGreatDoorMWk1
namespace Go.Proofs.YtfahabnjplnbmaaGreatDoor.Wk
open Go.RowKit Go.Proofs.YtfahabnjplnbmaaGreatDoorW.PrintWords
open Go.Proofs.YtfahabnjplnbmaaGreatDoor.Pl Go.Proofs.YtfahabnjplnbmaaGreatDoor.Q Go.Proofs.YtfahabnjplnbmaaGreatDoor.QL
set_option linter.unusedVariables false
set_option linter.unusedSimpArgs false

/-- How often a text is found, one behind the other. -/
def cntZ (s b : ByteArray) : Nat → Nat → Nat → Nat
  | 0, _, k => k
  | f + 1, j, k => if j + b.size ≤ s.size then (if (s.extract j (j + b.size)).toList = b.toList then cntZ s b f (j + b.size) (k + 1) else cntZ s b f (j + 1) k) else k
def cntR (s b : ByteArray) : Nat := cntZ s b (s.size + 2) 0 0
theorem cntZ_end {s b : ByteArray} {j : Nat} (h : ¬ j + b.size ≤ s.size) (f k : Nat) : cntZ s b f j k = k := by
  cases f with
  | zero => rfl
  | succ f => unfold cntZ; rw [if_neg h]
theorem cntZ_hit {s b : ByteArray} {j : Nat} (h : j + b.size ≤ s.size) (he : (s.extract j (j + b.size)).toList = b.toList) (f k : Nat) : cntZ s b (f + 1) j k = cntZ s b f (j + b.size) (k + 1) := by
  rw [cntZ, if_pos h, if_pos he]
theorem cntZ_miss {s b : ByteArray} {j : Nat} (h : j + b.size ≤ s.size) (he : (s.extract j (j + b.size)).toList ≠ b.toList) (f k : Nat) : cntZ s b (f + 1) j k = cntZ s b f (j + 1) k := by
  rw [cntZ, if_pos h, if_neg he]

set_option maxHeartbeats 1000000 in
set_option maxRecDepth 100000 in
theorem count_val (s b : ByteArray) (w : World) (hb : 1 ≤ b.size) (hbs : b.size ≤ 4294967290) (hs : s.size ≤ 4294967290) :
    Calls Tryz.prog 66 #[.string s, .string b] w fun e w' => e = .returned (.int .i64 (cntR s b : Int)) ∧ w' = w := by
  have hb0 : ((b.size : Int) == 0) = false := by rw [beq_eq_false_iff_ne]; omega
  go_enter Tryz.func66, Tryz.ntmps66
  go_wp2
  go_loop [5, 6] (fun n i => ∃ (k j f : Nat), n = .int .i64 (k : Int) ∧ i = .int .i64 (j : Int) ∧ k ≤ j ∧ j ≤ s.size + 1 ∧ s.size + 2 ≤ j + f ∧ Hid (cntZ s b f j k = cntR s b)) (fun _ i => s.size + 2 - (intOf i).toNat)
  case atStart => exact ⟨0, 0, s.size + 2, rfl, rfl, Nat.le_refl _, Nat.zero_le _, by omega, (rfl : cntZ s b (s.size + 2) 0 0 = cntR s b)⟩
  case round =>
    obtain ⟨k, j, f, rfl, rfl, hk, hj, hf, HR⟩ := hrel
    obtain ⟨f, rfl⟩ : ∃ f', f = f' + 1 := ⟨f - 1, by omega⟩
    by_cases hlt : j + b.size ≤ s.size
    · have h1 : (j : Int) + (b.size : Int) ≤ (s.size : Int) := by omega
      have hsl := slice_nat s j b.size hlt
      by_cases heq : (s.extract j (j + b.size)).toList = b.toList
      · have h2 : ((s.extract j (j + b.size)).toList == b.toList) = true := by rw [beq_iff_eq]; exact heq
        have H := Lib.hid ((cntZ_hit hlt heq f k).symm.trans HR.out)
        clear heq
        go_wp2
        go_round
        case rel => exact ⟨k + 1, j + b.size, f, by go_num, by go_num, by omega, by omega, by omega, H⟩
        case measure => simp [intOf]; omega
      · have h2 : ((s.extract j (j + b.size)).toList == b.toList) = false := by rw [beq_eq_false_iff_ne]; exact heq
        have H := Lib.hid ((cntZ_miss hlt heq f k).symm.trans HR.out)
        clear heq
        go_wp2
        go_round
        case rel => exact ⟨k, j + 1, f, rfl, by go_num, by omega, by omega, by omega, H⟩
        case measure => simp [intOf]; omega
    · have h1 : ¬ (j : Int) + (b.size : Int) ≤ (s.size : Int) := by omega
      have e := HR.out
      rw [cntZ_end hlt] at e
      have HE := Lib.hid e
      clear e
      go_wp2
      go_ret
      have h := HE.out
      subst h
      exact ⟨rfl, rfl⟩

end Go.Proofs.YtfahabnjplnbmaaGreatDoor.Wk
