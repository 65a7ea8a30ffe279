/- Walks of small functions of the program: GetTrimmedParam, and how much a parameter takes. -/
import Derived.Test.YtfahabnjplnbmaaGreatDoorMWk1
namespace Go.Proofs.YtfahabnjplnbmaaGreatDoor.Wk
open Go.RowKit Go.Proofs.YtfahabnjplnbmaaGreatDoorW.PrintWords
open Go.Proofs.YtfahabnjplnbmaaGreatDoor.Pl Go.Proofs.YtfahabnjplnbmaaGreatDoor.Q Go.Proofs.YtfahabnjplnbmaaGreatDoor.QL
set_option linter.unusedVariables false
set_option linter.unusedSimpArgs false

set_option maxHeartbeats 1000000 in
set_option maxRecDepth 100000 in
theorem trimmed_plain (s : ByteArray) (w : World) (hs : s.size ≤ 4294967290) (h1 : 1 ≤ s.size) (h0 : s[0] ≠ 58) :
    Calls Tryz.prog 58 #[.string s] w fun e w' => e = .returned (.string s) ∧ w = w' := by
  have hb : ((s.size : Int) == 0) = false := by rw [beq_eq_false_iff_ne]; omega
  have hl : (0 : Int) < (s.size : Int) := by omega
  have hne : (((s[0]'(by omega)).toNat : Int) != 58) = true := by
    rw [bne_iff_ne]
    intro e
    exact h0 (UInt8.toNat_inj.1 (by show _ = 58; omega))
  clear h0
  go_enter Tryz.func58, Tryz.ntmps58
  go_wp2
  go_ret
  exact ⟨rfl, rfl⟩

set_option maxHeartbeats 1000000 in
set_option maxRecDepth 100000 in
theorem trimmed_name (s : ByteArray) (w : World) (hs : s.size ≤ 4294967290) (h1 : 2 ≤ s.size) (h0 : s[0] = 58) :
    Calls Tryz.prog 58 #[.string s] w fun e w' => e = .returned (.string (if s[s.size - 1] = 63 then s.extract 1 (s.size - 1) else s.extract 1 s.size)) ∧ w = w' := by
  have hb : ((s.size : Int) == 0) = false := by rw [beq_eq_false_iff_ne]; omega
  have hl : (0 : Int) < (s.size : Int) := by omega
  have hl1 : (1 : Int) < (s.size : Int) := by omega
  have hne : (((s[0]'(by omega)).toNat : Int) != 58) = false := by
    rw [bne_eq_false_iff_eq, h0]; rfl
  clear h0
  by_cases h63 : s[s.size - 1] = 63
  · have hq : (((s[s.size - 1]'(by omega)).toNat : Int) == 63) = true := by rw [beq_iff_eq, h63]; rfl
    rw [if_pos h63]
    have hsl := slice_int s 1 ((s.size : Int) - 1) (by omega) (by omega) (by omega)
    clear h63
    go_enter Tryz.func58, Tryz.ntmps58
    go_wp2
    go_ret
    exact ⟨by simp, rfl⟩
  · have hq : (((s[s.size - 1]'(by omega)).toNat : Int) == 63) = false := by
      rw [beq_eq_false_iff_ne]
      intro e
      exact h63 (UInt8.toNat_inj.1 (by show _ = 63; omega))
    rw [if_neg h63]
    have hsl := slice_int s 1 (s.size : Int) (by omega) (by omega) (by omega)
    clear h63
    go_enter Tryz.func58, Tryz.ntmps58
    go_wp2
    go_ret
    exact ⟨by simp, rfl⟩
end Go.Proofs.YtfahabnjplnbmaaGreatDoor.Wk
