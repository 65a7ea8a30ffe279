/- parseRoute and addParameterMetaInfo at nothing. -/
import Derived.Test.YtfahabnjplnbmaaGreatDoorMWk5
import Derived.Deep.QuietTactic
import Derived.BigQuiet
import Derived.RegionTactic
namespace Go.Proofs.YtfahabnjplnbmaaGreatDoor.Wk
open Go.RowKit Go.Proofs.YtfahabnjplnbmaaGreatDoorW.PrintWords
open Go.Proofs.YtfahabnjplnbmaaGreatDoor.Pl Go.Proofs.YtfahabnjplnbmaaGreatDoor.Q Go.Proofs.YtfahabnjplnbmaaGreatDoor.QL
set_option linter.unusedVariables false
set_option linter.unusedSimpArgs false

set_option maxHeartbeats 1000000 in
set_option maxRecDepth 100000 in
theorem meta_nil (w : World) :
    Calls Tryz.prog 37 #[.slice none 0 0] w fun e w' => e = .returned (.slice none 0 0) ∧ w = w' := by
  go_enter Tryz.func37, Tryz.ntmps37
  go_wp2
  refine wp_loop_rounds 1 ?_
  rw [rounds_succ]
  go_wp2
  refine wp_loop_rounds 1 ?_
  rw [rounds_succ]
  go_wp2
  go_ret
  exact ⟨rfl, rfl⟩

set_option maxHeartbeats 1000000 in
set_option maxRecDepth 100000 in
theorem parse_nil (s : ByteArray) (w : World) (hs : s.size = 0) :
    Calls Tryz.prog 29 #[.string s] w fun e w' => e = .returned (.agg #[.slice none 0 0, .slice none 0 0, .int .i64 0, .int .i64 0]) ∧ Below w.heap.size w w' := by
  have h0 : ¬ (0 : Int) < (s.size : Int) := by omega
  have h1 : s.size ≤ 100 := by omega
  have HS := Lib.hid hs
  clear hs
  go_enter Tryz.func29, Tryz.ntmps29
  go_wp2
  refine wp_loop_rounds 1 ?_
  rw [rounds_succ]
  go_wp2_with (go_at_call 37; refine (meta_nil _).mono ?_; rintro e w1 ⟨rfl, rfl⟩)
  exact bodyPost_ret (v := .agg #[.slice none 0 0, .slice none 0 0, .int .i64 0, .int .i64 0]) (by simp [results, Tryz.results29, go_sem]) rfl ⟨rfl, below_alloc (below_alloc (Below.refl _ _) _) _⟩
end Go.Proofs.YtfahabnjplnbmaaGreatDoor.Wk
