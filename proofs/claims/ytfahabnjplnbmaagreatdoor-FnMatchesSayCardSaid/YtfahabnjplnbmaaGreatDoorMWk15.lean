/- laws.told, laws.matches, laws.FnValuesSay: it returns true. -/
import Derived.Test.YtfahabnjplnbmaaGreatDoorMWk14
import Derived.Test.YtfahabnjplnbmaaGreatDoorMQS
namespace Go.Proofs.YtfahabnjplnbmaaGreatDoor.Wk
open Go.RowKit Go.Proofs.YtfahabnjplnbmaaGreatDoorW.PrintWords
open Go.Proofs.YtfahabnjplnbmaaGreatDoor.Pl Go.Proofs.YtfahabnjplnbmaaGreatDoor.Q Go.Proofs.YtfahabnjplnbmaaGreatDoor.QL
set_option linter.unusedVariables false
set_option linter.unusedSimpArgs false

theorem told_any (is : Bool) (says : Int) (w : World) (h : says = 2 ∨ (says = 0 ∧ is = false) ∨ (says = 1 ∧ is = true)) :
    Calls Tryz.prog 7 #[.bool is, .int .i64 says] w fun e w' => e = .returned (.bool true) ∧ w = w' := by
  rcases h with rfl | ⟨rfl, rfl⟩ | ⟨rfl, rfl⟩
  all_goals
    go_enter Tryz.func7, Tryz.ntmps7
    go_wp2
    go_ret
    exact ⟨rfl, rfl⟩

theorem bs_lit (l : Bytes) : bs ⟨l.toArray⟩ = l := by simp [bs]

end Go.Proofs.YtfahabnjplnbmaaGreatDoor.Wk
