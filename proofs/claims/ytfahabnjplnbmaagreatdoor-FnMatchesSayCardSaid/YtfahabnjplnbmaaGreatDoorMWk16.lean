/- laws.FnValuesSay: it returns true at every input. -/
import Derived.Test.YtfahabnjplnbmaaGreatDoorMWk15
import Derived.Test.YtfahabnjplnbmaaGreatDoorMPM
namespace Go.Proofs.YtfahabnjplnbmaaGreatDoor.Wk
open Go.RowKit Go.Proofs.YtfahabnjplnbmaaGreatDoorW.PrintWords
open Go.Proofs.YtfahabnjplnbmaaGreatDoor.Pl Go.Proofs.YtfahabnjplnbmaaGreatDoor.Q Go.Proofs.YtfahabnjplnbmaaGreatDoor.QL
set_option linter.unusedVariables false
set_option linter.unusedSimpArgs false

/-- The slice of a list of the reference's parts. -/
theorem parts_call (s : ByteArray) (L : List S42) (r : Int) (w : World) (h : Ev (fun k => spec_Parts.f k s) (L, r)) :
    Calls Tryz.prog 6 #[.string s] w fun e w' => ∃ A c, e = .returned (.tuple #[.slice A L.length c, .int .i64 r]) ∧ L.length ≤ c ∧ Kd.C k42 w' A L.length L ∧ Below w.heap.size w w' := by
  obtain ⟨k, hk⟩ := h.rounds
  refine (spec_Parts.calls k s L r w hk).mono ?_
  rintro e w' ⟨v, rfl, hR, hb⟩
  obtain ⟨A, c, rfl, hl, hC⟩ := Kd.R_reads hR
  exact ⟨A, c, rfl, hl, hC, hb⟩

end Go.Proofs.YtfahabnjplnbmaaGreatDoor.Wk
