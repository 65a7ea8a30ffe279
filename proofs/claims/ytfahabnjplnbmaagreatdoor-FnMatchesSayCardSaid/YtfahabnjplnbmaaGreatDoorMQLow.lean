/- Small letters, in the words of the plain law. -/
import Derived.Test.YtfahabnjplnbmaaGreatDoorMLow
import Derived.Test.YtfahabnjplnbmaaGreatDoorMQL
import Derived.Test.YtfahabnjplnbmaaGreatDoorMPM
namespace Go.Proofs.YtfahabnjplnbmaaGreatDoor.QL
open Go.RowKit Go.Proofs.YtfahabnjplnbmaaGreatDoorW.PrintWords
open Go.Proofs.YtfahabnjplnbmaaGreatDoor.Pl Go.Proofs.YtfahabnjplnbmaaGreatDoor.Q
theorem fold_low : foldB = lowB := rfl
theorem bs_low (s : ByteArray) : bs (lowS s) = low (bs s) := by
  show (s.data.toList.map foldB).toArray.toList = s.data.toList.map lowB
  rw [fold_low]
theorem size_low (s : ByteArray) : (lowS s).size = s.size := by rw [← bs_len, bs_low, ← bs_len]; simp [low]

end Go.Proofs.YtfahabnjplnbmaaGreatDoor.QL
