/- impl.Values: what it hands back; nothing panics. -/
import Derived.Test.YtfahabnjplnbmaaGreatDoorMWk13
import Derived.Defers
import Derived.Recover
import Derived.RegionTactic
namespace Go.Proofs.YtfahabnjplnbmaaGreatDoor.Wk
open Go.RowKit Go.Proofs.YtfahabnjplnbmaaGreatDoorW.PrintWords
open Go.Proofs.YtfahabnjplnbmaaGreatDoor.Pl Go.Proofs.YtfahabnjplnbmaaGreatDoor.Q Go.Proofs.YtfahabnjplnbmaaGreatDoor.QL
set_option linter.unusedVariables false
set_option linter.unusedSimpArgs false

theorem blk_new3 (w : World) (o o' o'' : Obj) : (((w.alloc o).alloc o').alloc o'').heap[w.heap.size + 1 + 1]? = some o'' := by
  have := blk_new2 (w.alloc o) o' o''
  rw [show (w.alloc o).heap.size = w.heap.size + 1 by simp] at this
  exact this

end Go.Proofs.YtfahabnjplnbmaaGreatDoor.Wk
