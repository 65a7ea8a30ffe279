/- Two functions by hand, in the form that the laid texts (Qx..) take them in: strings.IndexByte off the shelf's contract; spec.Fulfils, which no input of the two statements comes to (nothing is said of it). -/
import Derived.Test.YtfahabnjplnbmaaGreatDoorProg
import Derived.Test.YtfahabnjplnbmaaGreatDoorMShelf
import Derived.Test.YtfahabnjplnbmaaGreatDoorMZw
namespace Go.Proofs.YtfahabnjplnbmaaGreatDoor.Q
open Go.RowKit Go.Proofs.YtfahabnjplnbmaaGreatDoorW.PrintWords
/-- A draw and a store may change places. -/
theorem setCell_drewN (w : World) (n : Nat) (p : Addr) (v : Value) : (w.drewN n).setCell p v = (w.setCell p v).drewN n := rfl
def spec_Fulfils.f (_ : Int) (_ : List ByteArray) (_ : ByteArray) : Option (Bool × Int) := none
theorem spec_Fulfils.calls (a0_0 : Int) (A0_1 : Option Addr) (c0_1 : Nat) (l0_1 : List ByteArray) (a1 : ByteArray) (r1 : Bool) (r2 : Int) (w : World) (_hr0_1 : Kd.C Kd.string w A0_1 l0_1.length l0_1) (_hc0_1 : l0_1.length ≤ c0_1) (h : spec_Fulfils.f a0_0 l0_1 a1 = some (r1, r2)) :
    Calls Tryz.prog 33 #[.agg #[.int .i64 a0_0, .slice A0_1 l0_1.length c0_1], .string a1] w fun e w' => e = .returned (.tuple #[.bool r1, .int .i64 r2]) ∧ Below w.heap.size w w' := by
  cases h
def strings_IndexByte.f (a0 : ByteArray) (a1 : Int) : Option Int := some (Lib.indexByte a0.data.toList a1.toNat.toUInt8)
theorem strings_IndexByte.calls (a0 : ByteArray) (a1 : Int) (r : Int) (w : World) (h : strings_IndexByte.f a0 a1 = some r) :
    Calls Tryz.prog 40 #[.string a0, .int .u8 a1] w fun e w' => e = .returned (.int .i64 r) ∧ Drawn0 w w' := by
  cases h
  refine (Tryz.strings_IndexByte a0 a1 w).mono ?_
  rintro e w' ⟨rfl, rfl⟩
  exact ⟨rfl, Drawn0.refl _⟩
end Go.Proofs.YtfahabnjplnbmaaGreatDoor.Q
