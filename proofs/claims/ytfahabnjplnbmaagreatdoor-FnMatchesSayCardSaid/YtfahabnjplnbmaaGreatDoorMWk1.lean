/- Walks of small functions of the program: zzCount, zzIndexRune, zzContainsRune. -/
import Derived.Test.YtfahabnjplnbmaaGreatDoorMQx3
import Derived.Test.YtfahabnjplnbmaaGreatDoorMQL
import Derived.Laws.RangeString
import Derived.Laws.RangeAny
import Derived.Lib.OthersKept
import Derived.Lib.Hide
import Derived.Outline
namespace Go.Proofs.YtfahabnjplnbmaaGreatDoor.Wk
open Go.RowKit Go.Proofs.YtfahabnjplnbmaaGreatDoorW.PrintWords
open Go.Proofs.YtfahabnjplnbmaaGreatDoor.Pl Go.Proofs.YtfahabnjplnbmaaGreatDoor.Q Go.Proofs.YtfahabnjplnbmaaGreatDoor.QL
set_option linter.unusedVariables false
set_option linter.unusedSimpArgs false

theorem width_pos (s : ByteArray) (pos : Nat) (h : pos < s.size) : 1 ≤ (Utf8.decode s pos).2 := by
  by_cases ha : (s[pos]'h).toNat < 128
  · rw [decode_ascii s pos h ha]
    exact Nat.le_refl _
  · exact (decode_high s pos h (by omega)).2

theorem slice_int (s : ByteArray) (i j : Int) (h0 : 0 ≤ i) (h1 : i ≤ j) (h2 : j ≤ s.size) : ∀ W : World, (Instr.slice 9 (.string s) (some (.int .i64 i)) (some (.int .i64 j)) none).run Tryz.prog W = .ok (.string (s.extract i.toNat j.toNat)) W := fun W =>
  run_slice_string (P := Tryz.prog) W 9 s .i64 .i64 i j Tryz.underlying9 h0 h1 h2
theorem slice_nat (s : ByteArray) (j n : Nat) (h : j + n ≤ s.size) : ∀ W : World, (Instr.slice 9 (.string s) (some (.int .i64 (j : Int))) (some (.int .i64 ((j : Int) + (n : Int)))) none).run Tryz.prog W = .ok (.string (s.extract j (j + n))) W := fun W => by
  have h1 := run_slice_string (P := Tryz.prog) W 9 s .i64 .i64 (j : Int) ((j : Int) + (n : Int)) Tryz.underlying9 (by omega) (by omega) (by omega)
  rw [h1]
  rfl
/-- Some int from 0 on, not above a bound. -/
def Cnt (n : Nat) (e : Ending) : Prop := ∃ k : Nat, k ≤ n ∧ e = .returned (.int .i64 (k : Int))

set_option maxHeartbeats 1000000 in
set_option maxRecDepth 100000 in
/-- The count of no bytes: the runes, and one. -/
theorem count_empty (s b : ByteArray) (w : World) (hb : b.size = 0) (hs : s.size ≤ 4294967290) :
    Calls Tryz.prog 66 #[.string s, .string b] w fun e w' => Cnt (s.size + 1) e ∧ Below w.heap.size w w' := by
  have hb0 : ((b.size : Int) == 0) = true := by rw [beq_iff_eq]; omega
  go_enter Tryz.func66, Tryz.ntmps66
  go_wp2
  go_loopw [5] (fun n w' => ∃ (pos k : Nat), w' = w.iter s pos ∧ n = .int .i64 (k : Int) ∧ k ≤ pos ∧ k ≤ s.size) (fun _ w' => s.size - w'.iterPos w.heap.size)
  case atStart => exact ⟨0, 0, rfl, rfl, Nat.le_refl _, Nat.zero_le _⟩
  case round =>
    obtain ⟨pos, k, rfl, rfl, hk, hks⟩ := hrel
    by_cases hp : pos < s.size
    · have hnx : ∀ ty, (Instr.next (.pointer (some ⟨w.heap.size, 0, none⟩)) true ty).run Tryz.prog (w.iter s pos) = _ := fun ty => run_next_any w s pos ty hp
      go_wp2
      have hwd := width_pos s pos hp
      go_roundw
      case rel => exact ⟨pos + (Utf8.decode s pos).2, k + 1, rfl, by go_num, by omega, by omega⟩
      case measure => simp; omega
    · have hnx : ∀ ty, (Instr.next (.pointer (some ⟨w.heap.size, 0, none⟩)) true ty).run Tryz.prog (w.iter s pos) = _ := fun ty => run_next_end w s pos ty hp
      go_wp2
      go_ret
      refine ⟨⟨k + 1, by omega, by go_num⟩, ?_⟩
      exact (Below.refl _ _).alloc (Nat.le_refl _) _

set_option maxHeartbeats 1000000 in
set_option maxRecDepth 100000 in
theorem count_some (s b : ByteArray) (w : World) (hb : 1 ≤ b.size) (hbs : b.size ≤ 4294967290) (hs : s.size ≤ 4294967290) :
    Calls Tryz.prog 66 #[.string s, .string b] w fun e w' => Cnt (s.size + 1) e ∧ w = w' := by
  have hb0 : ((b.size : Int) == 0) = false := by rw [beq_eq_false_iff_ne]; omega
  go_enter Tryz.func66, Tryz.ntmps66
  go_wp2
  go_loop [5, 6] (fun n i => ∃ (k j : Nat), n = .int .i64 (k : Int) ∧ i = .int .i64 (j : Int) ∧ k ≤ j ∧ j ≤ s.size + 1) (fun _ i => s.size + 2 - (intOf i).toNat)
  case atStart => exact ⟨0, 0, rfl, rfl, Nat.le_refl _, Nat.zero_le _⟩
  case round =>
    obtain ⟨k, j, rfl, rfl, hk, hj⟩ := hrel
    by_cases hlt : j + b.size ≤ s.size
    · have h1 : (j : Int) + (b.size : Int) ≤ (s.size : Int) := by omega
      have hsl := slice_nat s j b.size hlt
      by_cases heq : (s.extract j (j + b.size)).toList = b.toList
      · have h2 : ((s.extract j (j + b.size)).toList == b.toList) = true := by rw [beq_iff_eq]; exact heq
        have H := Lib.hid heq
        clear heq
        go_wp2
        go_round
        case rel => exact ⟨k + 1, j + b.size, by go_num, by go_num, by omega, by omega⟩
        case measure => simp [intOf]; omega
      · have h2 : ((s.extract j (j + b.size)).toList == b.toList) = false := by rw [beq_eq_false_iff_ne]; exact heq
        have H := Lib.hid heq
        clear heq
        go_wp2
        go_round
        case rel => exact ⟨k, j + 1, rfl, by go_num, by omega, by omega⟩
        case measure => simp [intOf]; omega
    · have h1 : ¬ (j : Int) + (b.size : Int) ≤ (s.size : Int) := by omega
      go_wp2
      go_ret
      exact ⟨⟨k, by omega, rfl⟩, rfl⟩

theorem count_any (s b : ByteArray) (w : World) (hbs : b.size ≤ 4294967290) (hs : s.size ≤ 4294967290) :
    Calls Tryz.prog 66 #[.string s, .string b] w fun e w' => Cnt (s.size + 1) e ∧ Below w.heap.size w w' := by
  rcases Nat.eq_zero_or_pos b.size with h | h
  · exact count_empty s b w h hs
  · refine (count_some s b w h hbs hs).mono ?_
    rintro e w' ⟨h, rfl⟩
    exact ⟨h, Below.refl _ _⟩

set_option maxHeartbeats 1000000 in
set_option maxRecDepth 100000 in
/-- In a text of ASCII a sign that it lacks is not found. -/
theorem indexRune_none (s : ByteArray) (c : Int) (w : World) (hc : c = 60 ∨ c = 62) (hs : s.size ≤ 4294967290) (ha : ∀ j (h : j < s.size), (s[j]'h).toNat < 128 ∧ ((s[j]'h).toNat : Int) ≠ c) :
    Calls Tryz.prog 77 #[.string s, .int .i32 c] w fun e w' => e = .returned (.int .i64 (-1)) ∧ Below w.heap.size w w' := by
  have hc1 : (c != 65533) = true := by rw [bne_iff_ne]; omega
  have hc2 : ¬ c < 0 := by omega
  have hc3 : ¬ 1114111 < c := by omega
  have hc4 : ¬ 55296 ≤ c := by omega
  have hc5 : c ≤ 57343 := by omega
  have HA := Lib.hid ha
  clear ha hc
  go_enter Tryz.func77, Tryz.ntmps77
  go_wp2
  go_loopw [5, 6] (fun _ _ w' => ∃ (pos : Nat), w' = w.iter s pos) (fun _ _ w' => s.size - w'.iterPos w.heap.size)
  case atStart => exact ⟨0, rfl⟩
  case round =>
    obtain ⟨pos, rfl⟩ := hrel
    by_cases hp : pos < s.size
    · have hh := HA.out pos hp
      have hne : (((s[pos]'hp).toNat : Int) == c) = false := by rw [beq_eq_false_iff_ne]; exact hh.2
      have hnx : ∀ ty, (Instr.next (.pointer (some ⟨w.heap.size, 0, none⟩)) true ty).run Tryz.prog (w.iter s pos) = _ := fun ty => run_next_ascii w s pos ty hp hh.1
      clear hh
      go_wp2
      go_roundw
      case rel => exact ⟨pos + 1, rfl⟩
      case measure => simp; omega
    · have hnx : ∀ ty, (Instr.next (.pointer (some ⟨w.heap.size, 0, none⟩)) true ty).run Tryz.prog (w.iter s pos) = _ := fun ty => run_next_end w s pos ty hp
      go_wp2
      go_ret
      exact ⟨rfl, (Below.refl _ _).alloc (Nat.le_refl _) _⟩

set_option maxRecDepth 100000 in
theorem containsRune_no (s : ByteArray) (c : Int) (w : World) (hc : c = 60 ∨ c = 62) (hs : s.size ≤ 4294967290) (ha : ∀ j (h : j < s.size), (s[j]'h).toNat < 128 ∧ ((s[j]'h).toNat : Int) ≠ c) :
    Calls Tryz.prog 50 #[.string s, .int .i32 c] w fun e w' => e = .returned (.bool false) ∧ Below w.heap.size w w' := by
  have HC := Lib.hid hc
  have HA := Lib.hid ha
  clear hc ha
  go_enter Tryz.func50, Tryz.ntmps50
  go_wp2_with (go_at_call 77; refine (indexRune_none s c _ HC.out hs HA.out).mono ?_; rintro e w' ⟨rfl, hb⟩)
  go_ret
  exact ⟨rfl, hb⟩
end Go.Proofs.YtfahabnjplnbmaaGreatDoor.Wk
