/- Walks of what makes letters small: spec.lower (with fold), utils.ToLower. -/
import Derived.Test.YtfahabnjplnbmaaGreatDoorProg
import Derived.Test.YtfahabnjplnbmaaGreatDoorMZw
import Derived.Lib.BufferWrite
import Derived.Lib.ConvBytes
import Derived.Lib.Hide
import Derived.Outline
import Derived.LoopTactic
namespace Go.Proofs.YtfahabnjplnbmaaGreatDoor.Q
open Go.RowKit Go.Proofs.YtfahabnjplnbmaaGreatDoorW.PrintWords
set_option linter.unusedVariables false
set_option linter.unusedSimpArgs false

/-- ASCII's capitals as small letters. -/
def foldB (c : UInt8) : UInt8 := if 65 ≤ c && c ≤ 90 then c + 32 else c
def lowS (s : ByteArray) : ByteArray := ⟨(s.data.toList.map foldB).toArray⟩
def spec_lower.f (a0 : ByteArray) : Option ByteArray := if a0.size ≤ 4294967290 then some (lowS a0) else none

/-- A row of bytes that a conversion made, a mark behind it. -/
def BRow (w : World) (g : Nat) (xs : List UInt8) : Prop :=
  ∃ (cs : Array Value) (fr : Nat × Nat), w.heap[g]? = some (.cells cs 5 fr) ∧ (fr = (0, 0) ∨ fr = (cs.size, cs.size + 1)) ∧ xs.length ≤ cs.size ∧ ∀ (i : Nat) (x : UInt8), xs[i]? = some x → cs[i]? = some (Value.int .u8 (x.toNat : Int))
theorem BRow.new (w : World) (s : ByteArray) : BRow (Lib.bytesWorld w 5 s) w.heap.size s.data.toList := by
  refine ⟨Lib.bytesCells w 5 s, _, Lib.bytesWorld_at_new w 5 s, .inr rfl, by simp [Lib.bytesCells], fun i x hx => ?_⟩
  obtain ⟨hi, rfl⟩ := List.getElem?_eq_some_iff.1 hx
  have hi' : i < s.data.size := by simpa using hi
  have hi2 : i < s.size := hi'
  simp [Lib.bytesCells, Array.getElem?_append, hi2, hi']
section
variable {w : World} {g : Nat} {xs : List UInt8}
theorem BRow.cell (h : BRow w g xs) {i : Nat} {x : UInt8} (hx : xs[i]? = some x) : w.cell? ⟨g, i, none⟩ = some (.int .u8 (x.toNat : Int)) := by
  obtain ⟨cs, fr, h1, _, h2, h3⟩ := h
  rw [← h3 i x hx]
  simp [World.cell?, h1]
theorem BRow.frozen (h : BRow w g xs) {i : Nat} (hi : i < xs.length) : w.frozen? ⟨g, i, none⟩ = false := by
  obtain ⟨cs, fr, h1, h0 | h0, h2, h3⟩ := h
  · subst h0
    simp [World.frozen?, h1]
  · subst h0
    simp [World.frozen?, h1]
    omega
theorem BRow.set_ (h : BRow w g xs) (i : Nat) (x : UInt8) : BRow (w.setCell ⟨g, i, none⟩ (.int .u8 (x.toNat : Int))) g (xs.set i x) := by
  obtain ⟨cs, fr, h1, h0, h2, h3⟩ := h
  refine ⟨cs.setIfInBounds i (.int .u8 (x.toNat : Int)), fr, ?_, by simpa using h0, by simpa using h2, fun j y hy => ?_⟩
  · simp [World.setCell, Array.getElem?_modify, h1]
  · rw [List.getElem?_set] at hy
    rw [Array.getElem?_setIfInBounds]
    by_cases hij : i = j
    · subst hij
      rw [if_pos rfl] at hy ⊢
      by_cases hl : i < xs.length
      · rw [if_pos hl] at hy
        rw [if_pos (by omega)]
        cases hy; rfl
      · rw [if_neg hl] at hy; cases hy
    · rw [if_neg hij] at hy ⊢
      exact h3 j y hy
end
theorem low_step (f : UInt8 → UInt8) (l : List UInt8) (k : Nat) (c : UInt8) (h : l[k]? = some c) : ((l.take k).map f ++ l.drop k).set k (f c) = (l.take (k + 1)).map f ++ l.drop (k + 1) := by
  obtain ⟨hk, rfl⟩ := List.getElem?_eq_some_iff.1 h
  have hl : ((l.take k).map f).length = k := by rw [List.length_map, List.length_take]; omega
  rw [List.take_succ_eq_append_getElem hk, List.drop_eq_getElem_cons hk, List.set_append_right _ _ (by omega), hl, Nat.sub_self, List.map_append, List.set_cons_zero, List.append_assoc]
  rfl
theorem low_at (f : UInt8 → UInt8) (l : List UInt8) (k : Nat) (c : UInt8) (h : l[k]? = some c) : ((l.take k).map f ++ l.drop k)[k]? = some c := by
  obtain ⟨hk, rfl⟩ := List.getElem?_eq_some_iff.1 h
  have hl : ((l.take k).map f).length = k := by rw [List.length_map, List.length_take]; omega
  rw [List.getElem?_append_right (by omega), hl, Nat.sub_self, List.getElem?_drop]
  exact h
theorem below_bytes (w : World) (s : ByteArray) : Below w.heap.size w (Lib.bytesWorld w 5 s) :=
  ⟨rfl, rfl, rfl, by rw [Lib.bytesWorld_size]; omega, fun k hk => Lib.bytesWorld_at_old w 5 s k hk⟩

theorem strOfNums_low (s : ByteArray) : strOfNums ((s.data.toList.map foldB).map fun b => (b.toNat : Int)) = lowS s := by
  unfold strOfNums lowS
  rw [List.map_map]
  congr 2
  conv => rhs; rw [← List.map_id (s.data.toList.map foldB)]
  refine List.map_congr_left fun x _ => ?_
  simp

theorem convert_low (s : ByteArray) (cap g : Nat) (wr : World) (hrow : BRow wr g (s.data.toList.map foldB)) : (convert 63 9 (.slice (some ⟨g, 0, none⟩) s.size cap)).run Tryz.prog wr = .ok (.string (lowS s)) wr := by
  have hlen : s.data.toList.length = s.size := (Lib.size_eq s).symm
  have h := run_convert_bytes_arg (P := Tryz.prog) wr 63 5 Tryz.underlying63 Tryz.underlying5 g 0 s.size cap ((s.data.toList.map foldB).map fun b => (b.toNat : Int)) (by rw [List.length_map, List.length_map]; exact hlen) (fun i hi => ?_) 9 Tryz.underlying9
  · rw [h, strOfNums_low]
  · obtain ⟨x, hx⟩ : ∃ x, (s.data.toList.map foldB)[i]? = some x := ⟨_, List.getElem?_eq_getElem (by rw [List.length_map]; omega)⟩
    rw [Nat.zero_add, hrow.cell hx]
    simp only [List.getD_eq_getElem?_getD, List.getElem?_map] at hx ⊢
    rw [hx]; rfl

set_option maxHeartbeats 1000000 in
set_option maxRecDepth 100000 in
theorem fold_any (c : UInt8) (w : World) :
    Calls Tryz.prog 32 #[.int .u8 (c.toNat : Int)] w fun e w' => e = .returned (.int .u8 ((foldB c).toNat : Int)) ∧ w = w' := by
  have hc := c.toNat_lt
  by_cases h1 : 65 ≤ c.toNat
  · by_cases h2 : c.toNat ≤ 90
    · have e : ((foldB c).toNat : Int) = (c.toNat : Int) + 32 := by
        unfold foldB
        rw [if_pos (by simp [UInt8.le_iff_toNat_le]; omega)]
        simp
        omega
      rw [e]
      have a1 : (65 : Int) ≤ (c.toNat : Int) := by omega
      have a2 : (c.toNat : Int) ≤ 90 := by omega
      go_enter Tryz.func32, Tryz.ntmps32
      go_wp2
      go_ret
      exact ⟨rfl, rfl⟩
    · have e : ((foldB c).toNat : Int) = (c.toNat : Int) := by
        unfold foldB
        rw [if_neg (by simp [UInt8.le_iff_toNat_le]; omega)]
      rw [e]
      have a1 : (65 : Int) ≤ (c.toNat : Int) := by omega
      have a2 : ¬ (c.toNat : Int) ≤ 90 := by omega
      go_enter Tryz.func32, Tryz.ntmps32
      go_wp2
      go_ret
      exact ⟨rfl, rfl⟩
  · have e : ((foldB c).toNat : Int) = (c.toNat : Int) := by
      unfold foldB
      rw [if_neg (by simp [UInt8.le_iff_toNat_le]; omega)]
    rw [e]
    have a1 : ¬ (65 : Int) ≤ (c.toNat : Int) := by omega
    go_enter Tryz.func32, Tryz.ntmps32
    go_wp2
    go_ret
    exact ⟨rfl, rfl⟩

set_option maxHeartbeats 1000000 in
set_option maxRecDepth 100000 in
theorem lower_walk (s : ByteArray) (w : World) (hs : s.size ≤ 4294967290) :
    Calls Tryz.prog 20 #[.string s] w fun e w' => e = .returned (.string (lowS s)) ∧ Below w.heap.size w w' := by
  have hcv := Lib.run_convert_string_bytes (P := Tryz.prog) w 9 63 5 s Tryz.underlying9 Tryz.underlying63 Tryz.underlying5
  go_enter Tryz.func20, Tryz.ntmps20
  go_wp2
  have HR := Lib.hid (BRow.new w s)
  have HB := Lib.hid (below_bytes w s)
  generalize Lib.bytesWorld w 5 s = w1 at HR HB ⊢
  clear hcv
  generalize grownCap w s.size 0 5 = cap
  go_loopw [9] (fun v9 wr => ∃ (k : Nat), v9 = .int .i64 (k : Int) ∧ k ≤ s.size ∧ Hid (BRow wr w.heap.size ((s.data.toList.take k).map foldB ++ s.data.toList.drop k)) ∧ Hid (Below w.heap.size w wr)) (fun v9 _ => s.size - (intOf v9).toNat)
  case atStart => exact ⟨0, rfl, Nat.zero_le _, by simpa using HR, HB⟩
  case round =>
    obtain ⟨k, rfl, hk, HI, HW⟩ := hrel
    by_cases hlt : k < s.size
    · have hk0 : (k : Int) < (s.size : Int) := by omega
      have hlen : s.data.toList.length = s.size := (Lib.size_eq s).symm
      obtain ⟨c, hc⟩ : ∃ c, s.data.toList[k]? = some c := ⟨_, List.getElem?_eq_getElem (by omega)⟩
      have hcur := low_at foldB s.data.toList k c hc
      have hcell := HI.out.cell hcur
      have hfr := HI.out.frozen (show k < _ from (List.getElem?_eq_some_iff.1 hcur).1)
      have HN := Lib.hid (show BRow (wr.setCell ⟨w.heap.size, k, none⟩ (.int .u8 ((foldB c).toNat : Int))) w.heap.size ((s.data.toList.take (k + 1)).map foldB ++ s.data.toList.drop (k + 1)) by
        have := HI.out.set_ k (foldB c)
        rw [low_step foldB s.data.toList k c hc] at this
        exact this)
      have HW2 := Lib.hid (HW.out.setCell (p := ⟨w.heap.size, k, none⟩) (Nat.le_refl _) (.int .u8 ((foldB c).toNat : Int)))
      clear hc hcur hlen
      go_wp2_with (go_at_call 32; refine (fold_any c _).mono ?_; rintro e w' ⟨rfl, rfl⟩)
      go_roundw
      case rel => exact ⟨k + 1, by go_num, by omega, HN, HW2⟩
      case measure => simp [intOf]; omega
    · obtain rfl : k = s.size := by omega
      have hlen : s.data.toList.length = s.size := (Lib.size_eq s).symm
      have hrow := HI.out
      rw [← hlen, List.take_length, List.drop_length, List.append_nil] at hrow
      have hcv : (convert 63 9 (.slice (some ⟨w.heap.size, 0, none⟩) s.size cap)).run Tryz.prog wr = .ok (.string (lowS s)) wr := convert_low s cap w.heap.size wr hrow
      clear hlen hrow
      go_wp2
      go_ret
      exact ⟨rfl, HW.out⟩
theorem spec_lower.calls (a0 : ByteArray) (r : ByteArray) (w : World) (h : spec_lower.f a0 = some r) :
    Calls Tryz.prog 20 #[.string a0] w fun e w' => e = .returned (.string r) ∧ Below w.heap.size w w' := by
  unfold spec_lower.f at h
  by_cases hs : a0.size ≤ 4294967290
  · rw [if_pos hs] at h
    cases h
    exact lower_walk a0 w hs
  · rw [if_neg hs] at h
    cases h

theorem copy_in (s : ByteArray) (w : World) : ∃ w1, (Builtin.copy_ #[63, 9] 3 #[.slice (some ⟨w.heap.size, 0, none⟩) s.size s.size, .string s]).run Tryz.prog (w.alloc (.cells (madeCells #[Value.int .u8 0] s.size) 5)) = .ok (.int .i64 (s.size : Int)) w1 ∧
    BRow w1 w.heap.size s.data.toList ∧ Below w.heap.size w w1 := by
  have hg := heap_alloc_new w (.cells (madeCells #[Value.int .u8 0] s.size) 5)
  have hsz : (madeCells #[Value.int .u8 0] s.size).size = s.size := by simp [madeCells]
  have h := Lib.run_copy_row_string (P := Tryz.prog) (w.alloc (.cells (madeCells #[Value.int .u8 0] s.size) 5)) 63 9 3 5 w.heap.size 0 s.size s.size s (madeCells #[Value.int .u8 0] s.size) 5 Tryz.underlying63 (by kernel_rfl) hg (Nat.le_refl _) (by rw [hsz]; omega)
  have e0 : (List.take 0 (madeCells #[Value.int .u8 0] s.size).toList ++ Lib.byteCells s.data.toList ++ List.drop (0 + s.size) (madeCells #[Value.int .u8 0] s.size).toList) = Lib.byteCells s.data.toList := by
    rw [List.take_zero, List.nil_append, List.drop_eq_nil_of_le (by rw [Array.length_toList, hsz]; omega), List.append_nil]
  rw [e0] at h
  refine ⟨_, h, ?_, ?_⟩
  · refine ⟨_, (0, 0), setRow_heap _ _ _ _ _ _ hg, .inl rfl, ?_, fun i x hx => ?_⟩
    · simp [Lib.byteCells]
    · simp only [Lib.byteCells, List.getElem?_toArray, List.getElem?_map, hx]
      rfl
  · refine ⟨rfl, rfl, rfl, by simp [World.setRow], fun k hk => ?_⟩
    rw [setRow_other _ _ _ _ (by omega)]
    exact Below.heap_alloc w _ k hk

def lowTab : ByteArray := ⟨#[0, 1, 2, 3, 4, 5, 6, 7, 8, 9, 10, 11, 12, 13, 14, 15, 16, 17, 18, 19, 20, 21, 22, 23, 24, 25, 26, 27, 28, 29, 30, 31, 32, 33, 34, 35, 36, 37, 38, 39, 40, 41, 42, 43, 44, 45, 46, 47, 48, 49, 50, 51, 52, 53, 54, 55, 56, 57, 58, 59, 60, 61, 62, 63, 64, 97, 98, 99, 100, 101, 102, 103, 104, 105, 106, 107, 108, 109, 110, 111, 112, 113, 114, 115, 116, 117, 118, 119, 120, 121, 122, 91, 92, 93, 94, 95, 96, 97, 98, 99, 100, 101, 102, 103, 104, 105, 106, 107, 108, 109, 110, 111, 112, 113, 114, 115, 116, 117, 118, 119, 120, 121, 122, 123, 124, 125, 126, 127, 128, 129, 130, 131, 132, 133, 134, 135, 136, 137, 138, 139, 140, 141, 142, 143, 144, 145, 146, 147, 148, 149, 150, 151, 152, 153, 154, 155, 156, 157, 158, 159, 160, 161, 162, 163, 164, 165, 166, 167, 168, 169, 170, 171, 172, 173, 174, 175, 176, 177, 178, 179, 180, 181, 182, 183, 184, 185, 186, 187, 188, 189, 190, 191, 192, 193, 194, 195, 196, 197, 198, 199, 200, 201, 202, 203, 204, 205, 206, 207, 208, 209, 210, 211, 212, 213, 214, 215, 216, 217, 218, 219, 220, 221, 222, 223, 224, 225, 226, 227, 228, 229, 230, 231, 232, 233, 234, 235, 236, 237, 238, 239, 240, 241, 242, 243, 244, 245, 246, 247, 248, 249, 250, 251, 252, 253, 254, 255]⟩
set_option maxRecDepth 100000 in
theorem lowTab_fin : ∀ n : Fin 256, lowTab.data[n.val]? = some (foldB (UInt8.ofNat n.val)) := by decide +kernel
theorem lowTab_at (c : UInt8) (h : c.toNat < lowTab.size) : lowTab[c.toNat]'h = foldB c := by
  have h1 := lowTab_fin ⟨c.toNat, c.toNat_lt⟩
  have h2 : lowTab.data[c.toNat]? = some (lowTab[c.toNat]'h) := Array.getElem?_eq_getElem h
  have h3 := Option.some.inj (h2.symm.trans h1)
  rw [h3]
  simp
theorem tab_cast (c : UInt8) (h : c.toNat < lowTab.size) (p : UInt8 → Prop) : p (lowTab[c.toNat]'h) ↔ p (foldB c) := by rw [lowTab_at]

set_option maxHeartbeats 1000000 in
set_option maxRecDepth 100000 in
theorem toLower_walk (s : ByteArray) (w : World) (hs : s.size ≤ 4294967290) :
    Calls Tryz.prog 27 #[.string s] w fun e w' => e = .returned (.string (lowS s)) ∧ Below w.heap.size w w' := by
  have hmk := print_make (P := Tryz.prog) 63 5 .u8 1 Tryz.underlying63 (by kernel_rfl) (by decide) s.size (by omega)
  obtain ⟨w1, hcp, hR, hB⟩ := copy_in s w
  have HR := Lib.hid hR
  have HB := Lib.hid hB
  clear hR hB
  go_enter Tryz.func27, Tryz.ntmps27
  go_wp2
  clear hcp hmk
  go_loopw [4] (fun v9 wr => ∃ (k : Nat), v9 = .int .i64 (k : Int) ∧ k ≤ s.size ∧ Hid (BRow wr w.heap.size ((s.data.toList.take k).map foldB ++ s.data.toList.drop k)) ∧ Hid (Below w.heap.size w wr)) (fun v9 _ => s.size - (intOf v9).toNat)
  case atStart => exact ⟨0, rfl, Nat.zero_le _, by simpa using HR, HB⟩
  case round =>
    obtain ⟨k, rfl, hk, HI, HW⟩ := hrel
    by_cases hlt : k < s.size
    · have hk0 : (k : Int) < (s.size : Int) := by omega
      have hlen : s.data.toList.length = s.size := (Lib.size_eq s).symm
      obtain ⟨c, hc⟩ : ∃ c, s.data.toList[k]? = some c := ⟨_, List.getElem?_eq_getElem (by omega)⟩
      have hcur := low_at foldB s.data.toList k c hc
      have hcell := HI.out.cell hcur
      have hfr := HI.out.frozen (show k < _ from (List.getElem?_eq_some_iff.1 hcur).1)
      have HN := Lib.hid (show BRow (wr.setCell ⟨w.heap.size, k, none⟩ (.int .u8 ((foldB c).toNat : Int))) w.heap.size ((s.data.toList.take (k + 1)).map foldB ++ s.data.toList.drop (k + 1)) by
        have := HI.out.set_ k (foldB c)
        rw [low_step foldB s.data.toList k c hc] at this
        exact this)
      have HW2 := Lib.hid (HW.out.setCell (p := ⟨w.heap.size, k, none⟩) (Nat.le_refl _) (.int .u8 ((foldB c).toNat : Int)))
      clear hc hcur hlen
      have hcb : (c.toNat : Int) < 256 := by have := c.toNat_lt; omega
      go_wp2
      go_roundw
      case rel => exact ⟨k + 1, by go_num, by omega, (tab_cast c _ (fun z => Hid (BRow (wr.setCell ⟨w.heap.size, k, none⟩ (.int .u8 (z.toNat : Int))) w.heap.size _))).2 HN, (tab_cast c _ (fun z => Hid (Below w.heap.size w (wr.setCell ⟨w.heap.size, k, none⟩ (.int .u8 (z.toNat : Int)))))).2 HW2⟩
      case measure => simp [intOf]; omega
    · obtain rfl : k = s.size := by omega
      have hlen : s.data.toList.length = s.size := (Lib.size_eq s).symm
      have hrow := HI.out
      rw [← hlen, List.take_length, List.drop_length, List.append_nil] at hrow
      have hcv : (convert 63 9 (.slice (some ⟨w.heap.size, 0, none⟩) s.size s.size)).run Tryz.prog wr = .ok (.string (lowS s)) wr := convert_low s s.size w.heap.size wr hrow
      clear hlen hrow
      go_wp2
      go_ret
      exact ⟨rfl, HW.out⟩
end Go.Proofs.YtfahabnjplnbmaaGreatDoor.Q
