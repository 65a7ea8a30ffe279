/- analyseParameterPart. -/
import Derived.Test.YtfahabnjplnbmaaGreatDoorMWk5
import Derived.Test.YtfahabnjplnbmaaGreatDoorMShelf2
namespace Go.Proofs.YtfahabnjplnbmaaGreatDoor.Wk
open Go.RowKit Go.Proofs.YtfahabnjplnbmaaGreatDoorW.PrintWords
open Go.Proofs.YtfahabnjplnbmaaGreatDoor.Pl Go.Proofs.YtfahabnjplnbmaaGreatDoor.Q Go.Proofs.YtfahabnjplnbmaaGreatDoor.QL
set_option linter.unusedVariables false
set_option linter.unusedSimpArgs false

/-- A set of bytes, made. -/
def CharsAt (cs : Bytes) (w : World) (e : Ending) (w' : World) : Prop := ∃ A c, e = .returned (.slice A cs.length c) ∧ cs.length ≤ c ∧ Kd.C (Kd.int .u8) w' A cs.length (nums cs) ∧ Below w.heap.size w w'
theorem charsAt_of {cs : Bytes} {w : World} {e : Ending} {w' : World} {v : Value} (h1 : e = .returned v) (h2 : Kd.R (Kd.int .u8) 5 w' w.heap.size (fun _ => True) v (nums cs)) (h3 : Below w.heap.size w w') : CharsAt cs w e w' := by
  obtain ⟨A, c, rfl, hc, hC⟩ := Kd.R_reads h2
  rw [nums_len] at hc hC
  exact ⟨A, c, by rw [h1, nums_len], hc, hC, h3⟩
theorem endChars_calls (w : World) : Calls Tryz.prog 52 #[] w fun e w' => CharsAt [63, 58, 92, 47, 45, 46] w e w' :=
  (fiberpath_parameterEndChars.calls _ w endChars).mono fun e w' ⟨v, h1, h2, h3⟩ => charsAt_of h1 h2 h3
theorem delimChars_calls (w : World) : Calls Tryz.prog 54 #[] w fun e w' => CharsAt [58, 92, 47, 45, 46] w e w' :=
  (fiberpath_parameterDelimiterChars.calls _ w delimChars).mono fun e w' ⟨v, h1, h2, h3⟩ => charsAt_of h1 h2 h3
theorem ltChars_calls (w : World) : Calls Tryz.prog 55 #[] w fun e w' => CharsAt [60] w e w' :=
  (fiberpath_parameterConstraintStartChars.calls _ w ltChars).mono fun e w' ⟨v, h1, h2, h3⟩ => charsAt_of h1 h2 h3
theorem gtChars_calls (w : World) : Calls Tryz.prog 57 #[] w fun e w' => CharsAt [62] w e w' :=
  (fiberpath_parameterConstraintEndChars.calls _ w gtChars).mono fun e w' ⟨v, h1, h2, h3⟩ => charsAt_of h1 h2 h3
theorem no92 {s : ByteArray} (h : ∀ x ∈ bs s, x.toNat < 128 ∧ x ≠ 60 ∧ x ≠ 62 ∧ x ≠ 92) : 92 ∉ bs s := fun hm => (h _ hm).2.2.2 rfl
/-- Plain bytes: ASCII, and none of three. -/
def Tame (s : ByteArray) : Prop := s.size ≤ 1000 ∧ ∀ x ∈ bs s, x.toNat < 128 ∧ x ≠ 60 ∧ x ≠ 62 ∧ x ≠ 92

/-- The router's parser in memory. -/
def PrsAt (w : World) (P : Nat) (a b : Value) (i j : Nat) : Prop := w.heap[P]? = some (.cells #[a, b, .int .i64 (i : Int), .int .i64 (j : Int)] 59 (0, 0))
def parSeg (nm : ByteArray) (gr opt : Bool) : Seg := { con := ⟨#[]⟩, par := true, name := nm, cmp := ⟨#[]⟩, cnt := 0, gr := gr, opt := opt, last := false, slash := false, len := 0 }
def ParOut (w : World) (P : Nat) (c : ByteArray) (a b : Value) (i j : Nat) (gr opt : Bool) (e : Ending) (w' : World) : Prop := ∃ g nm, e = .returned (.tuple #[.string c, .pointer (some ⟨g, 0, none⟩)]) ∧ w.heap.size ≤ g ∧ SegAt w' g (parSeg nm gr opt) ∧ PrsAt w' P a b i j ∧ w.grownBy w' (some P)

theorem nonEsc_calls (s : ByteArray) (cs : Bytes) (hs : s.size ≤ 4294967290) (h92 : 92 ∉ bs s) (hcs : cs.length ≤ 1000) (A : Option Addr) (c : Nat) (w : World) (hc : cs.length ≤ c) (hC : Kd.C (Kd.int .u8) w A cs.length (nums cs)) :
    Calls Tryz.prog 48 #[.string s, .slice A cs.length c] w fun e w' => (∃ r : Int, e = .returned (.int .i64 r) ∧ FI (· ∈ cs) (bs s) r) ∧ Drawn0 w w' := by
  obtain ⟨r, hr, hfi⟩ := nonEsc_ev s hs h92 cs hcs
  obtain ⟨k, hk⟩ := hr.rounds
  have := fiberpath_findNextNonEscapedCharsetPosition.calls k s A c (nums cs) r w (by rw [nums_len]; exact hC) (by rw [nums_len]; exact hc) hk
  rw [nums_len] at this
  exact this.mono fun e w' ⟨h1, h2⟩ => ⟨⟨r, h1, hfi⟩, h2⟩
theorem lastCs_calls (s : ByteArray) (hs : s.size ≤ 4294967290) (h62 : 62 ∉ bs s) (A : Option Addr) (c : Nat) (w : World) (hc : 1 ≤ c) (hC : Kd.C (Kd.int .u8) w A 1 (nums [62])) :
    Calls Tryz.prog 56 #[.string s, .slice A 1 c] w fun e w' => e = .returned (.int .i64 (-1)) ∧ Drawn0 w w' := by
  obtain ⟨k, hk⟩ := (lastCs_none s hs h62).rounds
  exact fiberpath_findLastCharsetPosition.calls k s A c (nums [62]) (-1) w hC hc hk
theorem inCs_calls (x : UInt8) (cs : Bytes) (hcs : cs.length ≤ 1000) (A : Option Addr) (c : Nat) (w : World) (hc : cs.length ≤ c) (hC : Kd.C (Kd.int .u8) w A cs.length (nums cs)) :
    Calls Tryz.prog 53 #[.int .u8 (x.toNat : Int), .slice A cs.length c] w fun e w' => (∃ r : Bool, e = .returned (.bool r) ∧ (r = true ↔ x ∈ cs)) ∧ Drawn0 w w' := by
  obtain ⟨r, hr, hfi⟩ := inCharset_ev x cs hcs
  obtain ⟨k, hk⟩ := hr.rounds
  have := fiberpath_isInCharset.calls k (x.toNat : Int) A c (nums cs) r w (by rw [nums_len]; exact hC) (by rw [nums_len]; exact hc) hk
  rw [nums_len] at this
  exact this.mono fun e w' ⟨h1, h2⟩ => ⟨⟨r, h1, hfi⟩, h2⟩
theorem below_two {a b c d : World} (h : Below a.heap.size a b) (h2 : Below b.heap.size b.drew c) (h3 : Drawn0 c d) : Below a.heap.size a d := by
  obtain ⟨n, rfl⟩ := h3
  exact pw_below_drewN (below_step (below_drew1 h) h2) n
theorem get_bs {s : ByteArray} {i : Nat} {x : UInt8} (h : (bs s)[i]? = some x) : ∃ hi : i < s.size, s[i] = x := by
  obtain ⟨h1, h2⟩ := List.getElem?_eq_some_iff.1 h
  refine ⟨by rw [← bs_len]; exact h1, ?_⟩
  rw [← h2]
  show s.data[i] = s.data.toList[i]
  rw [Array.getElem_toList]
theorem bs_get {s : ByteArray} {i : Nat} (hi : i < s.size) : (bs s)[i]? = some s[i] := by
  rw [List.getElem?_eq_getElem (by rw [bs_len]; exact hi)]
  congr 1
theorem trim_plain (s : ByteArray) (w : World) (hs : s.size ≤ 4294967290) (x : UInt8) (hx : (bs s)[0]? = some x) (h58 : x ≠ 58) :
    Calls Tryz.prog 58 #[.string s] w fun e w' => e = .returned (.string s) ∧ w = w' := by
  obtain ⟨h1, h2⟩ := get_bs hx
  exact trimmed_plain s w hs h1 (by rw [h2]; exact h58)
theorem trim_name (s : ByteArray) (w : World) (hs : s.size ≤ 4294967290) (h1 : 2 ≤ s.size) (hx : (bs s)[0]? = some 58) :
    Calls Tryz.prog 58 #[.string s] w fun e w' => (∃ v : ByteArray, e = .returned (.string v) ∧ v.size ≤ s.size ∧ ∀ y ∈ bs v, y ∈ bs s) ∧ w = w' := by
  obtain ⟨h2, h3⟩ := get_bs hx
  refine (trimmed_name s w hs h1 h3).mono ?_
  rintro e w' ⟨rfl, rfl⟩
  refine ⟨⟨_, rfl, ?_, ?_⟩, rfl⟩
  · split
    · rw [← bs_len, bs_ext, ← bs_len s, List.length_take, List.length_drop]; omega
    · rw [sz_from]; omega
  · intro y hy
    split at hy
    · rw [bs_ext] at hy
      exact List.mem_of_mem_drop (List.mem_of_mem_take hy)
    · rw [bs_from] at hy
      exact List.mem_of_mem_drop hy
theorem digits_fin : ∀ n : Fin 100, (Lib.decDigits n.val).length ≤ 2 := by decide +kernel
theorem itoa_calls (i : Nat) (hi : i < 99) (w : World) :
    Calls Tryz.prog 65 #[.int .i64 ((i : Int) + 1)] w fun e w' => (∃ v : ByteArray, e = .returned (.string v) ∧ v.size ≤ 2) ∧ w = w' := by
  refine (Tryz.strconv_Itoa_small (i + 1) (by omega) w).mono ?_
  rintro e w' ⟨rfl, rfl⟩
  refine ⟨⟨_, rfl, ?_⟩, rfl⟩
  have := digits_fin ⟨i + 1, by omega⟩
  rw [← bs_len]
  exact this
theorem prs_out {w w5 : World} {P : Nat} {c : ByteArray} {a b : Value} {i j i' j' : Nat} {gr opt : Bool} {nm : ByteArray} {o : Nat} {v : Value}
    (hB : Below w.heap.size w w5) (hP : w5.heap[P]? = some (.cells (#[a, b, .int .i64 (i : Int), .int .i64 (j : Int)]) 59 (0, 0)))
    (hv : (#[a, b, .int .i64 (i : Int), .int .i64 (j : Int)] : Array Value).setIfInBounds o v = #[a, b, .int .i64 (i' : Int), .int .i64 (j' : Int)]) :
    ParOut w P c a b i' j' gr opt (.returned (.tuple #[.string c, .pointer (some ⟨w5.heap.size, 0, none⟩)])) ((w5.setCell ⟨P, o, none⟩ v).alloc (.cells (parSeg nm gr opt).cells 75 (0, 0))) := by
  have hsz : (w5.setCell ⟨P, o, none⟩ v).heap.size = w5.heap.size := by simp [World.setCell]
  have hset := blk_set hP o v
  rw [hv] at hset
  refine ⟨w5.heap.size, nm, rfl, hB.size, ?_, blk_below hset (below_alloc (Below.refl _ _) _), gb_below (gb_set (gb_below (World.grownBy.refl _ _) hB) o v) (below_alloc (Below.refl _ _) _)⟩
  have := heap_alloc_new (w5.setCell ⟨P, o, none⟩ v) (.cells (parSeg nm gr opt).cells 75 (0, 0))
  rw [hsz] at this
  exact this
theorem tame_runes {s : ByteArray} (h : Tame s) (c : Int) (hc : c = 60 ∨ c = 62) : ∀ j (h : j < s.size), (s[j]'h).toNat < 128 ∧ ((s[j]'h).toNat : Int) ≠ c := by
  intro j hj
  have hm : s[j] ∈ bs s := by
    show s.data[j] ∈ s.data.toList
    exact Array.getElem_mem_toList _
  obtain ⟨h1, h2, h3, h4⟩ := h.2 _ hm
  refine ⟨h1, ?_⟩
  rcases hc with rfl | rfl
  · intro e; exact h2 (UInt8.toNat_inj.1 (by show _ = 60; omega))
  · intro e; exact h3 (UInt8.toNat_inj.1 (by show _ = 62; omega))

set_option maxHeartbeats 4000000 in
set_option maxRecDepth 100000 in
theorem param_star (P : Nat) (s : ByteArray) (a b : Value) (i j : Nat) (w : World) (hs : Tame s) (hP : PrsAt w P a b i j) (hi : i < 98) (h0 : (bs s)[0]? = some 42) :
    Calls Tryz.prog 35 #[.pointer (some ⟨P, 0, none⟩), .string s] w fun e w' => ParOut w P (s.extract 0 1) a b (i + 1) j true true e w' := by
  obtain ⟨h1, h2⟩ := get_bs h0
  have hb0 : (((s[0]'(by omega)).toNat : Int) == 42) = true := by rw [h2]; rfl
  have hb1 : (((s[0]'(by omega)).toNat : Int) == 43) = false := by rw [h2]; rfl
  have hl : (0 : Int) < (s.size : Int) := by omega
  have hss : s.size ≤ 4294967290 := by have := hs.1; omega
  have HR := Lib.hid (tame_runes hs 60 (.inl rfl))
  have HP := Lib.hid hP
  have HS := Lib.hid hs
  have H0 := Lib.hid h0
  clear hs hP h0 h2
  go_enter Tryz.func35, Tryz.ntmps35
  go_wp2_with (go_at_call 50; refine (containsRune_no s 60 _ (.inl rfl) hss HR.out).mono ?_; rintro e w1 ⟨rfl, hb⟩)
  have HB := Lib.hid hb
  have hsl1 := slice_from_int s 1 (by omega) (by omega)
  clear hb
  go_cut [8] (fun v8 wc => (∃ r : Int, v8 = .int .i64 r ∧ FI (· ∈ ([63, 58, 92, 47, 45, 46] : Bytes)) (bs (s.extract 1 s.size)) r) ∧ Below w.heap.size w wc)
  case first =>
    go_region_with (first
      | (go_at_call 52; refine (endChars_calls _).mono ?_; rintro e w2 ⟨A, c, rfl, hc, hC, hb2⟩)
      | (go_at_call 48; refine (nonEsc_calls (s.extract 1 s.size) [63, 58, 92, 47, 45, 46] (by rw [sz_from]; omega) (by rw [bs_from]; exact fun h => no92 HS.out.2 (List.mem_of_mem_drop h)) (by decide) _ _ _ hc hC).mono ?_; rintro e w3 ⟨⟨r, rfl, hfi⟩, hd⟩))
    all_goals (go_wp2_with fail; go_meet; case rel => exact ⟨⟨r, rfl, hfi⟩, below_two HB.out hb2 hd⟩)
  case rest =>
    obtain ⟨⟨r, rfl, hfi⟩, hb⟩ := hcut
    clear hfi HB
    have HB := Lib.hid hb
    clear hb
    have hsl2 := slice_int s 0 1 (by omega) (by omega) (by omega)
    have hz : (s.extract 0 1).size = 1 := sz_to s 1 (by omega)
    have HT := Lib.hid (show (bs (s.extract 0 1))[0]? = some 42 by rw [bs_to, List.getElem?_take, if_pos (by decide)]; exact H0.out)
    obtain ⟨kk, hk⟩ := noEsc_none (s := s.extract 0 1) (by rw [bs_to]; intro h; exact no92 HS.out.2 (List.mem_of_mem_take h))
    have HK := Lib.hid hk
    have HZ := Lib.hid hz
    clear hk hz
    go_wp2_with (go_at_call 58; refine (trim_plain (s.extract 0 1) _ (by rw [HZ.out]; omega) 42 HT.out (by decide)).mono ?_; rintro e w' ⟨rfl, rfl⟩)
    refine (fiberpath_RemoveEscapeChar.calls kk _ _ _ HK.out).mono ?_
    rintro e w5 ⟨rfl, hb⟩
    have hb5 := below_step HB.out hb
    have hp5 : PrsAt w5 P a b i j := blk_below HP.out hb5
    have c2 : w5.cell? ⟨P, 2, none⟩ = some (.int .i64 (i : Int)) := blk_cell hp5 2
    have c2f : w5.frozen? ⟨P, 2, none⟩ = false := blk_frozen hp5 2
    have HB5 := Lib.hid hb5
    have HP5 := Lib.hid hp5
    clear hb hb5 hp5 HB hb0 hb1
    go_wp2_with fail
    refine (itoa_calls i (by omega) _).mono ?_
    rintro e w' ⟨⟨v, rfl, hv⟩, rfl⟩
    have hcat : ¬ 9223372036854775807 < min 1 s.size + v.size := by omega
    go_wp2
    go_ret2
    exact prs_out HB5.out HP5.out (by rfl)
set_option maxHeartbeats 4000000 in
set_option maxRecDepth 100000 in
theorem param_plus (P : Nat) (s : ByteArray) (a b : Value) (i j : Nat) (w : World) (hs : Tame s) (hP : PrsAt w P a b i j) (hj : j < 98) (h0 : (bs s)[0]? = some 43) :
    Calls Tryz.prog 35 #[.pointer (some ⟨P, 0, none⟩), .string s] w fun e w' => ParOut w P (s.extract 0 1) a b i (j + 1) true false e w' := by
  obtain ⟨h1, h2⟩ := get_bs h0
  have hb0 : (((s[0]'(by omega)).toNat : Int) == 42) = false := by rw [h2]; rfl
  have hb1 : (((s[0]'(by omega)).toNat : Int) == 43) = true := by rw [h2]; rfl
  have hb2 : (((s[0]'(by omega)).toNat : Int) == 63) = false := by rw [h2]; rfl
  have hl : (0 : Int) < (s.size : Int) := by omega
  have hss : s.size ≤ 4294967290 := by have := hs.1; omega
  have HR := Lib.hid (tame_runes hs 60 (.inl rfl))
  have HP := Lib.hid hP
  have HS := Lib.hid hs
  have H0 := Lib.hid h0
  clear hs hP h0 h2
  go_enter Tryz.func35, Tryz.ntmps35
  go_wp2_with (go_at_call 50; refine (containsRune_no s 60 _ (.inl rfl) hss HR.out).mono ?_; rintro e w1 ⟨rfl, hb⟩)
  have HB := Lib.hid hb
  have hsl1 := slice_from_int s 1 (by omega) (by omega)
  clear hb
  go_cut [8] (fun v8 wc => (∃ r : Int, v8 = .int .i64 r ∧ FI (· ∈ ([63, 58, 92, 47, 45, 46] : Bytes)) (bs (s.extract 1 s.size)) r) ∧ Below w.heap.size w wc)
  case first =>
    go_region_with (first
      | (go_at_call 52; refine (endChars_calls _).mono ?_; rintro e w2 ⟨A, c, rfl, hc, hC, hb2⟩)
      | (go_at_call 48; refine (nonEsc_calls (s.extract 1 s.size) [63, 58, 92, 47, 45, 46] (by rw [sz_from]; omega) (by rw [bs_from]; exact fun h => no92 HS.out.2 (List.mem_of_mem_drop h)) (by decide) _ _ _ hc hC).mono ?_; rintro e w3 ⟨⟨r, rfl, hfi⟩, hd⟩))
    all_goals (go_wp2_with fail; go_meet; case rel => exact ⟨⟨r, rfl, hfi⟩, below_two HB.out hb2 hd⟩)
  case rest =>
    obtain ⟨⟨r, rfl, hfi⟩, hb⟩ := hcut
    clear hfi HB
    have HB := Lib.hid hb
    clear hb
    have hsl2 := slice_int s 0 1 (by omega) (by omega) (by omega)
    have hz : (s.extract 0 1).size = 1 := sz_to s 1 (by omega)
    have HT := Lib.hid (show (bs (s.extract 0 1))[0]? = some 43 by rw [bs_to, List.getElem?_take, if_pos (by decide)]; exact H0.out)
    obtain ⟨kk, hk⟩ := noEsc_none (s := s.extract 0 1) (by rw [bs_to]; intro h; exact no92 HS.out.2 (List.mem_of_mem_take h))
    have HK := Lib.hid hk
    have HZ := Lib.hid hz
    clear hk hz
    go_wp2_with (go_at_call 58; refine (trim_plain (s.extract 0 1) _ (by rw [HZ.out]; omega) 43 HT.out (by decide)).mono ?_; rintro e w' ⟨rfl, rfl⟩)
    refine (fiberpath_RemoveEscapeChar.calls kk _ _ _ HK.out).mono ?_
    rintro e w5 ⟨rfl, hb⟩
    have hb5 := below_step HB.out hb
    have hp5 : PrsAt w5 P a b i j := blk_below HP.out hb5
    have c2 : w5.cell? ⟨P, 3, none⟩ = some (.int .i64 (j : Int)) := blk_cell hp5 3
    have c2f : w5.frozen? ⟨P, 3, none⟩ = false := blk_frozen hp5 3
    have HB5 := Lib.hid hb5
    have HP5 := Lib.hid hp5
    clear hb hb5 hp5 HB hb0 hb1
    go_wp2_with fail
    refine (itoa_calls j (by omega) _).mono ?_
    rintro e w' ⟨⟨v, rfl, hv⟩, rfl⟩
    have hcat : ¬ 9223372036854775807 < min 1 s.size + v.size := by omega
    go_wp2
    go_ret2
    exact prs_out HB5.out HP5.out (by rfl)
end Go.Proofs.YtfahabnjplnbmaaGreatDoor.Wk
