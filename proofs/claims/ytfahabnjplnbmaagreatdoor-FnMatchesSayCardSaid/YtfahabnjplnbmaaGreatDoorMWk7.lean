/- analyseParameterPart at a named parameter. -/
import Derived.Test.YtfahabnjplnbmaaGreatDoorMWk6
namespace Go.Proofs.YtfahabnjplnbmaaGreatDoor.Wk
open Go.RowKit Go.Proofs.YtfahabnjplnbmaaGreatDoorW.PrintWords
open Go.Proofs.YtfahabnjplnbmaaGreatDoor.Pl Go.Proofs.YtfahabnjplnbmaaGreatDoor.Q Go.Proofs.YtfahabnjplnbmaaGreatDoor.QL
set_option linter.unusedVariables false
set_option linter.unusedSimpArgs false

theorem fi_at {P : UInt8 → Prop} {l : Bytes} {r : Int} (h : FI P l r) {m : Nat} {y : UInt8} (hy : l[m]? = some y) (hp : P y) (hn : ∀ x ∈ l.take m, ¬ P x) : r = (m : Int) := by
  rcases h with ⟨_, h1⟩ | ⟨i, hi, z, hz, hpz, hnz⟩
  · exact absurd hp (h1 y (List.mem_of_getElem? hy))
  · rcases Nat.lt_trichotomy i m with h | h | h
    · exact absurd hpz (hn z (mem_take_of_get hz h))
    · rw [hi, h]
    · exact absurd hp (hnz y (mem_take_of_get hy h))
theorem fi_none {P : UInt8 → Prop} {l : Bytes} {r : Int} (h : FI P l r) (hn : ∀ x ∈ l, ¬ P x) : r = -1 := by
  rcases h with ⟨h1, _⟩ | ⟨i, hi, z, hz, hpz, hnz⟩
  · exact h1
  · exact absurd hpz (hn z (List.mem_of_getElem? hz))

def ends : Bytes := [63, 58, 92, 47, 45, 46]
theorem prs_same {w w5 : World} {P : Nat} {c : ByteArray} {a b : Value} {i j : Nat} {gr opt : Bool} {nm : ByteArray}
    (hB : Below w.heap.size w w5) (hP : PrsAt w P a b i j) :
    ParOut w P c a b i j gr opt (.returned (.tuple #[.string c, .pointer (some ⟨w5.heap.size, 0, none⟩)])) (w5.alloc (.cells (parSeg nm gr opt).cells 75 (0, 0))) := by
  have hb := below_alloc hB (.cells (parSeg nm gr opt).cells 75 (0, 0))
  exact ⟨w5.heap.size, nm, rfl, hB.size, heap_alloc_new _ _, blk_below hP hb, gb_below (World.grownBy.refl _ _) hb⟩

theorem nonEsc_no (s : ByteArray) (hs : s.size ≤ 4294967290) (h92 : 92 ∉ bs s) (x : UInt8) (hx : x ∉ bs s) (A : Option Addr) (c : Nat) (w : World) (hc : 1 ≤ c) (hC : Kd.C (Kd.int .u8) w A 1 (nums [x])) :
    Calls Tryz.prog 48 #[.string s, .slice A 1 c] w fun e w' => e = .returned (.int .i64 (-1)) ∧ Drawn0 w w' := by
  refine (nonEsc_calls s [x] hs h92 (by simp) A c w hc hC).mono ?_
  rintro e w' ⟨⟨r, rfl, hr⟩, hd⟩
  rw [fi_none hr (fun y hy h => hx (by rw [List.mem_singleton] at h; rw [← h]; exact hy))]
  exact ⟨rfl, hd⟩
theorem no60 {s : ByteArray} (h : ∀ x ∈ bs s, x.toNat < 128 ∧ x ≠ 60 ∧ x ≠ 62 ∧ x ≠ 92) : 60 ∉ bs s := fun hm => (h _ hm).2.1 rfl
theorem no62 {s : ByteArray} (h : ∀ x ∈ bs s, x.toNat < 128 ∧ x ≠ 60 ∧ x ≠ 62 ∧ x ≠ 92) : 62 ∉ bs s := fun hm => (h _ hm).2.2.1 rfl
theorem inCs_no (x y : UInt8) (hxy : x = y) (hy : y ∉ ([58, 92, 47, 45, 46] : Bytes)) (A : Option Addr) (c : Nat) (w : World) (hc : 5 ≤ c) (hC : Kd.C (Kd.int .u8) w A 5 (nums [58, 92, 47, 45, 46])) :
    Calls Tryz.prog 53 #[.int .u8 (x.toNat : Int), .slice A 5 c] w fun e w' => e = .returned (.bool false) ∧ Drawn0 w w' := by
  refine (inCs_calls x [58, 92, 47, 45, 46] (by decide) A c w hc hC).mono ?_
  rintro e w' ⟨⟨r, rfl, hr⟩, hd⟩
  cases r with
  | false => exact ⟨rfl, hd⟩
  | true => exact absurd (hr.1 rfl) (by rw [hxy]; exact hy)
theorem inCs_yes (x y : UInt8) (hxy : x = y) (hy : y ∈ ([47, 45, 46] : Bytes)) (A : Option Addr) (c : Nat) (w : World) (hc : 5 ≤ c) (hC : Kd.C (Kd.int .u8) w A 5 (nums [58, 92, 47, 45, 46])) :
    Calls Tryz.prog 53 #[.int .u8 (x.toNat : Int), .slice A 5 c] w fun e w' => e = .returned (.bool true) ∧ Drawn0 w w' := by
  refine (inCs_calls x [58, 92, 47, 45, 46] (by decide) A c w hc hC).mono ?_
  rintro e w' ⟨⟨r, rfl, hr⟩, hd⟩
  have : r = true := hr.2 (by
    rw [hxy]
    simp only [List.mem_cons, List.not_mem_nil, or_false] at hy ⊢
    rcases hy with rfl | rfl | rfl <;> simp)
  rw [this]
  exact ⟨rfl, hd⟩

set_option maxHeartbeats 8000000 in
set_option maxRecDepth 100000 in
theorem param_namedA (P : Nat) (s : ByteArray) (a b : Value) (i j : Nat) (E : Nat) (o : Bool) (w : World) (hs : Tame s) (hP : PrsAt w P a b i j) (h0 : (bs s)[0]? = some 58)
    (hE : 1 ≤ E) (hEs : E + 1 ≤ s.size) (hq : ∃ q, (bs s)[E]? = some q ∧ (q = 63 ↔ o = true)) (hpos : ∃ m, E = m + 1 ∧ (bs s)[m + 1]? = some 63 ∧ ∀ y ∈ ((bs s).drop 1).take m, y ∉ ends) :
    Calls Tryz.prog 35 #[.pointer (some ⟨P, 0, none⟩), .string s] w fun e w' => ParOut w P (s.extract 0 (E + 1)) a b i j false o e w' := by
  obtain ⟨h1, h2⟩ := get_bs h0
  have hb0 : (((s[0]'(by omega)).toNat : Int) == 42) = false := by rw [h2]; rfl
  have hb1 : (((s[0]'(by omega)).toNat : Int) == 43) = false := by rw [h2]; rfl
  have hEl : E < s.size := hEs
  have hb3 : (((s[E]'hEl).toNat : Int) == 63) = o := by
    obtain ⟨q, hq1, hq2⟩ := hq
    obtain ⟨_, hq3⟩ := get_bs hq1
    rw [hq3]
    cases o with
    | true => rw [beq_iff_eq, hq2.2 rfl]; rfl
    | false =>
      rw [beq_eq_false_iff_ne]
      intro e
      have := hq2.1 (UInt8.toNat_inj.1 (by show _ = 63; omega))
      cases this
  have hl : (0 : Int) < (s.size : Int) := by omega
  have hss : s.size ≤ 4294967290 := by have := hs.1; omega
  have HR := Lib.hid (tame_runes hs 60 (.inl rfl))
  have HP := Lib.hid hP
  have HS := Lib.hid hs
  have H0 := Lib.hid h0
  have HB3 := Lib.hid hb3
  have HPOS := Lib.hid hpos
  clear hs hP h0 h2 hq hb3 hpos
  go_enter Tryz.func35, Tryz.ntmps35
  go_wp2_with (go_at_call 50; refine (containsRune_no s 60 _ (.inl rfl) hss HR.out).mono ?_; rintro e w1 ⟨rfl, hb⟩)
  have HB := Lib.hid hb
  have hsl1 := slice_from_int s 1 (by omega) (by omega)
  clear hb HR
  go_region_with (first
    | (go_at_call 52; refine (endChars_calls _).mono ?_; rintro e w2 ⟨A, c, rfl, hc, hC, hb2⟩)
    | (go_at_call 48; refine (nonEsc_calls (s.extract 1 s.size) [63, 58, 92, 47, 45, 46] (by rw [sz_from]; omega) (by rw [bs_from]; exact fun h => no92 HS.out.2 (List.mem_of_mem_drop h)) (by decide) _ _ _ hc hC).mono ?_; rintro e w3 ⟨⟨r, rfl, hfi⟩, hd⟩))
  have hb3 := below_two HB.out hb2 hd
  clear HB hC hc hb2 hd
  have HB := Lib.hid hb3
  clear hb3
  clear hsl1 hb0 hb1
  obtain ⟨m, hm, hx, hmn⟩ := HPOS.out
  rw [bs_from] at hfi
  obtain rfl : r = (m : Int) := fi_at hfi (y := 63) (by rw [List.getElem?_drop, Nat.add_comm]; exact hx) (by decide) hmn
  rw [← hm] at hx
  obtain ⟨hx1, hx2⟩ := get_bs hx
  have hne : ((m : Int) == -1) = false := by rw [beq_eq_false_iff_ne]; omega
  have e1 : (m : Int) + 1 = (E : Int) := by omega
  have e2 : (0 : Int) < (E : Int) := by omega
  have HX := Lib.hid hx2
  have hlt : (E : Int) < (s.size : Int) := by omega
  have hw : IntKind.i64.wrap (E : Int) = (E : Int) := by rw [IntKind.wrap_i64]; omega
  clear hfi hx hx2 hm HPOS hmn
  go_wp2
  go_cut [52] (fun v52 wd => v52 = .bool true ∧ Below w.heap.size w wd)
  case first =>
    go_region_with (first
      | (go_at_call 54; refine (delimChars_calls _).mono ?_; rintro e w2 ⟨A, c, rfl, hc, hC, hb2⟩)
      | (go_at_call 53; refine (inCs_no (s[E]'hx1) 63 HX.out (by decide) _ _ _ hc hC).mono ?_; rintro e w3 ⟨rfl, hd⟩))
    all_goals (go_wp2_with fail; go_meet; case rel => exact ⟨rfl, below_two HB.out hb2 hd⟩)
  obtain ⟨rfl, hb3⟩ := hcut
  clear HB
  have HB := Lib.hid hb3
  clear hb3
  go_wp2
  clear hne
  have h17 : ∀ W : World, (Instr.slice 9 (.string s) (some (.int .i64 0)) (some (.int .i64 (E : Int))) none).run Tryz.prog W = .ok (.string (s.extract 0 E)) W := slice_int s 0 (E : Int) (by omega) (by omega) (by omega)
  have h18 : ∀ W : World, (Instr.slice 9 (.string s) (some (.int .i64 0)) (some (.int .i64 ((E : Int) + 1))) none).run Tryz.prog W = .ok (.string (s.extract 0 (E + 1))) W := slice_int s 0 ((E : Int) + 1) (by omega) (by omega) (by omega)
  have hw1 : IntKind.i64.wrap ((E : Int) + 1) = (E : Int) + 1 := by rw [IntKind.wrap_i64]; omega
  have hz : (s.extract 0 E).size = E := sz_to s E (by omega)
  have hz1 : (s.extract 0 (E + 1)).size = E + 1 := sz_to s (E + 1) (by omega)
  have HZ := Lib.hid hz
  have HZ1 := Lib.hid hz1
  clear hz hz1
  go_region_with (first
    | (go_at_call 55; refine (ltChars_calls _).mono ?_; rintro e w2 ⟨A, c, rfl, hc, hC, hb2⟩)
    | (go_at_call 48; refine (nonEsc_no (s.extract 0 E) (by rw [HZ.out]; omega) (by rw [bs_to]; exact fun h => no92 HS.out.2 (List.mem_of_mem_take h)) 60 (by rw [bs_to]; exact fun h => no60 HS.out.2 (List.mem_of_mem_take h)) _ _ _ hc hC).mono ?_; rintro e w3 ⟨rfl, hd⟩))
  have hb3 := below_two HB.out hb2 hd
  clear HB hC hc hb2 hd
  have HB := Lib.hid hb3
  clear hb3
  go_wp2
  go_region_with (first
    | (go_at_call 57; refine (gtChars_calls _).mono ?_; rintro e w2 ⟨A, c, rfl, hc, hC, hb2⟩)
    | (go_at_call 56; refine (lastCs_calls (s.extract 0 (E + 1)) (by rw [HZ1.out]; omega) (by rw [bs_to]; exact fun h => no62 HS.out.2 (List.mem_of_mem_take h)) _ _ _ hc hC).mono ?_; rintro e w3 ⟨rfl, hd⟩))
  have hb3 := below_two HB.out hb2 hd
  clear HB hC hc hb2 hd
  have HB := Lib.hid hb3
  clear hb3
  go_wp2_with fail
  refine (trim_name (s.extract 0 (E + 1)) _ (by rw [HZ1.out]; omega) (by rw [HZ1.out]; omega) (by rw [bs_to, List.getElem?_take, if_pos (by omega)]; exact H0.out)).mono ?_
  rintro e w4 ⟨⟨v, rfl, hv, hvm⟩, rfl⟩
  obtain ⟨kk, hk⟩ := noEsc_none (s := v) (fun h => no92 HS.out.2 (by have := hvm _ h; rw [bs_to] at this; exact List.mem_of_mem_take this))
  have HK := Lib.hid hk
  clear hk hv hvm h17 h18 hw1
  go_wp2_with fail
  refine (fiberpath_RemoveEscapeChar.calls kk _ _ _ HK.out).mono ?_
  rintro e w5 ⟨rfl, hb⟩
  have hb5 := below_step HB.out hb
  have HB5 := Lib.hid hb5
  have hb3 := HB3.out
  have hel : (E : Int) < (s.size : Int) := by omega
  clear hb hb5 HB
  go_wp2
  go_ret2
  exact prs_same HB5.out HP.out

set_option maxHeartbeats 8000000 in
set_option maxRecDepth 100000 in
theorem param_namedB (P : Nat) (s : ByteArray) (a b : Value) (i j : Nat) (E : Nat) (o : Bool) (w : World) (hs : Tame s) (hP : PrsAt w P a b i j) (h0 : (bs s)[0]? = some 58)
    (hE : 1 ≤ E) (hEs : E + 1 ≤ s.size) (hq : ∃ q, (bs s)[E]? = some q ∧ (q = 63 ↔ o = true)) (hpos : o = false ∧ E + 1 = s.size ∧ ∀ y ∈ (bs s).drop 1, y ∉ ends) :
    Calls Tryz.prog 35 #[.pointer (some ⟨P, 0, none⟩), .string s] w fun e w' => ParOut w P (s.extract 0 (E + 1)) a b i j false o e w' := by
  obtain ⟨h1, h2⟩ := get_bs h0
  have hb0 : (((s[0]'(by omega)).toNat : Int) == 42) = false := by rw [h2]; rfl
  have hb1 : (((s[0]'(by omega)).toNat : Int) == 43) = false := by rw [h2]; rfl
  have hEl : E < s.size := hEs
  have hb3 : (((s[E]'hEl).toNat : Int) == 63) = o := by
    obtain ⟨q, hq1, hq2⟩ := hq
    obtain ⟨_, hq3⟩ := get_bs hq1
    rw [hq3]
    cases o with
    | true => rw [beq_iff_eq, hq2.2 rfl]; rfl
    | false =>
      rw [beq_eq_false_iff_ne]
      intro e
      have := hq2.1 (UInt8.toNat_inj.1 (by show _ = 63; omega))
      cases this
  have hl : (0 : Int) < (s.size : Int) := by omega
  have hss : s.size ≤ 4294967290 := by have := hs.1; omega
  have HR := Lib.hid (tame_runes hs 60 (.inl rfl))
  have HP := Lib.hid hP
  have HS := Lib.hid hs
  have H0 := Lib.hid h0
  have HB3 := Lib.hid hb3
  have HPOS := Lib.hid hpos
  clear hs hP h0 h2 hq hb3 hpos
  go_enter Tryz.func35, Tryz.ntmps35
  go_wp2_with (go_at_call 50; refine (containsRune_no s 60 _ (.inl rfl) hss HR.out).mono ?_; rintro e w1 ⟨rfl, hb⟩)
  have HB := Lib.hid hb
  have hsl1 := slice_from_int s 1 (by omega) (by omega)
  clear hb HR
  go_region_with (first
    | (go_at_call 52; refine (endChars_calls _).mono ?_; rintro e w2 ⟨A, c, rfl, hc, hC, hb2⟩)
    | (go_at_call 48; refine (nonEsc_calls (s.extract 1 s.size) [63, 58, 92, 47, 45, 46] (by rw [sz_from]; omega) (by rw [bs_from]; exact fun h => no92 HS.out.2 (List.mem_of_mem_drop h)) (by decide) _ _ _ hc hC).mono ?_; rintro e w3 ⟨⟨r, rfl, hfi⟩, hd⟩))
  have hb3 := below_two HB.out hb2 hd
  clear HB hC hc hb2 hd
  have HB := Lib.hid hb3
  clear hb3
  clear hsl1 hb0 hb1
  obtain ⟨rfl, hm, hmn⟩ := HPOS.out
  rw [bs_from] at hfi
  obtain rfl : r = -1 := fi_none hfi hmn
  have e1 : (s.size : Int) - 1 = (E : Int) := by omega
  have e2 : (0 : Int) < (E : Int) := by omega
  clear hfi HPOS hmn
  go_wp2
  clear e1 hm
  have h17 : ∀ W : World, (Instr.slice 9 (.string s) (some (.int .i64 0)) (some (.int .i64 (E : Int))) none).run Tryz.prog W = .ok (.string (s.extract 0 E)) W := slice_int s 0 (E : Int) (by omega) (by omega) (by omega)
  have h18 : ∀ W : World, (Instr.slice 9 (.string s) (some (.int .i64 0)) (some (.int .i64 ((E : Int) + 1))) none).run Tryz.prog W = .ok (.string (s.extract 0 (E + 1))) W := slice_int s 0 ((E : Int) + 1) (by omega) (by omega) (by omega)
  have hw1 : IntKind.i64.wrap ((E : Int) + 1) = (E : Int) + 1 := by rw [IntKind.wrap_i64]; omega
  have hz : (s.extract 0 E).size = E := sz_to s E (by omega)
  have hz1 : (s.extract 0 (E + 1)).size = E + 1 := sz_to s (E + 1) (by omega)
  have HZ := Lib.hid hz
  have HZ1 := Lib.hid hz1
  clear hz hz1
  go_region_with (first
    | (go_at_call 55; refine (ltChars_calls _).mono ?_; rintro e w2 ⟨A, c, rfl, hc, hC, hb2⟩)
    | (go_at_call 48; refine (nonEsc_no (s.extract 0 E) (by rw [HZ.out]; omega) (by rw [bs_to]; exact fun h => no92 HS.out.2 (List.mem_of_mem_take h)) 60 (by rw [bs_to]; exact fun h => no60 HS.out.2 (List.mem_of_mem_take h)) _ _ _ hc hC).mono ?_; rintro e w3 ⟨rfl, hd⟩))
  have hb3 := below_two HB.out hb2 hd
  clear HB hC hc hb2 hd
  have HB := Lib.hid hb3
  clear hb3
  go_wp2
  go_region_with (first
    | (go_at_call 57; refine (gtChars_calls _).mono ?_; rintro e w2 ⟨A, c, rfl, hc, hC, hb2⟩)
    | (go_at_call 56; refine (lastCs_calls (s.extract 0 (E + 1)) (by rw [HZ1.out]; omega) (by rw [bs_to]; exact fun h => no62 HS.out.2 (List.mem_of_mem_take h)) _ _ _ hc hC).mono ?_; rintro e w3 ⟨rfl, hd⟩))
  have hb3 := below_two HB.out hb2 hd
  clear HB hC hc hb2 hd
  have HB := Lib.hid hb3
  clear hb3
  go_wp2_with fail
  refine (trim_name (s.extract 0 (E + 1)) _ (by rw [HZ1.out]; omega) (by rw [HZ1.out]; omega) (by rw [bs_to, List.getElem?_take, if_pos (by omega)]; exact H0.out)).mono ?_
  rintro e w4 ⟨⟨v, rfl, hv, hvm⟩, rfl⟩
  obtain ⟨kk, hk⟩ := noEsc_none (s := v) (fun h => no92 HS.out.2 (by have := hvm _ h; rw [bs_to] at this; exact List.mem_of_mem_take this))
  have HK := Lib.hid hk
  clear hk hv hvm h17 h18 hw1
  go_wp2_with fail
  refine (fiberpath_RemoveEscapeChar.calls kk _ _ _ HK.out).mono ?_
  rintro e w5 ⟨rfl, hb⟩
  have hb5 := below_step HB.out hb
  have HB5 := Lib.hid hb5
  have hb3 := HB3.out
  have hel : (E : Int) < (s.size : Int) := by omega
  clear hb hb5 HB
  go_wp2
  go_ret2
  exact prs_same HB5.out HP.out

set_option maxHeartbeats 8000000 in
set_option maxRecDepth 100000 in
theorem param_namedC (P : Nat) (s : ByteArray) (a b : Value) (i j : Nat) (E : Nat) (o : Bool) (w : World) (hs : Tame s) (hP : PrsAt w P a b i j) (h0 : (bs s)[0]? = some 58)
    (hE : 1 ≤ E) (hEs : E + 1 ≤ s.size) (hq : ∃ q, (bs s)[E]? = some q ∧ (q = 63 ↔ o = true)) (hpos : ∃ x, (bs s)[E + 1]? = some x ∧ x ∈ ([47, 45, 46] : Bytes) ∧ ∀ y ∈ ((bs s).drop 1).take E, y ∉ ends) :
    Calls Tryz.prog 35 #[.pointer (some ⟨P, 0, none⟩), .string s] w fun e w' => ParOut w P (s.extract 0 (E + 1)) a b i j false o e w' := by
  obtain ⟨h1, h2⟩ := get_bs h0
  have hb0 : (((s[0]'(by omega)).toNat : Int) == 42) = false := by rw [h2]; rfl
  have hb1 : (((s[0]'(by omega)).toNat : Int) == 43) = false := by rw [h2]; rfl
  have hEl : E < s.size := hEs
  have hb3 : (((s[E]'hEl).toNat : Int) == 63) = o := by
    obtain ⟨q, hq1, hq2⟩ := hq
    obtain ⟨_, hq3⟩ := get_bs hq1
    rw [hq3]
    cases o with
    | true => rw [beq_iff_eq, hq2.2 rfl]; rfl
    | false =>
      rw [beq_eq_false_iff_ne]
      intro e
      have := hq2.1 (UInt8.toNat_inj.1 (by show _ = 63; omega))
      cases this
  have hl : (0 : Int) < (s.size : Int) := by omega
  have hss : s.size ≤ 4294967290 := by have := hs.1; omega
  have HR := Lib.hid (tame_runes hs 60 (.inl rfl))
  have HP := Lib.hid hP
  have HS := Lib.hid hs
  have H0 := Lib.hid h0
  have HB3 := Lib.hid hb3
  have HPOS := Lib.hid hpos
  clear hs hP h0 h2 hq hb3 hpos
  go_enter Tryz.func35, Tryz.ntmps35
  go_wp2_with (go_at_call 50; refine (containsRune_no s 60 _ (.inl rfl) hss HR.out).mono ?_; rintro e w1 ⟨rfl, hb⟩)
  have HB := Lib.hid hb
  have hsl1 := slice_from_int s 1 (by omega) (by omega)
  clear hb HR
  go_region_with (first
    | (go_at_call 52; refine (endChars_calls _).mono ?_; rintro e w2 ⟨A, c, rfl, hc, hC, hb2⟩)
    | (go_at_call 48; refine (nonEsc_calls (s.extract 1 s.size) [63, 58, 92, 47, 45, 46] (by rw [sz_from]; omega) (by rw [bs_from]; exact fun h => no92 HS.out.2 (List.mem_of_mem_drop h)) (by decide) _ _ _ hc hC).mono ?_; rintro e w3 ⟨⟨r, rfl, hfi⟩, hd⟩))
  have hb3 := below_two HB.out hb2 hd
  clear HB hC hc hb2 hd
  have HB := Lib.hid hb3
  clear hb3
  clear hsl1 hb0 hb1
  obtain ⟨x, hx, hxm, hmn⟩ := HPOS.out
  rw [bs_from] at hfi
  obtain rfl : r = (E : Int) := fi_at hfi (y := x) (by rw [List.getElem?_drop, Nat.add_comm]; exact hx) (by
    simp only [List.mem_cons, List.not_mem_nil, or_false] at hxm ⊢
    rcases hxm with rfl | rfl | rfl <;> simp) hmn
  obtain ⟨hx1, hx2⟩ := get_bs hx
  have hne : ((E : Int) == -1) = false := by rw [beq_eq_false_iff_ne]; omega
  have e2 : (0 : Int) < (E : Int) := by omega
  have hlt : (E : Int) + 1 < (s.size : Int) := by omega
  have hw : IntKind.i64.wrap ((E : Int) + 1) = (E : Int) + 1 := by rw [IntKind.wrap_i64]; omega
  have HX := Lib.hid hx2
  have HXM := Lib.hid hxm
  clear hfi hx hx2 hxm HPOS hmn
  go_wp2
  go_cut [52] (fun v52 wd => v52 = .bool false ∧ Below w.heap.size w wd)
  case first =>
    go_region_with (first
      | (go_at_call 54; refine (delimChars_calls _).mono ?_; rintro e w2 ⟨A, c, rfl, hc, hC, hb2⟩)
      | (go_at_call 53; refine (inCs_yes (s[E + 1]'hx1) x HX.out HXM.out _ _ _ hc hC).mono ?_; rintro e w3 ⟨rfl, hd⟩))
    all_goals (go_wp2_with fail; go_meet; case rel => exact ⟨rfl, below_two HB.out hb2 hd⟩)
  obtain ⟨rfl, hb3⟩ := hcut
  clear HB
  have HB := Lib.hid hb3
  clear hb3
  go_wp2
  clear hne
  have h17 : ∀ W : World, (Instr.slice 9 (.string s) (some (.int .i64 0)) (some (.int .i64 (E : Int))) none).run Tryz.prog W = .ok (.string (s.extract 0 E)) W := slice_int s 0 (E : Int) (by omega) (by omega) (by omega)
  have h18 : ∀ W : World, (Instr.slice 9 (.string s) (some (.int .i64 0)) (some (.int .i64 ((E : Int) + 1))) none).run Tryz.prog W = .ok (.string (s.extract 0 (E + 1))) W := slice_int s 0 ((E : Int) + 1) (by omega) (by omega) (by omega)
  have hw1 : IntKind.i64.wrap ((E : Int) + 1) = (E : Int) + 1 := by rw [IntKind.wrap_i64]; omega
  have hz : (s.extract 0 E).size = E := sz_to s E (by omega)
  have hz1 : (s.extract 0 (E + 1)).size = E + 1 := sz_to s (E + 1) (by omega)
  have HZ := Lib.hid hz
  have HZ1 := Lib.hid hz1
  clear hz hz1
  go_region_with (first
    | (go_at_call 55; refine (ltChars_calls _).mono ?_; rintro e w2 ⟨A, c, rfl, hc, hC, hb2⟩)
    | (go_at_call 48; refine (nonEsc_no (s.extract 0 E) (by rw [HZ.out]; omega) (by rw [bs_to]; exact fun h => no92 HS.out.2 (List.mem_of_mem_take h)) 60 (by rw [bs_to]; exact fun h => no60 HS.out.2 (List.mem_of_mem_take h)) _ _ _ hc hC).mono ?_; rintro e w3 ⟨rfl, hd⟩))
  have hb3 := below_two HB.out hb2 hd
  clear HB hC hc hb2 hd
  have HB := Lib.hid hb3
  clear hb3
  go_wp2
  go_region_with (first
    | (go_at_call 57; refine (gtChars_calls _).mono ?_; rintro e w2 ⟨A, c, rfl, hc, hC, hb2⟩)
    | (go_at_call 56; refine (lastCs_calls (s.extract 0 (E + 1)) (by rw [HZ1.out]; omega) (by rw [bs_to]; exact fun h => no62 HS.out.2 (List.mem_of_mem_take h)) _ _ _ hc hC).mono ?_; rintro e w3 ⟨rfl, hd⟩))
  have hb3 := below_two HB.out hb2 hd
  clear HB hC hc hb2 hd
  have HB := Lib.hid hb3
  clear hb3
  go_wp2_with fail
  refine (trim_name (s.extract 0 (E + 1)) _ (by rw [HZ1.out]; omega) (by rw [HZ1.out]; omega) (by rw [bs_to, List.getElem?_take, if_pos (by omega)]; exact H0.out)).mono ?_
  rintro e w4 ⟨⟨v, rfl, hv, hvm⟩, rfl⟩
  obtain ⟨kk, hk⟩ := noEsc_none (s := v) (fun h => no92 HS.out.2 (by have := hvm _ h; rw [bs_to] at this; exact List.mem_of_mem_take this))
  have HK := Lib.hid hk
  clear hk hv hvm h17 h18 hw1
  go_wp2_with fail
  refine (fiberpath_RemoveEscapeChar.calls kk _ _ _ HK.out).mono ?_
  rintro e w5 ⟨rfl, hb⟩
  have hb5 := below_step HB.out hb
  have HB5 := Lib.hid hb5
  have hb3 := HB3.out
  have hel : (E : Int) < (s.size : Int) := by omega
  clear hb hb5 HB
  go_wp2
  go_ret2
  exact prs_same HB5.out HP.out
end Go.Proofs.YtfahabnjplnbmaaGreatDoor.Wk
