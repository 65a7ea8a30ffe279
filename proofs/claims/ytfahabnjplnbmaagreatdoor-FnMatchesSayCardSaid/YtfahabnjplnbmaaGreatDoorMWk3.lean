/- Walks: how much a parameter takes (findParamLenForLastSegment, findGreedyParamLen, findParamLen). -/
import Derived.Test.YtfahabnjplnbmaaGreatDoorMWk1
import Derived.Test.YtfahabnjplnbmaaGreatDoorMQP
namespace Go.Proofs.YtfahabnjplnbmaaGreatDoor.Wk
open Go.RowKit Go.Proofs.YtfahabnjplnbmaaGreatDoorW.PrintWords
open Go.Proofs.YtfahabnjplnbmaaGreatDoor.Pl Go.Proofs.YtfahabnjplnbmaaGreatDoor.Q Go.Proofs.YtfahabnjplnbmaaGreatDoor.QL
set_option linter.unusedVariables false
set_option linter.unusedSimpArgs false

/-- A segment in memory. -/
structure Seg where
  con : ByteArray
  par : Bool
  name : ByteArray
  cmp : ByteArray
  cnt : Int
  gr : Bool
  opt : Bool
  last : Bool
  slash : Bool
  len : Int
def Seg.cells (σ : Seg) : Array Value := #[.string σ.con, .bool σ.par, .string σ.name, .string σ.cmp, .int .i64 σ.cnt, .bool σ.gr, .bool σ.opt, .bool σ.last, .bool σ.slash, .slice none 0 0, .int .i64 σ.len]
def SegAt (w : World) (g : Nat) (σ : Seg) : Prop := w.heap[g]? = some (.cells σ.cells 75 (0, 0))

section
variable {w : World} {g : Nat} {σ : Seg}
theorem SegAt.con (h : SegAt w g σ) : w.cell? ⟨g, 0, none⟩ = some (.string σ.con) := blk_cell h 0
theorem SegAt.par (h : SegAt w g σ) : w.cell? ⟨g, 1, none⟩ = some (.bool σ.par) := blk_cell h 1
theorem SegAt.name (h : SegAt w g σ) : w.cell? ⟨g, 2, none⟩ = some (.string σ.name) := blk_cell h 2
theorem SegAt.cmp (h : SegAt w g σ) : w.cell? ⟨g, 3, none⟩ = some (.string σ.cmp) := blk_cell h 3
theorem SegAt.cnt (h : SegAt w g σ) : w.cell? ⟨g, 4, none⟩ = some (.int .i64 σ.cnt) := blk_cell h 4
theorem SegAt.gr (h : SegAt w g σ) : w.cell? ⟨g, 5, none⟩ = some (.bool σ.gr) := blk_cell h 5
theorem SegAt.opt (h : SegAt w g σ) : w.cell? ⟨g, 6, none⟩ = some (.bool σ.opt) := blk_cell h 6
theorem SegAt.last (h : SegAt w g σ) : w.cell? ⟨g, 7, none⟩ = some (.bool σ.last) := blk_cell h 7
theorem SegAt.slash (h : SegAt w g σ) : w.cell? ⟨g, 8, none⟩ = some (.bool σ.slash) := blk_cell h 8
theorem SegAt.chk (h : SegAt w g σ) : w.cell? ⟨g, 9, none⟩ = some (.slice none 0 0) := blk_cell h 9
theorem SegAt.len (h : SegAt w g σ) : w.cell? ⟨g, 10, none⟩ = some (.int .i64 σ.len) := blk_cell h 10
end

/-- A length with a property is handed back. -/
def LenIs (P : Nat → Prop) (e : Ending) : Prop := ∃ i : Nat, P i ∧ e = .returned (.int .i64 (i : Int))

theorem ib_none (s : ByteArray) (c : Int) (x : UInt8) (w : World) (hc : c = (x.toNat : Int)) (h : x ∉ bs s) :
    Calls Tryz.prog 40 #[.string s, .int .u8 c] w fun e w' => e = .returned (.int .i64 (-1)) ∧ w = w' := by
  refine (Tryz.strings_IndexByte s c w).mono ?_
  rintro e w' ⟨rfl, rfl⟩
  refine ⟨?_, rfl⟩
  rw [hc, u8_back]
  rcases index_fi (bs s) x with ⟨h1, _⟩ | ⟨i, _, y, hy, rfl, _⟩
  · exact congrArg (fun n => Ending.returned (.int .i64 n)) h1
  · exact absurd (List.mem_of_getElem? hy) h
theorem ib_some (s : ByteArray) (c : Int) (x : UInt8) (i : Nat) (w : World) (hc : c = (x.toNat : Int)) (h : (bs s)[i]? = some x) (hno : x ∉ (bs s).take i) :
    Calls Tryz.prog 40 #[.string s, .int .u8 c] w fun e w' => e = .returned (.int .i64 (i : Int)) ∧ w = w' := by
  refine (Tryz.strings_IndexByte s c w).mono ?_
  rintro e w' ⟨rfl, rfl⟩
  refine ⟨?_, rfl⟩
  rw [hc, u8_back]
  rcases index_fi (bs s) x with ⟨_, h1⟩ | ⟨j, hj, y, hy, rfl, hn⟩
  · exact absurd rfl (h1 x (List.mem_of_getElem? h))
  · have : j = i := by
      rcases Nat.lt_trichotomy j i with hlt | hlt | hlt
      · exact absurd (mem_take_of_get hy hlt) hno
      · exact hlt
      · exact absurd rfl (hn y (mem_take_of_get h hlt))
    subst this
    exact congrArg (fun n => Ending.returned (.int .i64 n)) hj
/-- A byte is not there, or it has a first place. -/
theorem first_cases (s : ByteArray) (x : UInt8) : x ∉ bs s ∨ ∃ i : Nat, i < s.size ∧ (bs s)[i]? = some x ∧ x ∉ (bs s).take i := by
  rcases index_fi (bs s) x with ⟨_, h⟩ | ⟨i, _, y, hy, rfl, hn⟩
  · left; intro hm; exact h x hm rfl
  · right
    have := (List.getElem?_eq_some_iff.1 hy).1
    rw [bs_len] at this
    exact ⟨i, this, hy, fun hm => hn y hm rfl⟩

set_option maxHeartbeats 1000000 in
set_option maxRecDepth 100000 in
theorem lastLen_any (s : ByteArray) (g : Nat) (σ : Seg) (w : World) (hs : s.size ≤ 4294967290) (hg : SegAt w g σ) :
    Calls Tryz.prog 67 #[.string s, .pointer (some ⟨g, 0, none⟩)] w fun e w' => LenIs (fun i => i ≤ s.size ∧ (σ.gr = false → FirstB 47 (bs s) i) ∧ (σ.gr = true → i = s.size)) e ∧ w = w' := by
  have c5 := hg.gr
  cases hgr : σ.gr with
  | true =>
    rw [hgr] at c5
    clear hg hgr
    go_enter Tryz.func67, Tryz.ntmps67
    go_wp2
    go_ret
    exact ⟨⟨s.size, ⟨Nat.le_refl _, (fun h => by cases h), fun _ => rfl⟩, rfl⟩, rfl⟩
  | false =>
    rw [hgr] at c5
    clear hg hgr
    rcases first_cases s 47 with hn | ⟨i, hi, hx, hno⟩
    · have HN := Lib.hid hn
      clear hn
      go_enter Tryz.func67, Tryz.ntmps67
      go_wp2_with (go_at_call 40; refine (ib_none s 47 47 _ rfl HN.out).mono ?_; rintro e w' ⟨rfl, rfl⟩)
      go_ret
      exact ⟨⟨s.size, ⟨Nat.le_refl _, fun _ => ⟨fun h => HN.out (List.mem_of_mem_take h), .inl (bs_len s).symm⟩, (fun h => by cases h)⟩, rfl⟩, rfl⟩
    · have HX := Lib.hid hx
      have HN := Lib.hid hno
      clear hx hno
      have hne : ((i : Int) != -1) = true := by rw [bne_iff_ne]; omega
      go_enter Tryz.func67, Tryz.ntmps67
      go_wp2_with (go_at_call 40; refine (ib_some s 47 47 i _ rfl HX.out HN.out).mono ?_; rintro e w' ⟨rfl, rfl⟩)
      go_ret
      exact ⟨⟨i, ⟨by omega, fun _ => ⟨HN.out, .inr HX.out⟩, (fun h => by cases h)⟩, rfl⟩, rfl⟩

set_option maxHeartbeats 1000000 in
set_option maxRecDepth 100000 in
theorem greedyLen_any (s : ByteArray) (c : Int) (g : Nat) (σ : Seg) (w : World) (hs : s.size ≤ 4294967290) (hm : σ.cmp.size ≤ 4294967290) (hc0 : 0 ≤ c) (hc : c ≤ 9223372036854775807) (hn : -9223372036854775808 ≤ σ.cnt ∧ σ.cnt ≤ 9223372036854775807) (hg : SegAt w g σ) :
    Calls Tryz.prog 68 #[.string s, .int .i64 c, .pointer (some ⟨g, 0, none⟩)] w fun e w' => LenIs (fun i => i ≤ s.size) e ∧ Drawn0 w w' := by
  have c3 := hg.cmp
  have c4 := hg.cnt
  clear hg
  obtain ⟨hn1, hn2⟩ := hn
  go_enter Tryz.func68, Tryz.ntmps68
  go_wp2
  go_loopg [0, 1, 7] c.toNat (fun kq v0 v1 v7 w' => ∃ (t : ByteArray) (j n : Int), v0 = .string t ∧ v1 = .int .i64 j ∧ v7 = .int .i64 n ∧ t.size ≤ s.size ∧ 0 ≤ j ∧ j ≤ (kq : Int) ∧ j ≤ 9223372036854775807 ∧ -9223372036854775808 ≤ n ∧ n ≤ 9223372036854775807 ∧ Drawn0 w w')
  case atStart => exact ⟨s, c, σ.cnt, rfl, rfl, rfl, Nat.le_refl _, hc0, by omega, hc, hn1, hn2, Drawn0.refl _⟩
  case round =>
    obtain ⟨t, j, n, rfl, rfl, rfl, ht, hj0, hjk, hj2, hn3, hn4, ⟨m1, rfl⟩⟩ := hrel
    by_cases hn0 : 0 < n
    · by_cases hj : 0 < j
      · obtain ⟨r, hr, hr1, hr2⟩ := zzLastIndex_ev t σ.cmp (by omega) hm
        obtain ⟨kk, hkk⟩ := hr.rounds
        have HK := Lib.hid hkk
        clear hkk hr
        have hw1 : IntKind.i64.wrap (j - 1) = j - 1 := by rw [IntKind.wrap_i64]; omega
        by_cases hrm : r = -1
        · have hb : (r != -1) = false := by rw [bne_eq_false_iff_eq]; exact hrm
          have HR := Lib.hid hrm
          clear hrm
          go_wp2_with (go_at_call 81; refine (fiberpath_zzLastIndex.calls kk t σ.cmp r _ HK.out).mono ?_; rintro e w' ⟨rfl, ⟨nd, rfl⟩⟩)
          go_ret
          exact ⟨⟨t.size, ht, rfl⟩, by repeat (first | exact Drawn0.refl _ | apply Drawn0.step)⟩
        · have hb : (r != -1) = true := by rw [bne_iff_ne]; exact hrm
          obtain ⟨i, rfl⟩ : ∃ i : Nat, r = (i : Int) := ⟨r.toNat, by omega⟩
          clear hrm
          go_wp2_with (go_at_call 81; refine (fiberpath_zzLastIndex.calls kk t σ.cmp (i : Int) _ HK.out).mono ?_; rintro e w' ⟨rfl, ⟨nd, rfl⟩⟩)
          go_roundg (j - 1).toNat
          case measure => omega
          case rel => exact ⟨t.extract 0 i, j - 1, n - 1, rfl, by first | rfl | go_num, by first | rfl | go_num, by rw [sz_to _ _ (by omega)]; omega, by omega, by omega, by omega, by omega, by omega, by repeat (first | exact Drawn0.refl _ | apply Drawn0.step)⟩
      · go_wp2
        go_ret
        exact ⟨⟨t.size, ht, rfl⟩, by repeat (first | exact Drawn0.refl _ | apply Drawn0.step)⟩
    · go_wp2
      go_ret
      exact ⟨⟨t.size, ht, rfl⟩, by repeat (first | exact Drawn0.refl _ | apply Drawn0.step)⟩

/-- How much a parameter may take, as its segment has it. -/
def FP (σ : Seg) (s : ByteArray) (i : Nat) : Prop :=
  i ≤ s.size ∧ (σ.last = true → (σ.gr = false → FirstB 47 (bs s) i) ∧ (σ.gr = true → i = s.size)) ∧
  (σ.last = false → σ.gr = false →
    (∀ x, bs σ.cmp = [x] → FirstB x (bs s) i) ∧
    (2 ≤ (bs σ.cmp).length → (∃ k, FirstAt (bs σ.cmp) (bs s) k ∧ i = if 47 ∈ (bs s).take k then 0 else k) ∨ ((∀ k, ¬ bs σ.cmp <+: (bs s).drop k) ∧ i = s.size)))

theorem one_byte (m : ByteArray) (h : m.size = 1) : ∃ x : UInt8, bs m = [x] ∧ bt m 0 = (x.toNat : Int) ∧ ∀ hm : 0 < m.size, ((m[0]'hm).toNat : Int) = (x.toNat : Int) := by
  have hl : (bs m).length = 1 := by rw [bs_len]; exact h
  match hb : bs m, hl with
  | [x], _ =>
    have h1 : bt m ((0 : Nat) : Int) = (x.toNat : Int) := (bt_is m 0 (by omega) x).2 (by rw [hb]; rfl)
    refine ⟨x, rfl, h1, fun h' => ?_⟩
    rw [← h1]
    exact bt_at m 0 h'

set_option maxHeartbeats 1000000 in
set_option maxRecDepth 100000 in
theorem paramLen_last (s : ByteArray) (g : Nat) (σ : Seg) (w : World) (hs : s.size ≤ 4294967290) (hl : σ.last = true) (hg : SegAt w g σ) :
    Calls Tryz.prog 38 #[.string s, .pointer (some ⟨g, 0, none⟩)] w fun e w' => LenIs (FP σ s) e ∧ Below w.heap.size w w' := by
  have c7 := hg.last
  rw [hl] at c7
  have HG := Lib.hid hg
  have HL := Lib.hid hl
  clear hg hl
  go_enter Tryz.func38, Tryz.ntmps38
  go_wp2_with (go_at_call 67; refine (lastLen_any s g σ _ hs HG.out).mono ?_; rintro e w' ⟨⟨i, hi, rfl⟩, rfl⟩)
  go_ret
  exact ⟨⟨i, ⟨hi.1, fun _ => hi.2, fun h => by rw [HL.out] at h; cases h⟩, rfl⟩, Below.refl _ _⟩

set_option maxHeartbeats 2000000 in
set_option maxRecDepth 100000 in
/-- A parameter that is not greedy and not the last, ahead of one byte. -/
theorem paramLen_one (s : ByteArray) (g : Nat) (σ : Seg) (w : World) (hs : s.size ≤ 4294967290) (hl : σ.last = false) (hgr : σ.gr = false) (hlen : σ.len = 0) (hm : σ.cmp.size = 1) (hg : SegAt w g σ) :
    Calls Tryz.prog 38 #[.string s, .pointer (some ⟨g, 0, none⟩)] w fun e w' => LenIs (FP σ s) e ∧ Below w.heap.size w w' := by
  have c7 := hg.last
  have c5 := hg.gr
  have c10 := hg.len
  have c3 := hg.cmp
  rw [hl] at c7
  rw [hgr] at c5
  rw [hlen] at c10
  obtain ⟨x, hx, hbx, hix⟩ := one_byte σ.cmp hm
  have hmb : ((σ.cmp.size : Int) == 1) = true := by rw [beq_iff_eq]; omega
  have hpos : (0 : Int) < (σ.cmp.size : Int) := by omega
  have hpos' : 0 < σ.cmp.size := by omega
  have hix' := hix hpos'
  have HX := Lib.hid hx
  have HL := Lib.hid hl
  clear hl hgr hlen hm hg hx hbx hix
  have hfp : ∀ i : Nat, i ≤ s.size → FirstB x (bs s) i → FP σ s i := by
    intro i h1 h2
    refine ⟨h1, (fun h => by rw [HL.out] at h; cases h), fun _ _ => ⟨fun y hy => ?_, fun h => ?_⟩⟩
    · rw [HX.out] at hy; cases hy; exact h2
    · rw [HX.out] at h; simp at h
  have HF := Lib.hid hfp
  clear hfp
  have HI := Lib.hid hix'
  rcases first_cases s x with hn | ⟨i, hi, hxi, hno⟩
  · have HN := Lib.hid hn
    clear hn hix'
    go_enter Tryz.func38, Tryz.ntmps38
    go_wp2_with (go_at_call 40; refine (ib_none s _ x _ HI.out HN.out).mono ?_; rintro e w' ⟨rfl, rfl⟩)
    go_ret
    exact ⟨⟨s.size, HF.out _ (Nat.le_refl _) ⟨fun h => HN.out (List.mem_of_mem_take h), .inl (bs_len s).symm⟩, rfl⟩, Below.refl _ _⟩
  · have HXi := Lib.hid hxi
    have HN := Lib.hid hno
    have hne : ((i : Int) != -1) = true := by rw [bne_iff_ne]; omega
    clear hxi hno hix'
    go_enter Tryz.func38, Tryz.ntmps38
    go_wp2_with (go_at_call 40; refine (ib_some s _ x i _ HI.out HXi.out HN.out).mono ?_; rintro e w' ⟨rfl, rfl⟩)
    go_ret
    exact ⟨⟨i, HF.out _ (by omega) ⟨HN.out, .inr HXi.out⟩, rfl⟩, Below.refl _ _⟩

theorem slice_to (s : ByteArray) (k : Nat) (h : k ≤ s.size) : ∀ W : World, (Instr.slice 9 (.string s) none (some (.int .i64 (k : Int))) none).run Tryz.prog W = .ok (.string (s.extract 0 k)) W := fun W => by
  have h1 := run_slice_string_to_if (P := Tryz.prog) W 9 s .i64 (k : Int) Tryz.underlying9
  rw [h1, if_pos ⟨by omega, by omega⟩]
  rfl

set_option maxHeartbeats 2000000 in
set_option maxRecDepth 100000 in
/-- A parameter that is not greedy and not the last, ahead of several bytes. -/
theorem paramLen_many (s : ByteArray) (g : Nat) (σ : Seg) (w : World) (hs : s.size ≤ 4294967290) (hl : σ.last = false) (hgr : σ.gr = false) (hlen : σ.len = 0) (hm : 2 ≤ σ.cmp.size) (hms : σ.cmp.size ≤ 4294967290) (hg : SegAt w g σ) :
    Calls Tryz.prog 38 #[.string s, .pointer (some ⟨g, 0, none⟩)] w fun e w' => LenIs (FP σ s) e ∧ Below w.heap.size w w' := by
  have c7 := hg.last
  have c5 := hg.gr
  have c10 := hg.len
  have c3 := hg.cmp
  rw [hl] at c7
  rw [hgr] at c5
  rw [hlen] at c10
  have hmb : ((σ.cmp.size : Int) == 1) = false := by rw [beq_eq_false_iff_ne]; omega
  have HL := Lib.hid hl
  have hfp : ∀ i : Nat, i ≤ s.size → ((∃ k, FirstAt (bs σ.cmp) (bs s) k ∧ i = if 47 ∈ (bs s).take k then 0 else k) ∨ ((∀ k, ¬ bs σ.cmp <+: (bs s).drop k) ∧ i = s.size)) → FP σ s i := by
    intro i h1 h2
    refine ⟨h1, (fun h => by rw [hl] at h; cases h), fun _ _ => ⟨fun y hy => ?_, fun _ => h2⟩⟩
    have := congrArg List.length hy
    rw [bs_len] at this
    simp at this; omega
  have HF := Lib.hid hfp
  obtain ⟨r, hr, hri⟩ := zzIndex_ev s σ.cmp hs hms
  obtain ⟨kk, hkk⟩ := hr.rounds
  have HK := Lib.hid hkk
  clear hl hgr hlen hg hfp hkk hr
  rcases hri with ⟨rfl, hno⟩ | ⟨k, rfl, hk, hat⟩
  · have HN := Lib.hid (hno (by omega))
    clear hno
    go_enter Tryz.func38, Tryz.ntmps38
    go_wp2_with (go_at_call 69; refine (fiberpath_zzIndex.calls kk s σ.cmp (-1) _ HK.out).mono ?_; rintro e w' ⟨rfl, ⟨nd, rfl⟩⟩)
    go_ret
    exact ⟨⟨s.size, HF.out _ (Nat.le_refl _) (.inr ⟨HN.out, rfl⟩), rfl⟩, (Drawn0.step (Drawn0.refl _) _).below⟩
  · have HA := Lib.hid hat
    have hne : ((k : Int) != -1) = true := by rw [bne_iff_ne]; omega
    have hsl := slice_to s k hk
    clear hat
    rcases first_cases (s.extract 0 k) 47 with hn | ⟨i, hi, hxi, hno⟩
    · have HN := Lib.hid hn
      clear hn
      go_enter Tryz.func38, Tryz.ntmps38
      go_wp2_with (first
        | (go_at_call 69; refine (fiberpath_zzIndex.calls kk s σ.cmp (k : Int) _ HK.out).mono ?_; rintro e w' ⟨rfl, ⟨nd, rfl⟩⟩)
        | (go_at_call 40; refine (ib_none (s.extract 0 k) 47 47 _ rfl HN.out).mono ?_; rintro e w' ⟨rfl, rfl⟩))
      go_ret
      refine ⟨⟨k, HF.out _ hk (.inl ⟨k, HA.out, ?_⟩), rfl⟩, (Drawn0.step (Drawn0.refl _) _).below⟩
      rw [if_neg (by have := HN.out; rw [bs_to] at this; exact this)]
    · have HX := Lib.hid hxi
      have HN := Lib.hid hno
      have hne2 : ((i : Int) != -1) = true := by rw [bne_iff_ne]; omega
      clear hxi hno
      go_enter Tryz.func38, Tryz.ntmps38
      go_wp2_with (first
        | (go_at_call 69; refine (fiberpath_zzIndex.calls kk s σ.cmp (k : Int) _ HK.out).mono ?_; rintro e w' ⟨rfl, ⟨nd, rfl⟩⟩)
        | (go_at_call 40; refine (ib_some (s.extract 0 k) 47 47 i _ rfl HX.out HN.out).mono ?_; rintro e w' ⟨rfl, rfl⟩))
      go_ret
      refine ⟨⟨0, HF.out _ (Nat.zero_le _) (.inl ⟨k, HA.out, ?_⟩), rfl⟩, (Drawn0.step (Drawn0.refl _) _).below⟩
      rw [if_pos]
      have := HX.out
      rw [bs_to] at this
      exact List.mem_of_getElem? this

set_option maxHeartbeats 2000000 in
set_option maxRecDepth 100000 in
/-- A greedy parameter that is not the last: no more than there is. -/
theorem paramLen_greedy (s : ByteArray) (g : Nat) (σ : Seg) (w : World) (hs : s.size ≤ 4294967290) (hl : σ.last = false) (hgr : σ.gr = true) (hlen : σ.len = 0) (hms : σ.cmp.size ≤ 4294967290)
    (hcn : -9223372036854775808 ≤ σ.cnt ∧ σ.cnt ≤ 9223372036854775807) (hg : SegAt w g σ) :
    Calls Tryz.prog 38 #[.string s, .pointer (some ⟨g, 0, none⟩)] w fun e w' => LenIs (FP σ s) e ∧ Below w.heap.size w w' := by
  have c7 := hg.last
  have c5 := hg.gr
  have c10 := hg.len
  have c3 := hg.cmp
  rw [hl] at c7
  rw [hgr] at c5
  rw [hlen] at c10
  have hfp : ∀ i : Nat, i ≤ s.size → FP σ s i := fun i h1 => ⟨h1, (fun h => by rw [hl] at h; cases h), fun _ h => by rw [hgr] at h; cases h⟩
  have HF := Lib.hid hfp
  have HG := Lib.hid hg
  have HC := Lib.hid hcn
  have HGR := Lib.hid hgr
  clear hl hgr hlen hg hfp hcn
  go_enter Tryz.func38, Tryz.ntmps38
  go_wp2_with fail
  refine (count_any s σ.cmp _ hms hs).mono ?_
  rintro e w1 ⟨⟨c, hc, rfl⟩, hb⟩
  have hg1 : SegAt w1 g σ := blk_below HG.out hb
  have d3 := hg1.cmp
  have d5 := hg1.gr
  rw [HGR.out] at d5
  have HG1 := Lib.hid hg1
  have HB := Lib.hid hb
  clear c7 c5 c10 c3 hb HG hg1
  by_cases h1 : (1 : Int) < (c : Int)
  · go_wp2_with (go_at_call 68; refine (greedyLen_any s (c : Int) g σ _ hs hms (by omega) (by omega) HC.out HG1.out).mono ?_; rintro e w' ⟨⟨i, hi, rfl⟩, ⟨nd, rfl⟩⟩)
    go_ret
    exact ⟨⟨i, HF.out i hi, rfl⟩, pw_below_drewN HB.out _⟩
  · by_cases hm : σ.cmp.size = 1
    · obtain ⟨x, hx, hbx, hix⟩ := one_byte σ.cmp hm
      have hmb : ((σ.cmp.size : Int) == 1) = true := by rw [beq_iff_eq]; omega
      have hpos : (0 : Int) < (σ.cmp.size : Int) := by omega
      have hpos' : 0 < σ.cmp.size := by omega
      have HI := Lib.hid (hix hpos')
      clear hm hx hbx hix
      rcases first_cases s x with hn | ⟨i, hi, hxi, hno⟩
      · have HN := Lib.hid hn
        clear hn
        go_wp2_with (go_at_call 40; refine (ib_none s _ x _ HI.out HN.out).mono ?_; rintro e w' ⟨rfl, rfl⟩)
        go_ret
        exact ⟨⟨s.size, HF.out _ (Nat.le_refl _), rfl⟩, HB.out⟩
      · have HXi := Lib.hid hxi
        have HN := Lib.hid hno
        have hne : ((i : Int) != -1) = true := by rw [bne_iff_ne]; omega
        clear hxi hno
        go_wp2_with (go_at_call 40; refine (ib_some s _ x i _ HI.out HXi.out HN.out).mono ?_; rintro e w' ⟨rfl, rfl⟩)
        go_ret
        exact ⟨⟨i, HF.out _ (by omega), rfl⟩, HB.out⟩
    · have hmb : ((σ.cmp.size : Int) == 1) = false := by rw [beq_eq_false_iff_ne]; omega
      obtain ⟨r, hr, hri⟩ := zzIndex_ev s σ.cmp hs hms
      obtain ⟨kk, hkk⟩ := hr.rounds
      have HK := Lib.hid hkk
      clear hm hkk hr
      rcases hri with ⟨rfl, hno⟩ | ⟨k, rfl, hk, hat⟩
      · clear hno
        go_wp2_with (go_at_call 69; refine (fiberpath_zzIndex.calls kk s σ.cmp (-1) _ HK.out).mono ?_; rintro e w' ⟨rfl, ⟨nd, rfl⟩⟩)
        go_ret
        exact ⟨⟨s.size, HF.out _ (Nat.le_refl _), rfl⟩, pw_below_drewN HB.out _⟩
      · have hne : ((k : Int) != -1) = true := by rw [bne_iff_ne]; omega
        clear hat
        go_wp2_with (go_at_call 69; refine (fiberpath_zzIndex.calls kk s σ.cmp (k : Int) _ HK.out).mono ?_; rintro e w' ⟨rfl, ⟨nd, rfl⟩⟩)
        go_ret
        exact ⟨⟨k, HF.out _ hk, rfl⟩, pw_below_drewN HB.out _⟩

/-- HOW MUCH A PARAMETER TAKES. -/
theorem paramLen_any (s : ByteArray) (g : Nat) (σ : Seg) (w : World) (hs : s.size ≤ 4294967290) (hlen : σ.len = 0) (hms : σ.cmp.size ≤ 4294967290)
    (hcn : -9223372036854775808 ≤ σ.cnt ∧ σ.cnt ≤ 9223372036854775807) (hok : σ.last = false → σ.gr = false → 1 ≤ σ.cmp.size) (hg : SegAt w g σ) :
    Calls Tryz.prog 38 #[.string s, .pointer (some ⟨g, 0, none⟩)] w fun e w' => LenIs (FP σ s) e ∧ Below w.heap.size w w' := by
  cases hl : σ.last with
  | true => exact paramLen_last s g σ w hs hl hg
  | false =>
    cases hgr : σ.gr with
    | true => exact paramLen_greedy s g σ w hs hl hgr hlen hms hcn hg
    | false =>
      have := hok hl hgr
      rcases Nat.lt_or_ge 1 σ.cmp.size with h | h
      · exact paramLen_many s g σ w hs hl hgr hlen h hms hg
      · exact paramLen_one s g σ w hs hl hgr hlen (by omega) hg
end Go.Proofs.YtfahabnjplnbmaaGreatDoor.Wk
