/- laws.FnMatchesSay: it returns true at every input. -/
import Derived.Test.YtfahabnjplnbmaaGreatDoorMWk18
namespace Go.Proofs.YtfahabnjplnbmaaGreatDoor.Wk
open Go.RowKit Go.Proofs.YtfahabnjplnbmaaGreatDoorW.PrintWords
open Go.Proofs.YtfahabnjplnbmaaGreatDoor.Pl Go.Proofs.YtfahabnjplnbmaaGreatDoor.Q Go.Proofs.YtfahabnjplnbmaaGreatDoor.QL
set_option linter.unusedVariables false
set_option linter.unusedSimpArgs false

/-- The pattern as it is made has parts, too. -/
theorem fpat_good {l : List Part} (hg : Pl.Good l) (sens strict : Bool) : ∃ l', Pl.Good l' ∧ render l' = fpat (render l) sens strict ∧ npar l' = npar l := by
  have h0 : ∃ l', Pl.Good l' ∧ render l' = p0 (render l) ∧ npar l' = npar l := by
    unfold p0
    by_cases h : render l = []
    · rw [if_pos h]
      obtain ⟨l', h1, h2, h3⟩ := good_slash hg
      exact ⟨l', h1, by rw [h2, h], h3⟩
    · rw [if_neg h]; exact ⟨l, hg, rfl, rfl⟩
  obtain ⟨l0, g0, r0, n0⟩ := h0
  have h1 : ∃ l', Pl.Good l' ∧ render l' = p1 (render l0) ∧ npar l' = npar l0 := by
    unfold p1
    by_cases h : (render l0).head? = some 47
    · rw [if_pos h]; exact ⟨l0, g0, rfl, rfl⟩
    · rw [if_neg h]; exact good_slash g0
  obtain ⟨l1, g1, r1, n1⟩ := h1
  have h2 : ∃ l', Pl.Good l' ∧ render l' = p2 sens (render l1) ∧ npar l' = npar l1 := by
    cases sens with
    | true => exact ⟨l1, g1, rfl, rfl⟩
    | false => exact ⟨_, good_low g1, render_low l1, npar_low l1⟩
  obtain ⟨l2, g2, r2, n2⟩ := h2
  have h3 : ∃ l', Pl.Good l' ∧ render l' = p3 strict (render l2) ∧ npar l' = npar l2 := by
    unfold p3
    by_cases h : strict = false ∧ 1 < (render l2).length
    · rw [if_pos h]; exact good_trim g2
    · rw [if_neg h]; exact ⟨l2, g2, rfl, rfl⟩
  obtain ⟨l3, g3, r3, n3⟩ := h3
  refine ⟨l3, g3, ?_, by omega⟩
  rw [r3, r2, r1, r0]
  rfl

/-- The parts by which the program answers as the reference says. -/
theorem both_say {l : List Part} {path pat : Bytes} {sens strict : Bool} {rs : Int} (hg : Pl.Good l) (hnp : npar l ≤ 30) (hr : render l = pat) (h : Says (fpath path sens) (fpat pat sens strict) rs) :
    ∃ l', Pl.Good l' ∧ npar l' ≤ 30 ∧ render l' = fpat pat sens strict ∧ ∀ is, Answer l' (fpath path sens) is → rs = 2 ∨ (rs = 0 ∧ is = false) ∨ (rs = 1 ∧ is = true) := by
  rcases h with h | ⟨l', h1, h2, h3, h4⟩
  · obtain ⟨l', h1, h2, h3⟩ := fpat_good hg sens strict
    exact ⟨l', h1, by omega, by rw [h2, hr], fun _ _ => .inl h⟩
  · refine ⟨l', h1, h2, h3, fun is ha => ?_⟩
    rcases h4 with ⟨h5, h6⟩ | ⟨h5, h6⟩
    · exact .inr (.inr ⟨h5, h6 is ha⟩)
    · exact .inr (.inl ⟨h5, h6 is ha⟩)

theorem matches_call (path s : ByteArray) (sens strict : Bool) (r : Int) (w : World) (h : Ev (fun k => spec_Matches.f k path s sens strict) r) :
    Calls Tryz.prog 8 #[.string path, .string s, .bool sens, .bool strict] w fun e w' => e = .returned (.int .i64 r) ∧ Below w.heap.size w w' := by
  obtain ⟨k, hk⟩ := h.rounds
  exact spec_Matches.calls k path s sens strict r w hk

/-- '/a/b' by '/a/:c'. -/
theorem known_true (w : World) : Calls Tryz.prog 5 #[.string ⟨#[47, 97, 47, 98]⟩, .string ⟨#[47, 97, 47, 58, 99]⟩, .bool true, .bool true] w fun e w' => e = .returned (.tuple #[.bool true, .bool true]) ∧ Below w.heap.size w w' := by
  have hg : Pl.Good [.const [47, 97, 47], .named [99] false] := ⟨⟨by simp, by decide⟩, trivial, ⟨by simp, by decide⟩⟩
  refine (matchesI_any _ _ true true [.const [47, 97, 47], .named [99] false] w (by decide) hg (by decide) (by rw [bs_lit]; decide) (by decide) (by decide)).mono ?_
  rintro e w' ⟨is, rfl, ha, hb⟩
  have hp : fpath (bs ⟨#[47, 97, 47, 98]⟩) true = [47, 97, 47, 98] := by rw [bs_lit]; decide
  rw [hp] at ha
  obtain rfl := answer_yes hg ha (.inr ⟨rfl, .inl ⟨⟨[98], rfl⟩, .inl ⟨rfl, 1, by decide, .inr (by decide), (fun h => by cases h), .inr rfl⟩⟩⟩) ⟨(fun h => by cases h), trivial⟩ (by decide)
  exact ⟨rfl, hb⟩

set_option maxHeartbeats 1000000 in
set_option maxRecDepth 100000 in
theorem law3_great (path s : ByteArray) (sens strict : Bool) (w : World) (hs : s.size ≤ maxLen) (hp : path.size ≤ maxLen) (h : 2147483647 < path.size ∨ 2147483647 < s.size) :
    Calls Tryz.prog 3 #[.string path, .string s, .bool sens, .bool strict] w fun e w' => e = .returned (.bool true) ∧ Below w.heap.size w w' := by
  unfold maxLen at hs hp
  rcases Nat.lt_or_ge 2147483647 path.size with h1 | h1
  · have h1' : (2147483647 : Int) < (path.size : Int) := by omega
    clear h
    go_enter Tryz.func3, Tryz.ntmps3
    go_wp2
    go_ret
    exact ⟨rfl, Below.refl _ _⟩
  · have h1' : ¬ (2147483647 : Int) < (path.size : Int) := by omega
    have h2' : (2147483647 : Int) < (s.size : Int) := by omega
    clear h
    go_enter Tryz.func3, Tryz.ntmps3
    go_wp2
    go_ret
    exact ⟨rfl, Below.refl _ _⟩

set_option maxHeartbeats 1000000 in
set_option maxRecDepth 100000 in
theorem law3_long (path s : ByteArray) (sens strict : Bool) (w : World) (hs : s.size ≤ 2147483647) (hp : path.size ≤ 2147483647) (h : 300 < s.size ∨ 100 < path.size) :
    Calls Tryz.prog 3 #[.string path, .string s, .bool sens, .bool strict] w fun e w' => e = .returned (.bool true) ∧ Below w.heap.size w w' := by
  have h1' : ¬ (2147483647 : Int) < (path.size : Int) := by omega
  have h2' : ¬ (2147483647 : Int) < (s.size : Int) := by omega
  rcases Nat.lt_or_ge 300 s.size with h1 | h1
  · have h3' : (300 : Int) < (s.size : Int) := by omega
    clear h
    go_enter Tryz.func3, Tryz.ntmps3
    go_wp2_with fail
    refine (known_true _).mono ?_
    rintro e w1 ⟨rfl, hb⟩
    go_wp2
    go_ret
    exact ⟨rfl, hb⟩
  · have h3' : ¬ (300 : Int) < (s.size : Int) := by omega
    have h4' : (100 : Int) < (path.size : Int) := by omega
    clear h
    go_enter Tryz.func3, Tryz.ntmps3
    go_wp2_with fail
    refine (known_true _).mono ?_
    rintro e w1 ⟨rfl, hb⟩
    go_wp2
    go_ret
    exact ⟨rfl, hb⟩

set_option maxHeartbeats 2000000 in
set_option maxRecDepth 100000 in
theorem law3_short (path s : ByteArray) (sens strict : Bool) (w : World) (hs : s.size ≤ 300) (hp : path.size ≤ 100) :
    Calls Tryz.prog 3 #[.string path, .string s, .bool sens, .bool strict] w fun e w' => e = .returned (.bool true) ∧ Below w.heap.size w w' := by
  have h1' : ¬ (2147483647 : Int) < (path.size : Int) := by omega
  have h2' : ¬ (2147483647 : Int) < (s.size : Int) := by omega
  have h3' : ¬ (300 : Int) < (s.size : Int) := by omega
  have h4' : ¬ (100 : Int) < (path.size : Int) := by omega
  obtain ⟨L, r, hr, hyes⟩ := parts_ev s hs
  have HR := Lib.hid hr
  have HYES := Lib.hid hyes
  clear hr hyes
  by_cases hr1 : r = 1
  · obtain ⟨l0, hA, hre, hg0, hnp0⟩ := HYES.out hr1
    obtain ⟨rs, hrs, hsay⟩ := matches_ev path s sens strict hs hp
    obtain ⟨l, hg, hnp, hrl, hboth⟩ := both_say hg0 hnp0 hre hsay
    have hl1 : l.length ≤ 2 * npar l + 1 := (good_len hg).1
    have hll : l.length ≤ 90 := by omega
    have HRL := Lib.hid hrl
    have HG := Lib.hid hg
    have HNP := Lib.hid hnp
    have HRS := Lib.hid hrs
    have HBOTH := Lib.hid hboth
    have hb1 : (r != 1) = false := by rw [bne_eq_false_iff_eq]; exact hr1
    clear hA hre hg0 hnp0 hrs hsay hg hnp hrl hboth hl1 hr1 HYES
    go_enter Tryz.func3, Tryz.ntmps3
    go_wp2_with fail
    refine (known_true _).mono ?_
    rintro e w1 ⟨rfl, hb⟩
    have HB1 := Lib.hid hb
    clear hb
    go_wp2_with fail
    refine (parts_call s L r _ HR.out).mono ?_
    rintro e w2 ⟨A, c, rfl, hc, hC, hb⟩
    have HB2 := Lib.hid (HB1.out.trans (hb.mono HB1.out.size))
    clear hb hC
    go_wp2_with fail
    refine (matchesI_any path s sens strict l _ hll HG.out HNP.out HRL.out (by omega) (by omega)).mono ?_
    rintro e w3 ⟨is, rfl, ha, hb⟩
    have HB3 := Lib.hid (HB2.out.trans (hb.mono HB2.out.size))
    have HT := Lib.hid (HBOTH.out is ha)
    clear hb ha
    go_wp2_with fail
    refine (matches_call path s sens strict rs _ HRS.out).mono ?_
    rintro e w4 ⟨rfl, hb⟩
    have HB4 := Lib.hid (HB3.out.trans (hb.mono HB3.out.size))
    clear hb
    go_wp2_with fail
    refine (told_any is rs _ HT.out).mono ?_
    rintro e w5 ⟨rfl, rfl⟩
    go_wp2
    go_ret
    exact ⟨rfl, HB4.out⟩
  · have hb1 : (r != 1) = true := by rw [bne_iff_ne]; exact hr1
    clear HYES hr1
    go_enter Tryz.func3, Tryz.ntmps3
    go_wp2_with fail
    refine (known_true _).mono ?_
    rintro e w1 ⟨rfl, hb⟩
    have HB1 := Lib.hid hb
    clear hb
    go_wp2_with fail
    refine (parts_call s L r _ HR.out).mono ?_
    rintro e w2 ⟨A, c, rfl, hc, hC, hb⟩
    have HB2 := Lib.hid (HB1.out.trans (hb.mono HB1.out.size))
    clear hb hC
    go_wp2
    go_ret
    exact ⟨rfl, HB2.out⟩

theorem law3 (path s : ByteArray) (sens strict : Bool) (w : World) (hp : path.size ≤ maxLen) (hs : s.size ≤ maxLen) :
    Calls Tryz.prog 3 #[.string path, .string s, .bool sens, .bool strict] w fun e w' => e = .returned (.bool true) ∧ Below w.heap.size w w' := by
  by_cases h1 : 2147483647 < path.size ∨ 2147483647 < s.size
  · exact law3_great path s sens strict w hs hp h1
  · by_cases h2 : 300 < s.size ∨ 100 < path.size
    · exact law3_long path s sens strict w (by omega) (by omega) h2
    · exact law3_short path s sens strict w (by omega) (by omega)
end Go.Proofs.YtfahabnjplnbmaaGreatDoor.Wk
