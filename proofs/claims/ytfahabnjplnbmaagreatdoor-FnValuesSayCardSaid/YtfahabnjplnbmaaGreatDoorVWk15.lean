/- laws.told, laws.matches, laws.FnValuesSay: it returns true. -/
import Derived.Test.YtfahabnjplnbmaaGreatDoorVWk14
import Derived.Test.YtfahabnjplnbmaaGreatDoorVQS
import Derived.Test.YtfahabnjplnbmaaGreatDoorVQH
namespace Go.Proofs.YtfahabnjplnbmaaGreatDoor.Wk
open Go.RowKit Go.Proofs.YtfahabnjplnbmaaGreatDoorW.PrintWords
open Go.Proofs.YtfahabnjplnbmaaGreatDoor.Pl Go.Proofs.YtfahabnjplnbmaaGreatDoor.Q Go.Proofs.YtfahabnjplnbmaaGreatDoor.QL
set_option linter.unusedVariables false
set_option linter.unusedSimpArgs false

/-- The run over '/a/:b' and '/a/c'. -/
theorem run_ac {r : Option (List Bytes)} (h : Run [.const [47, 97, 47], .named [98] false] [47, 97, 47, 99] false r) : r = some [[99]] := by
  have hg : Pl.Good [.const [47, 97, 47], .named [98] false] := ⟨⟨by simp, by decide⟩, trivial, ⟨by simp, by decide⟩⟩
  cases r with
  | none =>
    exfalso
    refine complete h rfl ⟨(fun h => by cases h), trivial⟩ hg ?_
    exact .inr ⟨rfl, .inl ⟨⟨[99], rfl⟩, .inl ⟨rfl, 1, by decide, .inr (by decide), (fun h => by cases h), .inr rfl⟩⟩⟩
  | some vs =>
    have hh := sound h vs rfl hg
    rcases hh with ⟨h, _⟩ | ⟨_, ⟨h, _⟩ | ⟨_, _, h⟩⟩
    · cases h
    · rcases h.2 with h | ⟨q, hq, ho⟩
      · cases h
      · cases hq; cases ho
    · rcases h with ⟨_, v, vs', rfl, hw, hv, hh⟩ | ⟨h, _⟩
      · have h0 : v ≠ [] := fun e => by have := hw.1 e; cases this
        have hv' : v <+: [99] := hv
        have h1 : v = [99] := by
          cases v with
          | nil => exact absurd rfl h0
          | cons x v =>
            have h2 := hv'.length_le
            have h3 : v = [] := List.eq_nil_of_length_eq_zero (by rw [List.length_cons] at h2; simp only [List.length_singleton] at h2; omega)
            subst h3
            obtain ⟨t, ht⟩ := hv'
            simp at ht
            rw [ht.1]
        subst h1
        rw [hh.1]
      · cases h

theorem told_any (is : Bool) (says : Int) (w : World) (h : says = 2 ∨ (says = 0 ∧ is = false) ∨ (says = 1 ∧ is = true)) :
    Calls Tryz.prog 7 #[.bool is, .int .i64 says] w fun e w' => e = .returned (.bool true) ∧ w = w' := by
  rcases h with rfl | ⟨rfl, rfl⟩ | ⟨rfl, rfl⟩
  all_goals
    go_enter Tryz.func7, Tryz.ntmps7
    go_wp2
    go_ret
    exact ⟨rfl, rfl⟩

theorem bs_lit (l : Bytes) : bs ⟨l.toArray⟩ = l := by simp [bs]

set_option maxHeartbeats 1000000 in
set_option maxRecDepth 100000 in
theorem matches_true (w : World) : Calls Tryz.prog 9 #[] w fun e w' => e = .returned (.bool true) ∧ Below w.heap.size w w' := by
  have hg : Pl.Good [.const [47, 97, 47], .named [98] false] := ⟨⟨by simp, by decide⟩, trivial, ⟨by simp, by decide⟩⟩
  have HG := Lib.hid hg
  clear hg
  go_enter Tryz.func9, Tryz.ntmps9
  go_wp2_with fail
  refine (values_any [.const [47, 97, 47], .named [98] false] _ _ false w (by decide) HG.out (by decide) (by rw [bs_lit]; rfl) (by decide) (by decide)).mono ?_
  rintro e w1 ⟨A, n, c, b, rfl, hf, hb⟩
  have hV : b = true ∧ n = 1 ∧ Kd.string.R 9 w1 w.heap.size (fun _ => True) (.slice A n c) [⟨#[99]⟩] := by
    rcases hf with ⟨_, _, hr⟩ | ⟨hb, V, hr, hl, hR⟩
    · have := run_ac hr; cases this
    · have h1 := run_ac hr
      have h2 : V.map bs = [[99]] := by simpa using h1
      obtain ⟨v, rfl, hv⟩ : ∃ v, V = [v] ∧ bs v = [99] := by
        match V, h2 with
        | [v], h2 => exact ⟨v, rfl, by simpa using h2⟩
      have hve : v = ⟨#[99]⟩ := by
        apply ByteArray.ext
        apply Array.ext'
        exact hv
      subst hve
      obtain ⟨A', c', h3⟩ := Kd.R_slice hR
      exact ⟨hb, by injection h3, hR⟩
  obtain ⟨rfl, rfl, hR⟩ := hV
  have HB := Lib.hid hb
  obtain ⟨A', c', h3, _, hC⟩ := Kd.R_reads hR
  obtain ⟨ad, hA, hcell⟩ := Kd.at_string hC 0 (by omega) (by decide)
  obtain rfl : A = some ad := by injection h3 with h3; rw [h3, hA]
  have hc0 : w1.cell? ad = some (.string ⟨#[99]⟩) := by
    have e0 : ad.add (Int.toNat 0) = ad := by unfold Addr.add; simp
    rw [e0] at hcell
    exact hcell
  clear hf hb hR hC h3 hA hcell
  go_wp2
  go_ret
  exact ⟨rfl, HB.out⟩
end Go.Proofs.YtfahabnjplnbmaaGreatDoor.Wk
