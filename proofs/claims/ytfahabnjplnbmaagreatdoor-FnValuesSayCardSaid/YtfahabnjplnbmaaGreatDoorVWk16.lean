/- laws.FnValuesSay: it returns true at every input. -/
import Derived.Test.YtfahabnjplnbmaaGreatDoorVWk15
import Derived.Test.YtfahabnjplnbmaaGreatDoorVPM
namespace Go.Proofs.YtfahabnjplnbmaaGreatDoor.Wk
open Go.RowKit Go.Proofs.YtfahabnjplnbmaaGreatDoorW.PrintWords
open Go.Proofs.YtfahabnjplnbmaaGreatDoor.Pl Go.Proofs.YtfahabnjplnbmaaGreatDoor.Q Go.Proofs.YtfahabnjplnbmaaGreatDoor.QL
set_option linter.unusedVariables false
set_option linter.unusedSimpArgs false

/-- The slice of a list of the reference's parts. -/
theorem parts_call (s : ByteArray) (L : List S42) (r : Int) (w : World) (h : Ev (fun k => spec_Parts.f k s) (L, r)) :
    Calls Tryz.prog 6 #[.string s] w fun e w' => ∃ A c, e = .returned (.tuple #[.slice A L.length c, .int .i64 r]) ∧ L.length ≤ c ∧ Kd.C k42 w' A L.length L ∧ Below w.heap.size w w' := by
  obtain ⟨k, hk⟩ := h.rounds
  refine (spec_Parts.calls k s L r w hk).mono ?_
  rintro e w' ⟨v, rfl, hR, hb⟩
  obtain ⟨A, c, rfl, hl, hC⟩ := Kd.R_reads hR
  exact ⟨A, c, rfl, hl, hC, hb⟩
theorem could_call {L : List S42} (s : ByteArray) (part : Bool) (r : Int) (A : Option Addr) (c : Nat) (w : World) (hC : Kd.C k42 w A L.length L) (hc : L.length ≤ c) (h : Ev (fun k => spec_Could.f k L s part) r) :
    Calls Tryz.prog 11 #[.slice A L.length c, .string s, .bool part] w fun e w' => e = .returned (.int .i64 r) ∧ Below w.heap.size w w' := by
  obtain ⟨k, hk⟩ := h.rounds
  exact spec_Could.calls k A c L s part r w hC hc hk
theorem holds_call {L : List S42} {V : List ByteArray} (s : ByteArray) (part : Bool) (r : Bool) (A A1 : Option Addr) (c c1 : Nat) (w : World) (hC : Kd.C k42 w A L.length L) (hc : L.length ≤ c) (hC1 : Kd.C Kd.string w A1 V.length V) (hc1 : V.length ≤ c1) (h : Ev (fun k => spec_Holds.f k L V s part) r) :
    Calls Tryz.prog 12 #[.slice A L.length c, .slice A1 V.length c1, .string s, .bool part] w fun e w' => e = .returned (.bool r) ∧ Below w.heap.size w w' := by
  obtain ⟨k, hk⟩ := h.rounds
  exact spec_Holds.calls k A c L A1 c1 V s part r w hC hc hC1 hc1 hk

theorem zfin_below {l : List Part} {path : ByteArray} {part : Bool} {base : Nat} {w w' : World} {v : Value} {b : Bool} (h : ZFin l path part base w v b) (hb : Below w.heap.size w w') : ZFin l path part base w' v b := by
  rcases h with h | ⟨hb', V, hr, hl, hR⟩
  · exact .inl h
  · exact .inr ⟨hb', V, hr, hl, Kd.R_below hR hb⟩
/-- What Values says is what the reference says. -/
theorem told_right {l : List Part} {path : ByteArray} {part : Bool} {base : Nat} {w : World} {v : Value} {b : Bool} {rc : Int} (hg : Pl.Good l)
    (h3 : rc = 2 ∨ (rc = 0 ∧ ¬ CanBe l (bs path) part) ∨ (rc = 1 ∧ CanBe l (bs path) part ∧ Plain l)) (hf : ZFin l path part base w v b) : rc = 2 ∨ (rc = 0 ∧ b = false) ∨ (rc = 1 ∧ b = true) := by
  rcases h3 with h | ⟨h, hc⟩ | ⟨h, hc, hpl⟩
  · exact .inl h
  · refine .inr (.inl ⟨h, ?_⟩)
    rcases hf with ⟨hb, _⟩ | ⟨hb, V, hr, _⟩
    · exact hb
    · exact absurd (hold_can (sound hr _ rfl hg)) hc
  · refine .inr (.inr ⟨h, ?_⟩)
    rcases hf with ⟨_, _, hr⟩ | ⟨hb, _⟩
    · exact absurd hc (complete hr rfl hpl hg)
    · exact hb

set_option maxHeartbeats 1000000 in
set_option maxRecDepth 100000 in
theorem law4_great (s path : ByteArray) (part : Bool) (w : World) (hs : s.size ≤ maxLen) (hp : path.size ≤ maxLen) (h : 2147483647 < s.size ∨ 2147483647 < path.size) :
    Calls Tryz.prog 4 #[.string s, .string path, .bool part] w fun e w' => e = .returned (.bool true) ∧ Below w.heap.size w w' := by
  unfold maxLen at hs hp
  rcases Nat.lt_or_ge 2147483647 s.size with h1 | h1
  · have h1' : (2147483647 : Int) < (s.size : Int) := by omega
    clear h
    go_enter Tryz.func4, Tryz.ntmps4
    go_wp2
    go_ret
    exact ⟨rfl, Below.refl _ _⟩
  · have h1' : ¬ (2147483647 : Int) < (s.size : Int) := by omega
    have h2' : (2147483647 : Int) < (path.size : Int) := by omega
    clear h
    go_enter Tryz.func4, Tryz.ntmps4
    go_wp2
    go_ret
    exact ⟨rfl, Below.refl _ _⟩

set_option maxHeartbeats 1000000 in
set_option maxRecDepth 100000 in
theorem law4_long (s path : ByteArray) (part : Bool) (w : World) (hs : s.size ≤ 2147483647) (hp : path.size ≤ 2147483647) (h : 300 < s.size ∨ 100 < path.size) :
    Calls Tryz.prog 4 #[.string s, .string path, .bool part] w fun e w' => e = .returned (.bool true) ∧ Below w.heap.size w w' := by
  have h1' : ¬ (2147483647 : Int) < (s.size : Int) := by omega
  have h2' : ¬ (2147483647 : Int) < (path.size : Int) := by omega
  rcases Nat.lt_or_ge 300 s.size with h1 | h1
  · have h3' : (300 : Int) < (s.size : Int) := by omega
    clear h
    go_enter Tryz.func4, Tryz.ntmps4
    go_wp2_with fail
    refine (matches_true _).mono ?_
    rintro e w1 ⟨rfl, hb⟩
    go_wp2
    go_ret
    exact ⟨rfl, hb⟩
  · have h3' : ¬ (300 : Int) < (s.size : Int) := by omega
    have h4' : (100 : Int) < (path.size : Int) := by omega
    clear h
    go_enter Tryz.func4, Tryz.ntmps4
    go_wp2_with fail
    refine (matches_true _).mono ?_
    rintro e w1 ⟨rfl, hb⟩
    go_wp2
    go_ret
    exact ⟨rfl, hb⟩

set_option maxHeartbeats 2000000 in
set_option maxRecDepth 100000 in
theorem law4_short (s path : ByteArray) (part : Bool) (w : World) (hs : s.size ≤ 300) (hp : path.size ≤ 100) :
    Calls Tryz.prog 4 #[.string s, .string path, .bool part] w fun e w' => e = .returned (.bool true) ∧ Below w.heap.size w w' := by
  have h1' : ¬ (2147483647 : Int) < (s.size : Int) := by omega
  have h2' : ¬ (2147483647 : Int) < (path.size : Int) := by omega
  have h3' : ¬ (300 : Int) < (s.size : Int) := by omega
  have h4' : ¬ (100 : Int) < (path.size : Int) := by omega
  obtain ⟨L, r, hr, hyes⟩ := parts_ev s hs
  have HR := Lib.hid hr
  have HYES := Lib.hid hyes
  clear hr hyes
  by_cases hr1 : r = 1
  · obtain ⟨l, hA, hre, hg, hnp⟩ := HYES.out hr1
    have hl1 : l.length ≤ 2 * npar l + 1 := (good_len hg).1
    have hll : l.length ≤ 90 := by omega
    have hrl : (render l).length ≤ 300 := by rw [hre, bs_len]; exact hs
    obtain ⟨rc, hrc, hrc3⟩ := Could_ev hA (by omega) (fun p hp => by have := con_le hp; omega) (con_ne hg) path (by omega) part
    have HA := Lib.hid hA
    have HRE := Lib.hid hre
    have HG := Lib.hid hg
    have HNP := Lib.hid hnp
    have HRC := Lib.hid hrc
    have HRC3 := Lib.hid hrc3
    have HR1 := Lib.hid hr1
    have HRL := Lib.hid hrl
    have hb1 : (r != 1) = false := by rw [bne_eq_false_iff_eq]; exact hr1
    clear hA hre hg hnp hrc hrc3 hr1 hl1 HYES hrl
    go_enter Tryz.func4, Tryz.ntmps4
    go_wp2_with fail
    refine (matches_true _).mono ?_
    rintro e w1 ⟨rfl, hb⟩
    have HB1 := Lib.hid hb
    clear hb
    go_wp2_with fail
    refine (parts_call s L r _ HR.out).mono ?_
    rintro e w2 ⟨A, c, rfl, hc, hC, hb⟩
    have HB2 := Lib.hid (HB1.out.trans (hb.mono HB1.out.size))
    have HC2 := Lib.hid hC
    clear hb hC
    go_wp2_with fail
    refine (values_any l s path part _ hll HG.out HNP.out HRE.out.symm (by omega) (by omega)).mono ?_
    rintro e w3 ⟨A1, n, c1, b, rfl, hf, hb⟩
    have HB3 := Lib.hid (HB2.out.trans (hb.mono HB2.out.size))
    have HC3 := Lib.hid (Kd.C_below HC2.out hb)
    have HF := Lib.hid hf
    clear hb hf
    go_wp2_with fail
    refine (could_call path part rc A c _ HC3.out hc HRC.out).mono ?_
    rintro e w4 ⟨rfl, hb⟩
    have HB4 := Lib.hid (HB3.out.trans (hb.mono HB3.out.size))
    have HC4 := Lib.hid (Kd.C_below HC3.out hb)
    have HF4 := Lib.hid (zfin_below HF.out hb)
    clear hb
    go_wp2_with fail
    refine (told_any b rc _ (told_right HG.out HRC3.out HF4.out)).mono ?_
    rintro e w5 ⟨rfl, rfl⟩
    rcases HF4.out with ⟨rfl, hv, hrun⟩ | ⟨rfl, V, hrun, hVl, hVR⟩
    · clear hv hrun
      go_wp2
      go_ret
      exact ⟨rfl, HB4.out⟩
    · have hh := sound hrun _ rfl HG.out
      have hVs : ∀ v ∈ V, v.size ≤ 4294967290 := fun v hv => by
        have := hold_len hh (bs v) (List.mem_map_of_mem hv)
        rw [bs_len, bs_len] at this; omega
      obtain ⟨rh, hrh, hiff⟩ := holds_ev HA.out (by omega) (fun p hp => by have := con_le hp; have := HRL.out; omega) V hVs (by have := HNP.out; omega) part path (by omega)
      obtain rfl : rh = true := hiff.2 hh
      obtain ⟨A2, c2, h3, hc2, hCV⟩ := Kd.R_reads hVR
      obtain ⟨rfl, rfl, rfl⟩ : A1 = A2 ∧ n = V.length ∧ c1 = c2 := by injection h3 with e1 e2 e3; exact ⟨e1, e2, e3⟩
      have HCV := Lib.hid hCV
      have HRH := Lib.hid hrh
      clear hrun hVl hVR hh hVs hrh hiff h3 hCV
      go_wp2_with fail
      refine (holds_call path part true A A1 c c1 _ HC4.out hc HCV.out hc2 HRH.out).mono ?_
      rintro e w6 ⟨rfl, hb⟩
      have HB6 := Lib.hid (HB4.out.trans (hb.mono HB4.out.size))
      clear hb
      go_wp2
      go_ret
      exact ⟨rfl, HB6.out⟩
  · have hb1 : (r != 1) = true := by rw [bne_iff_ne]; exact hr1
    clear HYES hr1
    go_enter Tryz.func4, Tryz.ntmps4
    go_wp2_with fail
    refine (matches_true _).mono ?_
    rintro e w1 ⟨rfl, hb⟩
    have HB1 := Lib.hid hb
    clear hb
    go_wp2_with fail
    refine (parts_call s L r _ HR.out).mono ?_
    rintro e w2 ⟨A, c, rfl, hc, hC, hb⟩
    have HB2 := Lib.hid (HB1.out.trans (hb.mono HB1.out.size))
    clear hb hC
    go_wp2
    go_ret
    exact ⟨rfl, HB2.out⟩

theorem law4 (s path : ByteArray) (part : Bool) (w : World) (hs : s.size ≤ maxLen) (hp : path.size ≤ maxLen) :
    Calls Tryz.prog 4 #[.string s, .string path, .bool part] w fun e w' => e = .returned (.bool true) ∧ Below w.heap.size w w' := by
  by_cases h1 : 2147483647 < s.size ∨ 2147483647 < path.size
  · exact law4_great s path part w hs hp h1
  · by_cases h2 : 300 < s.size ∨ 100 < path.size
    · exact law4_long s path part w (by omega) (by omega) h2
    · exact law4_short s path part w (by omega) (by omega)
end Go.Proofs.YtfahabnjplnbmaaGreatDoor.Wk
