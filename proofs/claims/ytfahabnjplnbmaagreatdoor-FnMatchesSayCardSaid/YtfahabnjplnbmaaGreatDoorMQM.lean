/- What the laid function of the reference's Matches comes to, in the words of the plain law. -/
import Derived.Test.YtfahabnjplnbmaaGreatDoorMQx9
import Derived.Test.YtfahabnjplnbmaaGreatDoorMQS
import Derived.Test.YtfahabnjplnbmaaGreatDoorMPM
import Derived.Test.YtfahabnjplnbmaaGreatDoorMQLow
namespace Go.Proofs.YtfahabnjplnbmaaGreatDoor.QL
open Go.RowKit Go.Proofs.YtfahabnjplnbmaaGreatDoorW.PrintWords
open Go.Proofs.YtfahabnjplnbmaaGreatDoor.Pl Go.Proofs.YtfahabnjplnbmaaGreatDoor.Q
set_option linter.unusedVariables false
set_option linter.unusedSimpArgs false

theorem dropLast_of (c : ByteArray) : bs (c.extract 0 (c.size - 1)) = (bs c).dropLast := by rw [bs_to, List.dropLast_eq_take, bs_len]
theorem trimR_drop {c : Bytes} (h : c.getLast? = some 47) : trimR c = trimR c.dropLast := by
  obtain ⟨d, rfl⟩ : ∃ d, c = d ++ [47] := ⟨c.dropLast, by
    have hne : c ≠ [] := by intro e; rw [e] at h; cases h
    have h1 := List.dropLast_concat_getLast hne
    have h2 : c.getLast hne = 47 := by rw [List.getLast?_eq_some_getLast hne] at h; exact Option.some.inj h
    rw [h2] at h1; exact h1.symm⟩
  rw [List.dropLast_concat, trimR_append]
  rw [if_pos (by decide)]
theorem trimR_one {c : Bytes} (h : c.length ≤ 1) (hn : trimR c ≠ []) : trimR c = c := by
  obtain ⟨t, ht⟩ := trimR_prefix c
  have : t = [] := by
    have h1 := congrArg List.length ht
    rw [List.length_append] at h1
    have h2 := List.length_pos_iff.2 hn
    exact List.eq_nil_of_length_eq_zero (by omega)
  rw [this, List.append_nil] at ht
  exact ht

/-- The pattern without slashes at its end, as the reference takes them away. -/
def p3n (s : Bytes) : Bytes := if 1 < s.length then trimR s else s
theorem matches_l0 (x0 : ByteArray) (st : Bool) : ∀ (n : Nat) (c : ByteArray), c.size = n → c.size ≤ 300 → (c.size ≤ 1 ∨ trimR (bs c) ≠ []) →
    ∃ c' : ByteArray, bs c' = p3n (bs c) ∧ c'.size ≤ c.size ∧ ∀ r, Ev (fun k => spec_Matches.j4 k x0 c' st) r → Ev (fun k => spec_Matches.l0 k x0 c st) r := by
  intro n
  induction n with
  | zero =>
    intro c hn hs hc
    refine ⟨c, ?_, Nat.le_refl _, fun r hr => Ev.step (fun k => ?_) hr⟩
    · unfold p3n; rw [if_neg (by rw [bs_len]; omega)]
    · simp only [spec_Matches.l0]; rw [if_neg (by omega)]
  | succ n ih =>
    intro c hn hs hc
    by_cases h1 : c.size ≤ 1
    · refine ⟨c, ?_, Nat.le_refl _, fun r hr => Ev.step (fun k => ?_) hr⟩
      · unfold p3n; rw [if_neg (by rw [bs_len]; omega)]
      · simp only [spec_Matches.l0]; rw [if_neg (by omega)]
    · have hne : trimR (bs c) ≠ [] := by
        rcases hc with h | h
        · omega
        · exact h
      have hw : wrap64 ((c.size : Int) - 1) = ((c.size - 1 : Nat) : Int) := w_pred c.size (by omega) (by omega)
      by_cases hl : bt c ((c.size - 1 : Nat) : Int) = 47
      · have hlast : (bs c).getLast? = some 47 := by rw [List.getLast?_eq_getElem?, bs_len]; exact (bt_47 c (c.size - 1) (by omega)).1 hl
        have hsz : (c.extract 0 (c.size - 1)).size = n := by rw [sz_to _ _ (by omega)]; omega
        have htr : trimR (bs (c.extract 0 (c.size - 1))) = trimR (bs c) := by rw [dropLast_of]; exact (trimR_drop hlast).symm
        obtain ⟨c', h2, h3, h4⟩ := ih (c.extract 0 (c.size - 1)) hsz (by omega) (.inr (by rw [htr]; exact hne))
        refine ⟨c', ?_, by omega, fun r hr => Ev.step (fun k => ?_) (h4 r hr)⟩
        · rw [h2]
          unfold p3n
          rw [if_pos (show 1 < (bs c).length by rw [bs_len]; omega)]
          by_cases h5 : 1 < (bs (c.extract 0 (c.size - 1))).length
          · rw [if_pos h5, htr]
          · rw [if_neg h5, ← htr]
            exact (trimR_one (by omega) (by rw [htr]; exact hne)).symm
        · simp only [spec_Matches.l0]
          rw [if_pos (by omega), hw, if_pos (by omega), if_pos (by omega), if_pos hl, if_pos (by omega), Int.toNat_natCast]
      · have hlast : (bs c).getLast? ≠ some 47 := by
          intro e
          rw [List.getLast?_eq_getElem?, bs_len] at e
          exact hl ((bt_47 c (c.size - 1) (by omega)).2 e)
        refine ⟨c, ?_, Nat.le_refl _, fun r hr => Ev.step (fun k => ?_) hr⟩
        · unfold p3n; rw [if_pos (by rw [bs_len]; omega), trimR_same hlast]
        · simp only [spec_Matches.l0]
          rw [if_pos (by omega), hw, if_pos (by omega), if_pos (by omega), if_neg hl]

/-- What the reference says, of a path and a pattern as they are made. -/
def Says (path pat : Bytes) (r : Int) : Prop :=
  r = 2 ∨ ∃ l, Pl.Good l ∧ npar l ≤ 30 ∧ render l = pat ∧
    ((r = 1 ∧ ∀ is, Answer l path is → is = true) ∨ (r = 0 ∧ ∀ is, Answer l path is → is = false))

theorem toList_iff (a b : ByteArray) : a.toList = b.toList ↔ bs a = bs b := by rw [tl, tl]

theorem matches_j4 (x0 c : ByteArray) (st : Bool) (hs : c.size ≤ 300) (hx : x0.size ≤ 100) (h0 : ∃ t, bs x0 = 47 :: t) (h1 : ∃ t, bs c = 47 :: t) :
    ∃ r, Ev (fun k => spec_Matches.j4 k x0 c st) r ∧ Says (bs x0) (bs c) r := by
  obtain ⟨L, rp, hr, hyes⟩ := parts_ev c hs
  by_cases hp : rp = 1
  · obtain ⟨l, hA, hre, hg, hnp⟩ := hyes hp
    subst hp
    obtain ⟨t0, h0⟩ := h0
    obtain ⟨t1, h1⟩ := h1
    have hlen := hA.len
    have hlne : l ≠ [] := by
      rintro rfl
      rw [h1] at hre; cases hre
    have hlp : 0 < l.length := List.length_pos_iff.2 hlne
    have hl1 : l.length ≤ 2 * npar l + 1 := (good_len hg).1
    have hrl : (render l).length ≤ 300 := by rw [hre, bs_len]; exact hs
    obtain ⟨rc, hrc, hrc3⟩ := Could_ev hA (by omega) (fun p hp => by have := con_le hp; omega) (con_ne hg) x0 (by omega) false
    have hcs : 1 ≤ c.size := by rw [← bs_len, h1]; simp
    have hw : wrap64 ((c.size : Int) - 1) = ((c.size - 1 : Nat) : Int) := w_pred c.size (by omega) (by omega)
    have hj5f : (npar l ≠ 0) → ∃ r, Ev (fun k => spec_Matches.j5 k x0 c st L false) r ∧ Says (bs x0) (bs c) r := by
      intro hn0
      have hsay : Says (bs x0) (bs c) rc := by
        rcases hrc3 with h | ⟨h, hc⟩ | ⟨h, hc, hpl⟩
        · exact .inl h
        · exact .inr ⟨l, hg, hnp, hre, .inr ⟨h, fun is ha => answer_no hg h0 ha hc⟩⟩
        · exact .inr ⟨l, hg, hnp, hre, .inl ⟨h, fun is ha => answer_yes hg ha hc hpl (by omega)⟩⟩
      have hb : Ev (fun k => (spec_Could.f k L x0 false).bind fun t => some t) rc := Ev.bind hrc (Ev.now _)
      cases st with
      | false =>
        refine ⟨rc, Ev.step (fun k => ?_) hb, hsay⟩
        simp only [spec_Matches.j5, Bool.false_eq_true, if_false]
      | true =>
        by_cases hl : bt c ((c.size - 1 : Nat) : Int) = 47
        · refine ⟨2, Ev.step (f := fun _ => some 2) (fun k => ?_) (Ev.now _), .inl rfl⟩
          simp only [spec_Matches.j5, Bool.false_eq_true, if_false, if_true]
          rw [hw, if_pos (by omega), if_pos (by omega), if_pos hl]
        · refine ⟨rc, Ev.step (fun k => ?_) hb, hsay⟩
          simp only [spec_Matches.j5, Bool.false_eq_true, if_false, if_true]
          rw [hw, if_pos (by omega), if_pos (by omega), if_neg hl]
    by_cases hL1 : L.length = 1
    · obtain ⟨p, hlp1⟩ : ∃ p, l = [p] := by
        rw [hlen] at hL1
        match l, hL1 with
        | [p], _ => exact ⟨p, rfl⟩
      subst hlp1
      obtain ⟨x, hx0, his⟩ := hA.get (i := 0) (p := p) rfl
      have hrd : rd_T42 L 0 = x := rd_of (i := 0) hx0
      cases hpar : p.par with
      | false =>
        obtain ⟨cc, rfl⟩ : ∃ cc, p = .const cc := by
          cases p with
          | const cc => exact ⟨cc, rfl⟩
          | _ => cases hpar
        have hrc' : render [Part.const cc] = cc := by simp [render, Part.rend]
        rw [hrc'] at hre
        have hb : Ev (fun k => spec_Matches.j5 k x0 c st L true) (if x0.toList = c.toList then 1 else 0) := by
          refine Ev.step (f := fun _ => some (if x0.toList = c.toList then 1 else 0)) (fun k => ?_) (Ev.now _)
          simp only [spec_Matches.j5, if_true]
          split <;> rfl
        refine ⟨_, Ev.step (fun k => ?_) (Ev.bind (f := fun k b => if b.2 = 1 then (if (b.1.length : Int) = 1 then (if 0 < (b.1.length : Int) then (spec_Matches.j5 k x0 c st b.1 (!((rd_T42 b.1 0).f2))) else none) else (spec_Matches.j5 k x0 c st b.1 false)) else some 2) hr (Ev.congr (fun k => ?_) hb)), .inr ⟨[.const cc], hg, hnp, by rw [hrc']; exact hre, ?_⟩⟩
        · simp only [spec_Matches.j4]
        · dsimp only
          rw [if_pos rfl, if_pos (by omega), if_pos (by omega), hrd, his.par, hpar]
          rfl
        · by_cases he : x0.toList = c.toList
          · rw [if_pos he]
            refine .inl ⟨rfl, fun is ha => (answer_const hg ha).2 ?_⟩
            rw [hre]; exact (toList_iff _ _).1 he
          · rw [if_neg he]
            refine .inr ⟨rfl, fun is ha => ?_⟩
            cases is with
            | false => rfl
            | true => exact absurd ((toList_iff _ _).2 (by rw [← hre]; exact (answer_const hg ha).1 rfl)) he
      | true =>
        obtain ⟨r, hrr, hsay⟩ := hj5f (by rw [npar_cons, hpar]; simp)
        refine ⟨r, Ev.step (fun k => ?_) (Ev.bind (f := fun k b => if b.2 = 1 then (if (b.1.length : Int) = 1 then (if 0 < (b.1.length : Int) then (spec_Matches.j5 k x0 c st b.1 (!((rd_T42 b.1 0).f2))) else none) else (spec_Matches.j5 k x0 c st b.1 false)) else some 2) hr ?_), hsay⟩
        · simp only [spec_Matches.j4]
        · refine Ev.congr (fun k => ?_) hrr
          dsimp only
          rw [if_pos rfl, if_pos (by omega), if_pos (by omega), hrd, his.par, hpar]
          rfl
    · have hn0 : npar l ≠ 0 := by
        intro h
        obtain ⟨c', rfl⟩ := one_const hg h hlne
        rw [hlen] at hL1; exact hL1 rfl
      obtain ⟨r, hrr, hsay⟩ := hj5f hn0
      refine ⟨r, Ev.step (fun k => ?_) (Ev.bind (f := fun k b => if b.2 = 1 then (if (b.1.length : Int) = 1 then (if 0 < (b.1.length : Int) then (spec_Matches.j5 k x0 c st b.1 (!((rd_T42 b.1 0).f2))) else none) else (spec_Matches.j5 k x0 c st b.1 false)) else some 2) hr ?_), hsay⟩
      · simp only [spec_Matches.j4]
      · refine Ev.congr (fun k => ?_) hrr
        dsimp only
        rw [if_pos rfl, if_neg (by omega)]
  · refine ⟨2, Ev.step (fun k => ?_) (Ev.bind (f := fun k b => if b.2 = 1 then (if (b.1.length : Int) = 1 then (if 0 < (b.1.length : Int) then (spec_Matches.j5 k x0 c st b.1 (!((rd_T42 b.1 0).f2))) else none) else (spec_Matches.j5 k x0 c st b.1 false)) else some 2) hr ?_), .inl rfl⟩
    · simp only [spec_Matches.j4]
    · refine Ev.congr (f := fun _ => some 2) (fun k => ?_) (Ev.now _)
      dsimp only
      rw [if_neg hp]
theorem pre47 (s : Bytes) : ([47] : Bytes) <+: s ↔ ∃ t, s = 47 :: t := by
  constructor
  · rintro ⟨t, h⟩; exact ⟨t, h.symm⟩
  · rintro ⟨t, rfl⟩; exact ⟨t, rfl⟩
theorem p2_47 {s : Bytes} (sens : Bool) (h : ∃ t, s = 47 :: t) : ∃ t, p2 sens s = 47 :: t := by
  obtain ⟨t, rfl⟩ := h
  cases sens with
  | true => exact ⟨t, rfl⟩
  | false => exact ⟨low t, rfl⟩
theorem fpath_47 {s : Bytes} (sens : Bool) (h : ∃ t, s = 47 :: t) : fpath s sens = p2 sens s := by
  obtain ⟨t, rfl⟩ := h
  rfl
theorem fpat_47 {s : Bytes} (sens strict : Bool) (h : ∃ t, s = 47 :: t) : fpat s sens strict = p3 strict (p2 sens s) := by
  obtain ⟨t, rfl⟩ := h
  rfl
theorem p3n_47 {s : Bytes} (h : ∃ t, s = 47 :: t) (hn : s.length ≤ 1 ∨ trimR s ≠ []) : ∃ t, p3n s = 47 :: t := by
  unfold p3n
  by_cases h1 : 1 < s.length
  · rw [if_pos h1]
    have hne : trimR s ≠ [] := by
      rcases hn with h | h
      · omega
      · exact h
    have hh := head_of_pre (trimR_prefix s) hne
    obtain ⟨t, rfl⟩ := h
    cases ht : trimR (47 :: t) with
    | nil => exact absurd ht hne
    | cons x u =>
      rw [ht] at hh
      obtain rfl : x = 47 := by simpa using hh
      exact ⟨u, rfl⟩
  · rw [if_neg h1]; exact h

/-- Behind the letters. -/
theorem matches_j1 (x0 x1 : ByteArray) (st : Bool) (hs : x1.size ≤ 300) (hx : x0.size ≤ 100) (h0 : ∃ t, bs x0 = 47 :: t) (h1 : ∃ t, bs x1 = 47 :: t) (hT : x1.size ≤ 1 ∨ trimR (bs x1) ≠ []) :
    ∃ r, Ev (fun k => spec_Matches.j1 k x0 x1 st) r ∧ Says (bs x0) (p3 st (bs x1)) r := by
  cases st with
  | true =>
    obtain ⟨r, hr, hsay⟩ := matches_j4 x0 x1 true hs hx h0 h1
    refine ⟨r, Ev.step (fun k => ?_) hr, ?_⟩
    · simp only [spec_Matches.j1, if_true]
    · unfold p3; rw [if_neg (by simp)]; exact hsay
  | false =>
    have e3 : p3 false (bs x1) = p3n (bs x1) := by unfold p3 p3n; simp
    rw [e3]
    obtain ⟨c', hc', hsz, hl0⟩ := matches_l0 x0 false x1.size x1 rfl hs hT
    obtain ⟨r, hr, hsay⟩ := matches_j4 x0 c' false (by omega) hx h0 (by rw [hc']; exact p3n_47 h1 (by rw [bs_len]; exact hT))
    rw [hc'] at hsay
    have hl := hl0 r hr
    have hj2 : Ev (fun k => spec_Matches.j2 k x0 x1 false false) r := by
      refine Ev.step (fun k => ?_) hl
      simp only [spec_Matches.j2, Bool.false_eq_true, if_false]
    by_cases hx1 : (x0.size : Int) > 1
    · have hw : wrap64 ((x0.size : Int) - 1) = ((x0.size - 1 : Nat) : Int) := w_pred x0.size (by omega) (by omega)
      cases hb : (bt x0 ((x0.size - 1 : Nat) : Int) == 47) with
      | true =>
        refine ⟨2, Ev.step (f := fun k => spec_Matches.j2 k x0 x1 false true) (fun k => ?_) (Ev.step (f := fun _ => some 2) (fun k => ?_) (Ev.now _)), .inl rfl⟩
        · simp only [spec_Matches.j1, Bool.false_eq_true, if_false]
          rw [if_pos hx1, hw, if_pos (by omega), if_pos (by omega), hb]
        · simp only [spec_Matches.j2, if_true]
      | false =>
        refine ⟨r, Ev.step (fun k => ?_) hj2, hsay⟩
        simp only [spec_Matches.j1, Bool.false_eq_true, if_false]
        rw [if_pos hx1, hw, if_pos (by omega), if_pos (by omega), hb]
    · refine ⟨r, Ev.step (fun k => ?_) hj2, hsay⟩
      simp only [spec_Matches.j1, Bool.false_eq_true, if_false]
      rw [if_neg hx1]

/-- MATCHES: it comes to an end; what it says is said of what the program answers. -/
theorem matches_ev (path pat : ByteArray) (sens strict : Bool) (hs : pat.size ≤ 300) (hp : path.size ≤ 100) :
    ∃ r, Ev (fun k => spec_Matches.f k path pat sens strict) r ∧ Says (fpath (bs path) sens) (fpat (bs pat) sens strict) r := by
  have hlit : bs (⟨#[47]⟩ : ByteArray) = [47] := rfl
  have hopen : Ev (fun k => spec_Matches.j0 k path pat sens strict true) 2 := by
    refine Ev.step (f := fun _ => some 2) (fun k => ?_) (Ev.now _)
    simp only [spec_Matches.j0, if_true]
  by_cases h0 : ([47] : Bytes) <+: bs path
  · by_cases h1 : ([47] : Bytes) <+: bs pat
    · have h0' := (pre47 _).1 h0
      have h1' := (pre47 _).1 h1
      rw [fpath_47 sens h0', fpat_47 sens strict h1']
      have hgo : (pat.size ≤ 1 ∨ trimR (bs pat) ≠ []) → ∃ r, Ev (fun k => spec_Matches.j0 k path pat sens strict false) r ∧ Says (p2 sens (bs path)) (p3 strict (p2 sens (bs pat))) r := by
        intro hT
        cases sens with
        | true =>
          obtain ⟨r, hr, hsay⟩ := matches_j1 path pat strict hs hp h0' h1' hT
          refine ⟨r, Ev.step (fun k => ?_) hr, hsay⟩
          simp only [spec_Matches.j0, Bool.false_eq_true, if_false, if_true]
        | false =>
          have e0 : bs (lowS path) = p2 false (bs path) := bs_low path
          have e1 : bs (lowS pat) = p2 false (bs pat) := bs_low pat
          obtain ⟨r, hr, hsay⟩ := matches_j1 (lowS path) (lowS pat) strict (by rw [size_low]; exact hs) (by rw [size_low]; exact hp) (by rw [e0]; exact p2_47 false h0') (by rw [e1]; exact p2_47 false h1') (by
            rw [size_low]
            rcases hT with h | h
            · exact .inl h
            · right
              rw [bs_low, trimR_low]
              intro e
              exact h (List.map_eq_nil_iff.1 e))
          rw [e0, e1] at hsay
          refine ⟨r, Ev.step (fun k => ?_) hr, hsay⟩
          have f0 : spec_lower.f path = some (lowS path) := by unfold spec_lower.f; rw [if_pos (by omega)]
          have f1 : spec_lower.f pat = some (lowS pat) := by unfold spec_lower.f; rw [if_pos (by omega)]
          simp only [spec_Matches.j0, Bool.false_eq_true, if_false]
          rw [f0, f1]; rfl
      have hf : ∀ k, spec_Matches.f k path pat sens strict = if (pat.size : Int) > 1 then (spec_short.f k pat).bind fun t201 => spec_Matches.j0 k path pat sens strict t201 else spec_Matches.j0 k path pat sens strict false := by
        intro k
        unfold spec_Matches.f
        rw [begins_iff, begins_iff, hlit, decide_eq_true h0, decide_eq_true h1]
        rfl
      by_cases hsz : (pat.size : Int) > 1
      · obtain ⟨b, hb, hok⟩ := short_ev pat (by omega)
        cases b with
        | true =>
          refine ⟨2, Ev.congr (fun k => ?_) (Ev.bind hb hopen), .inl rfl⟩
          rw [hf, if_pos hsz]
        | false =>
          obtain ⟨r, hr, hsay⟩ := hgo (by
            right
            rcases hok rfl (by omega) with h | h
            · have := congrArg List.length h
              rw [bs_len] at this
              simp at this; omega
            · intro e; rw [e] at h; simp at h)
          refine ⟨r, Ev.congr (fun k => ?_) (Ev.bind hb hr), hsay⟩
          rw [hf, if_pos hsz]
      · obtain ⟨r, hr, hsay⟩ := hgo (.inl (by omega))
        refine ⟨r, Ev.congr (fun k => ?_) hr, hsay⟩
        rw [hf, if_neg hsz]
    · refine ⟨2, Ev.congr (fun k => ?_) hopen, .inl rfl⟩
      unfold spec_Matches.f
      rw [begins_iff, begins_iff, hlit, decide_eq_true h0, decide_eq_false h1]
      rfl
  · refine ⟨2, Ev.congr (fun k => ?_) hopen, .inl rfl⟩
    unfold spec_Matches.f
    rw [begins_iff, hlit, decide_eq_false h0]
    rfl
end Go.Proofs.YtfahabnjplnbmaaGreatDoor.QL
