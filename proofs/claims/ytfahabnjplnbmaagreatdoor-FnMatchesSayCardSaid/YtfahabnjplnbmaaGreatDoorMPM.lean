/- The plain law of a pattern that is matched: what small letters, a slash ahead and no slash at the end do to a pattern's parts; a pattern's own text can be a path of it. No program in sight. -/
import Derived.Test.YtfahabnjplnbmaaGreatDoorMPlain
namespace Go.Proofs.YtfahabnjplnbmaaGreatDoor.Pl

def lowB (c : UInt8) : UInt8 := if 65 ≤ c && c ≤ 90 then c + 32 else c
def low (l : Bytes) : Bytes := l.map lowB
theorem lowB_fin : ∀ n : Fin 256, nameB (lowB (UInt8.ofNat n.val)) = nameB (UInt8.ofNat n.val) ∧ constB (lowB (UInt8.ofNat n.val)) = constB (UInt8.ofNat n.val) ∧ (lowB (UInt8.ofNat n.val) == 47) = (UInt8.ofNat n.val == 47) := by decide +kernel
theorem lowB_all (c : UInt8) : nameB (lowB c) = nameB c ∧ constB (lowB c) = constB c ∧ (lowB c == 47) = (c == 47) := by
  have := lowB_fin ⟨c.toNat, c.toNat_lt⟩
  simpa using this

def Part.low : Part → Part
  | .const c => .const (Pl.low c)
  | .named nm o => .named (Pl.low nm) o
  | .star => .star
  | .plus => .plus
theorem low_append (a b : Bytes) : low (a ++ b) = low a ++ low b := by simp [low]
theorem rend_low (p : Part) : p.low.rend = low p.rend := by
  cases p with
  | const c => rfl
  | named nm o => cases o <;> simp [Part.low, Part.rend, low] <;> decide
  | star => decide
  | plus => decide
theorem render_low (l : List Part) : render (l.map Part.low) = low (render l) := by
  induction l with
  | nil => rfl
  | cons p t ih =>
    show p.low.rend ++ render (t.map Part.low) = low (p.rend ++ render t)
    rw [low_append, rend_low, ih]
theorem trimR_low (c : Bytes) : trimR (low c) = low (trimR c) := by
  unfold trimR low
  rw [← List.map_reverse, List.dropWhile_map, List.map_reverse]
  congr 3
  funext x
  exact (lowB_all x).2.2
theorem one_low {p : Part} (h : One p) : One p.low := by
  cases p with
  | const c =>
    refine ⟨by simpa [Pl.low] using h.1, fun x hx => ?_⟩
    obtain ⟨y, hy, rfl⟩ := List.mem_map.1 hx
    rw [(lowB_all y).2.1]; exact h.2 y hy
  | named nm o =>
    refine ⟨by simpa [Pl.low] using h.1, fun x hx => ?_⟩
    obtain ⟨y, hy, rfl⟩ := List.mem_map.1 hx
    rw [(lowB_all y).1]; exact h.2 y hy
  | star => trivial
  | plus => trivial
theorem okAfter_low {c : Bytes} (h : OkAfter c) : OkAfter (low c) := by
  rcases h with rfl | h
  · left; decide
  · right
    rw [trimR_low]
    simpa [low] using h
theorem pair_low {p q : Part} (h : Pair p q) : Pair p.low q.low := by
  cases p <;> cases q <;> first | exact h | exact absurd h id | skip
  case named.const nm o c =>
    refine ⟨fun ho x hx => ?_, okAfter_low h.2⟩
    cases c with
    | nil => cases hx
    | cons y c =>
      have : lowB y = x := by simpa [Part.low, Pl.low] using hx
      subst this
      rw [(lowB_all y).1]; exact h.1 ho y rfl
theorem good_low : ∀ {l : List Part}, Good l → Good (l.map Part.low)
  | [], _ => trivial
  | [_], h => one_low (show One _ from h)
  | _ :: _ :: _, h => ⟨one_low h.1, pair_low h.2.1, good_low h.2.2⟩
theorem par_low (p : Part) : p.low.par = p.par := by cases p <;> rfl
theorem npar_low (l : List Part) : npar (l.map Part.low) = npar l := by
  induction l with
  | nil => rfl
  | cons p t ih =>
    unfold npar at *
    rw [List.map_cons, List.filter_cons, List.filter_cons, par_low]
    cases p.par <;> simp [ih]
theorem npar_cons (p : Part) (t : List Part) : npar (p :: t) = npar t + (if p.par then 1 else 0) := by
  unfold npar
  rw [List.filter_cons]
  cases p.par <;> simp

/-- A slash ahead. -/
theorem good_slash {l : List Part} (h : Good l) : ∃ l', Good l' ∧ render l' = 47 :: render l ∧ npar l' = npar l := by
  have h47 : One (.const [47]) := ⟨by simp, fun x hx => by rw [List.mem_singleton.1 hx]; rfl⟩
  cases l with
  | nil => exact ⟨[.const [47]], h47, rfl, rfl⟩
  | cons p t =>
    cases p with
    | const c =>
      refine ⟨.const (47 :: c) :: t, ?_, rfl, by rw [npar_cons, npar_cons]; rfl⟩
      have h1 : One (.const (47 :: c)) := ⟨by simp, fun x hx => by
        rcases List.mem_cons.1 hx with rfl | hx
        · rfl
        · exact h.one.2 x hx⟩
      cases t with
      | nil => exact h1
      | cons q t =>
        refine ⟨h1, ?_, h.2.2⟩
        have := h.2.1
        cases q <;> first | exact absurd this id | trivial
    | named nm o => exact ⟨.const [47] :: .named nm o :: t, ⟨h47, trivial, h⟩, rfl, by rw [npar_cons]; rfl⟩
    | star => exact ⟨.const [47] :: .star :: t, ⟨h47, trivial, h⟩, rfl, by rw [npar_cons]; rfl⟩
    | plus => exact ⟨.const [47] :: .plus :: t, ⟨h47, trivial, h⟩, rfl, by rw [npar_cons]; rfl⟩

theorem trimR_append (a b : Bytes) : trimR (a ++ b) = if trimR b = [] then trimR a else a ++ trimR b := by
  unfold trimR
  rw [List.reverse_append, List.dropWhile_append]
  cases h : List.dropWhile (fun x => x == 47) b.reverse with
  | nil => simp
  | cons x t => simp
theorem trimR_same {c : Bytes} (h : c.getLast? ≠ some 47) : trimR c = c := by
  unfold trimR
  have : c.reverse.dropWhile (· == 47) = c.reverse := by
    cases hc : c.reverse with
    | nil => rfl
    | cons x t =>
      have hx : c.getLast? = some x := by rw [List.getLast?_eq_head?_reverse, hc]; rfl
      rw [hx] at h
      have hb : (x == 47) = false := by rw [beq_eq_false_iff_ne]; intro e; exact h (by rw [e])
      rw [List.dropWhile_cons_of_neg (by rw [hb]; simp)]
  rw [this, List.reverse_reverse]
theorem trimR_last (c : Bytes) : (trimR c).getLast? ≠ some 47 := by
  unfold trimR
  rw [List.getLast?_reverse]
  intro h
  have := List.head?_dropWhile_not (fun x : UInt8 => x == 47) c.reverse
  rw [h] at this
  simp at this
theorem trimR_idem (c : Bytes) : trimR (trimR c) = trimR c := trimR_same (trimR_last c)
theorem rend_last {p : Part} (h : One p) (hp : p.par = true) : p.rend.getLast? ≠ some 47 := by
  cases p with
  | const => cases hp
  | star => decide
  | plus => decide
  | named nm o =>
    cases o with
    | true =>
      have : (58 :: (nm ++ [63]) : Bytes) = (58 :: nm) ++ [63] := rfl
      simp only [Part.rend, if_true]
      rw [this, List.getLast?_concat]
      decide
    | false =>
      simp only [Part.rend, Bool.false_eq_true, if_false, List.append_nil]
      obtain ⟨x, hx⟩ : ∃ x, nm.getLast? = some x := by
        cases hn : nm.getLast? with
        | none => exact absurd (List.getLast?_eq_none_iff.1 hn) h.1
        | some x => exact ⟨x, rfl⟩
      have h2 := h.2 x (List.mem_of_getLast? hx)
      rw [List.getLast?_cons, hx]
      intro e
      simp at e
      subst e
      exact absurd h2 (by decide)
theorem rend_ne {p : Part} (h : One p) : p.rend ≠ [] := by
  cases p with
  | const c => exact h.1
  | named => simp [Part.rend]
  | star => simp [Part.rend]
  | plus => simp [Part.rend]

/-- The parts without the slashes at the end. -/
def trimL : List Part → List Part
  | [] => []
  | p :: t => match trimL t with
    | [] => match p with
      | .const c => if trimR c = [] then [] else [.const (trimR c)]
      | p => [p]
    | q :: t' => p :: q :: t'
theorem okAfter_trim {c : Bytes} (h : OkAfter c) (hn : trimR c ≠ []) : OkAfter (trimR c) := by
  rcases h with rfl | h
  · exact absurd (by decide) hn
  · right; rw [trimR_idem]; exact h
theorem one_trim {c : Bytes} (h : One (.const c)) (hn : trimR c ≠ []) : One (.const (trimR c)) := ⟨hn, fun x hx => h.2 x ((trimR_prefix c).subset hx)⟩
theorem pair_trim {p : Part} {c : Bytes} (h : Pair p (.const c)) (hn : trimR c ≠ []) : Pair p (.const (trimR c)) := by
  cases p with
  | const => exact h
  | named nm o =>
    refine ⟨fun ho x hx => h.1 ho x ?_, okAfter_trim h.2 hn⟩
    rw [← head_of_pre (trimR_prefix c) hn]; exact hx
  | star => exact h
  | plus => exact h

theorem trimL_all : ∀ {l : List Part}, Good l → Good (trimL l) ∧ render (trimL l) = trimR (render l) ∧ npar (trimL l) = npar l ∧
    (∀ q t, trimL l = q :: t → ∃ q0 t0, l = q0 :: t0 ∧ (q = q0 ∨ ∃ c, q0 = .const c ∧ trimR c ≠ [] ∧ q = .const (trimR c)))
  | [], _ => ⟨trivial, rfl, rfl, fun _ _ h => by cases h⟩
  | p :: t, h => by
    obtain ⟨h1, h2, h3, h4⟩ := trimL_all h.tail
    have hr : render (p :: t) = p.rend ++ render t := rfl
    have hone := h.one
    cases ht : trimL t with
    | nil =>
      rw [ht] at h2 h3
      have h2' : trimR (render t) = [] := h2.symm
      cases p with
      | const c =>
        have e : trimL (.const c :: t) = if trimR c = [] then [] else [.const (trimR c)] := by simp only [trimL, ht]
        rw [e, hr, trimR_append, if_pos h2']
        have hnp : npar (.const c :: t) = 0 := by rw [npar_cons, ← h3]; rfl
        by_cases hn : trimR c = []
        · rw [if_pos hn]
          exact ⟨trivial, hn.symm, hnp.symm, fun _ _ h => by cases h⟩
        · rw [if_neg hn]
          refine ⟨one_trim hone hn, by simp [render, Part.rend], hnp.symm, fun q t' he => ?_⟩
          cases he
          exact ⟨_, _, rfl, .inr ⟨c, rfl, hn, rfl⟩⟩
      | named nm o =>
        have e : trimL (.named nm o :: t) = [.named nm o] := by simp only [trimL, ht]
        rw [e, hr, trimR_append, if_pos h2', trimR_same (rend_last hone rfl)]
        exact ⟨hone, by simp [render], by rw [npar_cons, npar_cons, ← h3], fun q t' he => by cases he; exact ⟨_, _, rfl, .inl rfl⟩⟩
      | star =>
        have e : trimL (.star :: t) = [.star] := by simp only [trimL, ht]
        rw [e, hr, trimR_append, if_pos h2', trimR_same (rend_last hone rfl)]
        exact ⟨hone, by simp [render], by rw [npar_cons, npar_cons, ← h3], fun q t' he => by cases he; exact ⟨_, _, rfl, .inl rfl⟩⟩
      | plus =>
        have e : trimL (.plus :: t) = [.plus] := by simp only [trimL, ht]
        rw [e, hr, trimR_append, if_pos h2', trimR_same (rend_last hone rfl)]
        exact ⟨hone, by simp [render], by rw [npar_cons, npar_cons, ← h3], fun q t' he => by cases he; exact ⟨_, _, rfl, .inl rfl⟩⟩
    | cons q t' =>
      have e : trimL (p :: t) = p :: q :: t' := by simp only [trimL, ht]
      rw [ht] at h1 h2 h3 h4
      have hne : trimR (render t) ≠ [] := by
        rw [← h2]
        intro e
        have h5 := rend_ne h1.one
        have : q.rend ++ render t' = [] := e
        exact h5 (List.append_eq_nil_iff.1 this).1
      rw [e, hr, trimR_append, if_neg hne]
      refine ⟨⟨hone, ?_, h1⟩, ?_, by rw [npar_cons p, npar_cons p, h3], fun q' t'' he => by cases he; exact ⟨_, _, rfl, .inl rfl⟩⟩
      · obtain ⟨q0, t0, rfl, hq⟩ := h4 q t' rfl
        rcases hq with rfl | ⟨c, rfl, hn, rfl⟩
        · exact h.2.1
        · exact pair_trim h.2.1 hn
      · rw [← h2]; rfl
theorem good_trim {l : List Part} (h : Good l) : ∃ l', Good l' ∧ render l' = trimR (render l) ∧ npar l' = npar l :=
  ⟨trimL l, (trimL_all h).1, (trimL_all h).2.1, (trimL_all h).2.2.1⟩

/-- A pattern's own text is a path that it can take. -/
theorem self_can : ∀ {l : List Part}, Good l → CanBe l (render l) false
  | [], _ => .inr rfl
  | p :: t, h => by
    have ih := self_can h.tail
    have hr : render (p :: t) = p.rend ++ render t := rfl
    rw [hr]
    have hd : (p.rend ++ render t).drop p.rend.length = render t := List.drop_left
    have htk : (p.rend ++ render t).take p.rend.length = p.rend := List.take_left
    have hlen : p.rend.length ≤ (p.rend ++ render t).length := by rw [List.length_append]; omega
    have hpos : p.rend.length ≠ 0 := fun e => rend_ne h.one (List.eq_nil_of_length_eq_zero e)
    cases p with
    | const c => exact .inr ⟨rfl, .inl ⟨List.prefix_append _ _, by rw [show (Part.const c).con = (Part.const c).rend from rfl, hd]; exact ih⟩⟩
    | named nm o =>
      refine .inl ⟨rfl, _, hlen, .inr ?_, fun e => absurd e hpos, by rw [hd]; exact ih⟩
      rw [htk]
      intro hm
      rcases List.mem_cons.1 hm with e | hm
      · exact absurd e (by decide)
      · rcases List.mem_append.1 hm with hm | hm
        · exact absurd (h.one.2 _ hm) (by decide)
        · cases o with
          | true => simp at hm
          | false => simp at hm
    | star => exact .inl ⟨rfl, _, hlen, .inl rfl, fun e => absurd e hpos, by rw [hd]; exact ih⟩
    | plus => exact .inl ⟨rfl, _, hlen, .inl rfl, fun e => absurd e hpos, by rw [hd]; exact ih⟩

/-- The pattern of a slash and a star. -/
theorem slash_star {l : List Part} (h : Good l) (hr : render l = [47, 42]) (s : Bytes) : CanBe l (47 :: s) false := by
  cases l with
  | nil => cases hr
  | cons p t =>
    have hr' : p.rend ++ render t = [47, 42] := hr
    cases p with
    | named nm o => simp [Part.rend] at hr'
    | star => simp [Part.rend] at hr'
    | plus => simp [Part.rend] at hr'
    | const c =>
      have h1 := h.one
      cases c with
      | nil => exact absurd rfl h1.1
      | cons x c =>
        simp only [Part.rend, List.cons_append, List.cons.injEq] at hr'
        obtain ⟨rfl, hr'⟩ := hr'
        cases c with
        | cons y c =>
          simp only [List.cons_append, List.cons.injEq] at hr'
          have := h1.2 y (by simp)
          rw [hr'.1] at this
          exact absurd this (by decide)
        | nil =>
          rw [List.nil_append] at hr'
          refine .inr ⟨rfl, .inl ⟨⟨s, rfl⟩, ?_⟩⟩
          show CanBe t s false
          cases t with
          | nil => cases hr'
          | cons q t =>
            have hr2 : q.rend ++ render t = [42] := hr'
            cases q with
            | const c =>
              have := h.2.1
              exact absurd this id
            | named nm o => simp [Part.rend] at hr2
            | plus => simp [Part.rend] at hr2
            | star =>
              refine .inl ⟨rfl, s.length, Nat.le_refl _, .inl rfl, fun _ => rfl, ?_⟩
              have ht : render t = [] := by simpa [Part.rend] using hr2
              rw [List.drop_length]
              cases t with
              | nil => exact .inr rfl
              | cons r t =>
                have : r.rend ++ render t = [] := ht
                exact absurd (List.append_eq_nil_iff.1 this).1 (rend_ne h.tail.tail.one)

/-- A pattern without parameters is one constant part. -/
theorem one_const {l : List Part} (h : Good l) (hn : npar l = 0) (hne : l ≠ []) : ∃ c, l = [.const c] := by
  cases l with
  | nil => exact absurd rfl hne
  | cons p t =>
    rw [npar_cons] at hn
    cases p with
    | const c =>
      cases t with
      | nil => exact ⟨c, rfl⟩
      | cons q t =>
        rw [npar_cons] at hn
        cases q with
        | const c' => exact absurd h.2.1 id
        | _ => simp [Part.par] at hn
    | _ => simp [Part.par] at hn

/-- How many parts there are, at most. -/
theorem good_len : ∀ {l : List Part}, Good l → l.length ≤ 2 * npar l + 1 ∧ (∀ p t, l = p :: t → p.par = true → l.length ≤ 2 * npar l)
  | [], _ => ⟨by simp, fun _ _ h => by cases h⟩
  | p :: t, h => by
    obtain ⟨h1, h2⟩ := good_len h.tail
    have hn := npar_cons p t
    rw [List.length_cons, hn]
    cases hp : p.par with
    | true =>
      refine ⟨by simp only [if_true]; omega, fun p' t' he hp' => by simp only [if_true]; omega⟩
    | false =>
      refine ⟨?_, fun p' t' he hp' => by cases he; rw [hp] at hp'; cases hp'⟩
      cases t with
      | nil => simp
      | cons q t =>
        have hq : q.par = true := by
          have := h.2.1
          cases p with
          | const => cases q with
            | const => exact absurd this id
            | _ => rfl
          | _ => cases hp
        have := h2 q t rfl hq
        simp only [Bool.false_eq_true, if_false]
        omega
theorem good_mem : ∀ {l : List Part}, Good l → ∀ p ∈ l, One p
  | [], _, p, hp => by cases hp
  | q :: t, h, p, hp => by
    rcases List.mem_cons.1 hp with rfl | hp
    · exact h.one
    · exact good_mem h.tail p hp
theorem con_le {l : List Part} {p : Part} (hp : p ∈ l) : p.con.length ≤ (render l).length := by
  induction l with
  | nil => cases hp
  | cons q t ih =>
    have hr : render (q :: t) = q.rend ++ render t := rfl
    rw [hr, List.length_append]
    rcases List.mem_cons.1 hp with rfl | hp
    · cases p <;> simp [Part.con, Part.rend]
    · have := ih hp; omega
theorem con_ne {l : List Part} (h : Good l) : ∀ p ∈ l, p.par = false → p.con ≠ [] := by
  intro p hp hpar
  have := good_mem h p hp
  cases p with
  | const c => exact this.1
  | _ => cases hpar

/-- What the program answers, by the run over the parts. -/
def Answer (l : List Part) (path : Bytes) (is : Bool) : Prop :=
  (is = true → (render l = [47] ∧ path = [47]) ∨ render l = [47, 42] ∨ (0 < npar l ∧ ∃ vs, Run l path false (some vs)) ∨ render l = path) ∧
  (is = false → render l ≠ path ∧ (0 < npar l → Run l path false none))

/-- The answer for one constant part. -/
theorem answer_const {c path : Bytes} {is : Bool} (hg : Good [.const c]) (h : Answer [.const c] path is) : is = true ↔ path = c := by
  have hr : render [.const c] = c := by simp [render, Part.rend]
  unfold Answer at h
  rw [hr] at h
  constructor
  · intro hi
    rcases h.1 hi with ⟨rfl, rfl⟩ | rfl | ⟨h, _⟩ | rfl
    · rfl
    · exact absurd (hg.2 42 (by simp)) (by decide)
    · simp [npar, Part.par] at h
    · rfl
  · rintro rfl
    cases is with
    | true => rfl
    | false => exact absurd rfl (h.2 rfl).1
/-- Where the path cannot be taken the answer is no. -/
theorem answer_no {l : List Part} {path s : Bytes} {is : Bool} (hg : Good l) (hp : path = 47 :: s) (h : Answer l path is) (hc : ¬ CanBe l path false) : is = false := by
  cases is with
  | false => rfl
  | true =>
    exfalso
    rcases h.1 rfl with ⟨h1, h2⟩ | h1 | ⟨_, vs, h1⟩ | h1
    · apply hc; rw [h2, ← h1]; exact self_can hg
    · apply hc; rw [hp]; exact slash_star hg h1 s
    · exact hc (hold_can (sound h1 vs rfl hg))
    · apply hc; rw [← h1]; exact self_can hg
/-- Where a plain pattern of parameters can take the path the answer is yes. -/
theorem answer_yes {l : List Part} {path : Bytes} {is : Bool} (hg : Good l) (h : Answer l path is) (hc : CanBe l path false) (hpl : Plain l) (hn : 0 < npar l) : is = true := by
  cases is with
  | true => rfl
  | false => exact absurd hc (complete ((h.2 rfl).2 hn) rfl hpl hg)

/-- The path and the pattern as RoutePatternMatch makes them. -/
def p0 (s : Bytes) : Bytes := if s = [] then [47] else s
def p1 (s : Bytes) : Bytes := if s.head? = some 47 then s else 47 :: s
def p2 (sens : Bool) (s : Bytes) : Bytes := if sens = true then s else low s
def p3 (strict : Bool) (s : Bytes) : Bytes := if strict = false ∧ 1 < s.length then trimR s else s
def fpath (s : Bytes) (sens : Bool) : Bytes := p2 sens (p0 s)
def fpat (s : Bytes) (sens strict : Bool) : Bytes := p3 strict (p2 sens (p1 (p0 s)))

theorem p0_ne (s : Bytes) : p0 s ≠ [] := by unfold p0; split <;> simp_all

end Go.Proofs.YtfahabnjplnbmaaGreatDoor.Pl
