/- The plain law of a pattern that is matched: what small letters, a slash ahead and no slash at the end do to a pattern's parts; a pattern's own text can be a path of it. No program in sight. -/
import Derived.Test.YtfahabnjplnbmaaGreatDoorVPlain
namespace Go.Proofs.YtfahabnjplnbmaaGreatDoor.Pl

def lowB (c : UInt8) : UInt8 := if 65 ≤ c && c ≤ 90 then c + 32 else c
def low (l : Bytes) : Bytes := l.map lowB

def Part.low : Part → Part
  | .const c => .const (Pl.low c)
  | .named nm o => .named (Pl.low nm) o
  | .star => .star
  | .plus => .plus
theorem npar_cons (p : Part) (t : List Part) : npar (p :: t) = npar t + (if p.par then 1 else 0) := by
  unfold npar
  rw [List.filter_cons]
  cases p.par <;> simp

theorem trimR_append (a b : Bytes) : trimR (a ++ b) = if trimR b = [] then trimR a else a ++ trimR b := by
  unfold trimR
  rw [List.reverse_append, List.dropWhile_append]
  cases h : List.dropWhile (fun x => x == 47) b.reverse with
  | nil => simp
  | cons x t => simp
theorem trimR_same {c : Bytes} (h : c.getLast? ≠ some 47) : trimR c = c := by
  unfold trimR
  have : c.reverse.dropWhile (· == 47) = c.reverse := by
    cases hc : c.reverse with
    | nil => rfl
    | cons x t =>
      have hx : c.getLast? = some x := by rw [List.getLast?_eq_head?_reverse, hc]; rfl
      rw [hx] at h
      have hb : (x == 47) = false := by rw [beq_eq_false_iff_ne]; intro e; exact h (by rw [e])
      rw [List.dropWhile_cons_of_neg (by rw [hb]; simp)]
  rw [this, List.reverse_reverse]
theorem trimR_last (c : Bytes) : (trimR c).getLast? ≠ some 47 := by
  unfold trimR
  rw [List.getLast?_reverse]
  intro h
  have := List.head?_dropWhile_not (fun x : UInt8 => x == 47) c.reverse
  rw [h] at this
  simp at this
theorem trimR_idem (c : Bytes) : trimR (trimR c) = trimR c := trimR_same (trimR_last c)
theorem rend_last {p : Part} (h : One p) (hp : p.par = true) : p.rend.getLast? ≠ some 47 := by
  cases p with
  | const => cases hp
  | star => decide
  | plus => decide
  | named nm o =>
    cases o with
    | true =>
      have : (58 :: (nm ++ [63]) : Bytes) = (58 :: nm) ++ [63] := rfl
      simp only [Part.rend, if_true]
      rw [this, List.getLast?_concat]
      decide
    | false =>
      simp only [Part.rend, Bool.false_eq_true, if_false, List.append_nil]
      obtain ⟨x, hx⟩ : ∃ x, nm.getLast? = some x := by
        cases hn : nm.getLast? with
        | none => exact absurd (List.getLast?_eq_none_iff.1 hn) h.1
        | some x => exact ⟨x, rfl⟩
      have h2 := h.2 x (List.mem_of_getLast? hx)
      rw [List.getLast?_cons, hx]
      intro e
      simp at e
      subst e
      exact absurd h2 (by decide)
theorem rend_ne {p : Part} (h : One p) : p.rend ≠ [] := by
  cases p with
  | const c => exact h.1
  | named => simp [Part.rend]
  | star => simp [Part.rend]
  | plus => simp [Part.rend]

/-- The parts without the slashes at the end. -/
def trimL : List Part → List Part
  | [] => []
  | p :: t => match trimL t with
    | [] => match p with
      | .const c => if trimR c = [] then [] else [.const (trimR c)]
      | p => [p]
    | q :: t' => p :: q :: t'
theorem okAfter_trim {c : Bytes} (h : OkAfter c) (hn : trimR c ≠ []) : OkAfter (trimR c) := by
  rcases h with rfl | h
  · exact absurd (by decide) hn
  · right; rw [trimR_idem]; exact h
theorem one_trim {c : Bytes} (h : One (.const c)) (hn : trimR c ≠ []) : One (.const (trimR c)) := ⟨hn, fun x hx => h.2 x ((trimR_prefix c).subset hx)⟩
theorem pair_trim {p : Part} {c : Bytes} (h : Pair p (.const c)) (hn : trimR c ≠ []) : Pair p (.const (trimR c)) := by
  cases p with
  | const => exact h
  | named nm o =>
    refine ⟨fun ho x hx => h.1 ho x ?_, okAfter_trim h.2 hn⟩
    rw [← head_of_pre (trimR_prefix c) hn]; exact hx
  | star => exact h
  | plus => exact h

theorem trimL_all : ∀ {l : List Part}, Good l → Good (trimL l) ∧ render (trimL l) = trimR (render l) ∧ npar (trimL l) = npar l ∧
    (∀ q t, trimL l = q :: t → ∃ q0 t0, l = q0 :: t0 ∧ (q = q0 ∨ ∃ c, q0 = .const c ∧ trimR c ≠ [] ∧ q = .const (trimR c)))
  | [], _ => ⟨trivial, rfl, rfl, fun _ _ h => by cases h⟩
  | p :: t, h => by
    obtain ⟨h1, h2, h3, h4⟩ := trimL_all h.tail
    have hr : render (p :: t) = p.rend ++ render t := rfl
    have hone := h.one
    cases ht : trimL t with
    | nil =>
      rw [ht] at h2 h3
      have h2' : trimR (render t) = [] := h2.symm
      cases p with
      | const c =>
        have e : trimL (.const c :: t) = if trimR c = [] then [] else [.const (trimR c)] := by simp only [trimL, ht]
        rw [e, hr, trimR_append, if_pos h2']
        have hnp : npar (.const c :: t) = 0 := by rw [npar_cons, ← h3]; rfl
        by_cases hn : trimR c = []
        · rw [if_pos hn]
          exact ⟨trivial, hn.symm, hnp.symm, fun _ _ h => by cases h⟩
        · rw [if_neg hn]
          refine ⟨one_trim hone hn, by simp [render, Part.rend], hnp.symm, fun q t' he => ?_⟩
          cases he
          exact ⟨_, _, rfl, .inr ⟨c, rfl, hn, rfl⟩⟩
      | named nm o =>
        have e : trimL (.named nm o :: t) = [.named nm o] := by simp only [trimL, ht]
        rw [e, hr, trimR_append, if_pos h2', trimR_same (rend_last hone rfl)]
        exact ⟨hone, by simp [render], by rw [npar_cons, npar_cons, ← h3], fun q t' he => by cases he; exact ⟨_, _, rfl, .inl rfl⟩⟩
      | star =>
        have e : trimL (.star :: t) = [.star] := by simp only [trimL, ht]
        rw [e, hr, trimR_append, if_pos h2', trimR_same (rend_last hone rfl)]
        exact ⟨hone, by simp [render], by rw [npar_cons, npar_cons, ← h3], fun q t' he => by cases he; exact ⟨_, _, rfl, .inl rfl⟩⟩
      | plus =>
        have e : trimL (.plus :: t) = [.plus] := by simp only [trimL, ht]
        rw [e, hr, trimR_append, if_pos h2', trimR_same (rend_last hone rfl)]
        exact ⟨hone, by simp [render], by rw [npar_cons, npar_cons, ← h3], fun q t' he => by cases he; exact ⟨_, _, rfl, .inl rfl⟩⟩
    | cons q t' =>
      have e : trimL (p :: t) = p :: q :: t' := by simp only [trimL, ht]
      rw [ht] at h1 h2 h3 h4
      have hne : trimR (render t) ≠ [] := by
        rw [← h2]
        intro e
        have h5 := rend_ne h1.one
        have : q.rend ++ render t' = [] := e
        exact h5 (List.append_eq_nil_iff.1 this).1
      rw [e, hr, trimR_append, if_neg hne]
      refine ⟨⟨hone, ?_, h1⟩, ?_, by rw [npar_cons p, npar_cons p, h3], fun q' t'' he => by cases he; exact ⟨_, _, rfl, .inl rfl⟩⟩
      · obtain ⟨q0, t0, rfl, hq⟩ := h4 q t' rfl
        rcases hq with rfl | ⟨c, rfl, hn, rfl⟩
        · exact h.2.1
        · exact pair_trim h.2.1 hn
      · rw [← h2]; rfl

/-- How many parts there are, at most. -/
theorem good_len : ∀ {l : List Part}, Good l → l.length ≤ 2 * npar l + 1 ∧ (∀ p t, l = p :: t → p.par = true → l.length ≤ 2 * npar l)
  | [], _ => ⟨by simp, fun _ _ h => by cases h⟩
  | p :: t, h => by
    obtain ⟨h1, h2⟩ := good_len h.tail
    have hn := npar_cons p t
    rw [List.length_cons, hn]
    cases hp : p.par with
    | true =>
      refine ⟨by simp only [if_true]; omega, fun p' t' he hp' => by simp only [if_true]; omega⟩
    | false =>
      refine ⟨?_, fun p' t' he hp' => by cases he; rw [hp] at hp'; cases hp'⟩
      cases t with
      | nil => simp
      | cons q t =>
        have hq : q.par = true := by
          have := h.2.1
          cases p with
          | const => cases q with
            | const => exact absurd this id
            | _ => rfl
          | _ => cases hp
        have := h2 q t rfl hq
        simp only [Bool.false_eq_true, if_false]
        omega
theorem good_mem : ∀ {l : List Part}, Good l → ∀ p ∈ l, One p
  | [], _, p, hp => by cases hp
  | q :: t, h, p, hp => by
    rcases List.mem_cons.1 hp with rfl | hp
    · exact h.one
    · exact good_mem h.tail p hp
theorem con_le {l : List Part} {p : Part} (hp : p ∈ l) : p.con.length ≤ (render l).length := by
  induction l with
  | nil => cases hp
  | cons q t ih =>
    have hr : render (q :: t) = q.rend ++ render t := rfl
    rw [hr, List.length_append]
    rcases List.mem_cons.1 hp with rfl | hp
    · cases p <;> simp [Part.con, Part.rend]
    · have := ih hp; omega
theorem con_ne {l : List Part} (h : Good l) : ∀ p ∈ l, p.par = false → p.con ≠ [] := by
  intro p hp hpar
  have := good_mem h p hp
  cases p with
  | const c => exact this.1
  | _ => cases hpar
theorem hold_len : ∀ {l : List Part} {vs : List Bytes} {s : Bytes} {part : Bool}, Hold l vs s part → ∀ v ∈ vs, v.length ≤ s.length
  | [], vs, s, part, h, v, hv => by rw [h.1] at hv; cases hv
  | p :: t, vs, s, part, h, v, hv => by
    rcases h with ⟨_, v', vs', rfl, _, hpre, h⟩ | ⟨_, ⟨_, hs, h⟩ | ⟨_, _, h⟩⟩
    · rcases List.mem_cons.1 hv with rfl | hv
      · exact hpre.length_le
      · have := hold_len h v hv
        rw [List.length_drop] at this; omega
    · have := hold_len h v hv
      simp at this
      rw [this]; simp
    · have := hold_len h v hv
      rw [List.length_drop] at this; omega

end Go.Proofs.YtfahabnjplnbmaaGreatDoor.Pl
