/- The plain law: what a run over a pattern's parts takes is what the reference's reading of the parts says: a match has values that hold, and a plain pattern that could match does. No program in sight. -/
namespace Go.Proofs.YtfahabnjplnbmaaGreatDoor.Pl
abbrev Bytes := List UInt8

def nameB (c : UInt8) : Bool := (97 ≤ c && c ≤ 122) || (65 ≤ c && c ≤ 90) || (48 ≤ c && c ≤ 57) || c == 95
def constB (c : UInt8) : Bool := nameB c || c == 47 || c == 45 || c == 46

inductive Part
  | const (c : Bytes)
  | named (nm : Bytes) (o : Bool)
  | star
  | plus

namespace Part
def par : Part → Bool
  | const _ => false
  | _ => true
def greedy : Part → Bool
  | star => true
  | plus => true
  | _ => false
def opt : Part → Bool
  | named _ o => o
  | star => true
  | _ => false
def con : Part → Bytes
  | const c => c
  | _ => []
def rend : Part → Bytes
  | const c => c
  | named nm o => 58 :: (nm ++ if o then [63] else [])
  | star => [42]
  | plus => [43]
end Part

def render (l : List Part) : Bytes := l.flatMap Part.rend

/-- A text without the slashes at its end. -/
def trimR (c : Bytes) : Bytes := (c.reverse.dropWhile (· == 47)).reverse
/-- What ends a parameter ahead of this constant part. -/
def cmp (c : Bytes) : Bytes := if 1 < c.length then trimR c else c
/-- A constant part that may stand behind a parameter that is not greedy. -/
def OkAfter (c : Bytes) : Prop := c = [47] ∨ 2 ≤ (trimR c).length

def One : Part → Prop
  | .const c => c ≠ [] ∧ ∀ x ∈ c, constB x = true
  | .named nm _ => nm ≠ [] ∧ ∀ x ∈ nm, nameB x = true
  | _ => True
def Pair : Part → Part → Prop
  | .const _, .const _ => False
  | .const _, _ => True
  | .named _ o, .const c => (o = false → ∀ x, c.head? = some x → nameB x = false) ∧ OkAfter c
  | _, .const _ => True
  | _, _ => False
def Good : List Part → Prop
  | [] => True
  | [p] => One p
  | p :: q :: t => One p ∧ Pair p q ∧ Good (q :: t)
def npar (l : List Part) : Nat := (l.filter Part.par).length

theorem Good.one {p : Part} {t : List Part} (h : Good (p :: t)) : One p := by
  cases t with
  | nil => exact h
  | cons q t => exact h.1
theorem Good.tail {p : Part} {t : List Part} (h : Good (p :: t)) : Good t := by
  cases t with
  | nil => exact trivial
  | cons q t => exact h.2.2

/-- The last slash of this constant part may lack where the path ends. -/
def MayEnd (p : Part) (t : List Part) : Prop := p.con.getLast? = some 47 ∧ (t = [] ∨ ∃ q, t.head? = some q ∧ q.opt = true)

def CanBe : List Part → Bytes → Bool → Prop
  | [], s, part => part = true ∨ s = []
  | p :: t, s, part =>
    (p.par = true ∧ ∃ n, n ≤ s.length ∧ (p.greedy = true ∨ 47 ∉ s.take n) ∧ (n = 0 → p.opt = true) ∧ CanBe t (s.drop n) part) ∨
    (p.par = false ∧ ((p.con <+: s ∧ CanBe t (s.drop p.con.length) part) ∨ (MayEnd p t ∧ s = p.con.dropLast ∧ CanBe t [] part)))

def Within (p : Part) (v : Bytes) : Prop := (v = [] → p.opt = true) ∧ (p.greedy = true ∨ 47 ∉ v)

def Hold : List Part → List Bytes → Bytes → Bool → Prop
  | [], vs, s, part => vs = [] ∧ (part = true ∨ s = [])
  | p :: t, vs, s, part =>
    (p.par = true ∧ ∃ v vs', vs = v :: vs' ∧ Within p v ∧ v <+: s ∧ Hold t vs' (s.drop v.length) part) ∨
    (p.par = false ∧ ((MayEnd p t ∧ s = p.con.dropLast ∧ Hold t vs [] part) ∨ (¬ (MayEnd p t ∧ s = p.con.dropLast) ∧ p.con <+: s ∧ Hold t vs (s.drop p.con.length) part)))

def Plain : List Part → Prop
  | [] => True
  | [_] => True
  | p :: q :: t => (p.par = true → p.greedy = false ∧ p.opt = false ∧ q.par = false ∧ q.con.head? = some 47) ∧ Plain (q :: t)
theorem Plain.tail {p : Part} {t : List Part} (h : Plain (p :: t)) : Plain t := by
  cases t with
  | nil => exact trivial
  | cons q t => exact h.2

/-- The first place of a byte, or the end. -/
def FirstB (x : UInt8) (s : Bytes) (i : Nat) : Prop := x ∉ s.take i ∧ (i = s.length ∨ s[i]? = some x)
/-- The first place of a text. -/
def FirstAt (m s : Bytes) (k : Nat) : Prop := m <+: s.drop k ∧ ∀ j, j < k → ¬ m <+: s.drop j
/-- How much a parameter that is not greedy takes, by what follows it. -/
def PLen (t : List Part) (s : Bytes) (i : Nat) : Prop :=
  (t = [] → FirstB 47 s i) ∧
  ∀ q t', t = q :: t' →
    (∀ x, cmp q.con = [x] → FirstB x s i) ∧
    (2 ≤ (cmp q.con).length → (∃ k, FirstAt (cmp q.con) s k ∧ i = if 47 ∈ s.take k then 0 else k) ∨ ((∀ k, ¬ cmp q.con <+: s.drop k) ∧ i = s.length))
def IOk (p : Part) (t : List Part) (s : Bytes) (i : Nat) : Prop :=
  i ≤ s.length ∧ (p.greedy = false → PLen t s i) ∧ (p.greedy = true → t = [] → i = s.length)

/-- What a run over the parts comes to: the values, or none. -/
inductive Run : List Part → Bytes → Bool → Option (List Bytes) → Prop
  | done {s : Bytes} {part : Bool} (h : part = true ∨ s = []) : Run [] s part (some [])
  | left {s : Bytes} {part : Bool} (h : part = false) (hs : s ≠ []) : Run [] s part none
  | cut {p : Part} {t : List Part} {s : Bytes} {part : Bool} {r : Option (List Bytes)} (hp : p.par = false) (hm : MayEnd p t) (hs : s = p.con.dropLast) (h : Run t [] part r) : Run (p :: t) s part r
  | con {p : Part} {t : List Part} {s : Bytes} {part : Bool} {r : Option (List Bytes)} (hp : p.par = false) (hm : ¬ (MayEnd p t ∧ s = p.con.dropLast)) (hs : p.con <+: s) (h : Run t (s.drop p.con.length) part r) : Run (p :: t) s part r
  | miss {p : Part} {t : List Part} {s : Bytes} {part : Bool} (hp : p.par = false) (hm : ¬ (MayEnd p t ∧ s = p.con.dropLast)) (hs : ¬ p.con <+: s) : Run (p :: t) s part none
  | none {p : Part} {t : List Part} {s : Bytes} {part : Bool} (hp : p.par = true) (hi : IOk p t s 0) (ho : p.opt = false) : Run (p :: t) s part none
  | take {p : Part} {t : List Part} {s : Bytes} {part : Bool} {r : Option (List Bytes)} {i : Nat} (hp : p.par = true) (hi : IOk p t s i) (ho : i = 0 → p.opt = true) (h : Run t (s.drop i) part r) : Run (p :: t) s part (r.map (s.take i :: ·))

theorem trimR_prefix (c : Bytes) : trimR c <+: c := by
  unfold trimR
  rw [← List.reverse_suffix, List.reverse_reverse]
  exact List.dropWhile_suffix _

theorem okAfter_cases {c : Bytes} (h : OkAfter c) : (c = [47] ∧ cmp c = [47]) ∨ (2 ≤ (cmp c).length ∧ cmp c = trimR c ∧ 2 ≤ c.length) := by
  rcases h with rfl | h
  · left; simp [cmp]
  · right
    have hl := (trimR_prefix c).length_le
    have : cmp c = trimR c := by unfold cmp; rw [if_pos (by omega)]
    exact ⟨by rw [this]; exact h, this, by omega⟩

/-- Behind all of the text a constant part of two bytes or more finds nothing. -/
theorem no_run_nil {q : Part} {t : List Part} {part : Bool} {r : Option (List Bytes)} (hq : q.par = false) (hl : 2 ≤ q.con.length) (h : Run (q :: t) [] part r) : r = none := by
  cases h with
  | cut hp hm hs h => 
    have := congrArg List.length hs
    simp at this; omega
  | con hp hm hs h =>
    have := hs.length_le
    simp at this
    rw [this] at hl; simp at hl
  | miss => rfl
  | none => rfl
  | take hp => rw [hq] at hp; cases hp

theorem sound {l : List Part} {s : Bytes} {part : Bool} {r : Option (List Bytes)} (h : Run l s part r) : ∀ vs, r = some vs → Good l → Hold l vs s part := by
  induction h with
  | done h => intro vs hv _; cases hv; exact ⟨rfl, h⟩
  | left => intro vs hv; cases hv
  | cut hp hm hs h ih => intro vs hv hg; exact .inr ⟨hp, .inl ⟨hm, hs, ih vs hv hg.tail⟩⟩
  | con hp hm hs h ih => intro vs hv hg; exact .inr ⟨hp, .inr ⟨hm, hs, ih vs hv hg.tail⟩⟩
  | miss => intro vs hv; cases hv
  | none => intro vs hv; cases hv
  | @take p t s part r i hp hi ho h ih =>
    intro vs hv hg
    cases r with
    | none => cases hv
    | some vs' =>
      simp only [Option.map_some, Option.some.injEq] at hv
      subst hv
      have hlen : (s.take i).length = i := by rw [List.length_take]; exact Nat.min_eq_left hi.1
      refine .inl ⟨hp, _, vs', rfl, ⟨?_, ?_⟩, List.take_prefix _ _, by rw [hlen]; exact ih vs' rfl hg.tail⟩
      · intro hn
        exact ho (by rw [hn] at hlen; simpa using hlen.symm)
      · cases hgr : p.greedy with
        | true => exact .inl rfl
        | false =>
          right
          have hpl := hi.2.1 hgr
          cases t with
          | nil => exact (hpl.1 rfl).1
          | cons q t' =>
            have hq := hpl.2 q t' rfl
            have hpair := hg.2.1
            cases p with
            | const c => cases hp
            | star => cases hgr
            | plus => cases hgr
            | named nm o =>
              cases q with
              | named => exact absurd hpair id
              | star => exact absurd hpair id
              | plus => exact absurd hpair id
              | const c =>
                rcases okAfter_cases hpair.2 with ⟨rfl, hc⟩ | ⟨h2, hc, hcl⟩
                · exact (hq.1 47 hc).1
                · rcases hq.2 h2 with ⟨k, hk, hik⟩ | ⟨_, hil⟩
                  · by_cases hin : 47 ∈ s.take k
                    · rw [if_pos hin] at hik
                      rw [hik]; simp
                    · rw [if_neg hin] at hik
                      rw [hik]; exact hin
                  · have hd : s.drop i = [] := by rw [hil]; exact List.drop_length
                    rw [hd] at h
                    have := no_run_nil (q := .const c) rfl hcl h
                    cases this

theorem hold_can : ∀ {l : List Part} {vs : List Bytes} {s : Bytes} {part : Bool}, Hold l vs s part → CanBe l s part
  | [], _, _, _, h => h.2
  | p :: t, vs, s, part, h => by
    rcases h with ⟨hp, v, vs', rfl, hw, hv, h⟩ | ⟨hp, ⟨hm, hs, h⟩ | ⟨hm, hs, h⟩⟩
    · refine .inl ⟨hp, v.length, hv.length_le, ?_, fun h0 => hw.1 (List.eq_nil_of_length_eq_zero h0), hold_can h⟩
      have : s.take v.length = v := (List.prefix_iff_eq_take.1 hv).symm
      rw [this]
      exact hw.2
    · exact .inr ⟨hp, .inr ⟨hm, hs, hold_can h⟩⟩
    · exact .inr ⟨hp, .inl ⟨hs, hold_can h⟩⟩

theorem mem_take_of_get {s : Bytes} {k n : Nat} {x : UInt8} (h : s[k]? = some x) (hk : k < n) : x ∈ s.take n := by
  have : (s.take n)[k]? = some x := by rw [List.getElem?_take, if_pos hk]; exact h
  exact List.mem_of_getElem? this

theorem firstB_unique {x : UInt8} {s : Bytes} {i n : Nat} (hi : FirstB x s i) (hn : FirstB x s n) (hil : i ≤ s.length) (hnl : n ≤ s.length) : i = n := by
  rcases Nat.lt_trichotomy i n with h | h | h
  · rcases hi.2 with e | e
    · omega
    · exact absurd (mem_take_of_get e h) hn.1
  · exact h
  · rcases hn.2 with e | e
    · omega
    · exact absurd (mem_take_of_get e h) hi.1

theorem head_of_prefix {m s : Bytes} {x : UInt8} {n : Nat} (h : m <+: s.drop n) (hm : m.head? = some x) : s[n]? = some x := by
  obtain ⟨t, ht⟩ := h
  cases m with
  | nil => cases hm
  | cons y m =>
    simp at hm; subst hm
    have : (s.drop n)[0]? = some y := by rw [← ht]; rfl
    simpa using this

theorem head_of_pre {m c : Bytes} (h : m <+: c) (hm : m ≠ []) : m.head? = c.head? := by
  obtain ⟨t, rfl⟩ := h
  cases m with
  | nil => exact absurd rfl hm
  | cons => rfl

/-- A text whose last byte is a slash, without the slashes at its end, begins it without the last one. -/
theorem trimR_dropLast {c : Bytes} (h : c.getLast? = some 47) : trimR c <+: c.dropLast := by
  obtain ⟨d, rfl⟩ : ∃ d, c = d ++ [47] := by
    cases hc : c.reverse with
    | nil => rw [List.reverse_eq_nil_iff.1 hc] at h; cases h
    | cons x r =>
      have : c = r.reverse ++ [x] := by rw [← List.reverse_reverse c, hc]; simp
      rw [this] at h
      simp at h
      subst h
      exact ⟨_, this⟩
  have : trimR (d ++ [47]) = trimR d := by simp [trimR]
  rw [this, List.dropLast_concat]
  exact trimR_prefix d

/-- In a plain pattern a parameter that is not the last takes what it can. -/
theorem plain_key {p q : Part} {t : List Part} {s : Bytes} {part : Bool} {n i : Nat} (hpl : Plain (p :: q :: t)) (hg : Good (p :: q :: t)) (hp : p.par = true) (hn : n ≤ s.length)
    (hns : p.greedy = true ∨ 47 ∉ s.take n) (hc : CanBe (q :: t) (s.drop n) part) (hi : IOk p (q :: t) s i) : i = n := by
  obtain ⟨hgr, _, hq, hh⟩ := hpl.1 hp
  have hno : 47 ∉ s.take n := by
    rcases hns with h | h
    · rw [hgr] at h; cases h
    · exact h
  obtain ⟨_, hpL⟩ := hi.2.1 hgr
  obtain ⟨h1, h2⟩ := hpL q t rfl
  have hpair := hg.2.1
  cases p with
  | const c => cases hp
  | star => cases hgr
  | plus => cases hgr
  | named nm o =>
    cases q with
    | named => cases hq
    | star => cases hq
    | plus => cases hq
    | const c =>
      have hc' : (c <+: s.drop n) ∨ (MayEnd (.const c) t ∧ s.drop n = c.dropLast) := by
        rcases hc with ⟨h, _⟩ | ⟨_, ⟨h, _⟩ | ⟨h, h', _⟩⟩
        · cases h
        · exact .inl h
        · exact .inr ⟨h, h'⟩
      simp only [Part.con] at hh h1 h2
      rcases okAfter_cases hpair.2 with ⟨rfl, hcm⟩ | ⟨hl, hcm, hcl⟩
      · refine firstB_unique (h1 47 hcm) ⟨hno, ?_⟩ hi.1 hn
        rcases hc' with h | ⟨_, h⟩
        · exact .inr (head_of_prefix h rfl)
        · left
          have := congrArg List.length h
          simp at this; omega
      · have hm : cmp c <+: s.drop n := by
          rw [hcm]
          rcases hc' with h | ⟨hm, h⟩
          · exact (trimR_prefix c).trans h
          · rw [h]; exact trimR_dropLast hm.1
        have hmh : (cmp c).head? = some 47 := by
          rw [hcm] at hl ⊢
          rw [head_of_pre (trimR_prefix c) (by intro e; rw [e] at hl; simp at hl)]
          exact hh
        rcases h2 hl with ⟨k, hk, hik⟩ | ⟨hnone, _⟩
        · have hkn : k = n := by
            rcases Nat.lt_trichotomy k n with h | h | h
            · exact absurd (mem_take_of_get (head_of_prefix hk.1 hmh) h) hno
            · exact h
            · exact absurd hm (hk.2 n h)
          subst hkn
          rw [if_neg hno] at hik
          exact hik
        · exact absurd hm (hnone n)

theorem complete {l : List Part} {s : Bytes} {part : Bool} {r : Option (List Bytes)} (h : Run l s part r) : r = none → Plain l → Good l → ¬ CanBe l s part := by
  induction h with
  | done h => intro hr; cases hr
  | left h hs =>
    intro _ _ _ hc
    rcases hc with hc | hc
    · rw [h] at hc; cases hc
    · exact hs hc
  | @cut p t s part r hp hm hs h ih =>
    intro hr hpl hg hc
    rcases hc with ⟨h1, _⟩ | ⟨_, ⟨h1, _⟩ | ⟨_, _, h1⟩⟩
    · rw [hp] at h1; cases h1
    · have := h1.length_le
      rw [hs, List.length_dropLast] at this
      have hne : p.con ≠ [] := by intro e; have := hm.1; rw [e] at this; cases this
      have := List.length_pos_iff.2 hne
      omega
    · exact ih hr hpl.tail hg.tail h1
  | @con p t s part r hp hm hs h ih =>
    intro hr hpl hg hc
    rcases hc with ⟨h1, _⟩ | ⟨_, ⟨_, h1⟩ | ⟨h2, h3, _⟩⟩
    · rw [hp] at h1; cases h1
    · exact ih hr hpl.tail hg.tail h1
    · exact hm ⟨h2, h3⟩
  | @miss p t s part hp hm hs =>
    intro _ _ _ hc
    rcases hc with ⟨h1, _⟩ | ⟨_, ⟨h1, _⟩ | ⟨h2, h3, _⟩⟩
    · rw [hp] at h1; cases h1
    · exact hs h1
    · exact hm ⟨h2, h3⟩
  | @none p t s part hp hi ho =>
    intro _ hpl hg hc
    rcases hc with ⟨_, n, hn, hns, h0, hc⟩ | ⟨h1, _⟩
    · have hn0 : n ≠ 0 := fun e => by have := h0 e; rw [ho] at this; cases this
      cases t with
      | cons q t => exact hn0 (plain_key hpl hg hp hn hns hc hi).symm
      | nil =>
        cases hgr : p.greedy with
        | true => have := hi.2.2 hgr rfl; omega
        | false =>
          have hf := (hi.2.1 hgr).1 rfl
          have hno : 47 ∉ s.take n := by
            rcases hns with h | h
            · rw [hgr] at h; cases h
            · exact h
          rcases hf.2 with e | e
          · omega
          · exact hno (mem_take_of_get e (by omega))
    · rw [hp] at h1; cases h1
  | @take p t s part r i hp hi ho h ih =>
    intro hr hpl hg hc
    have hr' : r = Option.none := by cases r with | none => rfl | some => cases hr
    rcases hc with ⟨_, n, hn, hns, h0, hc⟩ | ⟨h1, _⟩
    · cases t with
      | cons q t =>
        have := plain_key hpl hg hp hn hns hc hi
        subst this
        exact ih hr' hpl.tail hg.tail hc
      | nil =>
        subst hr'
        cases h with
        | left hpart hs =>
          rcases hc with hc | hc
          · rw [hpart] at hc; cases hc
          · have hnl : n = s.length := by
              have := congrArg List.length hc
              simp at this; omega
            cases hgr : p.greedy with
            | true =>
              apply hs
              rw [hi.2.2 hgr rfl]
              exact List.drop_length
            | false =>
              have hf := (hi.2.1 hgr).1 rfl
              have hno : 47 ∉ s.take n := by
                rcases hns with h | h
                · rw [hgr] at h; cases h
                · exact h
              rcases hf.2 with e | e
              · apply hs; rw [e]; exact List.drop_length
              · have hil : i < s.length := by
                  have := List.getElem?_eq_some_iff.1 e
                  exact this.1
                exact hno (mem_take_of_get e (by omega))
    · rw [hp] at h1; cases h1

end Go.Proofs.YtfahabnjplnbmaaGreatDoor.Pl
