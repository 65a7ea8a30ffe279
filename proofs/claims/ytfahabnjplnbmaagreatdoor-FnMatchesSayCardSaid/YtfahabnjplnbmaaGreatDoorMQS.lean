/- What the laid function of the reference's Parts comes to: where it says Yes the text is the parts', one behind the other. -/
import Derived.Test.YtfahabnjplnbmaaGreatDoorMQx5
import Derived.Test.YtfahabnjplnbmaaGreatDoorMQL
namespace Go.Proofs.YtfahabnjplnbmaaGreatDoor.QL
open Go.RowKit Go.Proofs.YtfahabnjplnbmaaGreatDoorW.PrintWords
open Go.Proofs.YtfahabnjplnbmaaGreatDoor.Pl Go.Proofs.YtfahabnjplnbmaaGreatDoor.Q
set_option linter.unusedVariables false
set_option linter.unusedSimpArgs false

theorem nameByte_fin : ∀ n : Fin 256, spec_nameByte.f (n.val : Int) = some (nameB (UInt8.ofNat n.val)) := by decide +kernel
theorem nameByte_is (c : UInt8) : spec_nameByte.f (c.toNat : Int) = some (nameB c) := by
  have := nameByte_fin ⟨c.toNat, c.toNat_lt⟩
  simpa using this
theorem constByte_fin : ∀ n : Fin 256, spec_constByte.f (n.val : Int) = some (constB (UInt8.ofNat n.val)) := by decide +kernel
theorem constByte_is (c : UInt8) : spec_constByte.f (c.toNat : Int) = some (constB c) := by
  have := constByte_fin ⟨c.toNat, c.toNat_lt⟩
  simpa using this

theorem digit_ev : ∀ (n : Nat), n ≤ 100000 → ∃ r : ByteArray, Ev (fun k => spec_digit.f k (n : Int)) r ∧ r.size ≤ n + 1 := by
  intro n
  induction n using Nat.strongRecOn with
  | ind n ih =>
    intro hn
    by_cases h10 : n < 10
    · refine ⟨_, Ev.step (f := fun _ => some ((⟨#[48, 49, 50, 51, 52, 53, 54, 55, 56, 57]⟩ : ByteArray).extract n (n + 1))) (fun k => ?_) (Ev.now _), ?_⟩
      · simp only [spec_digit.f]
        rw [if_pos (by omega), if_pos (by omega), w_succ n (by omega), if_pos (by omega), if_pos (by omega)]
        rfl
      · rw [← bs_len, bs_ext, List.length_take]
        omega
    · obtain ⟨a, ha, hal⟩ := ih (n / 10) (by omega) (by omega)
      obtain ⟨b, hb, hbl⟩ := ih (n % 10) (by omega) (by omega)
      have h1 : wrap64 (Int.tdiv (n : Int) 10) = ((n / 10 : Nat) : Int) := by
        rw [show Int.tdiv (n : Int) 10 = ((n / 10 : Nat) : Int) from rfl]
        unfold wrap64; omega
      have h2 : Int.tmod (n : Int) 10 = ((n % 10 : Nat) : Int) := rfl
      refine ⟨a ++ b, Ev.step (f := fun k => (spec_digit.f k ((n / 10 : Nat) : Int)).bind fun t152 => ((spec_digit.f k ((n % 10 : Nat) : Int)).bind fun t153 => (if t152.size + t153.size ≤ 9223372036854775807 then (some (t152 ++ t153)) else (none)))) (fun k => ?_) (Ev.bind ha (Ev.bind hb ?_)), ?_⟩
      · simp only [spec_digit.f]
        rw [if_neg (by omega), h1, h2]
      · refine Ev.congr (f := fun _ => some (a ++ b)) (fun k => if_pos (by omega)) (Ev.now _)
      · rw [ByteArray.size_append]; omega

/-- 'Pair' without what is asked of the constant part behind a parameter. -/
def Pair0 : Part → Part → Prop
  | .const _, .const _ => False
  | .const _, _ => True
  | .named _ o, .const c => (o = false → ∀ x, c.head? = some x → nameB x = false)
  | _, .const _ => True
  | _, _ => False
def Good0 : List Part → Prop
  | [] => True
  | [p] => One p
  | p :: q :: t => One p ∧ Pair0 p q ∧ Good0 (q :: t)
theorem Good0.one {p : Part} {t : List Part} (h : Good0 (p :: t)) : One p := by
  cases t with
  | nil => exact h
  | cons q t => exact h.1

def HeadPar (l : List Part) : Prop := ∃ p t, l = p :: t ∧ p.par = true
def LastPar (L : List S42) : Prop := ∃ x, L.getLast? = some x ∧ x.f2 = true
def Chk (L : List S42) : Prop := ∀ (j : Nat) (x y : S42), L[j]? = some x → L[j + 1]? = some y → x.f2 = true → x.f3 = false → 1 ≤ y.f0.size → OkAfter (bs y.f0)

def POut (s : ByteArray) (L : List S42) (i x7 : Nat) (r : List S42 × Int) : Prop :=
  r.2 = 1 → ∃ L2 l2, r.1 = L ++ L2 ∧ All L2 l2 ∧ render l2 = (bs s).drop i ∧ Good0 l2 ∧ x7 + npar l2 ≤ 30 ∧ (LastPar L → ¬ HeadPar l2) ∧ Chk r.1

theorem trimR_snoc (d : Bytes) : trimR (d ++ [47]) = trimR d := by simp [trimR]
theorem trimR_keep (d : Bytes) (x : UInt8) (h : x ≠ 47) : trimR (d ++ [x]) = d ++ [x] := by
  have hne : (x == 47) = false := by rw [beq_eq_false_iff_ne]; exact h
  unfold trimR
  rw [List.reverse_append, List.reverse_singleton, List.singleton_append, List.dropWhile_cons_of_neg (by rw [hne]; decide), List.reverse_cons, List.reverse_reverse]

theorem short_l0 (more : Bool) : ∀ (n : Nat) (c : ByteArray), c.size = n → c.size ≤ 4294967290 →
    ∃ b : Bool, Ev (fun k => spec_short.l0 k c more) b ∧ (b = false → c.size = 0 ∨ (more = false ∧ trimR (bs c) = []) ∨ 2 ≤ (trimR (bs c)).length) := by
  intro n
  induction n with
  | zero =>
    intro c hc _
    refine ⟨false, Ev.step (f := fun _ => some false) (fun k => ?_) (Ev.now _), fun _ => .inl hc⟩
    simp only [spec_short.l0]
    rw [if_neg (by omega), if_neg (by omega)]
  | succ n ih =>
    intro c hc hs
    have hl : n < (bs c).length := by rw [bs_len]; omega
    have htk : bs c = (bs c).take n ++ [(bs c)[n]] := by
      rw [← List.take_succ_eq_append_getElem hl, List.take_of_length_le (by rw [bs_len]; omega)]
    have hend : ∀ k, spec_short.l0 (k + 1) c more = if (c.size : Int) > 1 then (if bt c ((n : Nat) : Int) = 47 then spec_short.l0 k (c.extract 0 n) more else some false) else (if bt c 0 = 47 then some more else some true) := by
      intro k
      simp only [spec_short.l0]
      have hw : wrap64 ((c.size : Int) - 1) = (n : Int) := by rw [w_pred _ (by omega) (by omega), hc]; rfl
      by_cases h1 : (c.size : Int) > 1
      · rw [if_pos h1, if_pos h1, hw, if_pos (by omega), if_pos (by omega)]
        by_cases h2 : bt c (n : Int) = 47
        · rw [if_pos h2, if_pos h2, if_pos (by omega)]; rfl
        · rw [if_neg h2, if_neg h2, if_neg (by omega)]
      · rw [if_neg h1, if_neg h1, if_pos (by omega), if_pos (by omega)]
    by_cases h1 : (c.size : Int) > 1
    · by_cases h2 : bt c (n : Int) = 47
      · obtain ⟨b, hb, hbi⟩ := ih (c.extract 0 n) (by rw [sz_to _ _ (by omega)]) (by rw [sz_to _ _ (by omega)]; omega)
        refine ⟨b, Ev.step (fun k => by rw [hend k, if_pos h1, if_pos h2]) hb, fun hf => ?_⟩
        have h47 := (bt_47 c n (by omega)).1 h2
        rw [List.getElem?_eq_getElem hl, Option.some.injEq] at h47
        have hb2 := hbi hf
        rw [sz_to _ _ (by omega), bs_to] at hb2
        rw [htk, h47, trimR_snoc]
        rcases hb2 with h | h
        · omega
        · exact .inr h
      · refine ⟨false, Ev.step (f := fun _ => some false) (fun k => by rw [hend k, if_pos h1, if_neg h2]) (Ev.now _), fun _ => ?_⟩
        have h47 : (bs c)[n] ≠ 47 := fun e => h2 ((bt_47 c n (by omega)).2 (by rw [List.getElem?_eq_getElem hl, e]))
        rw [htk, trimR_keep _ _ h47, ← htk, bs_len]
        omega
    · have hn0 : n = 0 := by omega
      subst hn0
      have hc1 : bs c = [(bs c)[0]] := htk
      by_cases h2 : bt c 0 = 47
      · refine ⟨more, Ev.step (f := fun _ => some more) (fun k => by rw [hend k, if_neg h1, if_pos h2]) (Ev.now _), fun hm => .inr (.inl ⟨hm, ?_⟩)⟩
        have h47 := (bt_47 c 0 (by omega)).1 h2
        rw [List.getElem?_eq_getElem hl, Option.some.injEq] at h47
        rw [hc1, h47]; rfl
      · exact ⟨true, Ev.step (f := fun _ => some true) (fun k => by rw [hend k, if_neg h1, if_neg h2]) (Ev.now _), fun h => by cases h⟩

theorem short_ev (c : ByteArray) (hc : c.size ≤ 4294967290) : ∃ b : Bool, Ev (fun k => spec_short.f k c) b ∧ (b = false → 1 ≤ c.size → OkAfter (bs c)) := by
  obtain ⟨b, hb, hbi⟩ := short_l0 (decide ((c.size : Int) > 1)) c.size c rfl hc
  refine ⟨b, hb, fun hf h1 => ?_⟩
  rcases hbi hf with h | ⟨hm, ht⟩ | h
  · omega
  · left
    have hs : c.size = 1 := by
      have := of_decide_eq_false hm
      omega
    have hl : 0 < (bs c).length := by rw [bs_len]; omega
    have hc1 : bs c = [(bs c)[0]] := by
      apply List.ext_getElem
      · rw [bs_len]; simp [hs]
      · intro i h1 h2
        simp at h2
        subst h2
        rfl
    by_cases h47 : (bs c)[0] = 47
    · rw [hc1, h47]
    · have h3 := trimR_keep [] _ h47
      rw [List.nil_append, ← hc1, ht] at h3
      rw [← h3] at hl
      simp at hl
  · exact .inr h

theorem l3_ev (L : List S42) (hL : L.length ≤ 100000) (hc : ∀ x ∈ L, x.f0.size ≤ 4294967290) : ∀ (m i : Nat), 1 ≤ i → L.length - i = m → (∀ (j : Nat) (x y : S42), j + 1 < i → L[j]? = some x → L[j + 1]? = some y → x.f2 = true → x.f3 = false → 1 ≤ y.f0.size → OkAfter (bs y.f0)) →
    ∃ r : List S42 × Int, Ev (fun k => spec_Parts.l3 k L (i : Int)) r ∧ (r.2 = 1 → r.1 = L ∧ Chk L) := by
  intro m
  induction m with
  | zero =>
    intro i hi hm hno
    refine ⟨(L, 1), Ev.step (f := fun _ => some (L, 1)) (fun k => ?_) (Ev.now _), fun _ => ⟨rfl, fun j x y hx hy => hno j x y ?_ hx hy⟩⟩
    · simp only [spec_Parts.l3]
      rw [if_neg (by omega)]
    · have := (List.getElem?_eq_some_iff.1 hy).1
      omega
  | succ m ih =>
    intro i hi hm hno
    have hil : i < L.length := by omega
    have hx : L[i - 1]? = some (L[i - 1]'(by omega)) := List.getElem?_eq_getElem (by omega)
    have hy : L[i]? = some L[i] := List.getElem?_eq_getElem hil
    have hyc : L[i].f0.size ≤ 4294967290 := hc _ (List.getElem_mem _)
    generalize L[i - 1]'(by omega) = x at hx
    generalize L[i] = y at hy hyc
    have hgo : (x.f2 = true → x.f3 = false → 1 ≤ y.f0.size → OkAfter (bs y.f0)) → ∃ r : List S42 × Int, Ev (fun k => spec_Parts.l3 k L ((i + 1 : Nat) : Int)) r ∧ (r.2 = 1 → r.1 = L ∧ Chk L) := by
      intro h
      refine ih (i + 1) (by omega) (by omega) (fun j x' y' hj hx' hy' => ?_)
      by_cases e : j + 1 < i
      · exact hno j x' y' e hx' hy'
      · have : j = i - 1 := by omega
        subst this
        rw [show i - 1 + 1 = i from by omega, hy] at hy'
        rw [hx] at hx'
        cases hx'; cases hy'
        exact h
    have hstep : ∀ k, spec_Parts.l3 (k + 1) L (i : Int) = if x.f2 = true then (if x.f3 = true then spec_Parts.l3 k L ((i + 1 : Nat) : Int) else (spec_short.f k y.f0).bind fun t => if t = true then some (([] : List S42), 2) else spec_Parts.l3 k L ((i + 1 : Nat) : Int)) else spec_Parts.l3 k L ((i + 1 : Nat) : Int) := by
      intro k
      simp only [spec_Parts.l3]
      rw [if_pos (by omega), w_pred i (by omega) (by omega), if_pos (by omega), if_pos (by omega), rd_of hx, rd_of hy, w_succ i (by omega), if_pos (show (0 : Int) ≤ (i : Int) from by omega)]
    cases h2 : x.f2 with
    | false =>
      obtain ⟨r, hr, hri⟩ := hgo (fun h => by rw [h2] at h; cases h)
      exact ⟨r, Ev.step (fun k => by rw [hstep k, h2]; rfl) hr, hri⟩
    | true =>
      cases h3 : x.f3 with
      | true =>
        obtain ⟨r, hr, hri⟩ := hgo (fun _ h => by rw [h3] at h; cases h)
        exact ⟨r, Ev.step (fun k => by rw [hstep k, h2, h3]; rfl) hr, hri⟩
      | false =>
        obtain ⟨b, hb, hbi⟩ := short_ev y.f0 hyc
        have hs' : ∀ k, spec_Parts.l3 (k + 1) L (i : Int) = (spec_short.f k y.f0).bind fun t => if t = true then some (([] : List S42), 2) else spec_Parts.l3 k L ((i + 1 : Nat) : Int) := fun k => by rw [hstep k, h2, h3]; rfl
        cases b with
        | true =>
          refine ⟨([], 2), Ev.step hs' (Ev.bind hb ?_), fun h => by cases h⟩
          simp only [if_true]; exact Ev.now _
        | false =>
          obtain ⟨r, hr, hri⟩ := hgo (fun _ _ => hbi rfl)
          refine ⟨r, Ev.step hs' (Ev.bind hb ?_), hri⟩
          simp only [Bool.false_eq_true, if_false]; exact hr

theorem npar_cons (p : Part) (l : List Part) : npar (p :: l) = (if p.par then 1 else 0) + npar l := by
  unfold npar
  cases h : p.par <;> simp [List.filter_cons, h, Nat.add_comm]

theorem render_cons (p : Part) (l : List Part) : render (p :: l) = p.rend ++ render l := by simp [render]

/-- A new part ahead of parts that are well behind it. -/
theorem good0_cons {p : Part} {l : List Part} (h1 : One p) (hg : Good0 l) (hp : p.par = true → ¬ HeadPar l)
    (hb : ∀ x, (render l).head? = some x → (∀ c, p = .const c → constB x = false) ∧ (∀ nm, p = .named nm false → nameB x = false)) : Good0 (p :: l) := by
  cases l with
  | nil => exact h1
  | cons q t =>
    refine ⟨h1, ?_, hg⟩
    have hq := hg.one
    cases p with
    | const c =>
      cases q with
      | const c' =>
        cases c' with
        | nil => exact absurd rfl hq.1
        | cons y c'' =>
          have := (hb y (by simp [render, Part.rend])).1 c rfl
          rw [hq.2 y (by simp)] at this
          cases this
      | named => exact trivial
      | star => exact trivial
      | plus => exact trivial
    | named nm o =>
      cases q with
      | const c' =>
        intro ho x hx
        cases c' with
        | nil => cases hx
        | cons y c'' =>
          simp at hx
          subst hx
          subst ho
          exact (hb y (by simp [render, Part.rend])).2 nm rfl
      | named => exact absurd ⟨_, _, rfl, rfl⟩ (hp rfl)
      | star => exact absurd ⟨_, _, rfl, rfl⟩ (hp rfl)
      | plus => exact absurd ⟨_, _, rfl, rfl⟩ (hp rfl)
    | star =>
      cases q with
      | const c' => exact trivial
      | named => exact absurd ⟨_, _, rfl, rfl⟩ (hp rfl)
      | star => exact absurd ⟨_, _, rfl, rfl⟩ (hp rfl)
      | plus => exact absurd ⟨_, _, rfl, rfl⟩ (hp rfl)
    | plus =>
      cases q with
      | const c' => exact trivial
      | named => exact absurd ⟨_, _, rfl, rfl⟩ (hp rfl)
      | star => exact absurd ⟨_, _, rfl, rfl⟩ (hp rfl)
      | plus => exact absurd ⟨_, _, rfl, rfl⟩ (hp rfl)

theorem last_snoc (L : List S42) (x : S42) : LastPar (L ++ [x]) ↔ x.f2 = true := by
  unfold LastPar
  simp

/-- What is known at a place of the text, for whatever has been read. -/
def At (s : ByteArray) (i : Nat) : Prop := ∀ (L : List S42) (x5 x6 x7 : Nat), L.length ≤ i → (∀ x ∈ L, x.f0.size ≤ 4294967290) → x5 ≤ i → x6 ≤ i → x7 ≤ i →
  ∃ r : List S42 × Int, Ev (fun k => spec_Parts.l0 k s L (x5 : Int) (x6 : Int) (x7 : Int) (i : Int)) r ∧ POut s L i x7 r

theorem j4_ev {s : ByteArray} (hs : s.size ≤ 300) {i i' : Nat} (hii : i < i') (hi' : i' ≤ s.size) (hat : At s i') {x : S42} {p : Part} (hx : Is x p) (hx0 : x.f0.size ≤ 4294967290) (h1 : One p)
    (hd : (bs s).drop i = p.rend ++ (bs s).drop i')
    (hb : ∀ y, ((bs s).drop i').head? = some y → (∀ c, p = .const c → constB y = false) ∧ (∀ nm, p = .named nm false → nameB y = false))
    (L : List S42) (x5 x6 x7 : Nat) (hL : L.length ≤ i) (hLs : ∀ x ∈ L, x.f0.size ≤ 4294967290) (h5 : x5 ≤ i') (h6 : x6 ≤ i') (h7 : x7 ≤ i) :
    ∃ r : List S42 × Int, Ev (fun k => spec_Parts.j4 k s L (x5 : Int) (x6 : Int) (x7 : Int) (i' : Int) x.f0 x.f1 x.f2 x.f3 x.f4) r ∧ POut s L i x7 r := by
  have hxe : (⟨x.f0, x.f1, x.f2, x.f3, x.f4, []⟩ : S42) = x := by
    rw [← hx.checks]
  have hLs' : ∀ y ∈ L ++ [x], y.f0.size ≤ 4294967290 := by
    intro y hy
    rcases List.mem_append.1 hy with h | h
    · exact hLs y h
    · rw [List.mem_singleton.1 h]; exact hx0
  have hfin : ∀ (y7 : Nat) (r : List S42 × Int), y7 = x7 + (if p.par then 1 else 0) → (p.par = true → ¬ LastPar L) → POut s (L ++ [x]) i' y7 r → POut s L i x7 r := by
    intro y7 r hy hlp hp h
    obtain ⟨L2, l2, e1, e2, e3, e4, e5, e6, e7⟩ := hp h
    refine ⟨x :: L2, p :: l2, by rw [e1]; simp, .cons hx e2, ?_, ?_, ?_, ?_, e7⟩
    · rw [render_cons, e3, hd]
    · refine good0_cons h1 e4 (fun hpar => e6 ((last_snoc L x).2 (by rw [hx.par, hpar]))) ?_
      rw [e3]; exact hb
    · rw [npar_cons]; omega
    · intro hl
      rintro ⟨q, t, hq, hqp⟩
      cases hq
      exact hlp hqp hl
  cases hpar : p.par with
  | false =>
    obtain ⟨r, hr, hp⟩ := hat (L ++ [x]) x5 x6 x7 (by simp; omega) hLs' h5 h6 (by omega)
    refine ⟨r, Ev.step (fun k => ?_) hr, hfin x7 r (by rw [hpar]; rfl) (fun h => by rw [hpar] at h; cases h) hp⟩
    simp only [spec_Parts.j4]
    rw [if_neg (by rw [hx.par, hpar]; decide), if_pos (by omega), hxe]
  | true =>
    by_cases hlp : LastPar L
    · refine ⟨([], 2), Ev.step (f := fun _ => some ([], 2)) (fun k => ?_) (Ev.now _), fun h => by cases h⟩
      obtain ⟨z, hz, hz2⟩ := hlp
      have hpos : 0 < L.length := by
        cases L with
        | nil => cases hz
        | cons => simp
      rw [List.getLast?_eq_getElem?] at hz
      simp only [spec_Parts.j4]
      rw [if_pos (by rw [hx.par, hpar]), if_pos (by omega), w_pred _ (by omega) (by omega), if_pos (by omega), if_pos (by omega), rd_of hz, if_pos hz2]
    · obtain ⟨r, hr, hp⟩ := hat (L ++ [x]) x5 x6 (x7 + 1) (by simp; omega) hLs' h5 h6 (by omega)
      refine ⟨r, Ev.step (fun k => ?_) hr, hfin (x7 + 1) r (by rw [hpar]; rfl) (fun _ => hlp) hp⟩
      simp only [spec_Parts.j4]
      rw [if_pos (by rw [hx.par, hpar]), w_succ x7 (by omega)]
      by_cases hpos : (L.length : Int) > 0
      · have hz : L[L.length - 1]? = some (L[L.length - 1]'(by omega)) := List.getElem?_eq_getElem (by omega)
        rw [if_pos hpos, w_pred _ (by omega) (by omega), if_pos (by omega), if_pos (by omega), rd_of hz]
        rw [if_neg (fun h => hlp ⟨_, by rw [List.getLast?_eq_getElem?]; exact hz, h⟩), if_pos (by omega), hxe]
      · rw [if_neg hpos, if_pos (by omega), hxe]

theorem get_of_bt (s : ByteArray) (i : Nat) (h : i < s.size) : ∃ c : UInt8, (bs s)[i]? = some c ∧ bt s (i : Int) = (c.toNat : Int) := by
  have hl : i < (bs s).length := by rw [bs_len]; exact h
  exact ⟨_, List.getElem?_eq_getElem hl, bt_nat s i h⟩
theorem drop_cons {l : Bytes} {i : Nat} {c : UInt8} (h : l[i]? = some c) : l.drop i = c :: l.drop (i + 1) := by
  obtain ⟨hl, e⟩ := List.getElem?_eq_some_iff.1 h
  rw [List.drop_eq_getElem_cons hl, e]
theorem drop_split (l : Bytes) (i e : Nat) (h : i ≤ e) : l.drop i = (l.drop i).take (e - i) ++ l.drop e := by
  conv => lhs; rw [← List.take_append_drop (e - i) (l.drop i)]
  rw [List.drop_drop, show i + (e - i) = e from by omega]
theorem size_zero : (⟨#[]⟩ : ByteArray).size = 0 := rfl

theorem j2_ev {s : ByteArray} (hs : s.size ≤ 300) {i : Nat} (hi : i < s.size) (hat : ∀ i', i < i' → i' ≤ s.size → At s i') (h58 : (bs s)[i]? = some 58)
    (L : List S42) (x5 x6 x7 : Nat) (hL : L.length ≤ i) (hLs : ∀ x ∈ L, x.f0.size ≤ 4294967290) (h5 : x5 ≤ i) (h6 : x6 ≤ i) (h7 : x7 ≤ i)
    {e : Nat} (he : i + 1 ≤ e) (hes : e ≤ s.size) (hall : ∀ y ∈ ((bs s).drop (i + 1)).take (e - (i + 1)), nameB y = true) (hend : ∀ y, (bs s)[e]? = some y → nameB y = false) :
    ∃ r : List S42 × Int, Ev (fun k => spec_Parts.j2 k s L (x5 : Int) (x6 : Int) (x7 : Int) (i : Int) (e : Int) (⟨#[]⟩ : ByteArray) (⟨#[]⟩ : ByteArray) true false false) r ∧ POut s L i x7 r := by
  by_cases h1 : e = i + 1
  · refine ⟨([], 2), Ev.step (f := fun _ => some ([], 2)) (fun k => ?_) (Ev.now _), fun h => by cases h⟩
    simp only [spec_Parts.j2]
    rw [w_succ i (by omega), if_pos (by omega)]
  · have hnm : One (.named (((bs s).drop (i + 1)).take (e - (i + 1))) true) := by
      refine ⟨fun h0 => ?_, hall⟩
      have := congrArg List.length h0
      rw [List.length_take, List.length_drop, bs_len, List.length_nil] at this
      omega
    have hd0 : (bs s).drop i = 58 :: (((bs s).drop (i + 1)).take (e - (i + 1)) ++ (bs s).drop e) := by
      rw [drop_cons h58, ← drop_split _ _ _ he]
    by_cases h63 : (bs s)[e]? = some 63
    · have hel : e < s.size := by
        have := (List.getElem?_eq_some_iff.1 h63).1
        rwa [bs_len] at this
      obtain ⟨r, hr, hp⟩ := j4_ev hs (show i < e + 1 by omega) (by omega) (hat (e + 1) (by omega) (by omega)) (x := ⟨⟨#[]⟩, s.extract (i + 1) e, true, false, true, []⟩) (p := .named (((bs s).drop (i + 1)).take (e - (i + 1))) true)
        ⟨rfl, rfl, rfl, rfl, (fun h => by cases h)⟩ (by rw [size_zero]; omega) hnm (by rw [hd0, drop_cons h63]; simp [Part.rend])
        (fun y _ => ⟨(fun c h => by cases h), (fun nm h => by cases h)⟩) L x5 x6 x7 hL hLs (by omega) (by omega) h7
      refine ⟨r, Ev.step (fun k => ?_) hr, hp⟩
      simp only [spec_Parts.j2]
      rw [w_succ i (by omega), if_neg (by omega), if_pos (by omega), if_pos (by omega), if_pos (by omega), if_pos (by omega), if_pos (by omega), if_pos (show bt s (e : Int) = 63 from (bt_is s e hel 63).2 h63), w_succ e (by omega)]
      rfl
    · obtain ⟨r, hr, hp⟩ := j4_ev hs (show i < e by omega) hes (hat e (by omega) hes) (x := ⟨⟨#[]⟩, s.extract (i + 1) e, true, false, false, []⟩) (p := .named (((bs s).drop (i + 1)).take (e - (i + 1))) false)
        ⟨rfl, rfl, rfl, rfl, (fun h => by cases h)⟩ (by rw [size_zero]; omega) hnm (by rw [hd0]; simp [Part.rend])
        (fun y hy => ⟨(fun c h => by cases h), (fun nm _ => hend y (by rw [List.head?_drop] at hy; exact hy))⟩) L x5 x6 x7 hL hLs (by omega) (by omega) h7
      refine ⟨r, Ev.step (fun k => ?_) hr, hp⟩
      simp only [spec_Parts.j2]
      rw [w_succ i (by omega), if_neg (by omega), if_pos (by omega), if_pos (by omega), if_pos (by omega)]
      by_cases hel : e < s.size
      · rw [if_pos (by omega), if_pos (by omega), if_neg (show ¬ bt s (e : Int) = 63 from fun h => h63 ((bt_is s e hel 63).1 h))]
        rfl
      · rw [if_neg (by omega)]
        rfl

theorem l1_ev {s : ByteArray} (hs : s.size ≤ 300) {i : Nat} (hi : i < s.size) (hat : ∀ i', i < i' → i' ≤ s.size → At s i') (h58 : (bs s)[i]? = some 58)
    (L : List S42) (x5 x6 x7 : Nat) (hL : L.length ≤ i) (hLs : ∀ x ∈ L, x.f0.size ≤ 4294967290) (h5 : x5 ≤ i) (h6 : x6 ≤ i) (h7 : x7 ≤ i) : ∀ (m e : Nat), s.size - e = m → i + 1 ≤ e → e ≤ s.size →
    (∀ y ∈ ((bs s).drop (i + 1)).take (e - (i + 1)), nameB y = true) →
    ∃ r : List S42 × Int, Ev (fun k => spec_Parts.l1 k s L (x5 : Int) (x6 : Int) (x7 : Int) (i : Int) (e : Int) (⟨#[]⟩ : ByteArray) (⟨#[]⟩ : ByteArray) true false false) r ∧ POut s L i x7 r := by
  intro m
  induction m with
  | zero =>
    intro e hm he hes hall
    have : e = s.size := by omega
    obtain ⟨r, hr, hp⟩ := j2_ev hs hi hat h58 L x5 x6 x7 hL hLs h5 h6 h7 he hes hall (fun y hy => by
      have := (List.getElem?_eq_some_iff.1 hy).1
      rw [bs_len] at this; omega)
    refine ⟨r, Ev.step (fun k => ?_) hr, hp⟩
    simp only [spec_Parts.l1]
    rw [if_neg (by omega)]
  | succ m ih =>
    intro e hm he hes hall
    obtain ⟨c, hc, hbt⟩ := get_of_bt s e (by omega)
    have hstep : ∀ k, spec_Parts.l1 (k + 1) s L (x5 : Int) (x6 : Int) (x7 : Int) (i : Int) (e : Int) (⟨#[]⟩ : ByteArray) (⟨#[]⟩ : ByteArray) true false false = if nameB c = true then spec_Parts.l1 k s L (x5 : Int) (x6 : Int) (x7 : Int) (i : Int) ((e + 1 : Nat) : Int) (⟨#[]⟩ : ByteArray) (⟨#[]⟩ : ByteArray) true false false else spec_Parts.j2 k s L (x5 : Int) (x6 : Int) (x7 : Int) (i : Int) (e : Int) (⟨#[]⟩ : ByteArray) (⟨#[]⟩ : ByteArray) true false false := by
      intro k
      simp only [spec_Parts.l1]
      rw [if_pos (by omega), if_pos (by omega), hbt, nameByte_is, w_succ e (by omega)]
      rfl
    cases hn : nameB c with
    | true =>
      obtain ⟨r, hr, hp⟩ := ih (e + 1) (by omega) (by omega) (by omega) (by
        intro y hy
        rw [show e + 1 - (i + 1) = (e - (i + 1)) + 1 from by omega, List.take_add_one] at hy
        rcases List.mem_append.1 hy with h | h
        · exact hall y h
        · rw [List.getElem?_drop, show i + 1 + (e - (i + 1)) = e from by omega, hc] at h
          simp at h
          rw [h]; exact hn)
      exact ⟨r, Ev.step (fun k => by rw [hstep k, hn]; rfl) hr, hp⟩
    | false =>
      obtain ⟨r, hr, hp⟩ := j2_ev hs hi hat h58 L x5 x6 x7 hL hLs h5 h6 h7 he hes hall (fun y hy => by rw [hc] at hy; cases hy; exact hn)
      exact ⟨r, Ev.step (fun k => by rw [hstep k, hn]; rfl) hr, hp⟩

theorem l2_ev {s : ByteArray} (hs : s.size ≤ 300) {i : Nat} (hi : i < s.size) (hat : ∀ i', i < i' → i' ≤ s.size → At s i') 
    (L : List S42) (x5 x6 x7 : Nat) (hL : L.length ≤ i) (hLs : ∀ x ∈ L, x.f0.size ≤ 4294967290) (h5 : x5 ≤ i) (h6 : x6 ≤ i) (h7 : x7 ≤ i) (hc0 : ∀ c, (bs s)[i]? = some c → constB c = true) : ∀ (m e : Nat), s.size - e = m → i ≤ e → e ≤ s.size →
    (∀ y ∈ ((bs s).drop i).take (e - i), constB y = true) →
    ∃ r : List S42 × Int, Ev (fun k => spec_Parts.l2 k s L (x5 : Int) (x6 : Int) (x7 : Int) (i : Int) (e : Int)) r ∧ POut s L i x7 r := by
  have hfin : ∀ e : Nat, i ≤ e → e ≤ s.size → (∀ y ∈ ((bs s).drop i).take (e - i), constB y = true) → (∀ y, (bs s)[e]? = some y → constB y = false) →
      ∃ r : List S42 × Int, Ev (fun k => spec_Parts.j4 k s L (x5 : Int) (x6 : Int) (x7 : Int) (e : Int) (s.extract i e) (⟨#[]⟩ : ByteArray) false false false) r ∧ POut s L i x7 r := by
    intro e he hes hall hend
    have hie : i < e := by
      rcases Nat.lt_or_ge i e with h | h
      · exact h
      · have : e = i := by omega
        subst this
        obtain ⟨c, hc, _⟩ := get_of_bt s e hi
        have h1 := hc0 c hc
        have h2 := hend c hc
        rw [h1] at h2; cases h2
    have hcon : bs (s.extract i e) = ((bs s).drop i).take (e - i) := bs_ext s i e
    refine j4_ev hs hie hes (hat e hie hes) (x := ⟨s.extract i e, ⟨#[]⟩, false, false, false, []⟩) (p := .const (((bs s).drop i).take (e - i)))
      ⟨rfl, rfl, rfl, rfl, fun _ => hcon⟩ (by show (s.extract i e).size ≤ _; rw [← bs_len, hcon, List.length_take]; omega) ⟨fun h0 => ?_, hall⟩ (drop_split _ _ _ he)
      (fun y hy => ⟨(fun c _ => hend y (by rw [List.head?_drop] at hy; exact hy)), (fun nm h => by cases h)⟩) L x5 x6 x7 hL hLs (by omega) (by omega) h7
    have := congrArg List.length h0
    rw [List.length_take, List.length_drop, bs_len, List.length_nil] at this
    omega
  intro m
  induction m with
  | zero =>
    intro e hm he hes hall
    have : e = s.size := by omega
    obtain ⟨r, hr, hp⟩ := hfin e he hes hall (fun y hy => by
      have := (List.getElem?_eq_some_iff.1 hy).1
      rw [bs_len] at this; omega)
    refine ⟨r, Ev.step (fun k => ?_) hr, hp⟩
    simp only [spec_Parts.l2]
    rw [if_neg (by omega), if_pos (by omega), if_pos (by omega), if_pos (by omega)]
    rfl
  | succ m ih =>
    intro e hm he hes hall
    obtain ⟨c, hc, hbt⟩ := get_of_bt s e (by omega)
    have hstep : ∀ k, spec_Parts.l2 (k + 1) s L (x5 : Int) (x6 : Int) (x7 : Int) (i : Int) (e : Int) = if constB c = true then spec_Parts.l2 k s L (x5 : Int) (x6 : Int) (x7 : Int) (i : Int) ((e + 1 : Nat) : Int) else spec_Parts.j4 k s L (x5 : Int) (x6 : Int) (x7 : Int) (e : Int) (s.extract i e) (⟨#[]⟩ : ByteArray) false false false := by
      intro k
      simp only [spec_Parts.l2]
      rw [if_pos (by omega), if_pos (by omega), hbt, constByte_is, w_succ e (by omega)]
      simp only [Option.bind_some]
      rw [if_pos (show (0 : Int) ≤ (i : Int) by omega), if_pos (show (i : Int) ≤ (e : Int) by omega), if_pos (show (e : Int) ≤ (s.size : Int) by omega)]
      rfl
    cases hn : constB c with
    | true =>
      obtain ⟨r, hr, hp⟩ := ih (e + 1) (by omega) (by omega) (by omega) (by
        intro y hy
        rw [show e + 1 - i = (e - i) + 1 from by omega, List.take_add_one] at hy
        rcases List.mem_append.1 hy with h | h
        · exact hall y h
        · rw [List.getElem?_drop, show i + (e - i) = e from by omega, hc] at h
          simp at h
          rw [h]; exact hn)
      exact ⟨r, Ev.step (fun k => by rw [hstep k, hn]; rfl) hr, hp⟩
    | false =>
      obtain ⟨r, hr, hp⟩ := hfin e he hes hall (fun y hy => by rw [hc] at hy; cases hy; exact hn)
      exact ⟨r, Ev.step (fun k => by rw [hstep k, hn]; rfl) hr, hp⟩

theorem at_end (s : ByteArray) (hs : s.size ≤ 300) : At s s.size := by
  intro L x5 x6 x7 hL hLs h5 h6 h7
  have hj : ∀ f : Bool, ((x7 : Int) > 30 → f = true) → ∃ r : List S42 × Int, Ev (fun k => spec_Parts.j5 k L f) r ∧ POut s L s.size x7 r := by
    intro f hf
    cases f with
    | true => exact ⟨([], 2), Ev.step (f := fun _ => some ([], 2)) (fun k => by simp only [spec_Parts.j5, if_true]) (Ev.now _), fun h => by cases h⟩
    | false =>
      obtain ⟨r, hr, hri⟩ := l3_ev L (by omega) hLs (L.length - 1) 1 (by omega) rfl (fun j x y hj => by omega)
      refine ⟨r, Ev.step (fun k => by simp only [spec_Parts.j5]; rw [if_neg (by decide)]; rfl) hr, fun h => ?_⟩
      obtain ⟨e, hc⟩ := hri h
      refine ⟨[], [], by rw [e]; simp, .nil, by rw [← bs_len, List.drop_length]; rfl, trivial, ?_, (fun _ h => by obtain ⟨p, t, h, _⟩ := h; cases h), by rw [e]; exact hc⟩
      have : ¬ (x7 : Int) > 30 := fun h => by have := hf h; cases this
      simp [npar]; omega
  by_cases h30 : (x7 : Int) > 30
  · obtain ⟨r, hr, hp⟩ := hj true (fun _ => rfl)
    refine ⟨r, Ev.step (fun k => ?_) hr, hp⟩
    simp only [spec_Parts.l0]
    rw [if_neg (by omega), if_pos h30]
  · obtain ⟨r, hr, hp⟩ := hj (decide ((x5 : Int) > 90)) (fun h => absurd h h30)
    refine ⟨r, Ev.step (fun k => ?_) hr, hp⟩
    simp only [spec_Parts.l0]
    rw [if_neg (by omega), if_neg h30]

theorem at_all (s : ByteArray) (hs : s.size ≤ 300) : ∀ (m i : Nat), s.size - i = m → i ≤ s.size → At s i := by
  intro m
  induction m using Nat.strongRecOn with
  | ind m ih =>
    intro i hm hi
    by_cases hend : i = s.size
    · rw [hend]; exact at_end s hs
    · have hil : i < s.size := by omega
      have hat : ∀ i', i < i' → i' ≤ s.size → At s i' := fun i' h1 h2 => ih (s.size - i') (by omega) i' rfl h2
      intro L x5 x6 x7 hL hLs h5 h6 h7
      obtain ⟨c, hc, hbt⟩ := get_of_bt s i hil
      by_cases h42 : bt s (i : Int) = 42
      · have hcc : (bs s)[i]? = some 42 := (bt_is s i hil 42).1 h42
        obtain ⟨d, hd, hdl⟩ := digit_ev (x5 + 1) (by omega)
        obtain ⟨r, hr, hp⟩ := j4_ev hs (show i < i + 1 by omega) (by omega) (hat (i + 1) (by omega) (by omega)) (x := ⟨⟨#[]⟩, (⟨#[42]⟩ : ByteArray) ++ d, true, true, true, []⟩) (p := .star)
          ⟨rfl, rfl, rfl, rfl, (fun h => by cases h)⟩ (by rw [size_zero]; omega) trivial (by rw [drop_cons hcc]; rfl)
          (fun y _ => ⟨(fun c h => by cases h), (fun nm h => by cases h)⟩) L (x5 + 1) x6 x7 hL hLs (by omega) (by omega) h7
        refine ⟨r, Ev.step (f := fun k => (spec_digit.f k ((x5 + 1 : Nat) : Int)).bind fun t156 => (if 1 + t156.size ≤ 9223372036854775807 then (spec_Parts.j4 k s L ((x5 + 1 : Nat) : Int) (x6 : Int) (x7 : Int) ((i + 1 : Nat) : Int) (⟨#[]⟩ : ByteArray) ((⟨#[42]⟩ : ByteArray) ++ t156) true true true) else (none))) (fun k => ?_) (Ev.bind hd (Ev.congr (fun k => if_pos (by omega)) hr)), hp⟩
        simp only [spec_Parts.l0]
        rw [if_pos (by omega), if_pos (by omega), if_pos h42, w_succ x5 (by omega), w_succ i (by omega)]
      · by_cases h43 : bt s (i : Int) = 43
        · have hcc : (bs s)[i]? = some 43 := (bt_is s i hil 43).1 h43
          obtain ⟨d, hd, hdl⟩ := digit_ev (x6 + 1) (by omega)
          obtain ⟨r, hr, hp⟩ := j4_ev hs (show i < i + 1 by omega) (by omega) (hat (i + 1) (by omega) (by omega)) (x := ⟨⟨#[]⟩, (⟨#[43]⟩ : ByteArray) ++ d, true, true, false, []⟩) (p := .plus)
            ⟨rfl, rfl, rfl, rfl, (fun h => by cases h)⟩ (by rw [size_zero]; omega) trivial (by rw [drop_cons hcc]; rfl)
            (fun y _ => ⟨(fun c h => by cases h), (fun nm h => by cases h)⟩) L x5 (x6 + 1) x7 hL hLs (by omega) (by omega) h7
          refine ⟨r, Ev.step (f := fun k => (spec_digit.f k ((x6 + 1 : Nat) : Int)).bind fun t157 => (if 1 + t157.size ≤ 9223372036854775807 then (spec_Parts.j4 k s L (x5 : Int) ((x6 + 1 : Nat) : Int) (x7 : Int) ((i + 1 : Nat) : Int) (⟨#[]⟩ : ByteArray) ((⟨#[43]⟩ : ByteArray) ++ t157) true true false) else (none))) (fun k => ?_) (Ev.bind hd (Ev.congr (fun k => if_pos (by omega)) hr)), hp⟩
          simp only [spec_Parts.l0]
          rw [if_pos (by omega), if_pos (by omega), if_neg h42, if_pos h43, w_succ x6 (by omega), w_succ i (by omega)]
        · by_cases h58 : bt s (i : Int) = 58
          · have hcc : (bs s)[i]? = some 58 := (bt_is s i hil 58).1 h58
            obtain ⟨r, hr, hp⟩ := l1_ev hs hil hat hcc L x5 x6 x7 hL hLs h5 h6 h7 (s.size - (i + 1)) (i + 1) rfl (Nat.le_refl _) (by omega) (by simp)
            refine ⟨r, Ev.step (fun k => ?_) hr, hp⟩
            simp only [spec_Parts.l0]
            rw [if_pos (by omega), if_pos (by omega), if_neg h42, if_neg h43, if_pos h58, w_succ i (by omega)]
          · cases hcb : constB c with
            | true =>
              obtain ⟨r, hr, hp⟩ := l2_ev hs hil hat L x5 x6 x7 hL hLs h5 h6 h7 (fun c' h => by rw [hc] at h; cases h; exact hcb) (s.size - i) i rfl (Nat.le_refl _) (by omega) (by simp)
              refine ⟨r, Ev.step (fun k => ?_) hr, hp⟩
              simp only [spec_Parts.l0]
              rw [if_pos (by omega), if_pos (by omega), if_neg h42, if_neg h43, if_neg h58, hbt, constByte_is, hcb]
              rfl
            | false =>
              refine ⟨([], 2), Ev.step (f := fun _ => some ([], 2)) (fun k => ?_) (Ev.now _), fun h => by cases h⟩
              simp only [spec_Parts.l0]
              rw [if_pos (by omega), if_pos (by omega), if_neg h42, if_neg h43, if_neg h58, hbt, constByte_is, hcb]
              rfl

theorem good_of : ∀ {L : List S42} {l : List Part}, All L l → Good0 l → Chk L → Pl.Good l
  | _, _, .nil, _, _ => trivial
  | _, _, .cons h .nil, hg, _ => hg
  | _, _, .cons (x := x) (p := p) h (.cons (x := y) (p := q) (L := L) (l := l) h' t), hg, hc => by
    refine ⟨hg.1, ?_, good_of (.cons h' t) hg.2.2 (fun j a b ha hb => hc (j + 1) a b (by simpa using ha) (by simpa using hb))⟩
    have hp := hg.2.1
    cases p with
    | const c => cases q <;> exact hp
    | star => cases q <;> exact hp
    | plus => cases q <;> exact hp
    | named nm o =>
      cases q with
      | const c =>
        have hcon := h'.con rfl
        have h1 : c ≠ [] := hg.2.2.one.1
        refine ⟨hp, ?_⟩
        have := hc 0 x y rfl rfl h.par h.greedy (by rw [← bs_len, hcon]; exact List.length_pos_iff.2 h1)
        rw [hcon] at this
        exact this
      | named => exact hp
      | star => exact hp
      | plus => exact hp

/-- PARTS: it comes to an end; where it says Yes (1), what it hands back are the text's parts. -/
theorem parts_ev (s : ByteArray) (hs : s.size ≤ 300) : ∃ (L : List S42) (r : Int), Ev (fun k => spec_Parts.f k s) (L, r) ∧ (r = 1 → ∃ l, All L l ∧ render l = bs s ∧ Pl.Good l ∧ npar l ≤ 30) := by
  obtain ⟨⟨L, r⟩, hr, hp⟩ := at_all s hs s.size 0 rfl (Nat.zero_le _) [] 0 0 0 (Nat.le_refl _) (by simp) (Nat.le_refl _) (Nat.le_refl _) (Nat.le_refl _)
  refine ⟨L, r, hr, fun h1 => ?_⟩
  obtain ⟨L2, l2, e1, e2, e3, e4, e5, _, e7⟩ := hp h1
  have e1' : L = L2 := by simpa using e1
  subst e1'
  exact ⟨l2, e2, by simpa using e3, good_of e2 e4 e7, by omega⟩
end Go.Proofs.YtfahabnjplnbmaaGreatDoor.QL
