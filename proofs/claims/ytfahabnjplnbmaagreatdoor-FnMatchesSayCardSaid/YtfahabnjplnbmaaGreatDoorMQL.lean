/- What the laid functions of the reference (within, mayEnd, could, Plain, Could, Holds) come to, in the words of the plain law. -/
import Derived.Test.YtfahabnjplnbmaaGreatDoorMQx8
import Derived.Test.YtfahabnjplnbmaaGreatDoorMPlain
import Derived.Lib.IndexBytes
import Derived.Lib.Strings
namespace Go.Proofs.YtfahabnjplnbmaaGreatDoor.QL
open Go.RowKit Go.Proofs.YtfahabnjplnbmaaGreatDoorW.PrintWords
open Go.Proofs.YtfahabnjplnbmaaGreatDoor.Pl Go.Proofs.YtfahabnjplnbmaaGreatDoor.Q
set_option linter.unusedVariables false
set_option linter.unusedSimpArgs false

/-- A text's bytes. -/
abbrev bs (s : ByteArray) : Bytes := s.data.toList
theorem bs_len (s : ByteArray) : (bs s).length = s.size := (Lib.size_eq s).symm
theorem tl (s : ByteArray) : s.toList = bs s := Lib.toList_data s
theorem bs_ext (s : ByteArray) (a b : Nat) : bs (s.extract a b) = ((bs s).drop a).take (b - a) := Lib.extract_data s a b
theorem bs_from (s : ByteArray) (a : Nat) : bs (s.extract a s.size) = (bs s).drop a := Lib.extract_to_end s a
theorem bs_to (s : ByteArray) (a : Nat) : bs (s.extract 0 a) = (bs s).take a := by rw [bs_ext]; simp
theorem sz_from (s : ByteArray) (a : Nat) : (s.extract a s.size).size = s.size - a := by rw [← bs_len, bs_from, List.length_drop, bs_len]
theorem sz_to (s : ByteArray) (a : Nat) (h : a ≤ s.size) : (s.extract 0 a).size = a := by rw [← bs_len, bs_to, List.length_take, bs_len]; omega
theorem bt_nat (s : ByteArray) (i : Nat) (h : i < s.size) : bt s (i : Int) = (((bs s)[i]'(by rw [bs_len]; exact h)).toNat : Int) := by
  unfold bt
  rw [dif_pos (by simpa using h)]
  rfl
theorem bt_is (s : ByteArray) (i : Nat) (h : i < s.size) (c : UInt8) : bt s (i : Int) = (c.toNat : Int) ↔ (bs s)[i]? = some c := by
  have hl : i < (bs s).length := by rw [bs_len]; exact h
  rw [bt_nat s i h, List.getElem?_eq_getElem hl, Option.some.injEq]
  constructor
  · intro e
    exact UInt8.toNat_inj.1 (by omega)
  · intro e
    rw [e]
theorem bt_47 (s : ByteArray) (i : Nat) (h : i < s.size) : bt s (i : Int) = 47 ↔ (bs s)[i]? = some 47 := bt_is s i h 47
theorem w_succ (i : Nat) (h : i ≤ 4294967296) : wrap64 ((i : Int) + 1) = ((i + 1 : Nat) : Int) := by unfold wrap64; omega
theorem w_pred (i : Nat) (h1 : 1 ≤ i) (h : i ≤ 4294967296) : wrap64 ((i : Int) - 1) = ((i - 1 : Nat) : Int) := by unfold wrap64; omega

/-- A part in memory. -/
structure Is (x : S42) (p : Part) : Prop where
  par : x.f2 = p.par
  greedy : x.f3 = p.greedy
  opt : x.f4 = p.opt
  checks : x.f5 = []
  con : p.par = false → bs x.f0 = p.con
inductive All : List S42 → List Part → Prop
  | nil : All [] []
  | cons {x : S42} {p : Part} {L : List S42} {l : List Part} (h : Is x p) (t : All L l) : All (x :: L) (p :: l)
theorem All.len {L : List S42} {l : List Part} (h : All L l) : L.length = l.length := by
  induction h with
  | nil => rfl
  | cons _ _ ih => simp [ih]
theorem All.get {L : List S42} {l : List Part} (h : All L l) : ∀ {i : Nat} {p : Part}, l[i]? = some p → ∃ x, L[i]? = some x ∧ Is x p := by
  induction h with
  | nil => intro i p hi; simp at hi
  | cons h t ih =>
    intro i p hi
    cases i with
    | zero => simp at hi; subst hi; exact ⟨_, rfl, h⟩
    | succ i => simp at hi; simpa using ih hi
theorem rd_of {L : List S42} {i : Nat} {x : S42} (h : L[i]? = some x) : rd_T42 L (i : Int) = x := by
  unfold rd_T42
  simp [h]

theorem within_l1 (v : ByteArray) : Ev (fun k => spec_within.l1 k v [] 0 0) true :=
  Ev.step (fun k => by simp only [spec_within.l1]; rw [if_neg (by decide)]) (Ev.now true)

theorem within_l0 (v : ByteArray) (hv : v.size ≤ 4294967290) (a b : ByteArray) (q g o : Bool) : ∀ (d i : Nat), i ≤ v.size → v.size - i = d →
    ∃ r : Bool, Ev (fun k => spec_within.l0 k v (v.size : Int) (i : Int) a b q g o []) r ∧ (r = true ↔ (g = true ∨ 47 ∉ (bs v).drop i)) := by
  intro d
  induction d with
  | zero =>
    intro i hi hd
    have : i = v.size := by omega
    subst this
    refine ⟨true, Ev.step (f := fun k => spec_within.l1 k v [] 0 0) (fun k => ?_) (within_l1 v), ?_⟩
    · simp only [spec_within.l0]; rw [if_neg (by omega)]; rfl
    · simp only [true_iff]; right; rw [← bs_len, List.drop_length]; simp
  | succ d ih =>
    intro i hi hd
    have hlt : i < v.size := by omega
    obtain ⟨r, hr, hiff⟩ := ih (i + 1) (by omega) (by omega)
    have hl : i < (bs v).length := by rw [bs_len]; exact hlt
    have hdrop : (bs v).drop i = (bs v)[i] :: (bs v).drop (i + 1) := List.drop_eq_getElem_cons hl
    by_cases h47 : bt v (i : Int) = 47
    · cases g with
      | true =>
        refine ⟨r, Ev.step (f := fun k => spec_within.l0 k v (v.size : Int) ((i + 1 : Nat) : Int) a b q true o []) (fun k => ?_) hr, ?_⟩
        · simp only [spec_within.l0]
          rw [if_pos (by omega), if_pos (by omega), if_pos (by omega), if_pos h47]
          simp only [if_true]
          rw [w_succ i (by omega)]
        · simpa using hiff
      | false =>
        refine ⟨false, Ev.step (f := fun _ => some false) (fun k => ?_) (Ev.now false), ?_⟩
        · simp only [spec_within.l0]
          rw [if_pos (by omega), if_pos (by omega), if_pos (by omega), if_pos h47]
          simp
        · have := (bt_47 v i hlt).1 h47
          have hm : (47 : UInt8) ∈ (bs v).drop i := by
            rw [hdrop]
            rw [List.getElem?_eq_getElem hl] at this
            injection this with this
            rw [this]
            exact List.mem_cons_self
          simp [hm]
    · refine ⟨r, Ev.step (f := fun k => spec_within.l0 k v (v.size : Int) ((i + 1 : Nat) : Int) a b q g o []) (fun k => ?_) hr, ?_⟩
      · simp only [spec_within.l0]
        rw [if_pos (by omega), if_pos (by omega), if_pos (by omega), if_neg h47]
        rw [w_succ i (by omega)]
      · rw [hiff, hdrop]
        have hne : (47 : UInt8) ≠ (bs v)[i] := by
          intro e
          exact h47 ((bt_47 v i hlt).2 (by rw [List.getElem?_eq_getElem hl, ← e]))
        rw [List.mem_cons]
        simp only [hne, false_or]

theorem within_ev {x : S42} {p : Part} (hx : Is x p) (v : ByteArray) (hv : v.size ≤ 4294967290) :
    ∃ r : Bool, Ev (fun k => spec_within.f k x.f0 x.f1 x.f2 x.f3 x.f4 x.f5 v) r ∧ (r = true ↔ Within p (bs v)) := by
  by_cases h0 : v.toList = []
  · refine ⟨x.f4, Ev.congr (f := fun _ => some x.f4) (fun k => by unfold spec_within.f; rw [if_pos h0]) (Ev.now _), ?_⟩
    rw [tl] at h0
    unfold Within
    rw [h0, hx.opt]
    simp
  · obtain ⟨r, hr, hiff⟩ := within_l0 v hv x.f0 x.f1 x.f2 x.f3 x.f4 v.size 0 (by omega) (by omega)
    refine ⟨r, Ev.congr (fun k => by unfold spec_within.f; rw [if_neg h0, hx.checks]; rfl) hr, ?_⟩
    rw [hiff, hx.greedy]
    rw [tl] at h0
    unfold Within
    simp [h0]

theorem begins_iff (s t : ByteArray) : spec_begins.f s t = some (decide (bs t <+: bs s)) := by
  unfold spec_begins.f
  by_cases h : (t.size : Int) ≤ (s.size : Int)
  · rw [if_pos h, if_pos (by omega)]
    rw [tl, tl, bs_to]
    congr 1
    rw [Bool.eq_iff_iff]
    simp only [Int.toNat_natCast, beq_iff_eq, decide_eq_true_eq]
    rw [List.prefix_iff_eq_take, bs_len]
    exact eq_comm
  · rw [if_neg h]
    congr 1
    symm
    rw [decide_eq_false_iff_not]
    intro hp
    have := hp.length_le
    rw [bs_len, bs_len] at this
    omega

theorem getLast_of (c : Bytes) (h : 0 < c.length) : c.getLast? = c[c.length - 1]? := List.getLast?_eq_getElem?

theorem mayEnd_ev {L : List S42} {l : List Part} (h : All L l) (hl : l.length ≤ 100000) {i : Nat} {p : Part} (hp : l[i]? = some p) (hs : p.con.length ≤ 4294967290) :
    ∃ r : Bool, spec_mayEnd.f L (i : Int) = some r ∧ (p.par = false → (r = true ↔ MayEnd p (l.drop (i + 1)))) := by
  have hil : i < l.length := (List.getElem?_eq_some_iff.1 hp).1
  obtain ⟨x, hx, his⟩ := h.get hp
  have hlen := h.len
  unfold spec_mayEnd.f
  rw [if_pos (by omega), if_pos (by omega), rd_of hx, his.par]
  by_cases hpar : p.par = true
  · rw [if_pos hpar]
    exact ⟨false, rfl, fun e => by rw [hpar] at e; cases e⟩
  · have hpar : p.par = false := by simpa using hpar
    rw [if_neg (by simp [hpar])]
    have hcon := his.con hpar
    have hsz : x.f0.size = p.con.length := by rw [← bs_len, hcon]
    by_cases hz : (x.f0.size : Int) > 0
    · rw [if_pos hz, w_pred _ (by omega) (by omega), if_pos (by omega), if_pos (by omega)]
      have hlast : p.con.getLast? = (bs x.f0)[x.f0.size - 1]? := by rw [getLast_of _ (by omega), hcon, hsz]
      by_cases h47 : bt x.f0 ((x.f0.size - 1 : Nat) : Int) = 47
      · rw [if_pos h47]
        have h47' := (bt_47 _ _ (by omega)).1 h47
        rw [← hlast] at h47'
        by_cases hend : i + 1 = l.length
        · rw [if_pos (by rw [hlen, w_pred _ (by omega) (by omega)]; omega)]
          refine ⟨true, rfl, fun _ => ?_⟩
          simp only [true_iff]
          exact ⟨h47', .inl (by rw [hend, List.drop_length])⟩
        · have hi1 : i + 1 < l.length := by omega
          obtain ⟨y, hy, hiy⟩ := h.get (List.getElem?_eq_getElem hi1)
          rw [if_neg (by rw [hlen, w_pred _ (by omega) (by omega)]; omega), w_succ i (by omega), if_pos (by omega), if_pos (by omega), rd_of hy, hiy.opt]
          refine ⟨_, rfl, fun _ => ?_⟩
          constructor
          · intro ho
            exact ⟨h47', .inr ⟨_, by rw [List.head?_drop]; exact List.getElem?_eq_getElem hi1, ho⟩⟩
          · rintro ⟨_, hm | ⟨q, hq, ho⟩⟩
            · have := congrArg List.length hm
              simp at this; omega
            · rw [List.head?_drop, List.getElem?_eq_getElem hi1] at hq
              injection hq with hq
              rw [hq]; exact ho
      · rw [if_neg h47]
        refine ⟨false, rfl, fun _ => ?_⟩
        simp only [Bool.false_eq_true, false_iff]
        rintro ⟨hm, _⟩
        rw [hlast] at hm
        exact h47 ((bt_47 _ _ (by omega)).2 hm)
    · rw [if_neg hz]
      refine ⟨false, rfl, fun _ => ?_⟩
      simp only [Bool.false_eq_true, false_iff]
      rintro ⟨hm, _⟩
      have : p.con = [] := List.eq_nil_of_length_eq_zero (by omega)
      rw [this] at hm; cases hm

theorem could_j2 {L : List S42} {l : List Part} {p : Part} {x : S42} (hx : Is x p) {i : Nat} {s : ByteArray} {part : Bool} (hs : s.size ≤ 4294967290)
    (hi : i ≤ 100000)
    (ih : ∀ s' : ByteArray, s'.size ≤ 4294967290 → ∃ r : Bool, Ev (fun k => spec_could.f k L ((i + 1 : Nat) : Int) s' part) r ∧ (r = true ↔ CanBe (l.drop (i + 1)) (bs s') part))
    {n : Nat} (hn : n ≤ s.size) {q : Bool} {Q : Prop}
    (hr : Ev (fun k => spec_could.l0 k L (i : Int) s part ((n + 1 : Nat) : Int) x.f0 x.f1 x.f2 x.f3 x.f4 x.f5) q) (hq : q = true ↔ Q) :
    ∃ r : Bool, Ev (fun k => spec_could.j2 k L (i : Int) s part (n : Int) false x.f0 x.f1 x.f2 x.f3 x.f4 x.f5) r ∧ (r = true ↔ (Within p ((bs s).take n) ∧ CanBe (l.drop (i + 1)) ((bs s).drop n) part) ∨ Q) := by
  obtain ⟨a, ha, hai⟩ := within_ev hx (s.extract 0 n) (by rw [sz_to _ _ hn]; omega)
  obtain ⟨b, hb, hbi⟩ := ih (s.extract n s.size) (by rw [sz_from]; omega)
  rw [bs_to] at hai
  rw [bs_from] at hbi
  have hstep : ∀ k, spec_could.j2 (k + 1) L (i : Int) s part (n : Int) false x.f0 x.f1 x.f2 x.f3 x.f4 x.f5 =
      (spec_within.f k x.f0 x.f1 x.f2 x.f3 x.f4 x.f5 (s.extract 0 n)).bind fun t292 => if t292 = true then (spec_could.f k L ((i + 1 : Nat) : Int) (s.extract n s.size) part).bind fun t293 => if t293 = true then some true else spec_could.l0 k L (i : Int) s part ((n + 1 : Nat) : Int) x.f0 x.f1 x.f2 x.f3 x.f4 x.f5 else spec_could.l0 k L (i : Int) s part ((n + 1 : Nat) : Int) x.f0 x.f1 x.f2 x.f3 x.f4 x.f5 := by
    intro k
    simp only [spec_could.j2]
    rw [if_neg (by decide), if_pos (by omega), if_pos (by omega), w_succ i (by omega), w_succ n (by omega)]
    rfl
  cases a with
  | true =>
    cases b with
    | true =>
      refine ⟨true, Ev.step hstep (Ev.bind ha ?_), ?_⟩
      · simp only [if_true]
        refine Ev.bind hb ?_
        simp only [if_true]
        exact Ev.now _
      · simp only [true_iff]
        exact .inl ⟨hai.1 rfl, hbi.1 rfl⟩
    | false =>
      refine ⟨q, Ev.step hstep (Ev.bind ha ?_), ?_⟩
      · simp only [if_true]
        refine Ev.bind hb ?_
        simp only [Bool.false_eq_true, if_false]
        exact hr
      · rw [hq]
        have : ¬ CanBe (l.drop (i + 1)) ((bs s).drop n) part := fun h => by have := hbi.2 h; cases this
        simp [this]
  | false =>
    refine ⟨q, Ev.step hstep (Ev.bind ha ?_), ?_⟩
    · simp only [Bool.false_eq_true, if_false]
      exact hr
    · rw [hq]
      have : ¬ Within p ((bs s).take n) := fun h => by have := hai.2 h; cases this
      simp [this]

theorem could_l0 {L : List S42} {l : List Part} {p : Part} {x : S42} (hx : Is x p) {i : Nat} {s : ByteArray} {part : Bool} (hs : s.size ≤ 4294967290)
    (hi : i ≤ 100000)
    (ih : ∀ s' : ByteArray, s'.size ≤ 4294967290 → ∃ r : Bool, Ev (fun k => spec_could.f k L ((i + 1 : Nat) : Int) s' part) r ∧ (r = true ↔ CanBe (l.drop (i + 1)) (bs s') part)) :
    ∀ (d n : Nat), n ≤ s.size + 1 → s.size + 1 - n = d →
    ∃ r : Bool, Ev (fun k => spec_could.l0 k L (i : Int) s part (n : Int) x.f0 x.f1 x.f2 x.f3 x.f4 x.f5) r ∧ (r = true ↔ ∃ m, n ≤ m ∧ m ≤ s.size ∧ Within p ((bs s).take m) ∧ CanBe (l.drop (i + 1)) ((bs s).drop m) part) := by
  intro d
  induction d with
  | zero =>
    intro n hn hd
    refine ⟨false, Ev.step (f := fun _ => some false) (fun k => ?_) (Ev.now false), ?_⟩
    · simp only [spec_could.l0]; rw [if_neg (by omega)]
    · simp only [Bool.false_eq_true, false_iff]
      rintro ⟨m, h1, h2, _⟩
      omega
  | succ d ihd =>
    intro n hn hd
    have hns : n ≤ s.size := by omega
    obtain ⟨q, hq, hqi⟩ := ihd (n + 1) (by omega) (by omega)
    obtain ⟨r, hr, hri⟩ := could_j2 (l := l) (part := part) hx (by omega) hi ih hns hq hqi
    have heq : ((Within p ((bs s).take n) ∧ CanBe (l.drop (i + 1)) ((bs s).drop n) part) ∨ (∃ m, n + 1 ≤ m ∧ m ≤ s.size ∧ Within p ((bs s).take m) ∧ CanBe (l.drop (i + 1)) ((bs s).drop m) part)) ↔
        ∃ m, n ≤ m ∧ m ≤ s.size ∧ Within p ((bs s).take m) ∧ CanBe (l.drop (i + 1)) ((bs s).drop m) part := by
      constructor
      · rintro (⟨h1, h2⟩ | ⟨m, h1, h2, h3⟩)
        · exact ⟨n, Nat.le_refl _, hns, h1, h2⟩
        · exact ⟨m, by omega, h2, h3⟩
      · rintro ⟨m, h1, h2, h3⟩
        by_cases e : m = n
        · subst e; exact .inl h3
        · exact .inr ⟨m, by omega, h2, h3⟩
    rw [heq] at hri
    by_cases hn0 : (n : Int) > 0
    · have hl : n - 1 < (bs s).length := by rw [bs_len]; omega
      by_cases h47 : bt s ((n - 1 : Nat) : Int) = 47
      · have hg' := (bt_47 s (n - 1) (by omega)).1 h47
        cases hg : x.f3 with
        | true =>
          refine ⟨r, Ev.step (f := fun k => spec_could.j2 k L (i : Int) s part (n : Int) false x.f0 x.f1 x.f2 x.f3 x.f4 x.f5) (fun k => ?_) hr, hri⟩
          simp only [spec_could.l0]
          rw [if_pos (by omega), if_pos hn0, w_pred n (by omega) (by omega), if_pos (by omega), if_pos (by omega), if_pos h47, hg]
          rfl
        | false =>
          refine ⟨false, Ev.step (f := fun k => spec_could.j2 k L (i : Int) s part (n : Int) true x.f0 x.f1 x.f2 x.f3 x.f4 x.f5) (fun k => ?_) ?_, ?_⟩
          · simp only [spec_could.l0]
            rw [if_pos (by omega), if_pos hn0, w_pred n (by omega) (by omega), if_pos (by omega), if_pos (by omega), if_pos h47, hg]
            rfl
          · exact Ev.step (f := fun _ => some false) (fun k => by simp only [spec_could.j2, if_true]) (Ev.now false)
          · simp only [Bool.false_eq_true, false_iff]
            rintro ⟨m, h1, h2, h3, _⟩
            rcases h3.2 with e | e
            · rw [← hx.greedy, hg] at e; cases e
            · exact e (mem_take_of_get hg' (by omega))
      · refine ⟨r, Ev.step (f := fun k => spec_could.j2 k L (i : Int) s part (n : Int) false x.f0 x.f1 x.f2 x.f3 x.f4 x.f5) (fun k => ?_) hr, hri⟩
        simp only [spec_could.l0]
        rw [if_pos (by omega), if_pos hn0, w_pred n (by omega) (by omega), if_pos (by omega), if_pos (by omega), if_neg h47]
    · refine ⟨r, Ev.step (f := fun k => spec_could.j2 k L (i : Int) s part (n : Int) false x.f0 x.f1 x.f2 x.f3 x.f4 x.f5) (fun k => ?_) hr, hri⟩
      simp only [spec_could.l0]
      rw [if_pos (by omega), if_neg hn0]

theorem could_ev {L : List S42} {l : List Part} (h : All L l) (hl : l.length ≤ 99999) (hcl : ∀ p ∈ l, p.con.length ≤ 4294967290) (part : Bool) : ∀ (m i : Nat), i ≤ l.length → l.length - i = m →
    ∀ s : ByteArray, s.size ≤ 4294967290 → ∃ r : Bool, Ev (fun k => spec_could.f k L (i : Int) s part) r ∧ (r = true ↔ CanBe (l.drop i) (bs s) part) := by
  have hlen := h.len
  intro m
  induction m with
  | zero =>
    intro i hi hm s hs
    have : i = l.length := by omega
    subst this
    rw [List.drop_length]
    cases part with
    | true =>
      refine ⟨true, Ev.step (f := fun _ => some true) (fun k => ?_) (Ev.now _), by simp [CanBe]⟩
      simp only [spec_could.f]; rw [if_pos (by omega)]; rfl
    | false =>
      refine ⟨s.toList == [], Ev.step (f := fun _ => some (s.toList == [])) (fun k => ?_) (Ev.now _), ?_⟩
      · simp only [spec_could.f]; rw [if_pos (by omega), if_neg (by decide)]
      · rw [tl]; simp [CanBe]
  | succ m ihm =>
    intro i hi hm s hs
    have hil : i < l.length := by omega
    have hget : l[i]? = some l[i] := List.getElem?_eq_getElem hil
    obtain ⟨x, hx, his⟩ := h.get hget
    have hdrop : l.drop i = l[i] :: l.drop (i + 1) := List.drop_eq_getElem_cons hil
    rw [hdrop]
    generalize hpe : l[i] = p at *
    have hcp : p.con.length ≤ 4294967290 := hcl p (by rw [← hpe]; exact List.getElem_mem _)
    have ih' : ∀ s' : ByteArray, s'.size ≤ 4294967290 → ∃ r : Bool, Ev (fun k => spec_could.f k L ((i + 1 : Nat) : Int) s' part) r ∧ (r = true ↔ CanBe (l.drop (i + 1)) (bs s') part) := fun s' hs' => ihm (i + 1) (by omega) (by omega) s' hs'
    clear ihm
    have hneL : ¬ (i : Int) = (L.length : Int) := by omega
    cases hpar : p.par with
    | true =>
      obtain ⟨r, hr, hri⟩ := could_l0 (l := l) (part := part) his hs (by omega) ih' (s.size + 1) 0 (by omega) (by omega)
      refine ⟨r, Ev.step (fun k => ?_) hr, ?_⟩
      · simp only [spec_could.f]
        rw [if_neg hneL, if_pos (by omega), if_pos (by omega), rd_of hx]
        rw [if_pos (by rw [his.par, hpar])]
        rfl
      · rw [hri]
        constructor
        · rintro ⟨m, _, h2, h3, h4⟩
          refine .inl ⟨hpar, m, by rw [bs_len]; exact h2, h3.2, fun h0 => h3.1 (by rw [h0]; rfl), h4⟩
        · rintro (⟨_, m, h2, h3, h4, h5⟩ | ⟨h1, _⟩)
          · rw [bs_len] at h2
            refine ⟨m, Nat.zero_le _, h2, ⟨fun h0 => h4 ?_, h3⟩, h5⟩
            have := congrArg List.length h0
            rw [List.length_take, bs_len, List.length_nil] at this
            omega
          · rw [hpar] at h1; cases h1
    | false =>
      have hcon := his.con hpar
      have hsz : x.f0.size = p.con.length := by rw [← bs_len, hcon]
      have hj0 : ∀ (b : Bool) (Q : Prop), (b = true ↔ Q) → ∃ r : Bool, Ev (fun k => spec_could.j0 k L (i : Int) s part b x.f0 x.f1 x.f2 x.f3 x.f4 x.f5) r ∧ (r = true ↔ Q ∨ (MayEnd p (l.drop (i + 1)) ∧ bs s = p.con.dropLast ∧ CanBe (l.drop (i + 1)) [] part)) := by
        intro b Q hb
        cases b with
        | true => exact ⟨true, Ev.step (f := fun _ => some true) (fun k => by simp only [spec_could.j0, if_true]) (Ev.now _), by simp [hb.1 rfl]⟩
        | false =>
          have hQ : ¬ Q := fun q => by have := hb.2 q; cases this
          obtain ⟨me, hme, hmi⟩ := mayEnd_ev h (by omega) hget (by omega)
          have hmi := hmi hpar
          cases me with
          | false =>
            refine ⟨false, Ev.step (f := fun _ => some false) (fun k => ?_) (Ev.now _), ?_⟩
            · simp only [spec_could.j0]
              rw [hme]
              rfl
            · have : ¬ MayEnd p (l.drop (i + 1)) := fun q => by have := hmi.2 q; cases this
              simp [hQ, this]
          | true =>
            have hm := hmi.1 rfl
            have hne : 1 ≤ p.con.length := by
              have := hm.1
              cases hc : p.con with
              | nil => rw [hc] at this; cases this
              | cons => simp
            have hdl : bs (x.f0.extract 0 (x.f0.size - 1)) = p.con.dropLast := by rw [bs_to, hcon, hsz, List.dropLast_eq_take]
            by_cases heq : bs s = p.con.dropLast
            · obtain ⟨r, hr, hri⟩ := ih' (⟨#[]⟩ : ByteArray) (by show (0 : Nat) ≤ _; omega)
              refine ⟨r, Ev.step (f := fun k => (spec_could.f k L ((i + 1 : Nat) : Int) (⟨#[]⟩ : ByteArray) part).bind fun t => some t) (fun k => ?_) (Ev.bind hr (Ev.now r)), ?_⟩
              · simp only [spec_could.j0]
                rw [hme]
                simp only [Option.bind_some, Bool.false_eq_true, if_false, if_true]
                rw [w_pred _ (by omega) (by omega), if_pos (by omega), if_pos (by omega), w_succ i (by omega)]
                rw [if_pos (by rw [tl, tl, Int.toNat_natCast, hdl]; exact heq)]
              · rw [hri]
                constructor
                · intro hc; exact .inr ⟨hm, heq, hc⟩
                · rintro (hq | ⟨_, _, hc⟩)
                  · exact absurd hq hQ
                  · exact hc
            · refine ⟨false, Ev.step (f := fun _ => some false) (fun k => ?_) (Ev.now _), ?_⟩
              · simp only [spec_could.j0]
                rw [hme]
                simp only [Option.bind_some, Bool.false_eq_true, if_false, if_true]
                rw [w_pred _ (by omega) (by omega), if_pos (by omega), if_pos (by omega)]
                rw [if_neg (by rw [tl, tl, Int.toNat_natCast, hdl]; exact heq)]
              · simp [hQ, heq]
      have hpar' : ¬ (x.f2 = true) := by rw [his.par, hpar]; simp
      by_cases hpre : p.con <+: bs s
      · have hle : p.con.length ≤ s.size := by have := hpre.length_le; rwa [bs_len] at this
        obtain ⟨b, hb, hbi⟩ := ih' (s.extract x.f0.size s.size) (by rw [sz_from]; omega)
        obtain ⟨r, hr, hri⟩ := hj0 b _ hbi
        refine ⟨r, Ev.step (f := fun k => (spec_could.f k L ((i + 1 : Nat) : Int) (s.extract x.f0.size s.size) part).bind fun t => spec_could.j0 k L (i : Int) s part t x.f0 x.f1 x.f2 x.f3 x.f4 x.f5) (fun k => ?_) (Ev.bind hb hr), ?_⟩
        · simp only [spec_could.f]
          rw [if_neg hneL, if_pos (by omega), if_pos (by omega), rd_of hx, if_neg hpar', begins_iff, hcon]
          simp only [Option.bind_some]
          rw [if_pos (by simpa using hpre), if_pos (by omega), if_pos (by omega), w_succ i (by omega)]
          rfl
        · rw [hri, bs_from, hsz]
          constructor
          · rintro (hc | hc)
            · exact .inr ⟨hpar, .inl ⟨hpre, hc⟩⟩
            · exact .inr ⟨hpar, .inr hc⟩
          · rintro (⟨h1, _⟩ | ⟨_, ⟨_, hc⟩ | hc⟩)
            · rw [hpar] at h1; cases h1
            · exact .inl hc
            · exact .inr hc
      · obtain ⟨r, hr, hri⟩ := hj0 false False (by simp)
        refine ⟨r, Ev.step (fun k => ?_) hr, ?_⟩
        · simp only [spec_could.f]
          rw [if_neg hneL, if_pos (by omega), if_pos (by omega), rd_of hx, if_neg hpar', begins_iff, hcon]
          simp only [Option.bind_some]
          rw [if_neg (by simpa using hpre)]
        · rw [hri]
          constructor
          · rintro (hc | hc)
            · exact absurd hc id
            · exact .inr ⟨hpar, .inr hc⟩
          · rintro (⟨h1, _⟩ | ⟨_, ⟨hc, _⟩ | hc⟩)
            · rw [hpar] at h1; cases h1
            · exact absurd hc hpre
            · exact .inr hc

theorem plain_l0 {L : List S42} {l : List Part} (h : All L l) (hl : l.length ≤ 99999) (hne : ∀ p ∈ l, p.par = false → p.con ≠ []) : ∀ (m i : Nat), i ≤ l.length → l.length - i = m →
    ∃ r : Bool, Ev (fun k => spec_Plain.l0 k L L (L.length : Int) (i : Int)) r ∧ (r = true ↔ Plain (l.drop i)) := by
  have hlen := h.len
  intro m
  induction m with
  | zero =>
    intro i hi hm
    have : i = l.length := by omega
    subst this
    refine ⟨true, Ev.step (f := fun _ => some true) (fun k => ?_) (Ev.now _), ?_⟩
    · simp only [spec_Plain.l0]; rw [if_neg (by omega)]
    · rw [List.drop_length]; simp [Plain]
  | succ m ih =>
    intro i hi hm
    have hil : i < l.length := by omega
    have hget : l[i]? = some l[i] := List.getElem?_eq_getElem hil
    obtain ⟨x, hx, his⟩ := h.get hget
    have hdrop : l.drop i = l[i] :: l.drop (i + 1) := List.drop_eq_getElem_cons hil
    obtain ⟨r, hr, hri⟩ := ih (i + 1) (by omega) (by omega)
    generalize hpe : l[i] = p at *
    have hgo : Ev (fun k => spec_Plain.j1 k L (i : Int) L (L.length : Int) (i : Int) true x.f0 x.f1 x.f2 x.f3 x.f4 x.f5) r :=
      Ev.step (fun k => by simp only [spec_Plain.j1, if_true]; rw [w_succ i (by omega)]) hr
    have hw : wrap64 ((L.length : Int) - 1) = ((l.length - 1 : Nat) : Int) := by rw [hlen, w_pred _ (by omega) (by omega)]
    rw [hdrop]
    by_cases hend : i + 1 = l.length
    · have hd : l.drop (i + 1) = [] := by rw [hend, List.drop_length]
      refine ⟨r, Ev.step (fun k => ?_) hgo, by rw [hri, hd]; simp [Plain]⟩
      simp only [spec_Plain.l0]
      rw [if_pos (by omega), if_pos (by omega), if_pos (by omega), rd_of hx, hw]
      have hb : ((i : Int) == ((l.length - 1 : Nat) : Int)) = true := by rw [beq_iff_eq]; omega
      rw [hb]
      split <;> rfl
    · have hi1 : i + 1 < l.length := by omega
      obtain ⟨y, hy, hiy⟩ := h.get (List.getElem?_eq_getElem hi1)
      have hd1 : l.drop (i + 1) = l[i + 1] :: l.drop (i + 2) := List.drop_eq_getElem_cons hi1
      have hqm : l[i + 1] ∈ l := List.getElem_mem _
      generalize hqe : l[i + 1] = q at *
      rw [hd1] at hri ⊢
      cases hpar : p.par with
      | false =>
        refine ⟨r, Ev.step (fun k => ?_) hgo, by rw [hri]; simp [Plain, hpar]⟩
        simp only [spec_Plain.l0]
        rw [if_pos (by omega), if_pos (by omega), if_pos (by omega), rd_of hx, if_neg (by rw [his.par, hpar]; decide)]
      | true =>
        have hb : ((i : Int) == ((l.length - 1 : Nat) : Int)) = false := by rw [beq_eq_false_iff_ne]; omega
        have hstep : ∀ k, spec_Plain.l0 (k + 1) L L (L.length : Int) (i : Int) = spec_Plain.j1 k L (i : Int) L (L.length : Int) (i : Int) false x.f0 x.f1 x.f2 x.f3 x.f4 x.f5 := by
          intro k
          simp only [spec_Plain.l0]
          rw [if_pos (by omega), if_pos (by omega), if_pos (by omega), rd_of hx, hw, hb, if_pos (by rw [his.par, hpar])]
        have hj : ∃ r' : Bool, Ev (fun k => spec_Plain.j1 k L (i : Int) L (L.length : Int) (i : Int) false x.f0 x.f1 x.f2 x.f3 x.f4 x.f5) r' ∧ (r' = true ↔ Plain (p :: q :: l.drop (i + 2))) := by
          cases hg : p.greedy with
          | true => exact ⟨false, Ev.step (f := fun _ => some false) (fun k => by simp only [spec_Plain.j1]; rw [if_neg (by decide), if_pos (by rw [his.greedy, hg])]) (Ev.now _), by simp [Plain, hpar, hg]⟩
          | false =>
            cases ho : p.opt with
            | true => exact ⟨false, Ev.step (f := fun _ => some false) (fun k => by simp only [spec_Plain.j1]; rw [if_neg (by decide), if_neg (by rw [his.greedy, hg]; decide), if_pos (by rw [his.opt, ho])]) (Ev.now _), by simp [Plain, hpar, ho]⟩
            | false =>
              have hs1 : ∀ k, spec_Plain.j1 (k + 1) L (i : Int) L (L.length : Int) (i : Int) false x.f0 x.f1 x.f2 x.f3 x.f4 x.f5 = if y.f2 = true then some false else if 0 < (y.f0.size : Int) then if bt y.f0 0 = 47 then spec_Plain.l0 k L L (L.length : Int) ((i + 1 : Nat) : Int) else some false else none := by
                intro k
                simp only [spec_Plain.j1]
                rw [if_neg (by decide), if_neg (by rw [his.greedy, hg]; decide), if_neg (by rw [his.opt, ho]; decide), w_succ i (by omega), if_pos (by omega), if_pos (by omega), rd_of hy]
              cases hqp : q.par with
              | true => exact ⟨false, Ev.step (f := fun _ => some false) (fun k => by rw [hs1 k, if_pos (by rw [hiy.par, hqp])]) (Ev.now _), by simp [Plain, hpar, hqp]⟩
              | false =>
                have hyc := hiy.con hqp
                have hpos : 0 < y.f0.size := by
                  rw [← bs_len, hyc]
                  exact List.length_pos_iff.2 (hne q hqm hqp)
                by_cases h47 : bt y.f0 0 = 47
                · refine ⟨r, Ev.step (f := fun k => spec_Plain.l0 k L L (L.length : Int) ((i + 1 : Nat) : Int)) (fun k => ?_) hr, ?_⟩
                  · rw [hs1 k, if_neg (by rw [hiy.par, hqp]; decide), if_pos (by omega), if_pos h47]
                  · have := (bt_47 y.f0 0 hpos).1 h47
                    rw [hyc] at this
                    rw [hri]
                    simp [Plain, hpar, hg, ho, hqp, List.head?_eq_getElem?, this]
                · refine ⟨false, Ev.step (f := fun _ => some false) (fun k => ?_) (Ev.now _), ?_⟩
                  · rw [hs1 k, if_neg (by rw [hiy.par, hqp]; decide), if_pos (by omega), if_neg h47]
                  · have h2 : ¬ q.con.head? = some 47 := by
                      rw [List.head?_eq_getElem?, ← hyc]
                      intro e
                      exact h47 ((bt_47 y.f0 0 hpos).2 e)
                    simp [Plain, hpar, h2]
        obtain ⟨r', hr', hi'⟩ := hj
        exact ⟨r', Ev.step hstep hr', hi'⟩

theorem plain_ev {L : List S42} {l : List Part} (h : All L l) (hl : l.length ≤ 99999) (hne : ∀ p ∈ l, p.par = false → p.con ≠ []) :
    ∃ r : Bool, Ev (fun k => spec_Plain.f k L) r ∧ (r = true ↔ Plain l) := by
  have := plain_l0 h hl hne l.length 0 (by omega) (by omega)
  simpa [spec_Plain.f] using this

theorem Could_l0 {L : List S42} {l : List Part} (h : All L l) (hl : l.length ≤ 99999) (s : ByteArray) (part : Bool) {b c : Bool} (hb : Ev (fun k => spec_could.f k L 0 s part) b) (hc : Ev (fun k => spec_Plain.f k L) c) :
    ∀ (m i : Nat), i ≤ l.length → l.length - i = m → ∀ n : Nat, n ≤ i → ∃ r : Int, Ev (fun k => spec_Could.l0 k L s part (n : Int) L (L.length : Int) (i : Int)) r ∧ (r = 2 ∨ r = (if b then (if c then 1 else 2) else 0)) := by
  have hlen := h.len
  have hj : ∀ f : Bool, ∃ r : Int, Ev (fun k => spec_Could.j1 k L s part f) r ∧ (r = 2 ∨ r = (if b then (if c then 1 else 2) else 0)) := by
    intro f
    cases f with
    | true => exact ⟨2, Ev.step (f := fun _ => some 2) (fun k => by simp only [spec_Could.j1, if_true]) (Ev.now _), .inl rfl⟩
    | false =>
      refine ⟨_, Ev.step (f := fun k => (spec_could.f k L 0 s part).bind fun t300 => (if t300 = true then ((spec_Plain.f k L).bind fun t301 => (if t301 = true then (some 1) else (some 2))) else (some 0))) (fun k => by simp only [spec_Could.j1]; rw [if_neg (by decide)]) (Ev.bind hb (r := if b then (if c then 1 else 2) else 0) ?_), .inr rfl⟩
      cases b with
      | true =>
        simp only [if_true]
        refine Ev.bind hc ?_
        cases c <;> simp only [if_true, Bool.false_eq_true, if_false] <;> exact Ev.now _
      | false => simp only [Bool.false_eq_true, if_false]; exact Ev.now _
  intro m
  induction m with
  | zero =>
    intro i hi hm n hn
    obtain ⟨r, hr, h2⟩ := hj true
    obtain ⟨r', hr', h2'⟩ := hj (decide ((s.size : Int) > 60))
    by_cases h6 : (n : Int) > 6
    · exact ⟨r, Ev.step (fun k => by simp only [spec_Could.l0]; rw [if_neg (by omega), if_pos h6]) hr, h2⟩
    · exact ⟨r', Ev.step (fun k => by simp only [spec_Could.l0]; rw [if_neg (by omega), if_neg h6]) hr', h2'⟩
  | succ m ih =>
    intro i hi hm n hn
    obtain ⟨x, hx, his⟩ := h.get (List.getElem?_eq_getElem (show i < l.length by omega))
    by_cases hf : x.f2 = true
    · obtain ⟨r, hr, h2⟩ := ih (i + 1) (by omega) (by omega) (n + 1) (by omega)
      refine ⟨r, Ev.step (fun k => ?_) hr, h2⟩
      simp only [spec_Could.l0]
      rw [if_pos (by omega), if_pos (by omega), if_pos (by omega), rd_of hx, if_pos hf, w_succ n (by omega), w_succ i (by omega)]
    · obtain ⟨r, hr, h2⟩ := ih (i + 1) (by omega) (by omega) n (by omega)
      refine ⟨r, Ev.step (fun k => ?_) hr, h2⟩
      simp only [spec_Could.l0]
      rw [if_pos (by omega), if_pos (by omega), if_pos (by omega), rd_of hx, if_neg hf, w_succ i (by omega)]

/-- What Could tells: 0: it cannot; 1: it can, and the pattern is plain; 2: nothing. -/
theorem Could_ev {L : List S42} {l : List Part} (h : All L l) (hl : l.length ≤ 99999) (hcl : ∀ p ∈ l, p.con.length ≤ 4294967290) (hne : ∀ p ∈ l, p.par = false → p.con ≠ []) (s : ByteArray) (hs : s.size ≤ 4294967290) (part : Bool) :
    ∃ r : Int, Ev (fun k => spec_Could.f k L s part) r ∧ (r = 2 ∨ (r = 0 ∧ ¬ CanBe l (bs s) part) ∨ (r = 1 ∧ CanBe l (bs s) part ∧ Plain l)) := by
  obtain ⟨b, hb, hbi⟩ := could_ev h hl hcl part l.length 0 (by omega) (by omega) s hs
  obtain ⟨c, hc, hci⟩ := plain_ev h hl hne
  obtain ⟨r, hr, h2⟩ := Could_l0 h hl s part hb hc l.length 0 (by omega) (by omega) 0 (by omega)
  refine ⟨r, hr, ?_⟩
  rw [List.drop_zero] at hbi
  rcases h2 with h2 | h2
  · exact .inl h2
  · cases b with
    | false => right; left; exact ⟨by simpa using h2, fun hc => by have := hbi.2 hc; cases this⟩
    | true =>
      cases c with
      | false => left; simpa using h2
      | true => right; right; exact ⟨by simpa using h2, hbi.1 rfl, hci.1 rfl⟩
end Go.Proofs.YtfahabnjplnbmaaGreatDoor.QL
