/- What the text of a good list of parts looks like, part by part. -/
import Derived.Test.YtfahabnjplnbmaaGreatDoorMWk7
namespace Go.Proofs.YtfahabnjplnbmaaGreatDoor.Wk
open Go.RowKit Go.Proofs.YtfahabnjplnbmaaGreatDoorW.PrintWords
open Go.Proofs.YtfahabnjplnbmaaGreatDoor.Pl Go.Proofs.YtfahabnjplnbmaaGreatDoor.Q Go.Proofs.YtfahabnjplnbmaaGreatDoor.QL
set_option linter.unusedVariables false
set_option linter.unusedSimpArgs false

theorem nameB_fin : ∀ n : Fin 256, nameB (UInt8.ofNat n.val) = true → n.val < 128 ∧ n.val ≠ 60 ∧ n.val ≠ 62 ∧ n.val ≠ 92 ∧ n.val ≠ 42 ∧ n.val ≠ 43 ∧ n.val ≠ 58 ∧ n.val ≠ 63 ∧ n.val ≠ 47 ∧ n.val ≠ 45 ∧ n.val ≠ 46 := by decide +kernel
theorem constB_fin : ∀ n : Fin 256, constB (UInt8.ofNat n.val) = true → n.val < 128 ∧ n.val ≠ 60 ∧ n.val ≠ 62 ∧ n.val ≠ 92 ∧ n.val ≠ 42 ∧ n.val ≠ 43 ∧ n.val ≠ 58 ∧ n.val ≠ 63 ∧ (nameB (UInt8.ofNat n.val) = true ∨ n.val = 47 ∨ n.val = 45 ∨ n.val = 46) := by decide +kernel
theorem u8_ofNat (c : UInt8) : UInt8.ofNat c.toNat = c := by simp
theorem nameB_is {c : UInt8} (h : nameB c = true) : c.toNat < 128 ∧ c.toNat ≠ 60 ∧ c.toNat ≠ 62 ∧ c.toNat ≠ 92 ∧ c.toNat ≠ 42 ∧ c.toNat ≠ 43 ∧ c.toNat ≠ 58 ∧ c.toNat ≠ 63 ∧ c.toNat ≠ 47 ∧ c.toNat ≠ 45 ∧ c.toNat ≠ 46 := by
  have := nameB_fin ⟨c.toNat, c.toNat_lt⟩
  rw [u8_ofNat] at this
  exact this h
theorem constB_is {c : UInt8} (h : constB c = true) : c.toNat < 128 ∧ c.toNat ≠ 60 ∧ c.toNat ≠ 62 ∧ c.toNat ≠ 92 ∧ c.toNat ≠ 42 ∧ c.toNat ≠ 43 ∧ c.toNat ≠ 58 ∧ c.toNat ≠ 63 ∧ (nameB c = true ∨ c.toNat = 47 ∨ c.toNat = 45 ∨ c.toNat = 46) := by
  have := constB_fin ⟨c.toNat, c.toNat_lt⟩
  rw [u8_ofNat] at this
  exact this h
/-- A byte that a pattern of good parts may hold. -/
def Tm (x : UInt8) : Prop := x.toNat < 128 ∧ x ≠ 60 ∧ x ≠ 62 ∧ x ≠ 92
theorem tm_of {x : UInt8} (h : x.toNat < 128 ∧ x.toNat ≠ 60 ∧ x.toNat ≠ 62 ∧ x.toNat ≠ 92) : Tm x :=
  ⟨h.1, fun e => h.2.1 (by rw [e]; rfl), fun e => h.2.2.1 (by rw [e]; rfl), fun e => h.2.2.2 (by rw [e]; rfl)⟩
theorem tm_rend {p : Part} (h : One p) : ∀ x ∈ p.rend, Tm x := by
  intro x hx
  cases p with
  | const c => have := constB_is (h.2 x hx); exact tm_of ⟨this.1, this.2.1, this.2.2.1, this.2.2.2.1⟩
  | star => simp only [Part.rend, List.mem_singleton] at hx; subst hx; exact tm_of (by decide)
  | plus => simp only [Part.rend, List.mem_singleton] at hx; subst hx; exact tm_of (by decide)
  | named nm o =>
    simp only [Part.rend, List.mem_cons, List.mem_append] at hx
    rcases hx with rfl | hx | hx
    · exact tm_of (by decide)
    · have := nameB_is (h.2 x hx); exact tm_of ⟨this.1, this.2.1, this.2.2.1, this.2.2.2.1⟩
    · cases o with
      | true => simp at hx; subst hx; exact tm_of (by decide)
      | false => simp at hx
theorem tm_render : ∀ {l : List Part}, Pl.Good l → ∀ x ∈ render l, Tm x
  | [], _, x, hx => by simp [render] at hx
  | p :: t, h, x, hx => by
    rw [show render (p :: t) = p.rend ++ render t by simp [render], List.mem_append] at hx
    rcases hx with hx | hx
    · exact tm_rend h.one x hx
    · exact tm_render h.tail x hx
theorem rc (p : Part) (t : List Part) : render (p :: t) = p.rend ++ render t := by simp [render]
theorem tame_render {l : List Part} (h : Pl.Good l) {s : ByteArray} (hs : bs s = render l) (h2 : s.size ≤ 1000) : Tame s := ⟨h2, fun x hx => by rw [hs] at hx; exact tm_render h x hx⟩
/-- The first byte of a parameter. -/
theorem par_head {p : Part} (h : p.par = true) (r : Bytes) : ∃ x, (p.rend ++ r)[0]? = some x ∧ x ∈ ([42, 43, 58] : Bytes) := by
  cases p with
  | const => cases h
  | named => exact ⟨58, rfl, by decide⟩
  | star => exact ⟨42, rfl, by decide⟩
  | plus => exact ⟨43, rfl, by decide⟩
theorem con_no {c : Bytes} (h : ∀ x ∈ c, constB x = true) : ∀ x ∈ c, x ∉ ([42, 43, 58] : Bytes) := by
  intro x hx hm
  have := constB_is (h x hx)
  simp only [List.mem_cons, List.not_mem_nil, or_false] at hm
  rcases hm with rfl | rfl | rfl
  · exact this.2.2.2.2.1 rfl
  · exact this.2.2.2.2.2.1 rfl
  · exact this.2.2.2.2.2.2.1 rfl
theorem good_after_const {c : Bytes} {q : Part} {t : List Part} (h : Pl.Good (.const c :: q :: t)) : q.par = true := by
  have := h.2.1
  cases q with
  | const => exact absurd this id
  | _ => rfl
/-- Where the first parameter starts. -/
theorem fi_param {p : Part} {t : List Part} (hp : p.par = true) : FI (· ∈ ([42, 43, 58] : Bytes)) (render (p :: t)) 0 := by
  right
  obtain ⟨x, hx, hm⟩ := par_head hp (render t)
  exact ⟨0, rfl, x, by rw [rc]; exact hx, hm, fun y hy => by simp at hy⟩
theorem fi_const_end {c : Bytes} (h : One (.const c)) : FI (· ∈ ([42, 43, 58] : Bytes)) (render [.const c]) (-1) := by
  left
  refine ⟨rfl, fun x hx => con_no h.2 x ?_⟩
  simpa [render, Part.rend] using hx
theorem fi_const {c : Bytes} {q : Part} {t : List Part} (h : Pl.Good (.const c :: q :: t)) : FI (· ∈ ([42, 43, 58] : Bytes)) (render (.const c :: q :: t)) (c.length : Int) := by
  right
  obtain ⟨x, hx, hm⟩ := par_head (good_after_const h) (render t)
  have e : render (.const c :: q :: t) = c ++ (q.rend ++ render t) := by rw [rc, rc]; rfl
  refine ⟨c.length, rfl, x, ?_, hm, fun y hy => ?_⟩
  · rw [e, List.getElem?_append_right (Nat.le_refl _), Nat.sub_self]; exact hx
  · rw [e, List.take_left] at hy
    exact con_no h.one.2 y hy
theorem name_no {nm : Bytes} (h : ∀ x ∈ nm, nameB x = true) : ∀ x ∈ nm, x ∉ ends := by
  intro x hx hm
  have := nameB_is (h x hx)
  simp only [ends, List.mem_cons, List.not_mem_nil, or_false] at hm
  rcases hm with rfl | rfl | rfl | rfl | rfl | rfl
  · exact this.2.2.2.2.2.2.2.1 rfl
  · exact this.2.2.2.2.2.2.1 rfl
  · exact this.2.2.2.1 rfl
  · exact this.2.2.2.2.2.2.2.2.1 rfl
  · exact this.2.2.2.2.2.2.2.2.2.1 rfl
  · exact this.2.2.2.2.2.2.2.2.2.2 rfl
/-- A named parameter's walk, at the text of good parts. -/
theorem param_named (P : Nat) (s : ByteArray) (a b : Value) (i j : Nat) (nm : Bytes) (o : Bool) (t : List Part) (w : World) (hg : Pl.Good (.named nm o :: t)) (hs : bs s = render (.named nm o :: t)) (h2 : s.size ≤ 1000) (hP : PrsAt w P a b i j) :
    Calls Tryz.prog 35 #[.pointer (some ⟨P, 0, none⟩), .string s] w fun e w' => ParOut w P (s.extract 0 (Part.named nm o).rend.length) a b i j false o e w' := by
  have ht := tame_render hg hs h2
  have hone : nm ≠ [] ∧ ∀ x ∈ nm, nameB x = true := hg.one
  have hnm : 1 ≤ nm.length := List.length_pos_iff.2 hone.1
  have hno := name_no hone.2
  cases o with
  | true =>
    have e : bs s = 58 :: (nm ++ 63 :: render t) := by rw [hs, rc]; simp [Part.rend]
    have hlen : s.size = nm.length + 2 + (render t).length := by rw [← bs_len, e]; simp; omega
    have hat : (bs s)[nm.length + 1]? = some 63 := by
      rw [e, List.getElem?_cons_succ, List.getElem?_append_right (Nat.le_refl _), Nat.sub_self]; rfl
    have := param_namedA P s a b i j (nm.length + 1) true w ht hP (by rw [e]; rfl) (by omega) (by omega) ⟨63, hat, by simp⟩ ⟨nm.length, rfl, hat, fun y hy => ?_⟩
    · have hl : (Part.named nm true).rend.length = nm.length + 1 + 1 := by simp [Part.rend]
      rw [hl]; exact this
    · rw [e] at hy
      simp only [List.drop_succ_cons, List.drop_zero, List.take_left] at hy
      exact hno y hy
  | false =>
    have e : bs s = 58 :: (nm ++ render t) := by rw [hs, rc]; simp [Part.rend]
    have hlen : s.size = nm.length + 1 + (render t).length := by rw [← bs_len, e]; simp; omega
    have hl : (Part.named nm false).rend.length = nm.length + 1 := by simp [Part.rend]
    rw [hl]
    have hq : ∃ q, (bs s)[nm.length]? = some q ∧ (q = 63 ↔ false = true) := by
      have hlt : nm.length - 1 < nm.length := by omega
      obtain ⟨q, hq⟩ : ∃ q, nm[nm.length - 1]? = some q := ⟨_, List.getElem?_eq_getElem hlt⟩
      have h3 : (58 :: (nm ++ render t))[nm.length - 1 + 1]? = some q := by rw [List.getElem?_cons_succ, List.getElem?_append_left hlt]; exact hq
      rw [Nat.sub_add_cancel hnm] at h3
      refine ⟨q, by rw [e]; exact h3, ⟨fun h => ?_, (fun h => by cases h)⟩⟩
      exact absurd (List.mem_of_getElem? hq) (fun hm => hno _ hm (by rw [h]; decide))
    cases t with
    | nil =>
      have e2 : bs s = 58 :: nm := by rw [e]; simp [render]
      refine param_namedB P s a b i j nm.length false w ht hP (by rw [e]; rfl) hnm (by omega) hq ⟨rfl, by rw [hlen]; simp [render], fun y hy => ?_⟩
      rw [e2] at hy
      exact hno y (by simpa using hy)
    | cons q t =>
      have hp := hg.2.1
      cases q with
      | named => exact absurd hp id
      | star => exact absurd hp id
      | plus => exact absurd hp id
      | const c =>
        have hc : One (.const c) := hg.tail.one
        obtain ⟨x, c', rfl⟩ : ∃ x c', c = x :: c' := by
          cases c with
          | nil => exact absurd rfl hc.1
          | cons x c' => exact ⟨x, c', rfl⟩
        have hx1 : nameB x = false := hp.1 rfl x rfl
        have hx2 := constB_is (hc.2 x (List.mem_cons_self ..))
        have hxm : x ∈ ([47, 45, 46] : Bytes) := by
          rcases hx2.2.2.2.2.2.2.2.2 with h | h | h | h
          · rw [hx1] at h; cases h
          · have : x = 47 := UInt8.toNat_inj.1 h
            subst this; decide
          · have : x = 45 := UInt8.toNat_inj.1 h
            subst this; decide
          · have : x = 46 := UInt8.toNat_inj.1 h
            subst this; decide
        refine param_namedC P s a b i j nm.length false w ht hP (by rw [e]; rfl) hnm (by omega) hq ⟨x, ?_, hxm, fun y hy => ?_⟩
        · rw [e, List.getElem?_cons_succ, List.getElem?_append_right (Nat.le_refl _), Nat.sub_self, rc]; rfl
        · rw [e] at hy
          simp only [List.drop_succ_cons, List.drop_zero, List.take_left] at hy
          exact hno y hy
theorem no_start_head {t : List Part} {p : Part} (hg : Pl.Good (p :: t)) (hp : p.par = true) : ∀ x, (render t)[0]? = some x → x ∉ ([42, 43, 58] : Bytes) := by
  intro x hx
  cases t with
  | nil => simp [render] at hx
  | cons q t =>
    have hp2 := hg.2.1
    cases q with
    | const c =>
      have hc : One (.const c) := hg.tail.one
      cases c with
      | nil => exact absurd rfl hc.1
      | cons y c' =>
        rw [rc] at hx
        simp [Part.rend] at hx
        subst hx
        exact con_no hc.2 y (List.mem_cons_self ..)
    | named => cases p <;> first | exact absurd hp2 id | cases hp
    | star => cases p <;> first | exact absurd hp2 id | cases hp
    | plus => cases p <;> first | exact absurd hp2 id | cases hp
/-- Behind the first parameter's sign stands no other sign, unless it is the star. -/
theorem par_next {p : Part} {t : List Part} (hg : Pl.Good (p :: t)) (hp : p.par = true) : (render (p :: t))[0]? ≠ some 42 → ∀ x, (render (p :: t))[1]? = some x → x ∉ ([42, 43, 58] : Bytes) := by
  intro h42 x hx
  cases p with
  | const => cases hp
  | star => rw [rc] at h42; exact absurd rfl h42
  | plus =>
    rw [rc] at hx
    simp only [Part.rend, List.singleton_append, List.getElem?_cons_succ] at hx
    exact no_start_head hg hp x hx
  | named nm o =>
    have hone : nm ≠ [] ∧ ∀ x ∈ nm, nameB x = true := hg.one
    cases nm with
    | nil => exact absurd rfl hone.1
    | cons y nm =>
      rw [rc] at hx
      simp [Part.rend] at hx
      subst hx
      have := nameB_is (hone.2 y (List.mem_cons_self ..))
      intro hm
      simp only [List.mem_cons, List.not_mem_nil, or_false] at hm
      rcases hm with rfl | rfl | rfl
      · exact this.2.2.2.2.1 rfl
      · exact this.2.2.2.2.2.1 rfl
      · exact this.2.2.2.2.2.2.1 rfl
theorem nextParam_calls {s : ByteArray} (ht : Tame s) {r : Int} (hr : FI (· ∈ ([42, 43, 58] : Bytes)) (bs s) r)
    (hnext : ∀ i : Nat, r = (i : Int) → (bs s)[i]? ≠ some 42 → ∀ x, (bs s)[i + 1]? = some x → x ∉ ([42, 43, 58] : Bytes)) (w : World) :
    Calls Tryz.prog 34 #[.string s] w fun e w' => e = .returned (.int .i64 r) ∧ Below w.heap.size w w' := by
  obtain ⟨k, hk⟩ := (nextParam_ev s (by have := ht.1; omega) (no92 ht.2) r hr hnext).rounds
  exact fiberpath_findNextParamPosition.calls k s r w hk
/-- At a parameter: 0. -/
theorem nextParam_par {p : Part} {t : List Part} (hg : Pl.Good (p :: t)) (hp : p.par = true) {s : ByteArray} (hs : bs s = render (p :: t)) (h2 : s.size ≤ 1000) (w : World) :
    Calls Tryz.prog 34 #[.string s] w fun e w' => e = .returned (.int .i64 0) ∧ Below w.heap.size w w' :=
  nextParam_calls (tame_render hg hs h2) (by rw [hs]; exact fi_param hp) (fun i hi h42 x hx => by
    obtain rfl : i = 0 := by omega
    rw [hs] at h42 hx
    exact par_next hg hp h42 x hx) w
/-- At the last constant part: -1. -/
theorem nextParam_end {c : Bytes} (hg : Pl.Good [.const c]) {s : ByteArray} (hs : bs s = render [.const c]) (h2 : s.size ≤ 1000) (w : World) :
    Calls Tryz.prog 34 #[.string s] w fun e w' => e = .returned (.int .i64 (-1)) ∧ Below w.heap.size w w' :=
  nextParam_calls (tame_render hg hs h2) (by rw [hs]; exact fi_const_end hg.one) (fun i hi => by omega) w
/-- At a constant part ahead of a parameter: its length. -/
theorem nextParam_con {c : Bytes} {q : Part} {t : List Part} (hg : Pl.Good (.const c :: q :: t)) {s : ByteArray} (hs : bs s = render (.const c :: q :: t)) (h2 : s.size ≤ 1000) (w : World) :
    Calls Tryz.prog 34 #[.string s] w fun e w' => e = .returned (.int .i64 (c.length : Int)) ∧ Below w.heap.size w w' :=
  nextParam_calls (tame_render hg hs h2) (by rw [hs]; exact fi_const hg) (fun i hi h42 x hx => by
    obtain rfl : i = c.length := by omega
    have e : bs s = c ++ render (q :: t) := by rw [hs, rc]; rfl
    rw [e, List.getElem?_append_right (Nat.le_refl _), Nat.sub_self] at h42
    rw [e, List.getElem?_append_right (by omega), Nat.add_sub_cancel_left] at hx
    exact par_next hg.tail (good_after_const hg) h42 x hx) w
end Go.Proofs.YtfahabnjplnbmaaGreatDoor.Wk
