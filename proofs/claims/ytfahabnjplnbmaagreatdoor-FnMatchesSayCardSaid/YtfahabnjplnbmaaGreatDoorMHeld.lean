/- A region that draws its order: what yields as long as one operation, that waits for it, has not come up. -/
import Derived.OrdersHeld
import Derived.RegionTactic
namespace Go.Proofs.YtfahabnjplnbmaaGreatDoor.Wk
open Go
section
variable {P : Program} {ops : Array Oper} {Q : Exit → Act → World → Prop} {md : Region.Mode} {c : Nat} {S : World → Prop}

/-- Every order from here on; till number 'c' has come up, 'S' holds behind each operation. -/
def Ords (P : Program) (md : Region.Mode) (ops : Array Oper) (Q : Exit → Act → World → Prop) (c : Nat) (S : World → Prop) : Nat → Array Bool → Act → World → Prop
  | 0, L, a, w => Region.ready md ops L = [] ∧ Q .normal a w
  | n + 1, L, a, w => (Region.ready md ops L = [] → Q .normal a w) ∧
    ∀ i ∈ Region.ready md ops L, wpOp P ops Q i (fun a' w' => ((L.setIfInBounds i true).getD c true = false → S w') ∧ Ords P md ops Q c S n (L.setIfInBounds i true) a' w') a w

theorem Ords.any : ∀ (n : Nat) (L : Array Bool) (a : Act) (w : World), Ords P md ops Q c S n L a w → wpAny P md ops Q n L a w
  | 0, _, _, _, h => h
  | n + 1, _, _, _, h => ⟨h.1, fun i hi => wpOp_mono (fun a' w' h' => Ords.any n _ a' w' h'.2) (h.2 i hi)⟩

theorem Ords.first {i : Nat} {oi oc : Oper} {v : Value} (hi : ops[i]? = some oi) (hoc : ops[c]? = some oc) (hwait : ∃ e ∈ oc.after, Region.binds md e = true ∧ e.on = i) (hic : i ≠ c)
    (hsel : ∀ (j : Nat) (o : Oper) cs b, ops[j]? = some o → o.op ≠ .select cs b) (hQ : ∀ c a w, Q (.panic c) (a.put oi.dst v) w → Q (.panic c) a w) :
    ∀ (n : Nat) (L : Array Bool) (a : Act) (w : World),
      (∀ j oj, ops[j]? = some oj → j ≠ i → L.getD j true = false → (∀ e ∈ oj.after, Region.binds md e = true → e.on ≠ i) → oi.apart ops oj = true) →
      i ∈ Region.ready md ops L → YieldsIf P ops S oi v a → L.getD c true = false → S w →
      Ords P md ops Q c S n (L.setIfInBounds i true) (a.put oi.dst v) w → Ords P md ops Q c S (n + 1) L a w := by
  intro n
  induction n with
  | zero =>
    intro L a w _ hr hy hc hS H
    refine ⟨fun h => (by rw [h] at hr; cases hr), fun j hj => ?_⟩
    by_cases hji : j = i
    · rw [hji]; exact hy.wpOp hi hS ⟨fun _ => hS, H⟩
    · have := ready_mono hj hji
      rw [H.1] at this; cases this
  | succ n ih =>
    intro L a w hfree hr hy hc hS H
    refine ⟨fun h => (by rw [h] at hr; cases hr), fun j hj => ?_⟩
    by_cases hji : j = i
    · rw [hji]; exact hy.wpOp hi hS ⟨fun _ => hS, H⟩
    · have hun := (mem_ready.1 hr).1
      obtain ⟨hjun, oj, hoj, hall⟩ := mem_ready.1 hj
      have hlisted : ∀ k, L.getD k true = false → L.getD k false = true → False := fun k h0 h1 => by
        rcases Nat.lt_or_ge k L.size with h' | h'
        · simp [h'] at h0 h1; rw [h0] at h1; cases h1
        · simp [Array.getElem?_eq_none h'] at h1
      have hjc : j ≠ c := fun e => by
        subst e
        obtain ⟨ed, hed, hb, hon⟩ := hwait
        obtain rfl : oc = oj := by rw [hoc] at hoj; exact Option.some.inj hoj
        have := hall ed hed hb
        rw [hon] at this
        exact hlisted i hun this
      have hnot : ∀ e ∈ oj.after, Region.binds md e = true → e.on ≠ i := fun e he hb heq => by
        have := hall e he hb
        rw [heq] at this
        exact hlisted i hun this
      have h2 := wpOp_putIf hoj (hfree j oj hoj hji hjun hnot) (fun cs b => hsel i oi cs b hi) (fun cs b => hsel j oj cs b hoj) hQ hy (H.2 j (ready_mono hj hji))
      have hcj : (L.setIfInBounds j true).getD c true = false := by rw [getD_set_ne true hjc]; exact hc
      have hcij : ((L.setIfInBounds i true).setIfInBounds j true).getD c true = false := by rw [getD_set_ne true hjc, getD_set_ne true hic]; exact hc
      have hfree' : ∀ k ok, ops[k]? = some ok → k ≠ i → (L.setIfInBounds j true).getD k true = false → (∀ e ∈ ok.after, Region.binds md e = true → e.on ≠ i) → oi.apart ops ok = true := fun k ok hk hki hkun hno => by
        refine hfree k ok hk hki ?_ hno
        by_cases hjk : j = k
        · subst hjk; exact hjun
        · rw [getD_set_ne true hjk] at hkun; exact hkun
      refine wpOp_mono (fun a' w' h3 => ⟨fun _ => h3.2.1 hcij, ih (L.setIfInBounds j true) a' w' hfree' (ready_mono hr (Ne.symm hji)) h3.1 hcj (h3.2.1 hcij) ?_⟩) h2
      rw [Array.setIfInBounds_comm _ _ hji]
      exact h3.2.2

/-- Take number 'i' first. -/
theorem Ords.take {i : Nat} {oi : Oper} {v : Value} {n : Nat} {L : Array Bool} {a : Act} {w : World} (oc : Oper) (d : Option Tmp) (hi : ops[i]? = some oi) (hd : oi.dst = d) (hoc : ops[c]? = some oc) (hwait : oc.after.any (fun e => Region.binds md e && e.on == i) = true) (hic : (i == c) = false)
    (hs : Region.noSelect ops = true) (hf : Region.free md ops L i = true) (hr : (Region.ready md ops L).contains i = true)
    (hQ : ∀ c a w, Q (.panic c) (a.put d v) w → Q (.panic c) a w) (hy : YieldsIf P ops S oi v a) (hc : L.getD c true = false) (hS : S w)
    (h : Ords P md ops Q c S n (L.setIfInBounds i true) (a.put d v) w) : Ords P md ops Q c S (n + 1) L a w := by
  subst hd
  refine Ords.first hi hoc ?_ (by simpa using hic) (Region.noSelect_spec hs) hQ n L a w (Region.free_spec hi hf) (by simpa using hr) hy hc hS h
  rw [Array.any_eq_true'] at hwait
  obtain ⟨e, he, hb⟩ := hwait
  simp only [Bool.and_eq_true, beq_iff_eq] at hb
  exact ⟨e, he, hb.1, hb.2⟩

/-- What yields in whatever world may be taken first at any time. -/
theorem Ords.firstAny {i : Nat} {oi : Oper} {v : Value} (hi : ops[i]? = some oi) (hic : i ≠ c)
    (hsel : ∀ (j : Nat) (o : Oper) cs b, ops[j]? = some o → o.op ≠ .select cs b) (hQ : ∀ c a w, Q (.panic c) (a.put oi.dst v) w → Q (.panic c) a w) :
    ∀ (n : Nat) (L : Array Bool) (a : Act) (w : World),
      (∀ j oj, ops[j]? = some oj → j ≠ i → L.getD j true = false → (∀ e ∈ oj.after, Region.binds md e = true → e.on ≠ i) → oi.apart ops oj = true) →
      i ∈ Region.ready md ops L → YieldsIf P ops (fun _ => True) oi v a → (L.getD c true = false → S w) →
      Ords P md ops Q c S n (L.setIfInBounds i true) (a.put oi.dst v) w → Ords P md ops Q c S (n + 1) L a w := by
  intro n
  induction n with
  | zero =>
    intro L a w _ hr hy hS H
    refine ⟨fun h => (by rw [h] at hr; cases hr), fun j hj => ?_⟩
    by_cases hji : j = i
    · rw [hji]; exact hy.wpOp hi trivial ⟨fun h => hS (by rw [getD_set_ne true hic] at h; exact h), H⟩
    · have := ready_mono hj hji
      rw [H.1] at this; cases this
  | succ n ih =>
    intro L a w hfree hr hy hS H
    refine ⟨fun h => (by rw [h] at hr; cases hr), fun j hj => ?_⟩
    by_cases hji : j = i
    · rw [hji]; exact hy.wpOp hi trivial ⟨fun h => hS (by rw [getD_set_ne true hic] at h; exact h), H⟩
    · have hun := (mem_ready.1 hr).1
      obtain ⟨hjun, oj, hoj, hall⟩ := mem_ready.1 hj
      have hnot : ∀ e ∈ oj.after, Region.binds md e = true → e.on ≠ i := fun e he hb heq => by
        have h1 := hall e he hb
        rw [heq] at h1
        rcases Nat.lt_or_ge i L.size with h' | h'
        · simp [h'] at hun h1; rw [hun] at h1; cases h1
        · simp [Array.getElem?_eq_none h'] at h1
      have h2 := wpOp_putIf hoj (hfree j oj hoj hji hjun hnot) (fun cs b => hsel i oi cs b hi) (fun cs b => hsel j oj cs b hoj) hQ hy (H.2 j (ready_mono hj hji))
      have hcc : ((L.setIfInBounds i true).setIfInBounds j true).getD c true = (L.setIfInBounds j true).getD c true := by
        rw [Array.setIfInBounds_comm _ _ (Ne.symm hji), getD_set_ne true hic]
      have hfree' : ∀ k ok, ops[k]? = some ok → k ≠ i → (L.setIfInBounds j true).getD k true = false → (∀ e ∈ ok.after, Region.binds md e = true → e.on ≠ i) → oi.apart ops ok = true := fun k ok hk hki hkun hno => by
        refine hfree k ok hk hki ?_ hno
        by_cases hjk : j = k
        · subst hjk; exact hjun
        · rw [getD_set_ne true hjk] at hkun; exact hkun
      refine wpOp_mono (fun a' w' h3 => ⟨fun h => h3.2.1 (hcc.trans h), ih (L.setIfInBounds j true) a' w' hfree' (ready_mono hr (Ne.symm hji)) h3.1 (fun h => h3.2.1 (hcc.trans h)) ?_⟩) h2
      rw [Array.setIfInBounds_comm _ _ hji]
      exact h3.2.2
theorem Ords.move {i : Nat} {oi : Oper} {v : Value} {n : Nat} {L : Array Bool} {a : Act} {w : World} (d : Option Tmp) (hi : ops[i]? = some oi) (hd : oi.dst = d) (hic : (i == c) = false)
    (hs : Region.noSelect ops = true) (hf : Region.free md ops L i = true) (hr : (Region.ready md ops L).contains i = true)
    (hQ : ∀ c a w, Q (.panic c) (a.put d v) w → Q (.panic c) a w) (hy : YieldsIf P ops (fun _ => True) oi v a) (hS : L.getD c true = false → S w)
    (h : Ords P md ops Q c S n (L.setIfInBounds i true) (a.put d v) w) : Ords P md ops Q c S (n + 1) L a w := by
  subst hd
  exact Ords.firstAny hi (by simpa using hic) (Region.noSelect_spec hs) hQ n L a w (Region.free_spec hi hf) (by simpa using hr) hy hS h
/-- One may come up. -/
theorem Ords.one {i : Nat} {o : Oper} {n : Nat} {L : Array Bool} {a : Act} {w : World} (hr : Region.ready md ops L = [i]) (ho : ops[i]? = some o)
    (h : ∀ K : Act → World → Prop, (∀ a' w', ((L.setIfInBounds i true).getD c true = false → S w') → Ords P md ops Q c S n (L.setIfInBounds i true) a' w' → K a' w') → if Region.wanted o (yielded ops a.tmps) = true then Oper.wp P o a w K Q else K (a.put o.dst undef) w) :
    Ords P md ops Q c S (n + 1) L a w :=
  ⟨fun h0 => (by rw [hr] at h0; cases h0), fun j hj => by
    rw [hr, List.mem_singleton] at hj
    subst hj
    exact wpOp_step ho (fun K hK => h K (fun a' w' h1 h2 => hK a' w' ⟨h1, h2⟩))⟩
/-- Two may come up. -/
theorem Ords.two {i i' : Nat} {o o' : Oper} {n : Nat} {L : Array Bool} {a : Act} {w : World} (hr : Region.ready md ops L = [i, i']) (ho : ops[i]? = some o) (ho' : ops[i']? = some o')
    (h : ∀ K : Act → World → Prop, (∀ a' w', ((L.setIfInBounds i true).getD c true = false → S w') → Ords P md ops Q c S n (L.setIfInBounds i true) a' w' → K a' w') → if Region.wanted o (yielded ops a.tmps) = true then Oper.wp P o a w K Q else K (a.put o.dst undef) w)
    (h' : ∀ K : Act → World → Prop, (∀ a' w', ((L.setIfInBounds i' true).getD c true = false → S w') → Ords P md ops Q c S n (L.setIfInBounds i' true) a' w' → K a' w') → if Region.wanted o' (yielded ops a.tmps) = true then Oper.wp P o' a w K Q else K (a.put o'.dst undef) w) :
    Ords P md ops Q c S (n + 1) L a w :=
  ⟨fun h0 => (by rw [hr] at h0; cases h0), fun j hj => by
    rw [hr] at hj
    rcases List.mem_cons.1 hj with hj | hj
    · subst hj
      exact wpOp_step ho (fun K hK => h K (fun a' w' h1 h2 => hK a' w' ⟨h1, h2⟩))
    · rw [List.mem_singleton] at hj
      subst hj
      exact wpOp_step ho' (fun K hK => h' K (fun a' w' h1 h2 => hK a' w' ⟨h1, h2⟩))⟩
theorem Ords.done {n : Nat} {L : Array Bool} {a : Act} {w : World} (hr : Region.ready md ops L = []) (h : Q .normal a w) : Ords P md ops Q c S n L a w := by
  cases n with
  | zero => exact ⟨hr, h⟩
  | succ n => exact ⟨fun _ => h, by rw [hr]; simp⟩
end
end Go.Proofs.YtfahabnjplnbmaaGreatDoor.Wk
