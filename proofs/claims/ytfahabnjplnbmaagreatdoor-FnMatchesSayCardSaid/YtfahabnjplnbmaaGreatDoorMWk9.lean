/- parseRoute: what stands in memory while it parses. -/
import Derived.Test.YtfahabnjplnbmaaGreatDoorMWk6
import Derived.Deep.AppendLies
namespace Go.Proofs.YtfahabnjplnbmaaGreatDoor.Wk
open Go.RowKit Go.Proofs.YtfahabnjplnbmaaGreatDoorW.PrintWords
open Go.Proofs.YtfahabnjplnbmaaGreatDoor.Pl Go.Proofs.YtfahabnjplnbmaaGreatDoor.Q Go.Proofs.YtfahabnjplnbmaaGreatDoor.QL
set_option linter.unusedVariables false
set_option linter.unusedSimpArgs false

theorem own_same {w w' : World} {base : Nat} {e : TypeId} {size : Nat} {v : Value} {n : Nat} {xs : List Value} (h : w.ownsRow base e size v n xs) (hk : ∀ k, v.ownBlock = some k → w'.heap[k]? = w.heap[k]?) : w'.ownsRow base e size v n xs := by
  obtain ⟨h1, h2⟩ := h
  refine ⟨h1, ?_⟩
  rcases h2 with h2 | ⟨g, cap, cur, rfl, a, b, c, d, e', f⟩
  · exact .inl h2
  · exact .inr ⟨g, cap, cur, rfl, a, (hk g rfl).trans b, c, d, e', f⟩
theorem own_block {w : World} {base : Nat} {e : TypeId} {size : Nat} {v : Value} {n : Nat} {xs : List Value} (h : w.ownsRow base e size v n xs) : ∀ k, v.ownBlock = some k → base ≤ k ∧ ∃ cur, w.heap[k]? = some (.cells cur e (0, 0)) := by
  obtain ⟨h1, h2⟩ := h
  intro k hk
  rcases h2 with ⟨rfl, _⟩ | ⟨g, cap, cur, rfl, a, b, _⟩
  · cases hk
  · cases hk; exact ⟨a, cur, b⟩
/-- The row's block is not one of another type. -/
theorem own_ne {w : World} {base : Nat} {e : TypeId} {size : Nat} {v : Value} {n : Nat} {xs : List Value} (h : w.ownsRow base e size v n xs) {b : Nat} {cs : Array Value} {t : TypeId} (hb : w.heap[b]? = some (.cells cs t (0, 0))) (ht : t ≠ e) : some b ≠ v.ownBlock := by
  intro hk
  obtain ⟨_, cur, hc⟩ := own_block h b hk.symm
  rw [hb] at hc
  injection hc with hc
  injection hc with _ hc
  exact ht hc
theorem own_ne2 {w : World} {base base' : Nat} {e e' : TypeId} {size size' : Nat} {v v' : Value} {n n' : Nat} {xs xs' : List Value} (h : w.ownsRow base e size v n xs) (h' : w.ownsRow base' e' size' v' n' xs') (ht : e ≠ e') : ∀ k, v.ownBlock = some k → some k ≠ v'.ownBlock := by
  intro k hk
  obtain ⟨_, cur, hc⟩ := own_block h k hk
  exact own_ne h' hc ht

/-- All blocks but two stand. -/
structure Grown2 (w w' : World) (a b : Option Nat) : Prop where
  os : w'.os = w.os
  tape : w'.tape = w.tape
  output : w'.output = w.output
  size : w.heap.size ≤ w'.heap.size
  block : ∀ k, k < w.heap.size → some k ≠ a → some k ≠ b → w'.heap[k]? = w.heap[k]?

def snoc {α : Type} (f : Nat → α) (n : Nat) (x : α) : Nat → α := fun k => if k = n then x else f k
theorem snoc_lt {α : Type} {f : Nat → α} {n : Nat} {x : α} {k : Nat} (h : k < n) : snoc f n x k = f k := by unfold snoc; rw [if_neg (by omega)]
theorem snoc_eq {α : Type} {f : Nat → α} {n : Nat} {x : α} : snoc f n x n = x := by unfold snoc; rw [if_pos rfl]

def ptrs (gs : Nat → Nat) (n : Nat) : List Value := (List.range n).map fun k => .pointer (some ⟨gs k, 0, none⟩)
theorem ptrs_snoc (gs : Nat → Nat) (n g : Nat) : ptrs (snoc gs n g) (n + 1) = ptrs gs n ++ [.pointer (some ⟨g, 0, none⟩)] := by
  unfold ptrs
  rw [List.range_succ, List.map_append, List.map_singleton, snoc_eq]
  congr 1
  refine List.map_congr_left fun k hk => ?_
  rw [snoc_lt (List.mem_range.1 hk)]

/-- A segment behind its making: B0 but for 'last'. -/
structure BN (p : Part) (σ : Seg) : Prop where
  par : σ.par = p.par
  consz : σ.con.size ≤ 4294967290
  con92 : 92 ∉ bs σ.con
  con : p.par = false → bs σ.con = p.con ∧ σ.len = (p.con.length : Int)
  len : p.par = true → σ.len = 0
  gr : σ.gr = p.greedy
  opt : σ.opt = p.opt
  last : σ.last = false
  slash : σ.slash = false
  cnt : σ.cnt = 0

/-- The parser's state in memory. -/
structure PSt (w0 w : World) (P : Nat) (l : List Part) (gs : Nat → Nat) (σ : Nat → Seg) (sv pv : Value) (ps : List Value) (i j : Nat) : Prop where
  prs : PrsAt w P sv pv i j
  sown : w.ownsRow w0.heap.size 70 1 sv l.length (ptrs gs l.length)
  pown : w.ownsRow w0.heap.size 9 1 pv (npar l) ps
  seg : ∀ k, k < l.length → SegAt w (gs k) (σ k)
  inj : ∀ k m, k < l.length → m < l.length → gs k = gs m → k = m
  low : ∀ k, k < l.length → w0.heap.size ≤ gs k
  is : ∀ k p, l[k]? = some p → BN p (σ k)
  below : Below w0.heap.size w0 w
  pnew : w0.heap.size ≤ P

section
variable {w0 w w1 w2 w3 : World} {P : Nat} {l : List Part} {gs : Nat → Nat} {σ : Nat → Seg} {sv pv : Value} {ps : List Value} {i j : Nat}
/-- A call that writes but new blocks, and the parser's own block: its counts. -/
theorem PSt.call (h : PSt w0 w P l gs σ sv pv ps i j) (hg : w.grownBy w1 (some P)) {i' j' : Nat} (hp : PrsAt w1 P sv pv i' j') : PSt w0 w1 P l gs σ sv pv ps i' j' where
  prs := hp
  sown := own_same h.sown fun k hk => hg.block k (blk_lt (own_block h.sown k hk).2.choose_spec) (fun e => own_ne h.sown h.prs (by decide) (by rw [hk]; exact e.symm))
  pown := own_same h.pown fun k hk => hg.block k (blk_lt (own_block h.pown k hk).2.choose_spec) (fun e => own_ne h.pown h.prs (by decide) (by rw [hk]; exact e.symm))
  seg k hk := (hg.block _ (blk_lt (h.seg k hk)) (fun e => by
    injection e with e
    exact blk_ne (h.seg k hk) h.prs (by decide) e)).trans (h.seg k hk)
  inj := h.inj
  low := h.low
  is := h.is
  below := h.below.grown hg h.below.size (fun k hk => by injection hk with hk; rw [← hk]; exact h.pnew)
  pnew := h.pnew
theorem PSt.grow (h : PSt w0 w P l gs σ sv pv ps i j) (hb : Below w.heap.size w w1) : PSt w0 w1 P l gs σ sv pv ps i j :=
  h.call (gb_below (World.grownBy.refl _ _) hb) (blk_below h.prs hb)
/-- A segment more. -/
theorem PSt.push (h : PSt w0 w P l gs σ sv pv ps i j) {p : Part} {g : Nat} {s : Seg} (hs : SegAt w g s) (hlow : w0.heap.size ≤ g) (hnew : ∀ k, k < l.length → gs k ≠ g) (hb : BN p s)
    {sv' pv' : Value} {ps' : List Value} {i' j' : Nat} (h2 : Grown2 w w2 sv.ownBlock pv.ownBlock)
    (hsv : w2.ownsRow w0.heap.size 70 1 sv' (l.length + 1) (ptrs gs l.length ++ [.pointer (some ⟨g, 0, none⟩)])) (hpv : w2.ownsRow w0.heap.size 9 1 pv' (npar (l ++ [p])) ps')
    (hP : PrsAt w3 P sv' pv' i' j') (hos : w3.os = w2.os) (hta : w3.tape = w2.tape) (hou : w3.output = w2.output) (hsz : w3.heap.size = w2.heap.size) (hne : ∀ k, k ≠ P → w3.heap[k]? = w2.heap[k]?) :
    PSt w0 w3 P (l ++ [p]) (snoc gs l.length g) (snoc σ l.length s) sv' pv' ps' i' j' := by
  have hPn : P < w.heap.size := blk_lt h.prs
  have hPs : some P ≠ sv.ownBlock := own_ne h.sown h.prs (by decide)
  have hPp : some P ≠ pv.ownBlock := own_ne h.pown h.prs (by decide)
  have hP2 : w2.heap[P]? = w.heap[P]? := h2.block P hPn hPs hPp
  have hprs2 : w2.heap[P]? = some (.cells #[sv, pv, .int .i64 (i : Int), .int .i64 (j : Int)] 59 (0, 0)) := hP2.trans h.prs
  have hseg : ∀ b τ, SegAt w b τ → SegAt w3 b τ := fun b τ hb =>
    (hne b (blk_ne hb h.prs (by decide))).trans ((h2.block b (blk_lt hb) (own_ne h.sown hb (by decide)) (own_ne h.pown hb (by decide))).trans hb)
  refine ⟨hP, ?_, ?_, ?_, ?_, ?_, ?_, ?_, h.pnew⟩
  · rw [List.length_append, List.length_singleton, ptrs_snoc]
    exact own_same hsv fun k hk => hne k (fun e => own_ne hsv hprs2 (by decide) (by rw [hk, e]))
  · exact own_same hpv fun k hk => hne k (fun e => own_ne hpv hprs2 (by decide) (by rw [hk, e]))
  · intro k hk
    rw [List.length_append, List.length_singleton] at hk
    by_cases hkl : k = l.length
    · subst hkl; rw [snoc_eq, snoc_eq]; exact hseg _ _ hs
    · rw [snoc_lt (by omega), snoc_lt (by omega)]; exact hseg _ _ (h.seg k (by omega))
  · intro k m hk hm he
    rw [List.length_append, List.length_singleton] at hk hm
    by_cases hkl : k = l.length <;> by_cases hml : m = l.length
    · omega
    · subst hkl; rw [snoc_eq, snoc_lt (by omega)] at he; exact absurd he.symm (hnew m (by omega))
    · subst hml; rw [snoc_eq, snoc_lt (by omega)] at he; exact absurd he (hnew k (by omega))
    · rw [snoc_lt (by omega), snoc_lt (by omega)] at he; exact h.inj k m (by omega) (by omega) he
  · intro k hk
    rw [List.length_append, List.length_singleton] at hk
    by_cases hkl : k = l.length
    · subst hkl; rw [snoc_eq]; exact hlow
    · rw [snoc_lt (by omega)]; exact h.low k (by omega)
  · intro k q hq
    by_cases hkl : k = l.length
    · subst hkl
      rw [List.getElem?_append_right (Nat.le_refl _), Nat.sub_self] at hq
      obtain rfl : p = q := by simpa using hq
      rw [snoc_eq]; exact hb
    · have hk : k < l.length := by
        have := (List.getElem?_eq_some_iff.1 hq).1
        rw [List.length_append, List.length_singleton] at this; omega
      rw [List.getElem?_append_left hk] at hq
      rw [snoc_lt hk]; exact h.is k q hq
  · refine ⟨hos.trans (h2.os.trans h.below.os), hta.trans (h2.tape.trans h.below.tape), hou.trans (h2.output.trans h.below.output), Nat.le_trans h.below.size (Nat.le_trans h2.size (Nat.le_of_eq hsz.symm)), fun b hb => ?_⟩
    have hbl : b < w.heap.size := Nat.lt_of_lt_of_le hb h.below.size
    have h1 := hne b (fun e => by have := h.pnew; omega)
    have h3 := h2.block b hbl (fun e => by have := (own_block h.sown b e.symm).1; omega) (fun e => by have := (own_block h.pown b e.symm).1; omega)
    exact h1.trans (h3.trans (h.below.block b hb))
theorem own_form {w : World} {base : Nat} {e : TypeId} {v : Value} {n : Nat} {xs : List Value} (h : w.ownsRow base e 1 v n xs) : ∃ A c, v = .slice A n c := by
  rcases h.2 with ⟨rfl, rfl⟩ | ⟨g, cap, cur, rfl, _⟩
  · exact ⟨_, _, rfl⟩
  · exact ⟨_, _, rfl⟩
/-- The row of the segments, cell by cell. -/
theorem tail_row (h : PSt w0 w P l gs σ sv pv ps i j) (hne : l ≠ []) : ∃ sb cap, sv = .slice (some ⟨sb, 0, none⟩) l.length cap ∧ l.length ≤ cap ∧ w0.heap.size ≤ sb ∧ (∃ cs, w.heap[sb]? = some (.cells cs 70 (0, 0))) ∧ ∀ k, k < l.length → w.cell? ⟨sb, k, none⟩ = some (.pointer (some ⟨gs k, 0, none⟩)) := by
  have hpos : 0 < l.length := List.length_pos_iff.2 hne
  obtain ⟨hlen, h2⟩ := h.sown
  rcases h2 with ⟨_, h0⟩ | ⟨g, cap, cur, hv, hb, hc, hcap, _, hsz, htk⟩
  · omega
  · refine ⟨g, cap, hv, hcap, hb, ⟨cur, hc⟩, fun k hk => ?_⟩
    rw [blk_cell hc k]
    have h1 : (cur.toList.take (l.length * 1))[k]? = (ptrs gs l.length)[k]? := by rw [htk]
    rw [List.getElem?_take, if_pos (by omega)] at h1
    rw [← Array.getElem?_toList, h1]
    unfold ptrs
    simp [hk]
end
end Go.Proofs.YtfahabnjplnbmaaGreatDoor.Wk
