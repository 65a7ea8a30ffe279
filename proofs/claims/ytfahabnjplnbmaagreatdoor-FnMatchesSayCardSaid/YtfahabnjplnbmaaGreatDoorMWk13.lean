/- parseRoute and getMatch at any parts; ZzMatch. -/
import Derived.Test.YtfahabnjplnbmaaGreatDoorMWk11
import Derived.Test.YtfahabnjplnbmaaGreatDoorMWk12
namespace Go.Proofs.YtfahabnjplnbmaaGreatDoor.Wk
open Go.RowKit Go.Proofs.YtfahabnjplnbmaaGreatDoorW.PrintWords
open Go.Proofs.YtfahabnjplnbmaaGreatDoor.Pl Go.Proofs.YtfahabnjplnbmaaGreatDoor.Q Go.Proofs.YtfahabnjplnbmaaGreatDoor.QL
set_option linter.unusedVariables false
set_option linter.unusedSimpArgs false

/-- A row of segments that is a parser's, for these parts. -/
def Ready (l : List Part) (lo : Nat) (w : World) (sv : Value) : Prop :=
  (l = [] ∧ sv = .slice none 0 0) ∨
  (l ≠ [] ∧ ∃ sb cap gs σ, sv = .slice (some ⟨sb, 0, none⟩) l.length cap ∧ l.length ≤ cap ∧ Segs w sb l gs σ ∧ (lo ≤ sb ∧ sb < w.heap.size) ∧ ∀ k, lo ≤ gs k ∧ gs k < w.heap.size)
theorem Segs.below {w w1 : World} {sb : Nat} {l : List Part} {gs : Nat → Nat} {σ : Nat → Seg} (h : Segs w sb l gs σ) (hb : Below w.heap.size w w1) : Segs w1 sb l gs σ :=
  ⟨fun k hk => pw_cell_below hb (h.cell k hk), fun k hk => blk_below (h.seg k hk) hb, h.is⟩
/-- What parseRoute hands back. -/
def Psd (l : List Part) (w w' : World) (e : Ending) : Prop :=
  ∃ (B : Option Addr) (n cap : Nat) (A : Option Addr) (c : Nat) (i j : Int), e = .returned (.agg #[.slice B n cap, .slice A (npar l) c, .int .i64 i, .int .i64 j]) ∧ Ready l w.heap.size w' (.slice B n cap) ∧ Below w.heap.size w w'

theorem segs_ready {l : List Part} {lo : Nat} {w : World} {sb cap : Nat} {gs : Nat → Nat} {σ : Nat → Seg} (hne : l ≠ []) (hc : l.length ≤ cap) (h : Segs w sb l gs σ) (h1 : lo ≤ sb) (h2 : ∀ k, k < l.length → lo ≤ gs k) : Ready l lo w (.slice (some ⟨sb, 0, none⟩) l.length cap) := by
  have hlp : 0 < l.length := List.length_pos_iff.2 hne
  have hsb : sb < w.heap.size := World.block_lt_of_cell? w _ (h.cell 0 hlp)
  refine .inr ⟨hne, sb, cap, (fun k => if k < l.length then gs k else sb), σ, rfl, hc, ⟨fun k hk => ?_, fun k hk => ?_, h.is⟩, ⟨h1, hsb⟩, fun k => ?_⟩
  · simp only [if_pos hk]; exact h.cell k hk
  · simp only [if_pos hk]; exact h.seg k hk
  · by_cases hk : k < l.length
    · simp only [if_pos hk]; exact ⟨h2 k hk, blk_lt (h.seg k hk)⟩
    · simp only [if_neg hk]; exact ⟨h1, hsb⟩

theorem parse_any (l : List Part) (s : ByteArray) (w : World) (hl : l.length ≤ 90) (hg : Pl.Good l) (hnp : npar l ≤ 30) (hs : bs s = render l) (h2 : s.size ≤ 1000) :
    Calls Tryz.prog 29 #[.string s] w fun e w' => Psd l w w' e := by
  by_cases hne : l = []
  · subst hne
    refine (parse_nil s w (by rw [← bs_len, hs]; rfl)).mono ?_
    rintro e w' ⟨rfl, hb⟩
    exact ⟨none, 0, 0, none, 0, 0, 0, rfl, .inl ⟨rfl, rfl⟩, hb⟩
  · refine (parse_some l s w hne hl hg hnp hs h2).mono ?_
    rintro e w' ⟨sb, cap, gs, σ, A, m, c, i, j, rfl, rfl, hc, hS, hl1, hl2, hb⟩
    exact ⟨_, _, _, A, c, _, _, rfl, segs_ready hne hc hS hl1 hl2, hb⟩

theorem getMatch_any (l : List Part) (path : ByteArray) (part : Bool) (pb vb lo : Nat) (sv : Value) (w0 w : World) (V0 : Array Value)
    (hR : Ready l lo w0 sv) (hb : Below w0.heap.size w0 w) (hlow : vb < lo ∨ w0.heap.size ≤ vb) (hl : l.length ≤ 1000) (hg : Pl.Good l) (hnp : npar l ≤ 30) (hps : path.size ≤ 4294967290)
    (hpc : w.cell? ⟨pb, 0, none⟩ = some sv) (hpb : pb ≠ vb) (hvb : w.heap[vb]? = some (.cells V0 55 (0, 0))) (hV0 : V0.size = 30) :
    Calls Tryz.prog 30 #[.pointer (some ⟨pb, 0, none⟩), .string path, .string path, .pointer (some ⟨vb, 0, none⟩), .bool part] w fun e w' => MOut l path part vb e w' ∧ w.grownBy w' (some vb) := by
  rcases hR with ⟨rfl, rfl⟩ | ⟨hne, sb, cap, gs, σ, rfl, hc, hS, hsb, hgs⟩
  · exact getMatch_nil path part pb vb 0 none w V0 hpc hvb hV0
  · exact getMatch_some l path part pb sb vb cap gs σ w V0 hne hl hg hnp hps hc hpc (hS.below hb) hpb (by omega) (fun k => by have := hgs k; omega) hvb hV0

theorem blk_new2 (w : World) (o o' : Obj) : ((w.alloc o).alloc o').heap[w.heap.size + 1]? = some o' := by
  have := heap_alloc_new (w.alloc o) o'
  rw [show (w.alloc o).heap.size = w.heap.size + 1 by simp] at this
  exact this

end Go.Proofs.YtfahabnjplnbmaaGreatDoor.Wk
