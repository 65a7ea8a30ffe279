/- parseRoute and getMatch at any parts; ZzMatch. -/
import Derived.Test.YtfahabnjplnbmaaGreatDoorVWk11
import Derived.Test.YtfahabnjplnbmaaGreatDoorVWk12
namespace Go.Proofs.YtfahabnjplnbmaaGreatDoor.Wk
open Go.RowKit Go.Proofs.YtfahabnjplnbmaaGreatDoorW.PrintWords
open Go.Proofs.YtfahabnjplnbmaaGreatDoor.Pl Go.Proofs.YtfahabnjplnbmaaGreatDoor.Q Go.Proofs.YtfahabnjplnbmaaGreatDoor.QL
set_option linter.unusedVariables false
set_option linter.unusedSimpArgs false

/-- A row of segments that is a parser's, for these parts. -/
def Ready (l : List Part) (w : World) (sv : Value) : Prop :=
  (l = [] ∧ sv = .slice none 0 0) ∨
  (l ≠ [] ∧ ∃ sb cap gs σ, sv = .slice (some ⟨sb, 0, none⟩) l.length cap ∧ l.length ≤ cap ∧ Segs w sb l gs σ ∧ sb < w.heap.size ∧ ∀ k, gs k < w.heap.size)
theorem Segs.below {w w1 : World} {sb : Nat} {l : List Part} {gs : Nat → Nat} {σ : Nat → Seg} (h : Segs w sb l gs σ) (hb : Below w.heap.size w w1) : Segs w1 sb l gs σ :=
  ⟨fun k hk => pw_cell_below hb (h.cell k hk), fun k hk => blk_below (h.seg k hk) hb, h.is⟩
/-- What parseRoute hands back. -/
def Psd (l : List Part) (w w' : World) (e : Ending) : Prop :=
  ∃ (B : Option Addr) (n cap : Nat) (A : Option Addr) (c : Nat) (i j : Int), e = .returned (.agg #[.slice B n cap, .slice A (npar l) c, .int .i64 i, .int .i64 j]) ∧ Ready l w' (.slice B n cap) ∧ Below w.heap.size w w'

theorem segs_ready {l : List Part} {w : World} {sb cap : Nat} {gs : Nat → Nat} {σ : Nat → Seg} (hne : l ≠ []) (hc : l.length ≤ cap) (h : Segs w sb l gs σ) : Ready l w (.slice (some ⟨sb, 0, none⟩) l.length cap) := by
  have hlp : 0 < l.length := List.length_pos_iff.2 hne
  have hsb : sb < w.heap.size := World.block_lt_of_cell? w _ (h.cell 0 hlp)
  refine .inr ⟨hne, sb, cap, (fun k => if k < l.length then gs k else sb), σ, rfl, hc, ⟨fun k hk => ?_, fun k hk => ?_, h.is⟩, hsb, fun k => ?_⟩
  · simp only [if_pos hk]; exact h.cell k hk
  · simp only [if_pos hk]; exact h.seg k hk
  · by_cases hk : k < l.length
    · simp only [if_pos hk]; exact blk_lt (h.seg k hk)
    · simp only [if_neg hk]; exact hsb

theorem parse_any (l : List Part) (s : ByteArray) (w : World) (hl : l.length ≤ 90) (hg : Pl.Good l) (hnp : npar l ≤ 30) (hs : bs s = render l) (h2 : s.size ≤ 1000) :
    Calls Tryz.prog 29 #[.string s] w fun e w' => Psd l w w' e := by
  by_cases hne : l = []
  · subst hne
    refine (parse_nil s w (by rw [← bs_len, hs]; rfl)).mono ?_
    rintro e w' ⟨rfl, hb⟩
    exact ⟨none, 0, 0, none, 0, 0, 0, rfl, .inl ⟨rfl, rfl⟩, hb⟩
  · refine (parse_some l s w hne hl hg hnp hs h2).mono ?_
    rintro e w' ⟨sb, cap, gs, σ, A, m, c, i, j, rfl, rfl, hc, hS, _, _, hb⟩
    exact ⟨_, _, _, A, c, _, _, rfl, segs_ready hne hc hS, hb⟩

theorem getMatch_any (l : List Part) (path : ByteArray) (part : Bool) (pb vb : Nat) (sv : Value) (w0 w : World) (V0 : Array Value)
    (hR : Ready l w0 sv) (hb : Below w0.heap.size w0 w) (hlow : w0.heap.size ≤ vb) (hl : l.length ≤ 1000) (hg : Pl.Good l) (hnp : npar l ≤ 30) (hps : path.size ≤ 4294967290)
    (hpc : w.cell? ⟨pb, 0, none⟩ = some sv) (hpb : pb ≠ vb) (hvb : w.heap[vb]? = some (.cells V0 55 (0, 0))) (hV0 : V0.size = 30) :
    Calls Tryz.prog 30 #[.pointer (some ⟨pb, 0, none⟩), .string path, .string path, .pointer (some ⟨vb, 0, none⟩), .bool part] w fun e w' => MOut l path part vb e w' ∧ w.grownBy w' (some vb) := by
  rcases hR with ⟨rfl, rfl⟩ | ⟨hne, sb, cap, gs, σ, rfl, hc, hS, hsb, hgs⟩
  · exact getMatch_nil path part pb vb 0 none w V0 hpc hvb hV0
  · exact getMatch_some l path part pb sb vb cap gs σ w V0 hne hl hg hnp hps hc hpc (hS.below hb) hpb (by omega) (fun k => by have := hgs k; omega) hvb hV0

theorem blk_new2 (w : World) (o o' : Obj) : ((w.alloc o).alloc o').heap[w.heap.size + 1]? = some o' := by
  have := heap_alloc_new (w.alloc o) o'
  rw [show (w.alloc o).heap.size = w.heap.size + 1 by simp] at this
  exact this
theorem vals_news (w : World) (vb : Nat) (V : List ByteArray) (h : ValsAt w vb V) : ∀ j u, (V.map Value.string)[j]? = some u → w.cell? ((⟨vb, 0, none⟩ : Addr).add j) = some u := by
  obtain ⟨cs, h1, _, h3⟩ := h
  intro j u hu
  rw [List.getElem?_map] at hu
  cases hv : V[j]? with
  | none => rw [hv] at hu; cases hu
  | some x =>
    rw [hv] at hu
    cases hu
    obtain ⟨hj, rfl⟩ := List.getElem?_eq_some_iff.1 hv
    rw [add_plain, blk_cell h1 j]
    exact h3 j hj
/-- What ZzMatch hands back. -/
def ZOut (l : List Part) (path : ByteArray) (part : Bool) (w w' : World) (e : Ending) : Prop :=
  ((e = .returned (.tuple #[.slice none 0 0, .bool false]) ∧ Run l (bs path) part none) ∨
  ∃ (v : Value) (V : List ByteArray), e = .returned (.tuple #[v, .bool true]) ∧ Run l (bs path) part (some (V.map bs)) ∧ V.length = npar l ∧ Kd.string.R 9 w' w.heap.size (fun _ => True) v V) ∧ Below w.heap.size w w'

set_option maxHeartbeats 4000000 in
set_option maxRecDepth 100000 in
theorem zzMatch_any (l : List Part) (s path : ByteArray) (part : Bool) (w : World) (hl : l.length ≤ 90) (hg : Pl.Good l) (hnp : npar l ≤ 30) (hs : bs s = render l) (h2 : s.size ≤ 1000) (hps : path.size ≤ 4294967290) :
    Calls Tryz.prog 22 #[.string s, .string path, .bool part] w fun e w' => ZOut l path part w w' e := by
  have HG := Lib.hid hg
  have HS := Lib.hid hs
  have HNP := Lib.hid hnp
  clear hg hs hnp
  go_enter Tryz.func22, Tryz.ntmps22
  go_wp2_with fail
  refine (parse_any l s _ hl HG.out HNP.out HS.out h2).mono ?_
  rintro e w1 ⟨B, n, cap, A, c, i, j, rfl, hR, hb⟩
  have HR := Lib.hid hR
  have HB := Lib.hid hb
  clear hR hb
  go_wp2_with fail
  refine (getMatch_any l path part w1.heap.size (w1.heap.size + 1) (.slice B n cap) w1 _ _ HR.out (below_alloc (below_alloc (Below.refl _ _) _) _) (by omega) (by omega) HG.out HNP.out hps (blk_cell (blk_alloc (blk_new w1 _) _) 0) (by omega) (blk_new2 w1 _ _) rfl).mono ?_
  rintro e w4 ⟨hM, hg⟩
  have HP4 : Hid (w4.heap[w1.heap.size]? = some (.cells #[.slice B n cap, .slice A (npar l) c, .int .i64 i, .int .i64 j] 59 (0, 0))) := (hg.block _ (by simp; omega) (by simp)).trans (blk_alloc (blk_new w1 _) _)
  have HB4 : Hid (Below w.heap.size w w4) := Below.grown (HB.out.trans ((below_alloc (below_alloc (Below.refl w1.heap.size w1) _) _).mono HB.out.size)) hg (by have := HB.out.size; simp; omega) (fun k hk => by injection hk with hk; have := HB.out.size; omega)
  clear hg
  rcases hM with ⟨rfl, hrun⟩ | ⟨V, rfl, hrun, hvals, hVl⟩
  · have HRUN := Lib.hid hrun
    clear hrun
    go_wp2
    go_ret2
    exact ⟨.inl ⟨rfl, HRUN.out⟩, HB4.out⟩
  · have HRUN := Lib.hid hrun
    have HVALS := Lib.hid hvals
    have HVL := Lib.hid hVl
    clear hrun hvals hVl
    have c1 : (w4.alloc (.cells #[] 9)).cell? ⟨w1.heap.size, 1, none⟩ = some (.slice A (npar l) c) := blk_cell (blk_alloc HP4.out _) 1
    have hn30 : (npar l : Int) ≤ 30 := by have := HNP.out; omega
    obtain ⟨i9, hi9, hz9, hs9, hb9⟩ := info_parts info9
    have HOWN := Lib.hid (show (w4.alloc (.cells #[] 9)).ownsRow w.heap.size 9 1 (.slice (some ⟨w4.heap.size, 0, none⟩) 0 0) 0 [] from World.ownsRow_lit w4 #[] 0 HB4.out.size (by decide) rfl)
    have HNEWS := Lib.hid (vals_news (w4.alloc (.cells #[] 9)) (w1.heap.size + 1) V (by obtain ⟨cs, h1, h2, h3⟩ := HVALS.out; exact ⟨cs, blk_alloc h1 _, h2, h3⟩))
    go_wp2_with (at_builtin; refine wpList_append_own _ rfl (.tmp 17) (.tmp 21) 31 rfl w.heap.size 9 i9 (.string ⟨#[]⟩) 1 16 Tryz.underlying31 hi9 hz9 hs9 hb9 rfl (by decide) _ 0 [] rfl HOWN.out ⟨w1.heap.size + 1, 0, none⟩ (npar l) 30 (V.map Value.string) rfl (by rw [List.length_map, HVL.out]; omega) HNEWS.out (fun u hu => by obtain ⟨x, _, rfl⟩ := List.mem_map.1 hu; rfl) (by have := HNP.out; unfold maxLen; omega) (by have := HNP.out; omega) (by have := HB4.out.size; simp; omega) ?_; intro v' w6 hown' hgrow _)
    have HFIN := Lib.hid (show Kd.string.R 9 w6 w.heap.size (fun _ => True) v' V from Kd.R_of_own (enc := Value.string) (by rw [Nat.zero_add, List.nil_append, ← HVL.out] at hown'; exact hown') (fun _ _ => trivial))
    have HB6 := Lib.hid (Below.grown (below_alloc HB4.out (.cells #[] 9)) (show (w4.alloc (.cells #[] 9)).grownBy w6 (some w4.heap.size) from hgrow) (by have := HB4.out.size; simp; omega) (fun k hk => by injection hk with hk; have := HB4.out.size; omega))
    clear hown' hgrow
    go_ret2
    exact ⟨.inr ⟨v', V, rfl, HRUN.out, HVL.out, HFIN.out⟩, HB6.out⟩
end Go.Proofs.YtfahabnjplnbmaaGreatDoor.Wk
