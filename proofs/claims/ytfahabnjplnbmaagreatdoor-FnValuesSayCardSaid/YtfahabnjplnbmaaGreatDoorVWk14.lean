/- impl.Values: what it hands back; nothing panics. -/
import Derived.Test.YtfahabnjplnbmaaGreatDoorVWk13
import Derived.Defers
import Derived.Recover
import Derived.RegionTactic
namespace Go.Proofs.YtfahabnjplnbmaaGreatDoor.Wk
open Go.RowKit Go.Proofs.YtfahabnjplnbmaaGreatDoorW.PrintWords
open Go.Proofs.YtfahabnjplnbmaaGreatDoor.Pl Go.Proofs.YtfahabnjplnbmaaGreatDoor.Q Go.Proofs.YtfahabnjplnbmaaGreatDoor.QL
set_option linter.unusedVariables false
set_option linter.unusedSimpArgs false

theorem catch21 (p q r : Addr) (w : World) :
    CallsD Tryz.prog 21 #[.pointer (some p), .pointer (some q), .pointer (some r)] .returning w fun e u' w' => e = .returned (.tuple #[]) ∧ u' = .returning ∧ w' = w := by
  refine callsD_of_wpS Tryz.func21 rfl fun c₀ cs hu => ?_
  apply wpS_seq
  apply wpS_region
  simp [wpOpsS, go_sem, recoverD, hu, Tryz.ntmps21, Exit.thenS]
  refine wpS_cond (t := false) (by simp [Act.eval, Array.replicate]) ?_
  simp only [Bool.false_eq_true, if_false]
  refine wpS_of_wp (wp_skip ?_)
  cases c₀
  simp_all [bodyPostS, results, Tryz.results21]

theorem blk_new3 (w : World) (o o' o'' : Obj) : (((w.alloc o).alloc o').alloc o'').heap[w.heap.size + 1 + 1]? = some o'' := by
  have := blk_new2 (w.alloc o) o' o''
  rw [show (w.alloc o).heap.size = w.heap.size + 1 by simp] at this
  exact this
/-- The values' slice, or none. -/
def ZFin (l : List Part) (path : ByteArray) (part : Bool) (base : Nat) (w' : World) (v : Value) (b : Bool) : Prop :=
  (b = false ∧ v = .slice none 0 0 ∧ Run l (bs path) part none) ∨
  (b = true ∧ ∃ V : List ByteArray, Run l (bs path) part (some (V.map bs)) ∧ V.length = npar l ∧ Kd.string.R 9 w' base (fun _ => True) v V)
theorem zout_form {l : List Part} {path : ByteArray} {part : Bool} {w w' : World} {e : Ending} (h : ZOut l path part w w' e) :
    ∃ A n c b, e = .returned (.tuple #[.slice A n c, .bool b]) ∧ ZFin l path part w.heap.size w' (.slice A n c) b := by
  rcases h.1 with ⟨rfl, hr⟩ | ⟨v, V, rfl, hr, hl, hR⟩
  · exact ⟨none, 0, 0, false, rfl, .inl ⟨rfl, rfl, hr⟩⟩
  · obtain ⟨A, c, rfl⟩ := Kd.R_slice hR
    exact ⟨A, V.length, c, true, rfl, .inr ⟨rfl, V, hr, hl, hR⟩⟩

theorem stored3 {w : World} {b0 : Nat} {x0 x1 x2 : Value} (q0 : w.heap[b0]? = some (.cells #[x0] 31 (0, 0))) (q1 : w.heap[b0 + 1]? = some (.cells #[x1] 4 (0, 0))) (q2 : w.heap[b0 + 1 + 1]? = some (.cells #[x2] 4 (0, 0))) (u v : Value) :
    ((w.setCell ⟨b0, 0, none⟩ u).setCell ⟨b0 + 1, 0, none⟩ v).heap[b0]? = some (.cells #[u] 31 (0, 0)) ∧ ((w.setCell ⟨b0, 0, none⟩ u).setCell ⟨b0 + 1, 0, none⟩ v).heap[b0 + 1]? = some (.cells #[v] 4 (0, 0)) ∧
    ((w.setCell ⟨b0, 0, none⟩ u).setCell ⟨b0 + 1, 0, none⟩ v).heap[b0 + 1 + 1]? = some (.cells #[x2] 4 (0, 0)) := by
  refine ⟨?_, ?_, ?_⟩
  · rw [Below.heap_setCell _ _ _ _ (by simp)]
    exact blk_set q0 0 u
  · exact blk_set ((Below.heap_setCell _ _ _ _ (by simp)).trans q1) 0 v
  · rw [Below.heap_setCell _ _ _ _ (by simp), Below.heap_setCell _ _ _ _ (by simp; omega)]
    exact q2
theorem zfin_set {l : List Part} {path : ByteArray} {part : Bool} {base : Nat} {w : World} {v : Value} {b : Bool} (h : ZFin l path part base w v b) {g : Nat} (j : Nat) (u : Value) (hg : g < base) : ZFin l path part base (w.setCell ⟨g, j, none⟩ u) v b := by
  rcases h with h | ⟨hb, V, hr, hl, hR⟩
  · exact .inl h
  · refine .inr ⟨hb, V, hr, hl, Kd.R_mono (Kd.R_far (p := ⟨g, j, none⟩) (Kd.R_bound hR) (fun k hk => ?_) u) (fun _ _ => trivial)⟩
    have := hk.2.1
    simp; omega

theorem stored3' {w : World} {b0 : Nat} {x0 x1 x2 : Value} (h : w.heap[b0]? = some (.cells #[x0] 31 (0, 0)) ∧ w.heap[b0 + 1]? = some (.cells #[x1] 4 (0, 0)) ∧ w.heap[b0 + 1 + 1]? = some (.cells #[x2] 4 (0, 0))) (u : Value) :
    (((w.setCell ⟨b0, 0, none⟩ x0).setCell ⟨b0 + 1, 0, none⟩ x1).setCell ⟨b0 + 1 + 1, 0, none⟩ u).drew.heap[b0]? = some (.cells #[x0] 31 (0, 0)) ∧ (((w.setCell ⟨b0, 0, none⟩ x0).setCell ⟨b0 + 1, 0, none⟩ x1).setCell ⟨b0 + 1 + 1, 0, none⟩ u).drew.heap[b0 + 1]? = some (.cells #[x1] 4 (0, 0)) ∧
    (((w.setCell ⟨b0, 0, none⟩ x0).setCell ⟨b0 + 1, 0, none⟩ x1).setCell ⟨b0 + 1 + 1, 0, none⟩ u).drew.heap[b0 + 1 + 1]? = some (.cells #[u] 4 (0, 0)) := by
  obtain ⟨h0, h1, h2⟩ := stored3 h.1 h.2.1 h.2.2 x0 x1
  refine ⟨?_, ?_, ?_⟩
  · exact (Below.heap_setCell _ _ _ _ (by simp; omega)).trans h0
  · exact (Below.heap_setCell _ _ _ _ (by simp)).trans h1
  · exact blk_set h2 0 u
theorem zfin_lower {l : List Part} {path : ByteArray} {part : Bool} {base base' : Nat} {w : World} {v : Value} {b : Bool} (h : ZFin l path part base w v b) (hb : base' ≤ base) : ZFin l path part base' w v b := by
  rcases h with h | ⟨hb, V, hr, hl, hR⟩
  · exact .inl h
  · exact .inr ⟨hb, V, hr, hl, Kd.R_lower hR (by assumption)⟩
theorem zfin_drew {l : List Part} {path : ByteArray} {part : Bool} {base : Nat} {w : World} {v : Value} {b : Bool} (h : ZFin l path part base w v b) : ZFin l path part base w.drew v b := by
  rcases h with h | ⟨hb, V, hr, hl, hR⟩
  · exact .inl h
  · exact .inr ⟨hb, V, hr, hl, Kd.R_step hR (fun _ _ _ => rfl)⟩

/-- What Values hands back. -/
def VOut (l : List Part) (path : ByteArray) (part : Bool) (w w' : World) (e : Ending) : Prop :=
  ∃ A n c b, e = .returned (.tuple #[.slice A n c, .bool b, .bool true]) ∧ ZFin l path part w.heap.size w' (.slice A n c) b ∧ Below w.heap.size w w'

set_option maxHeartbeats 4000000 in
set_option maxRecDepth 100000 in
theorem values_any (l : List Part) (s path : ByteArray) (part : Bool) (w : World) (hl : l.length ≤ 90) (hg : Pl.Good l) (hnp : npar l ≤ 30) (hs : bs s = render l) (h2 : s.size ≤ 1000) (hps : path.size ≤ 4294967290) :
    Calls Tryz.prog 10 #[.string s, .string path, .bool part] w fun e w' => VOut l path part w w' e := by
  have HG := Lib.hid hg
  have HS := Lib.hid hs
  have HNP := Lib.hid hnp
  clear hg hs hnp
  have hmf : ∀ (fn : Fn) (first cap : Array Value) (w : World), (Instr.makeFunc fn first cap).run Tryz.prog w = .ok (.func fn first cap) w := fun _ _ _ _ => rfl
  go_enter_defers Tryz.func10, Tryz.ntmps10
  go_wp2_with fail
  refine (zzMatch_any l s path part _ hl HG.out HNP.out HS.out h2 hps).mono ?_
  rintro e w4 hz
  obtain ⟨A, n, c, b, rfl, hfin⟩ := zout_form hz
  have hb := hz.2
  have HFIN := Lib.hid hfin
  have q0 : w4.heap[w.heap.size]? = some (.cells #[.slice none 0 0] 31 (0, 0)) := blk_below (blk_alloc (blk_alloc (blk_new w _) _) _) hb
  have q1 : w4.heap[w.heap.size + 1]? = some (.cells #[.bool false] 4 (0, 0)) := blk_below (blk_alloc (blk_new2 w _ _) _) hb
  have q2 : w4.heap[w.heap.size + 1 + 1]? = some (.cells #[.bool false] 4 (0, 0)) := blk_below (blk_new3 w _ _ _) hb
  have HB := Lib.hid (show Below w.heap.size w w4 from (below_alloc (below_alloc (below_alloc (Below.refl w.heap.size w) _) _) _).trans (hb.mono (by simp; omega)))
  have k0 : w4.cell? ⟨w.heap.size, 0, none⟩ = some (.slice none 0 0) := blk_cell q0 0
  have k1 : w4.cell? ⟨w.heap.size + 1, 0, none⟩ = some (.bool false) := blk_cell q1 0
  have k2 : w4.cell? ⟨w.heap.size + 1 + 1, 0, none⟩ = some (.bool false) := blk_cell q2 0
  have f0 : w4.frozen? ⟨w.heap.size, 0, none⟩ = false := blk_frozen q0 0
  have f1 : w4.frozen? ⟨w.heap.size + 1, 0, none⟩ = false := blk_frozen q1 0
  have f2 : w4.frozen? ⟨w.heap.size + 1 + 1, 0, none⟩ = false := blk_frozen q2 0
  have p0 := Lib.hid (stored3 q0 q1 q2 (.slice A n c) (.bool b))
  have HB5 := Lib.hid ((HB.out.setCell (p := ⟨w.heap.size, 0, none⟩) (Nat.le_refl _) (.slice A n c)).setCell (p := ⟨w.heap.size + 1, 0, none⟩) (Nat.le_succ _) (.bool b))
  have HF5 := Lib.hid (zfin_set (zfin_set HFIN.out (g := w.heap.size) 0 (.slice A n c) (by simp; omega)) (g := w.heap.size + 1) 0 (.bool b) (by simp))
  clear hz hb hfin q0 q1 q2
  go_wp2
  generalize (w4.setCell ⟨w.heap.size, 0, none⟩ (.slice A n c)).setCell ⟨w.heap.size + 1, 0, none⟩ (.bool b) = w5 at p0 HB5 HF5 ⊢
  clear k0 k1 k2 f0 f1 f2
  obtain ⟨q0, q1, q2⟩ := p0.out
  have k0 : w5.cell? ⟨w.heap.size, 0, none⟩ = some (.slice A n c) := blk_cell q0 0
  have k1 : w5.cell? ⟨w.heap.size + 1, 0, none⟩ = some (.bool b) := blk_cell q1 0
  have k2 : w5.cell? ⟨w.heap.size + 1 + 1, 0, none⟩ = some (.bool false) := blk_cell q2 0
  have f0 : w5.frozen? ⟨w.heap.size, 0, none⟩ = false := blk_frozen q0 0
  have f1 : w5.frozen? ⟨w.heap.size + 1, 0, none⟩ = false := blk_frozen q1 0
  have f2 : w5.frozen? ⟨w.heap.size + 1 + 1, 0, none⟩ = false := blk_frozen q2 0
  clear q0 q1 q2
  go_region
  go_wp2
  have HB6 := Lib.hid (((HB5.out.setCell (p := ⟨w.heap.size, 0, none⟩) (Nat.le_refl _) (.slice A n c)).setCell (p := ⟨w.heap.size + 1, 0, none⟩) (Nat.le_succ _) (.bool b)).setCell (p := ⟨w.heap.size + 1 + 1, 0, none⟩) (by simp; omega) (.bool true)).drew
  have HF6 := Lib.hid (show ZFin l path part w.heap.size (((w5.setCell ⟨w.heap.size, 0, none⟩ (.slice A n c)).setCell ⟨w.heap.size + 1, 0, none⟩ (.bool b)).setCell ⟨w.heap.size + 1 + 1, 0, none⟩ (.bool true)).drew (.slice A n c) b from
    zfin_drew (zfin_lower (zfin_set (zfin_set (zfin_set HF5.out (g := w.heap.size) 0 (.slice A n c) (by simp; omega)) (g := w.heap.size + 1) 0 (.bool b) (by simp)) (g := w.heap.size + 1 + 1) 0 (.bool true) (by simp)) (by simp; omega)))
  have P6 := Lib.hid (stored3' p0.out (.bool true))
  generalize (((w5.setCell ⟨w.heap.size, 0, none⟩ (.slice A n c)).setCell ⟨w.heap.size + 1, 0, none⟩ (.bool b)).setCell ⟨w.heap.size + 1 + 1, 0, none⟩ (.bool true)).drew = w6 at HB6 HF6 P6 ⊢
  clear k0 k1 k2 f0 f1 f2
  refine leaves_cons (f := 21) (args := #[.pointer (some ⟨w.heap.size, 0, none⟩), .pointer (some ⟨w.heap.size + 1, 0, none⟩), .pointer (some ⟨w.heap.size + 1 + 1, 0, none⟩)]) (by simp) (by simp [go_sem]) ?_
  refine (catch21 _ _ _ _).mono ?_
  rintro e u' w'' ⟨rfl, rfl, rfl⟩
  obtain ⟨q0, q1, q2⟩ := P6.out
  have k0 : w''.cell? ⟨w.heap.size, 0, none⟩ = some (.slice A n c) := blk_cell q0 0
  have k1 : w''.cell? ⟨w.heap.size + 1, 0, none⟩ = some (.bool b) := blk_cell q1 0
  have k2 : w''.cell? ⟨w.heap.size + 1 + 1, 0, none⟩ = some (.bool true) := blk_cell q2 0
  simp [Leaves, settle, results, Tryz.results10, go_sem, k0, k1, k2]
  exact ⟨A, n, c, b, rfl, HF6.out, HB6.out⟩
end Go.Proofs.YtfahabnjplnbmaaGreatDoor.Wk
