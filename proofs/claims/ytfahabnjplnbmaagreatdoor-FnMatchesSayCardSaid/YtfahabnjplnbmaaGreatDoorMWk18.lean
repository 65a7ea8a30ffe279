/- impl.Matches, laws.FnMatchesSay: it returns true at every input. -/
import Derived.Test.YtfahabnjplnbmaaGreatDoorMWk17
import Derived.Test.YtfahabnjplnbmaaGreatDoorMWk16
import Derived.Test.YtfahabnjplnbmaaGreatDoorMQM
namespace Go.Proofs.YtfahabnjplnbmaaGreatDoor.Wk
open Go.RowKit Go.Proofs.YtfahabnjplnbmaaGreatDoorW.PrintWords
open Go.Proofs.YtfahabnjplnbmaaGreatDoor.Pl Go.Proofs.YtfahabnjplnbmaaGreatDoor.Q Go.Proofs.YtfahabnjplnbmaaGreatDoor.QL
set_option linter.unusedVariables false
set_option linter.unusedSimpArgs false

theorem catch13 (p q : Addr) (w : World) :
    CallsD Tryz.prog 13 #[.pointer (some p), .pointer (some q)] .returning w fun e u' w' => e = .returned (.tuple #[]) ∧ u' = .returning ∧ w' = w := by
  refine callsD_of_wpS Tryz.func13 rfl fun c₀ cs hu => ?_
  apply wpS_seq
  apply wpS_region
  simp [wpOpsS, go_sem, recoverD, hu, Tryz.ntmps13, Exit.thenS]
  refine wpS_cond (t := false) (by simp [Act.eval, Array.replicate]) ?_
  simp only [Bool.false_eq_true, if_false]
  refine wpS_of_wp (wp_skip ?_)
  cases c₀
  simp_all [bodyPostS, results, Tryz.results13]

theorem stored2 {w : World} {b0 : Nat} {x0 x1 : Value} (q0 : w.heap[b0]? = some (.cells #[x0] 4 (0, 0))) (q1 : w.heap[b0 + 1]? = some (.cells #[x1] 4 (0, 0))) (u v : Value) :
    ((w.setCell ⟨b0, 0, none⟩ u).setCell ⟨b0 + 1, 0, none⟩ v).heap[b0]? = some (.cells #[u] 4 (0, 0)) ∧ ((w.setCell ⟨b0, 0, none⟩ u).setCell ⟨b0 + 1, 0, none⟩ v).heap[b0 + 1]? = some (.cells #[v] 4 (0, 0)) := by
  refine ⟨?_, ?_⟩
  · rw [Below.heap_setCell _ _ _ _ (by simp)]
    exact blk_set q0 0 u
  · exact blk_set ((Below.heap_setCell _ _ _ _ (by simp)).trans q1) 0 v

/-- What Matches hands back. -/
def MVOut (l : List Part) (path : Bytes) (w w' : World) (e : Ending) : Prop :=
  ∃ is, e = .returned (.tuple #[.bool is, .bool true]) ∧ Answer l path is ∧ Below w.heap.size w w'

set_option maxHeartbeats 2000000 in
set_option maxRecDepth 100000 in
theorem matchesI_any (path pat : ByteArray) (sens strict : Bool) (l : List Part) (w : World)
    (hl : l.length ≤ 90) (hg : Pl.Good l) (hnp : npar l ≤ 30) (hr : render l = fpat (bs pat) sens strict) (h2 : pat.size ≤ 500) (h3 : path.size ≤ 500) :
    Calls Tryz.prog 5 #[.string path, .string pat, .bool sens, .bool strict] w fun e w' => MVOut l (fpath (bs path) sens) w w' e := by
  have HG := Lib.hid hg
  have HNP := Lib.hid hnp
  have HR := Lib.hid hr
  clear hg hnp hr
  have hmf : ∀ (fn : Fn) (first cap : Array Value) (w : World), (Instr.makeFunc fn first cap).run Tryz.prog w = .ok (.func fn first cap) w := fun _ _ _ _ => rfl
  go_enter_defers Tryz.func5, Tryz.ntmps5
  go_wp2_with fail
  refine (rpm_any path pat sens strict (w.heap.size + 1 + 1) l _ (blk_cell (blk_new3 w _ _ _) 0) (blk_cell (blk_new3 w _ _ _) 1) hl HG.out HNP.out HR.out h2 h3).mono ?_
  rintro e w4 ⟨is, rfl, hans, hb⟩
  have HANS := Lib.hid hans
  have q0 : w4.heap[w.heap.size]? = some (.cells #[.bool false] 4 (0, 0)) := blk_below (blk_alloc (blk_alloc (blk_new w _) _) _) hb
  have q1 : w4.heap[w.heap.size + 1]? = some (.cells #[.bool false] 4 (0, 0)) := blk_below (blk_alloc (blk_new2 w _ _) _) hb
  have HB := Lib.hid (show Below w.heap.size w w4 from (below_alloc (below_alloc (below_alloc (Below.refl w.heap.size w) _) _) _).trans (hb.mono (by simp; omega)))
  have k0 : w4.cell? ⟨w.heap.size, 0, none⟩ = some (.bool false) := blk_cell q0 0
  have k1 : w4.cell? ⟨w.heap.size + 1, 0, none⟩ = some (.bool false) := blk_cell q1 0
  have f0 : w4.frozen? ⟨w.heap.size, 0, none⟩ = false := blk_frozen q0 0
  have f1 : w4.frozen? ⟨w.heap.size + 1, 0, none⟩ = false := blk_frozen q1 0
  have P6 := Lib.hid (stored2 q0 q1 (.bool is) (.bool true))
  have HB6 := Lib.hid ((HB.out.setCell (p := ⟨w.heap.size, 0, none⟩) (Nat.le_refl _) (.bool is)).setCell (p := ⟨w.heap.size + 1, 0, none⟩) (Nat.le_succ _) (.bool true))
  clear hans hb q0 q1
  go_wp2
  generalize (w4.setCell ⟨w.heap.size, 0, none⟩ (.bool is)).setCell ⟨w.heap.size + 1, 0, none⟩ (.bool true) = w6 at HB6 P6 ⊢
  clear k0 k1 f0 f1
  refine leaves_cons (f := 13) (args := #[.pointer (some ⟨w.heap.size, 0, none⟩), .pointer (some ⟨w.heap.size + 1, 0, none⟩)]) (by simp) (by simp [go_sem]) ?_
  refine (catch13 _ _ _).mono ?_
  rintro e u' w'' ⟨rfl, rfl, rfl⟩
  obtain ⟨q0, q1⟩ := P6.out
  have k0 : w''.cell? ⟨w.heap.size, 0, none⟩ = some (.bool is) := blk_cell q0 0
  have k1 : w''.cell? ⟨w.heap.size + 1, 0, none⟩ = some (.bool true) := blk_cell q1 0
  simp [Leaves, settle, results, Tryz.results5, go_sem, k0, k1]
  exact ⟨is, rfl, HANS.out, HB6.out⟩
end Go.Proofs.YtfahabnjplnbmaaGreatDoor.Wk
