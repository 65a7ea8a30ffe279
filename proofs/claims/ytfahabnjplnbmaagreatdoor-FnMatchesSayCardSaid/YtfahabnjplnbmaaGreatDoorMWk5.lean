/- getMatch at no parts; analyseConstantPart; analyseParameterPart. -/
import Derived.Test.YtfahabnjplnbmaaGreatDoorMWk4
import Derived.Test.YtfahabnjplnbmaaGreatDoorMWk2
import Derived.Test.YtfahabnjplnbmaaGreatDoorMQx2
namespace Go.Proofs.YtfahabnjplnbmaaGreatDoor.Wk
open Go.RowKit Go.Proofs.YtfahabnjplnbmaaGreatDoorW.PrintWords
open Go.Proofs.YtfahabnjplnbmaaGreatDoor.Pl Go.Proofs.YtfahabnjplnbmaaGreatDoor.Q Go.Proofs.YtfahabnjplnbmaaGreatDoor.QL
set_option linter.unusedVariables false
set_option linter.unusedSimpArgs false

set_option maxHeartbeats 4000000 in
set_option maxRecDepth 100000 in
theorem getMatch_nil (path : ByteArray) (part : Bool) (pb vb cap : Nat) (A : Option Addr) (w : World) (V0 : Array Value)
    (hpc : w.cell? ⟨pb, 0, none⟩ = some (.slice A 0 cap)) (hvb : w.heap[vb]? = some (.cells V0 55 (0, 0))) (hV0 : V0.size = 30) :
    Calls Tryz.prog 30 #[.pointer (some ⟨pb, 0, none⟩), .string path, .string path, .pointer (some ⟨vb, 0, none⟩), .bool part] w fun e w' => MOut [] path part vb e w' ∧ w.grownBy w' (some vb) := by
  have HV := Lib.hid (show ValsAt w vb [] from ⟨V0, hvb, hV0, fun j h => by simp at h⟩)
  clear hvb hV0
  by_cases ht : path.toList = []
  · have ht2 : path.toList.isEmpty = true := by rw [ht]; rfl
    have HT := Lib.hid ht
    clear ht
    go_enter Tryz.func30, Tryz.ntmps30
    go_wp2
    refine wp_loop_rounds 1 ?_
    rw [rounds_succ]
    go_wp2
    go_ret
    exact ⟨.inr ⟨[], rfl, .done (.inr (by rw [← tl]; exact HT.out)), HV.out, rfl⟩, World.grownBy.refl _ _⟩
  · have ht2 : path.toList.isEmpty = false := by simpa using ht
    have HT := Lib.hid ht
    clear ht
    cases part with
    | true =>
      go_enter Tryz.func30, Tryz.ntmps30
      go_wp2
      refine wp_loop_rounds 1 ?_
      rw [rounds_succ]
      go_wp2
      go_ret
      exact ⟨.inr ⟨[], rfl, .done (.inl rfl), HV.out, rfl⟩, World.grownBy.refl _ _⟩
    | false =>
      go_enter Tryz.func30, Tryz.ntmps30
      go_wp2
      refine wp_loop_rounds 1 ?_
      rw [rounds_succ]
      go_wp2
      go_ret
      exact ⟨.inl ⟨rfl, .left rfl (by rw [← tl]; exact HT.out)⟩, World.grownBy.refl _ _⟩

theorem noEsc_none {s : ByteArray} (h : 92 ∉ bs s) : ∃ k, fiberpath_RemoveEscapeChar.f k s = some s := (noEsc_ev s h).rounds

def constSeg (c : ByteArray) : Seg := { con := c, par := false, name := ⟨#[]⟩, cmp := ⟨#[]⟩, cnt := 0, gr := false, opt := false, last := false, slash := false, len := (c.size : Int) }

def SegOut (w : World) (c : ByteArray) (σ : Seg) (e : Ending) (w' : World) : Prop := ∃ g, e = .returned (.tuple #[.string c, .pointer (some ⟨g, 0, none⟩)]) ∧ w.heap.size ≤ g ∧ SegAt w' g σ ∧ Below w.heap.size w w'

set_option maxHeartbeats 4000000 in
set_option maxRecDepth 100000 in
theorem constPart_all (rp : Value) (s : ByteArray) (w : World) (hs : s.size ≤ 4294967290) (h92 : 92 ∉ bs s) :
    Calls Tryz.prog 36 #[rp, .string s, .int .i64 (-1)] w fun e w' => SegOut w s (constSeg s) e w' := by
  obtain ⟨kk, hk⟩ := noEsc_none h92
  have HK := Lib.hid hk
  clear hk h92
  go_enter Tryz.func36, Tryz.ntmps36
  go_wp2_with (go_at_call 31; refine (fiberpath_RemoveEscapeChar.calls kk s s _ HK.out).mono ?_; rintro e w1 ⟨rfl, hb⟩)
  go_ret2
  exact ⟨w1.heap.size, rfl, hb.size, heap_alloc_new w1 _, below_alloc hb _⟩

set_option maxHeartbeats 4000000 in
set_option maxRecDepth 100000 in
theorem constPart_to (rp : Value) (s : ByteArray) (n : Nat) (w : World) (hs : s.size ≤ 4294967290) (hn : n ≤ s.size) (h92 : 92 ∉ bs s) :
    Calls Tryz.prog 36 #[rp, .string s, .int .i64 (n : Int)] w fun e w' => SegOut w (s.extract 0 n) (constSeg (s.extract 0 n)) e w' := by
  obtain ⟨kk, hk⟩ := noEsc_none (s := s.extract 0 n) (by rw [bs_to]; intro h; exact h92 (List.mem_of_mem_take h))
  have HK := Lib.hid hk
  have hne : ((n : Int) != -1) = true := by rw [bne_iff_ne]; omega
  have hsl := slice_to s n hn
  clear hk h92
  go_enter Tryz.func36, Tryz.ntmps36
  go_wp2_with (go_at_call 31; refine (fiberpath_RemoveEscapeChar.calls kk (s.extract 0 n) (s.extract 0 n) _ HK.out).mono ?_; rintro e w1 ⟨rfl, hb⟩)
  go_ret2
  have e : constSeg (s.extract 0 n) = { con := s.extract 0 n, par := false, name := ⟨#[]⟩, cmp := ⟨#[]⟩, cnt := 0, gr := false, opt := false, last := false, slash := false, len := (n : Int) } := by unfold constSeg; rw [sz_to s n hn]
  rw [e]
  exact ⟨w1.heap.size, rfl, hb.size, heap_alloc_new w1 _, below_alloc hb _⟩
end Go.Proofs.YtfahabnjplnbmaaGreatDoor.Wk
