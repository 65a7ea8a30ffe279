/- The walk of getMatch: it comes to what a run over the parts comes to. -/
import Derived.Test.YtfahabnjplnbmaaGreatDoorMWk3
import Derived.Deep.QuietTactic
import Derived.BigQuiet
import Derived.RegionTactic
namespace Go.Proofs.YtfahabnjplnbmaaGreatDoor.Wk
open Go.RowKit Go.Proofs.YtfahabnjplnbmaaGreatDoorW.PrintWords
open Go.Proofs.YtfahabnjplnbmaaGreatDoor.Pl Go.Proofs.YtfahabnjplnbmaaGreatDoor.Q Go.Proofs.YtfahabnjplnbmaaGreatDoor.QL
set_option linter.unusedVariables false
set_option linter.unusedSimpArgs false

theorem slice_to_int (s : ByteArray) (j : Int) (h0 : 0 ≤ j) (h : j ≤ s.size) : ∀ W : World, (Instr.slice 9 (.string s) none (some (.int .i64 j)) none).run Tryz.prog W = .ok (.string (s.extract 0 j.toNat)) W := fun W => by
  have h1 := run_slice_string_to_if (P := Tryz.prog) W 9 s .i64 j Tryz.underlying9
  rw [h1, if_pos ⟨h0, h⟩]
theorem slice_from_int (s : ByteArray) (j : Int) (h0 : 0 ≤ j) (h : j ≤ s.size) : ∀ W : World, (Instr.slice 9 (.string s) (some (.int .i64 j)) none none).run Tryz.prog W = .ok (.string (s.extract j.toNat s.size)) W := fun W => by
  have h1 := run_slice_string_from_if (P := Tryz.prog) W 9 s .i64 j Tryz.underlying9
  rw [h1, if_pos ⟨h0, h⟩]

/-- A segment is a part's, with what stands behind it. -/
def SegIs (p : Part) (t : List Part) (σ : Seg) : Prop :=
  σ.par = p.par ∧ σ.con.size ≤ 4294967290 ∧
  (p.par = false → bs σ.con = p.con ∧ σ.len = (p.con.length : Int) ∧ (σ.slash = true ↔ MayEnd p t)) ∧
  (p.par = true → σ.gr = p.greedy ∧ σ.opt = p.opt ∧ (σ.last = true ↔ t = []) ∧ σ.len = 0 ∧ σ.cmp.size ≤ 4294967290 ∧ (-9223372036854775808 ≤ σ.cnt ∧ σ.cnt ≤ 9223372036854775807) ∧ (∀ q t', t = q :: t' → bs σ.cmp = Pl.cmp q.con))

theorem segIs_iok {p : Part} {t : List Part} {σ : Seg} {s : ByteArray} {i : Nat} (h : SegIs p t σ) (hp : p.par = true) (hf : FP σ s i) : IOk p t (bs s) i := by
  obtain ⟨_, _, _, h4⟩ := h
  obtain ⟨h1, h2, h3, h5, h6, h7, h8⟩ := h4 hp
  obtain ⟨f1, f2, f3⟩ := hf
  refine ⟨by rw [bs_len]; exact f1, fun hg => ⟨fun ht => ?_, fun q t' ht => ?_⟩, fun hg ht => ?_⟩
  · exact (f2 (h3.2 ht)).1 (by rw [h1, hg])
  · have hl : σ.last = false := by
      cases hl : σ.last with
      | false => rfl
      | true => have := h3.1 hl; rw [ht] at this; cases this
    have := f3 hl (by rw [h1, hg])
    rw [h8 q t' ht] at this
    rw [bs_len]
    exact this
  · rw [bs_len]; exact (f2 (h3.2 ht)).2 (by rw [h1, hg])

theorem segIs_ok {p : Part} {t : List Part} {σ : Seg} (h : SegIs p t σ) (hp : p.par = true) (hg : Pl.Good (p :: t)) : σ.last = false → σ.gr = false → 1 ≤ σ.cmp.size := by
  intro hl hgr
  obtain ⟨_, _, _, h4⟩ := h
  obtain ⟨h1, h2, h3, h5, h6, h7, h8⟩ := h4 hp
  cases t with
  | nil => have := h3.2 rfl; rw [hl] at this; cases this
  | cons q t' =>
    have hc := h8 q t' rfl
    have hpair := hg.2.1
    cases p with
    | const c => cases hp
    | star => rw [h1] at hgr; cases hgr
    | plus => rw [h1] at hgr; cases hgr
    | named nm o =>
      cases q with
      | const c =>
        rw [← bs_len, hc]
        rcases okAfter_cases hpair.2 with ⟨_, h⟩ | ⟨h, _⟩
        · simp only [Part.con] at *; rw [h]; simp
        · simp only [Part.con] at *; omega
      | named => exact absurd hpair id
      | star => exact absurd hpair id
      | plus => exact absurd hpair id

section
variable {w w1 w2 : World} {vb : Nat}
theorem gb_below (h : w.grownBy w1 (some vb)) (hb : Below w1.heap.size w1 w2) : w.grownBy w2 (some vb) :=
  ⟨hb.os.trans h.os, hb.tape.trans h.tape, hb.output.trans h.output, Nat.le_trans h.size hb.size, fun i hi hn => (hb.block i (Nat.lt_of_lt_of_le hi h.size)).trans (h.block i hi hn)⟩
theorem gb_set (h : w.grownBy w1 (some vb)) (j : Nat) (u : Value) : w.grownBy (w1.setCell ⟨vb, j, none⟩ u) (some vb) :=
  ⟨h.os, h.tape, h.output, by simpa [World.setCell] using h.size, fun i hi hn => (Below.heap_setCell w1 ⟨vb, j, none⟩ u i (fun e => hn (by rw [e]))).trans (h.block i hi hn)⟩
theorem gb_drewN (h : w.grownBy w1 (some vb)) (n : Nat) : w.grownBy (w1.drewN n) (some vb) := ⟨h.os, h.tape, h.output, h.size, h.block⟩
theorem gb_drew (h : w.grownBy w1 (some vb)) : w.grownBy w1.drew (some vb) := ⟨h.os, h.tape, h.output, h.size, h.block⟩
theorem seg_gb {g : Nat} {σ : Seg} (h : SegAt w g σ) (hg : w.grownBy w1 (some vb)) (hne : g ≠ vb) : SegAt w1 g σ := blk_grown h hg (fun e => hne (by injection e))
theorem cell_gb {a : Addr} {v : Value} (h : w.cell? a = some v) (hg : w.grownBy w1 (some vb)) (hne : a.block ≠ vb) : w1.cell? a = some v := hg.cell h (fun e => hne (by injection e))
end

theorem good_drop {l : List Part} (h : Pl.Good l) : ∀ k, Pl.Good (l.drop k) := by
  intro k
  induction k generalizing l with
  | zero => simpa using h
  | succ k ih =>
    cases l with
    | nil => simpa using h
    | cons p t => simpa using ih h.tail
theorem con_pos {p : Part} (h : One p) (hp : p.par = false) : 1 ≤ p.con.length := by
  cases p with
  | const c => exact List.length_pos_iff.2 h.1
  | named => cases hp
  | star => cases hp
  | plus => cases hp

/-- The segments of the parts, in memory. -/
structure Segs (w : World) (sb : Nat) (l : List Part) (gs : Nat → Nat) (σ : Nat → Seg) : Prop where
  cell : ∀ k, k < l.length → w.cell? ⟨sb, k, none⟩ = some (.pointer (some ⟨gs k, 0, none⟩))
  seg : ∀ k, k < l.length → SegAt w (gs k) (σ k)
  is : ∀ k p, l[k]? = some p → SegIs p (l.drop (k + 1)) (σ k)

/-- The values so far. -/
def ValsAt (w : World) (vb : Nat) (V : List ByteArray) : Prop := ∃ cs : Array Value, w.heap[vb]? = some (.cells cs 55 (0, 0)) ∧ cs.size = 30 ∧ ∀ j (h : j < V.length), cs[j]? = some (.string V[j])

/-- The matcher's invariant. -/
structure MI (l : List Part) (path : ByteArray) (part : Bool) (vb : Nat) (w : World) (k : Nat) (t : ByteArray) (V : List ByteArray) (wr : World) : Prop where
  le : k ≤ l.length
  size : t.size ≤ path.size
  len : V.length = npar (l.take k)
  run : ∀ res, Run (l.drop k) (bs t) part res → Run l (bs path) part (res.map (V.map bs ++ ·))
  vals : ValsAt wr vb V
  kept : w.grownBy wr (some vb)

section
variable {l : List Part} {path : ByteArray} {part : Bool} {vb : Nat} {w : World} {k : Nat} {t : ByteArray} {V : List ByteArray} {wr : World}
theorem npar_take {p : Part} (hp : l[k]? = some p) : npar (l.take (k + 1)) = npar (l.take k) + (if p.par then 1 else 0) := by
  obtain ⟨hl, rfl⟩ := List.getElem?_eq_some_iff.1 hp
  rw [List.take_succ_eq_append_getElem hl]
  unfold npar
  rw [List.filter_append, List.length_append]
  cases h : l[k].par <;> simp [h]
theorem drop_part {p : Part} (hp : l[k]? = some p) : l.drop k = p :: l.drop (k + 1) := by
  obtain ⟨hl, rfl⟩ := List.getElem?_eq_some_iff.1 hp
  exact List.drop_eq_getElem_cons hl
theorem MI.cut (h : MI l path part vb w k t V wr) {p : Part} (hp : l[k]? = some p) (hpar : p.par = false) (hm : MayEnd p (l.drop (k + 1))) (ht : bs t = p.con.dropLast) {t' : ByteArray} (ht' : bs t' = []) {wr' : World} (hv : ValsAt wr' vb V) (hk : w.grownBy wr' (some vb)) :
    MI l path part vb w (k + 1) t' V wr' := by
  have hl := (List.getElem?_eq_some_iff.1 hp).1
  refine ⟨by omega, by rw [← bs_len t', ht']; simp, by rw [npar_take hp, hpar, h.len]; rfl, fun res hr => h.run res ?_, hv, hk⟩
  rw [drop_part hp]
  rw [ht'] at hr
  exact .cut hpar hm ht hr
theorem MI.con (h : MI l path part vb w k t V wr) {p : Part} (hp : l[k]? = some p) (hpar : p.par = false) (hm : ¬ (MayEnd p (l.drop (k + 1)) ∧ bs t = p.con.dropLast)) (hc : p.con <+: bs t) {t' : ByteArray} (ht' : bs t' = (bs t).drop p.con.length) {wr' : World} (hv : ValsAt wr' vb V) (hk : w.grownBy wr' (some vb)) :
    MI l path part vb w (k + 1) t' V wr' := by
  have hl := (List.getElem?_eq_some_iff.1 hp).1
  refine ⟨by omega, ?_, by rw [npar_take hp, hpar, h.len]; rfl, fun res hr => h.run res ?_, hv, hk⟩
  · have := h.size
    rw [← bs_len t', ht', List.length_drop, bs_len]; omega
  · rw [drop_part hp]
    rw [ht'] at hr
    exact .con hpar hm hc hr
theorem MI.miss (h : MI l path part vb w k t V wr) {p : Part} (hp : l[k]? = some p) (hpar : p.par = false) (hm : ¬ (MayEnd p (l.drop (k + 1)) ∧ bs t = p.con.dropLast)) (hc : ¬ p.con <+: bs t) : Run l (bs path) part none := by
  refine h.run none ?_
  rw [drop_part hp]
  exact .miss hpar hm hc
theorem MI.lack (h : MI l path part vb w k t V wr) {p : Part} (hp : l[k]? = some p) (hpar : p.par = true) (hi : IOk p (l.drop (k + 1)) (bs t) 0) (ho : p.opt = false) : Run l (bs path) part none := by
  refine h.run Option.none ?_
  rw [drop_part hp]
  exact .none hpar hi ho
theorem MI.take (h : MI l path part vb w k t V wr) {p : Part} (hp : l[k]? = some p) (hpar : p.par = true) {i : Nat} (hi : IOk p (l.drop (k + 1)) (bs t) i) (ho : i = 0 → p.opt = true) {t' v : ByteArray} (ht' : bs t' = (bs t).drop i) (hv' : bs v = (bs t).take i) {wr' : World} (hv : ValsAt wr' vb (V ++ [v])) (hk : w.grownBy wr' (some vb)) :
    MI l path part vb w (k + 1) t' (V ++ [v]) wr' := by
  have hl := (List.getElem?_eq_some_iff.1 hp).1
  refine ⟨by omega, ?_, by rw [npar_take hp, hpar, List.length_append, h.len]; rfl, fun res hr => ?_, hv, hk⟩
  · have := h.size
    rw [← bs_len t', ht', List.length_drop, bs_len]; omega
  · rw [ht'] at hr
    have h1 : Run (l.drop k) (bs t) part (res.map ((bs t).take i :: ·)) := by
      rw [drop_part hp]
      exact .take hpar hi ho hr
    have h2 := h.run _ h1
    have e : (res.map ((V ++ [v]).map bs ++ ·)) = ((res.map ((bs t).take i :: ·)).map (V.map bs ++ ·)) := by
      cases res with
      | none => rfl
      | some x => simp [hv']
    rw [e]; exact h2
theorem MI.exit_true (h : MI l path part vb w k t V wr) (hk : ¬ k < l.length) (hp : part = true ∨ bs t = []) : Run l (bs path) part (some (V.map bs)) := by
  have hd : l.drop k = [] := List.drop_eq_nil_of_le (by omega)
  have := h.run (some []) (by rw [hd]; exact .done hp)
  simpa using this
theorem MI.exit_false (h : MI l path part vb w k t V wr) (hk : ¬ k < l.length) (hp : part = false) (ht : bs t ≠ []) : Run l (bs path) part none := by
  have hd : l.drop k = [] := List.drop_eq_nil_of_le (by omega)
  exact h.run none (by rw [hd]; exact .left hp ht)
theorem MI.exit_len (h : MI l path part vb w k t V wr) (hk : ¬ k < l.length) : V.length = npar l := by
  rw [h.len, List.take_of_length_le (by omega)]
end

/-- What getMatch hands back. -/
def MOut (l : List Part) (path : ByteArray) (part : Bool) (vb : Nat) (e : Ending) (w' : World) : Prop :=
  (e = .returned (.bool false) ∧ Run l (bs path) part none) ∨
  ∃ V : List ByteArray, e = .returned (.bool true) ∧ Run l (bs path) part (some (V.map bs)) ∧ ValsAt w' vb V ∧ V.length = npar l

set_option maxHeartbeats 4000000 in
set_option maxRecDepth 100000 in
theorem getMatch_some (l : List Part) (path : ByteArray) (part : Bool) (pb sb vb cap : Nat) (gs : Nat → Nat) (σ : Nat → Seg) (w : World) (V0 : Array Value)
    (hne : l ≠ []) (hl : l.length ≤ 1000) (hg : Pl.Good l) (hnp : npar l ≤ 30) (hps : path.size ≤ 4294967290) (hcap : l.length ≤ cap)
    (hpc : w.cell? ⟨pb, 0, none⟩ = some (.slice (some ⟨sb, 0, none⟩) l.length cap)) (hS : Segs w sb l gs σ) (hpb : pb ≠ vb) (hsb : sb ≠ vb) (hgs : ∀ k, gs k ≠ vb)
    (hvb : w.heap[vb]? = some (.cells V0 55 (0, 0))) (hV0 : V0.size = 30) :
    Calls Tryz.prog 30 #[.pointer (some ⟨pb, 0, none⟩), .string path, .string path, .pointer (some ⟨vb, 0, none⟩), .bool part] w fun e w' => MOut l path part vb e w' ∧ w.grownBy w' (some vb) := by
  have HS := Lib.hid hS
  have HG := Lib.hid hg
  have HGS := Lib.hid hgs
  have HNP := Lib.hid hnp
  have HV := Lib.hid (show ValsAt w vb [] from ⟨V0, hvb, hV0, fun j h => by simp at h⟩)
  clear hS hg hgs hnp hvb hV0
  go_enter Tryz.func30, Tryz.ntmps30
  go_wp2
  go_loopw [1, 2, 12, 24] (fun v1 v2 v12 v24 wr => ∃ (k : Nat) (t : ByteArray) (V : List ByteArray), v1 = .string t ∧ v2 = .string t ∧ v12 = .int .i64 (V.length : Int) ∧ v24 = .int .i64 (k : Int) ∧ Hid (MI l path part vb w k t V wr)) (fun _ _ _ v24 _ => l.length - (intOf v24).toNat)
  case atStart => exact ⟨0, path, [], rfl, rfl, rfl, rfl, ⟨Nat.zero_le _, Nat.le_refl _, rfl, fun res h => by cases res <;> simpa using h, HV.out, World.grownBy.refl _ _⟩⟩
  case round =>
    obtain ⟨k, t, V, rfl, rfl, rfl, rfl, HI⟩ := hrel
    by_cases hk : k < l.length
    · have hk0 : (k : Int) < (l.length : Int) := by omega
      obtain ⟨p, hp⟩ : ∃ p, l[k]? = some p := ⟨_, List.getElem?_eq_getElem hk⟩
      have hsi := HS.out.is k p hp
      have hsg : SegAt wr (gs k) (σ k) := seg_gb (HS.out.seg k hk) HI.out.kept (HGS.out k)
      have hcell : wr.cell? ⟨sb, k, none⟩ = some (.pointer (some ⟨gs k, 0, none⟩)) := cell_gb (HS.out.cell k hk) HI.out.kept hsb
      have hgk := HGS.out k
      generalize gs k = g at hsg hcell hgk
      generalize σ k = s at hsg hsi
      have c1 := hsg.par
      have htk : t.size ≤ 4294967290 := by have := HI.out.size; omega
      cases hpar : p.par with
      | false =>
        have c0 := hsg.con
        have c8 := hsg.slash
        have c10 := hsg.len
        obtain ⟨hi1, hi2, hi3, _⟩ := hsi
        rw [hpar] at hi1
        obtain ⟨hi4, hi5, hi6⟩ := hi3 hpar
        have hcs : s.con.size = p.con.length := by rw [← bs_len, hi4]
        rw [hi1] at c1
        rw [hi5, ← hcs] at c10
        have hc1 : 1 ≤ s.con.size := by
          have h1 := good_drop HG.out k
          rw [drop_part hp] at h1
          have := con_pos h1.one hpar
          omega
        have HP := Lib.hid hp
        have HPAR := Lib.hid hpar
        have HSG := Lib.hid hsg
        have HI4 := Lib.hid hi4
        have HI6 := Lib.hid hi6
        have HCS := Lib.hid hcs
        clear hp hsg hpar hi1 hi4 hi5 hi3 hi6 hcs
        by_cases hcut : MayEnd p (l.drop (k + 1)) ∧ bs t = p.con.dropLast
        · have hsl : s.slash = true := HI6.out.2 hcut.1
          rw [hsl] at c8
          have HC := Lib.hid hcut
          have htc : t.size + 1 = s.con.size := by
            rw [HCS.out, ← bs_len, hcut.2, List.length_dropLast]
            have := HCS.out
            omega
          have f1 : ((t.size : Int) == (s.con.size : Int) - 1) = true := by rw [beq_iff_eq]; omega
          have f2 : ∀ W : World, (Instr.slice 9 (.string s.con) none (some (.int .i64 ((s.con.size : Int) - 1))) none).run Tryz.prog W = .ok (.string (s.con.extract 0 (s.con.size - 1))) W := fun W => by
            have := slice_to_int s.con ((s.con.size : Int) - 1) (by omega) (by omega) W
            rwa [show ((s.con.size : Int) - 1).toNat = s.con.size - 1 from by omega] at this
          have f3 : (t.toList == (s.con.extract 0 (s.con.size - 1)).toList) = true := by
            rw [beq_iff_eq, tl, tl, bs_to, HI4.out, hcut.2, List.dropLast_eq_take, ← HCS.out]
          have HTC := Lib.hid htc
          have h11 : IntKind.i64.wrap ((s.con.size : Int) - 1) = (s.con.size : Int) - 1 := by rw [IntKind.wrap_i64]; omega
          clear hsl hcut htc
          by_cases ht0 : (0 : Int) < (t.size : Int)
          · have f4 : ∀ W : World, (Instr.slice 9 (.string t) (some (.int .i64 ((s.con.size : Int) - 1))) none none).run Tryz.prog W = .ok (.string (t.extract (s.con.size - 1) t.size)) W := fun W => by
              have := slice_from_int t ((s.con.size : Int) - 1) (by omega) (by have := HTC.out; omega) W
              rwa [show ((s.con.size : Int) - 1).toNat = s.con.size - 1 from by omega] at this
            go_wp2
            go_quiet (fail)
            go_wp2
            go_roundw
            case rel => exact ⟨k + 1, t.extract (s.con.size - 1) t.size, V, rfl, rfl, rfl, by go_num, HI.out.cut HP.out HPAR.out HC.out.1 HC.out.2 (by rw [bs_from, List.drop_eq_nil_of_le (by rw [bs_len]; have := HTC.out; omega)]) HI.out.vals (gb_drewN HI.out.kept _)⟩
            case measure => simp [intOf]; omega
          · go_wp2
            go_roundw
            case rel => exact ⟨k + 1, t, V, rfl, rfl, rfl, by go_num, HI.out.cut HP.out HPAR.out HC.out.1 HC.out.2 (List.eq_nil_of_length_eq_zero (by rw [bs_len]; omega)) HI.out.vals HI.out.kept⟩
            case measure => simp [intOf]; omega
        · have HNC := Lib.hid hcut
          have hsz : ((s.con.size : Int) ≤ (t.size : Int)) ∨ ¬ ((s.con.size : Int) ≤ (t.size : Int)) := Decidable.em _
          have hkind : s.slash = false ∨ (s.slash = true ∧ ((t.size : Int) == (s.con.size : Int) - 1) = false) ∨ (s.slash = true ∧ ((t.size : Int) == (s.con.size : Int) - 1) = true ∧ (t.toList == (s.con.extract 0 (s.con.size - 1)).toList) = false) := by
            cases hs : s.slash with
            | false => exact .inl rfl
            | true =>
              right
              by_cases h1 : (t.size : Int) = (s.con.size : Int) - 1
              · right
                refine ⟨rfl, by rw [beq_iff_eq]; exact h1, ?_⟩
                rw [beq_eq_false_iff_ne, tl, tl, bs_to, HI4.out]
                intro e
                exact hcut ⟨HI6.out.1 hs, by rw [e, List.dropLast_eq_take, ← HCS.out]⟩
              · left; exact ⟨rfl, by rw [beq_eq_false_iff_ne]; exact h1⟩
          have h11 : IntKind.i64.wrap ((s.con.size : Int) - 1) = (s.con.size : Int) - 1 := by rw [IntKind.wrap_i64]; omega
          have f2 : ∀ W : World, (Instr.slice 9 (.string s.con) none (some (.int .i64 ((s.con.size : Int) - 1))) none).run Tryz.prog W = .ok (.string (s.con.extract 0 (s.con.size - 1))) W := fun W => by
            have := slice_to_int s.con ((s.con.size : Int) - 1) (by omega) (by omega) W
            rwa [show ((s.con.size : Int) - 1).toNat = s.con.size - 1 from by omega] at this
          clear hcut
          rcases hsz with hle | hle
          · have f6 : ∀ W : World, (Instr.slice 9 (.string t) none (some (.int .i64 (s.con.size : Int))) none).run Tryz.prog W = .ok (.string (t.extract 0 s.con.size)) W := slice_to_int t (s.con.size : Int) (by omega) hle
            have f8 : ∀ W : World, (Instr.slice 9 (.string t) (some (.int .i64 (s.con.size : Int))) none none).run Tryz.prog W = .ok (.string (t.extract s.con.size t.size)) W := slice_from_int t (s.con.size : Int) (by omega) hle
            have ht0 : (0 : Int) < (t.size : Int) := by omega
            have hdle : decide ((s.con.size : Int) ≤ (t.size : Int)) = true := decide_eq_true hle
            by_cases hpre : p.con <+: bs t
            · have f7 : ((t.extract 0 s.con.size).toList == s.con.toList) = true := by
                rw [beq_iff_eq, tl, tl, bs_to, HI4.out, HCS.out]
                exact (List.prefix_iff_eq_take.1 hpre).symm
              have HPRE := Lib.hid hpre
              clear hpre
              rcases hkind with hs | ⟨hs, hk1⟩ | ⟨hs, hk1, hk2⟩
              · rw [hs] at c8
                clear hs
                go_wp2
                go_quiet (fail)
                go_wp2
                go_quiet (fail)
                go_wp2
                go_roundw
                case rel => exact ⟨k + 1, t.extract s.con.size t.size, V, rfl, rfl, rfl, by go_num, HI.out.con HP.out HPAR.out HNC.out HPRE.out (by rw [bs_from, HCS.out]) HI.out.vals (gb_drewN HI.out.kept _)⟩
                case measure => simp [intOf]; omega
              · rw [hs] at c8
                clear hs
                go_wp2
                go_quiet (fail)
                go_wp2
                go_quiet (fail)
                go_wp2
                go_roundw
                case rel => exact ⟨k + 1, t.extract s.con.size t.size, V, rfl, rfl, rfl, by go_num, HI.out.con HP.out HPAR.out HNC.out HPRE.out (by rw [bs_from, HCS.out]) HI.out.vals (gb_drewN HI.out.kept _)⟩
                case measure => simp [intOf]; omega
              · exfalso
                rw [beq_iff_eq] at hk1
                omega
            · have f7 : ((t.extract 0 s.con.size).toList == s.con.toList) = false := by
                rw [beq_eq_false_iff_ne, tl, tl, bs_to, HI4.out, HCS.out]
                intro e
                exact hpre (by rw [List.prefix_iff_eq_take]; exact e.symm)
              have HPRE := Lib.hid hpre
              clear hpre
              rcases hkind with hs | ⟨hs, hk1⟩ | ⟨hs, hk1, hk2⟩
              · rw [hs] at c8
                clear hs
                go_wp2
                go_quiet (fail)
                go_wp2
                go_ret
                exact ⟨.inl ⟨rfl, HI.out.miss HP.out HPAR.out HNC.out HPRE.out⟩, gb_drewN HI.out.kept _⟩
              · rw [hs] at c8
                clear hs
                go_wp2
                go_quiet (fail)
                go_wp2
                go_ret
                exact ⟨.inl ⟨rfl, HI.out.miss HP.out HPAR.out HNC.out HPRE.out⟩, gb_drewN HI.out.kept _⟩
              · exfalso
                rw [beq_iff_eq] at hk1
                omega
          · have HPRE := Lib.hid (show ¬ p.con <+: bs t from fun h => by
              have := h.length_le
              rw [bs_len, ← HCS.out] at this
              omega)
            have hdle : decide (s.con.size ≤ t.size) = false := decide_eq_false (by omega)
            rcases hkind with hs | ⟨hs, hk1⟩ | ⟨hs, hk1, hk2⟩
            · rw [hs] at c8
              clear hs
              go_wp2
              go_quiet (fail)
              go_wp2
              go_ret
              exact ⟨.inl ⟨rfl, HI.out.miss HP.out HPAR.out HNC.out HPRE.out⟩, gb_drewN HI.out.kept _⟩
            · rw [hs] at c8
              clear hs
              go_wp2
              go_quiet (fail)
              go_wp2
              go_ret
              exact ⟨.inl ⟨rfl, HI.out.miss HP.out HPAR.out HNC.out HPRE.out⟩, gb_drewN HI.out.kept _⟩
            · rw [hs] at c8
              clear hs
              go_wp2
              go_quiet (fail)
              go_wp2
              go_ret
              exact ⟨.inl ⟨rfl, HI.out.miss HP.out HPAR.out HNC.out HPRE.out⟩, gb_drewN HI.out.kept _⟩
      | true =>
        have hIOk : ∀ i, FP s t i → IOk p (l.drop (k + 1)) (bs t) i := fun i hf => segIs_iok hsi hpar hf
        have hok := segIs_ok hsi hpar (by have := good_drop HG.out k; rw [drop_part hp] at this; exact this)
        obtain ⟨hi1, hi2, _, hi3⟩ := hsi
        obtain ⟨g1, g2, g3, g4, g5, g6, g7⟩ := hi3 hpar
        rw [hi1, hpar] at c1
        have hvl : V.length < 30 := by
          have h1 := HI.out.len
          have h2 := npar_take hp
          rw [hpar] at h2
          have h3 : npar (l.take (k + 1)) ≤ npar l := by
            unfold npar
            exact ((List.take_sublist _ _).filter _).length_le
          have := HNP.out
          simp at h2
          omega
        have HFP := Lib.hid hIOk
        have HC := Lib.hid (paramLen_any t g s wr htk g4 g5 g6 hok hsg)
        have HP := Lib.hid hp
        have HPAR := Lib.hid hpar
        have HSG := Lib.hid hsg
        have HOPT := Lib.hid g2
        clear hp hpar hIOk hok hi1 hi3 g1 g2 g3 g4 g5 g6 g7 hsg
        go_wp2_with fail
        refine (HC.out).mono ?_
        rintro e w1 ⟨⟨i, hi, rfl⟩, hb⟩
        have hil : i ≤ t.size := hi.1
        have HIO := Lib.hid (HFP.out i hi)
        have hg1 : SegAt w1 g s := blk_below HSG.out hb
        have d6 := hg1.opt
        have d9 := hg1.chk
        obtain ⟨cs, hcs, hcsz, hcV⟩ := HI.out.vals
        have hcs1 := blk_below hcs hb
        have hkept1 := gb_below HI.out.kept hb
        have e1 : w1.cell? ⟨vb, V.length, none⟩ = some (cs[V.length]'(by omega)) := (blk_cell hcs1 V.length).trans (Array.getElem?_eq_getElem _)
        have e2 : w1.frozen? ⟨vb, V.length, none⟩ = false := blk_frozen hcs1 V.length
        have HB := Lib.hid hkept1
        have HV1 := Lib.hid (show ∀ v : ByteArray, ValsAt (w1.setCell ⟨vb, V.length, none⟩ (.string v)) vb (V ++ [v]) from fun v => by
          refine ⟨_, blk_set hcs1 V.length (.string v), by simpa using hcsz, fun j hj => ?_⟩
          rw [List.length_append, List.length_singleton] at hj
          rw [Array.getElem?_setIfInBounds]
          by_cases hjV : V.length = j
          · subst hjV
            simp [hcsz, hvl]
          · rw [if_neg hjV, hcV j (by omega)]
            rw [List.getElem_append_left (by omega)])
        clear hg1 hcs hcs1 hcV hkept1 hb c1 hcell hi
        by_cases h0 : i = 0 ∧ p.opt = false
        · have hb0 : ((i : Int) == 0) = true := by rw [beq_iff_eq]; omega
          have HO := Lib.hid h0
          rw [HOPT.out, HO.out.2] at d6
          clear h0
          go_wp2
          go_ret
          exact ⟨.inl ⟨rfl, HI.out.lack HP.out HPAR.out (by have := HIO.out; rw [HO.out.1] at this; exact this) HO.out.2⟩, HB.out⟩
        · have hvi : (V.length : Int) < 30 := by omega
          have hsl : ∀ W : World, (Instr.slice 9 (.string t) none (some (.int .i64 (i : Int))) none).run Tryz.prog W = .ok (.string (t.extract 0 i)) W := slice_to_int t (i : Int) (by omega) (by omega)
          by_cases hi0 : i = 0
          · have hb0 : ((i : Int) == 0) = true := by rw [beq_iff_eq]; omega
            have ho : p.opt = true := by
              cases h : p.opt with
              | true => rfl
              | false => exact absurd ⟨hi0, h⟩ h0
            rw [HOPT.out, ho] at d6
            have HO := Lib.hid ho
            clear h0 ho hi0
            by_cases ht0 : (0 : Int) < (t.size : Int)
            · have f4 : ∀ W : World, (Instr.slice 9 (.string t) (some (.int .i64 (i : Int))) none none).run Tryz.prog W = .ok (.string (t.extract i t.size)) W := slice_from_int t (i : Int) (by omega) (by omega)
              go_wp2
              go_region
              go_wp2
              go_quiet (fail)
              go_wp2
              go_roundw
              case rel => exact ⟨k + 1, t.extract i t.size, V ++ [t.extract 0 i], rfl, rfl, by simp, by go_num, HI.out.take HP.out HPAR.out HIO.out (fun _ => HO.out) (bs_from t i) (bs_to t i) (HV1.out _) (gb_drewN (gb_set HB.out _ _) _)⟩
              case measure => simp [intOf]; omega
            · go_wp2
              go_region
              go_wp2
              go_roundw
              case rel => exact ⟨k + 1, t, V ++ [t.extract 0 i], rfl, rfl, by simp, by go_num, HI.out.take HP.out HPAR.out HIO.out (fun _ => HO.out) (by rw [show bs t = [] from List.eq_nil_of_length_eq_zero (by rw [bs_len]; omega)]; simp) (bs_to t i) (HV1.out _) (gb_drew (gb_set HB.out _ _))⟩
              case measure => simp [intOf]; omega
          · have hb0 : ((i : Int) == 0) = false := by rw [beq_eq_false_iff_ne]; omega
            have ht0 : (0 : Int) < (t.size : Int) := by omega
            have f4 : ∀ W : World, (Instr.slice 9 (.string t) (some (.int .i64 (i : Int))) none none).run Tryz.prog W = .ok (.string (t.extract i t.size)) W := slice_from_int t (i : Int) (by omega) (by omega)
            rw [HOPT.out] at d6
            have HI0 := Lib.hid hi0
            clear h0 hi0
            cases ho : p.opt with
            | true =>
              rw [ho] at d6
              clear ho
              go_wp2
              go_region
              go_wp2
              refine wp_loop_rounds 1 ?_
              rw [rounds_succ]
              go_wp2
              go_quiet (fail)
              go_wp2
              go_roundw
              case rel => exact ⟨k + 1, t.extract i t.size, V ++ [t.extract 0 i], rfl, rfl, by simp, by go_num, HI.out.take HP.out HPAR.out HIO.out (fun h => absurd h HI0.out) (bs_from t i) (bs_to t i) (HV1.out _) (gb_drewN (gb_set HB.out _ _) _)⟩
              case measure => simp [intOf]; omega
            | false =>
              rw [ho] at d6
              clear ho
              go_wp2
              go_region
              go_wp2
              refine wp_loop_rounds 1 ?_
              rw [rounds_succ]
              go_wp2
              go_quiet (fail)
              go_wp2
              go_roundw
              case rel => exact ⟨k + 1, t.extract i t.size, V ++ [t.extract 0 i], rfl, rfl, by simp, by go_num, HI.out.take HP.out HPAR.out HIO.out (fun h => absurd h HI0.out) (bs_from t i) (bs_to t i) (HV1.out _) (gb_drewN (gb_set HB.out _ _) _)⟩
              case measure => simp [intOf]; omega
    · have hk' : ¬ (k : Int) < (l.length : Int) := by omega
      by_cases ht : t.toList = []
      · have ht2 : t.toList.isEmpty = true := by rw [ht]; rfl
        have HT := Lib.hid ht
        clear ht
        go_wp2
        go_ret
        exact ⟨.inr ⟨V, rfl, HI.out.exit_true hk (.inr (by rw [← tl]; exact HT.out)), HI.out.vals, HI.out.exit_len hk⟩, HI.out.kept⟩
      · have ht2 : t.toList.isEmpty = false := by simpa using ht
        have HT := Lib.hid ht
        clear ht
        cases part with
        | true =>
          go_wp2
          go_ret
          exact ⟨.inr ⟨V, rfl, HI.out.exit_true hk (.inl rfl), HI.out.vals, HI.out.exit_len hk⟩, HI.out.kept⟩
        | false =>
          go_wp2
          go_ret
          exact ⟨.inl ⟨rfl, HI.out.exit_false hk rfl (by rw [← tl]; exact HT.out)⟩, HI.out.kept⟩
end Go.Proofs.YtfahabnjplnbmaaGreatDoor.Wk
