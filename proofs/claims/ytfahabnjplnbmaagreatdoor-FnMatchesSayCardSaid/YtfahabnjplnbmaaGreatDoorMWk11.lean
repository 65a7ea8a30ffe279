/- parseRoute. -/
import Derived.Test.YtfahabnjplnbmaaGreatDoorMWk8
import Derived.Test.YtfahabnjplnbmaaGreatDoorMWk9
import Derived.Test.YtfahabnjplnbmaaGreatDoorMWk10
import Derived.Test.YtfahabnjplnbmaaGreatDoorMHeld
namespace Go.Proofs.YtfahabnjplnbmaaGreatDoor.Wk
open Go.RowKit Go.Proofs.YtfahabnjplnbmaaGreatDoorW.PrintWords
open Go.Proofs.YtfahabnjplnbmaaGreatDoor.Pl Go.Proofs.YtfahabnjplnbmaaGreatDoor.Q Go.Proofs.YtfahabnjplnbmaaGreatDoor.QL
set_option linter.unusedVariables false
set_option linter.unusedSimpArgs false

/-- A parameter's walk, whichever it is. -/
theorem param_any (P : Nat) (s : ByteArray) (a b : Value) (i j : Nat) (p : Part) (t : List Part) (w : World) (hg : Pl.Good (p :: t)) (hp : p.par = true) (hs : bs s = render (p :: t)) (h2 : s.size ≤ 1000) (hP : PrsAt w P a b i j) (hi : i < 98) (hj : j < 98) :
    Calls Tryz.prog 35 #[.pointer (some ⟨P, 0, none⟩), .string s] w fun e w' => ∃ i' j', i' ≤ i + 1 ∧ j' ≤ j + 1 ∧ ParOut w P (s.extract 0 p.rend.length) a b i' j' p.greedy p.opt e w' := by
  cases p with
  | const => cases hp
  | named nm o => exact (param_named P s a b i j nm o t w hg hs h2 hP).mono fun e w' h => ⟨i, j, by omega, by omega, h⟩
  | star => exact (param_star P s a b i j w (tame_render hg hs h2) hP hi (by rw [hs, rc]; rfl)).mono fun e w' h => ⟨i + 1, j, by omega, by omega, h⟩
  | plus => exact (param_plus P s a b i j w (tame_render hg hs h2) hP hj (by rw [hs, rc]; rfl)).mono fun e w' h => ⟨i, j + 1, by omega, by omega, h⟩
theorem bn_par {p : Part} (hp : p.par = true) (nm : ByteArray) : BN p (parSeg nm p.greedy p.opt) :=
  ⟨hp.symm, by show (0 : Nat) ≤ _; omega, by show (92 : UInt8) ∉ ([] : List UInt8); simp, (fun h => by rw [hp] at h; cases h), fun _ => rfl, rfl, rfl, rfl, rfl, rfl⟩
theorem bn_const {c : Bytes} {b : ByteArray} (hc : bs b = c) (hs : b.size ≤ 4294967290) (h92 : 92 ∉ bs b) : BN (.const c) (constSeg b) :=
  ⟨rfl, hs, h92, fun _ => ⟨hc, by show ((b.size : Nat) : Int) = (c.length : Int); rw [← bs_len, hc]⟩, (fun h => by cases h), rfl, rfl, rfl, rfl, rfl⟩

/-- What stands in memory when the parts have been parsed. -/
def Parsed (l : List Part) (w w' : World) (e : Ending) : Prop :=
  ∃ sb cap gs σ A m c i j, e = .returned (.agg #[.slice (some ⟨sb, 0, none⟩) l.length cap, .slice A m c, .int .i64 i, .int .i64 j]) ∧ m = npar l ∧ l.length ≤ cap ∧ Segs w' sb l gs σ ∧ w.heap.size ≤ sb ∧ (∀ k, k < l.length → w.heap.size ≤ gs k) ∧ Below w.heap.size w w'

theorem info70 : (Tryz.prog.info? 70).map (fun i => (i.zero, i.size, i.bytes)) = some (some (.pointer none), 1, 8) := by kernel_rfl
theorem info9 : (Tryz.prog.info? 9).map (fun i => (i.zero, i.size, i.bytes)) = some (some (.string ⟨#[]⟩), 1, 16) := by kernel_rfl

abbrev Z59 : Obj := Obj.cells #[Value.slice none 0 0, Value.slice none 0 0, Value.int IntKind.i64 0, Value.int IntKind.i64 0] 59
def strSize : Value → Nat
  | .string t => t.size
  | _ => 0
theorem pst_start (w : World) : PSt (w.alloc Z59) ((w.alloc Z59).alloc Z59) (w.heap.size + 1) [] (fun _ => 0) (fun _ => ⟨⟨#[]⟩, false, ⟨#[]⟩, ⟨#[]⟩, 0, false, false, false, false, 0⟩) (.slice none 0 0) (.slice none 0 0) [] 0 0 where
  prs := by
    have := heap_alloc_new (w.alloc Z59) Z59
    rw [show (w.alloc Z59).heap.size = w.heap.size + 1 by simp] at this
    exact this
  sown := World.ownsRow_nil _ _ _ _
  pown := World.ownsRow_nil _ _ _ _
  seg k hk := absurd hk (Nat.not_lt_zero _)
  inj k m hk := absurd hk (Nat.not_lt_zero _)
  low k hk := absurd hk (Nat.not_lt_zero _)
  is k p hp := by simp at hp
  below := below_alloc (Below.refl _ _) _
  pnew := by simp
theorem rend_pos {p : Part} (h : One p) : 1 ≤ p.rend.length := by
  cases p with
  | const c => exact List.length_pos_iff.2 h.1
  | named => simp [Part.rend]
  | star => simp [Part.rend]
  | plus => simp [Part.rend]

theorem vac {b : Bool} {p : Prop} (h : b = true) : b = false → p := fun h' => by rw [h] at h'; cases h'
/-- append of one element, as a step. -/
theorem ap_step {ops : Array Oper} {o : Oper} {a : Act} {W : World} {K : Act → World → Prop} {Q : Exit → Act → World → Prop} {E : Prop} (hgd : o.guard = none) (sT xT dT : Nat) (t e : TypeId)
    (ho : o.op = .call { callee := .builtin .append, args := #[.tmp sT, .tmp xT], argTypes := #[t, t] }) (hd : o.dst = some dT)
    (i : TypeInfo) (z : Value) (bytes : Nat) (ht : Tryz.prog.underlying t = some (.slice e)) (hi : Tryz.prog.info? e = some i) (hz : i.zero = some z) (hsize : i.size = 1) (hby : i.bytes = bytes) (hzs : z.cells.size = 1) (hb16 : bytes ≤ 16)
    (base : Nat) (v : Value) (n : Nat) (xs : List Value) (hs : a.eval (.tmp sT) = v) (hown : W.ownsRow base e 1 v n xs) (B : Nat) (u : Value) (hx : a.eval (.tmp xT) = .slice (some ⟨B, 0, none⟩) 1 1) (hu : W.cell? ⟨B, 0, none⟩ = some u) (h1 : u.oneCell' = true)
    (hn : n ≤ 1000) (hbase : base ≤ W.heap.size)
    (h : ∀ g cap w', w'.ownsRow base e 1 (.slice (some ⟨g, 0, none⟩) (n + 1) cap) (n + 1) (xs ++ [u]) → W.grownBy w' v.ownBlock → K (a.put (some dT) (.slice (some ⟨g, 0, none⟩) (n + 1) cap)) w') :
    if Region.wanted o (yielded ops a.tmps) = true then Oper.wp Tryz.prog o a W K Q else E := by
  have hb : (n + 1) * bytes ≤ 140737488355328 := Nat.le_trans (Nat.mul_le_mul (show n + 1 ≤ 1001 by omega) hb16) (by decide)
  refine step_append_lies W hgd (.tmp sT) (.tmp xT) t ho base e i z 1 bytes ht hi hz hsize hby hzs (by omega) v n xs hs hown ⟨B, 0, none⟩ 1 1 [u] hx rfl (fun j u' hj => ?_) (fun u' hu' => ?_) (by omega) (by simp only [maxLen]; omega) hb hbase _ rfl ?_
  · cases j with
    | zero => simp at hj; subst hj; exact hu
    | succ j => simp at hj
  · rw [List.mem_singleton] at hu'; rw [hu']; exact h1
  · intro g cap w' h2 h3 h4 h5
    rw [hd]
    exact h g cap w' h2 h3

/-- append of one element, in a plain region. -/
theorem ap_list {ops : Array Oper} {rest : List Oper} {o : Oper} {a : Act} {W : World} {Q : Exit → Act → World → Prop} (hgd : o.guard = none) (sT xT dT : Nat) (t e : TypeId)
    (ho : o.op = .call { callee := .builtin .append, args := #[.tmp sT, .tmp xT], argTypes := #[t, t] }) (hd : o.dst = some dT)
    (i : TypeInfo) (z : Value) (bytes : Nat) (ht : Tryz.prog.underlying t = some (.slice e)) (hi : Tryz.prog.info? e = some i) (hz : i.zero = some z) (hsize : i.size = 1) (hby : i.bytes = bytes) (hzs : z.cells.size = 1) (hb16 : bytes ≤ 16)
    (base : Nat) (v : Value) (n : Nat) (xs : List Value) (hs : a.eval (.tmp sT) = v) (hown : W.ownsRow base e 1 v n xs) (B : Nat) (u : Value) (hx : a.eval (.tmp xT) = .slice (some ⟨B, 0, none⟩) 1 1) (hu : W.cell? ⟨B, 0, none⟩ = some u) (h1 : u.oneCell' = true)
    (hn : n ≤ 1000) (hbase : base ≤ W.heap.size)
    (h : ∀ g cap w', w'.ownsRow base e 1 (.slice (some ⟨g, 0, none⟩) (n + 1) cap) (n + 1) (xs ++ [u]) → W.grownBy w' v.ownBlock → wpList Tryz.prog ops Q rest (a.put (some dT) (.slice (some ⟨g, 0, none⟩) (n + 1) cap)) w') :
    wpList Tryz.prog ops Q (o :: rest) a W := by
  have hb : (n + 1) * bytes ≤ 140737488355328 := Nat.le_trans (Nat.mul_le_mul (show n + 1 ≤ 1001 by omega) hb16) (by decide)
  refine wpList_append_lies W hgd (.tmp sT) (.tmp xT) t ho base e i z 1 bytes ht hi hz hsize hby hzs (by omega) v n xs hs hown ⟨B, 0, none⟩ 1 1 [u] hx rfl (fun j u' hj => ?_) (fun u' hu' => ?_) (by omega) (by simp only [maxLen]; omega) hb hbase _ rfl ?_
  · cases j with
    | zero => simp at hj; subst hj; exact hu
    | succ j => simp at hj
  · rw [List.mem_singleton] at hu'; rw [hu']; exact h1
  · intro g cap w' h2 h3 h4 h5
    rw [hd]
    exact h g cap w' h2 h3

/-- The cells that the region loads. -/
def SC (P g : Nat) (sv pv : Value) (nm : ByteArray) (w : World) : Prop := w.cell? ⟨P, 0, none⟩ = some sv ∧ w.cell? ⟨P, 1, none⟩ = some pv ∧ w.cell? ⟨g, 2, none⟩ = some (.string nm)
theorem SC.below {P g : Nat} {sv pv : Value} {nm : ByteArray} {w w' : World} (h : SC P g sv pv nm w) (hb : Below w.heap.size w w') : SC P g sv pv nm w' := ⟨pw_cell_below hb h.1, pw_cell_below hb h.2.1, pw_cell_below hb h.2.2⟩
theorem SC.grown {P g : Nat} {sv pv : Value} {nm : ByteArray} {w w' : World} {row : Option Nat} (h : SC P g sv pv nm w) (hb : w.grownBy w' row) (h1 : some P ≠ row) (h2 : some g ≠ row) : SC P g sv pv nm w' := ⟨hb.cell h.1 h1, hb.cell h.2.1 h1, hb.cell h.2.2 h2⟩
section
variable {w0 w2 Wa w3 Wb w4 : World} {P : Nat} {l : List Part} {gs : Nat → Nat} {σ : Nat → Seg} {sv pv pv' : Value} {ps ps' : List Value} {i j m' : Nat}
theorem ch_sv (H : PSt w0 w2 P l gs σ sv pv ps i j) (h1 : Below w2.heap.size w2 Wa) (h2 : Wa.grownBy w3 pv.ownBlock) (h3 : Below w3.heap.size w3 Wb) : Wb.ownsRow w0.heap.size 70 1 sv l.length (ptrs gs l.length) :=
  own_same H.sown fun k hk => by
    have hlt := blk_lt (own_block H.sown k hk).2.choose_spec
    have hlt2 := Nat.lt_of_lt_of_le hlt h1.size
    rw [h3.block k (Nat.lt_of_lt_of_le hlt2 h2.size), h2.block k hlt2 (own_ne2 H.sown H.pown (by decide) k hk), h1.block k hlt]
theorem ch_fin (H : PSt w0 w2 P l gs σ sv pv ps i j) (h1 : Below w2.heap.size w2 Wa) (h2 : Wa.grownBy w3 pv.ownBlock) (h3 : Below w3.heap.size w3 Wb) (h4 : Wb.grownBy w4 sv.ownBlock) (hpv : w3.ownsRow w0.heap.size 9 1 pv' m' ps') :
    Grown2 w2 w4 sv.ownBlock pv.ownBlock ∧ w4.ownsRow w0.heap.size 9 1 pv' m' ps' := by
  refine ⟨⟨h4.os.trans (h3.os.trans (h2.os.trans h1.os)), h4.tape.trans (h3.tape.trans (h2.tape.trans h1.tape)), h4.output.trans (h3.output.trans (h2.output.trans h1.output)), Nat.le_trans h1.size (Nat.le_trans h2.size (Nat.le_trans h3.size h4.size)), fun k hk ha hb => ?_⟩, ?_⟩
  · have k1 := Nat.lt_of_lt_of_le hk h1.size
    have k2 := Nat.lt_of_lt_of_le k1 h2.size
    rw [h4.block k (Nat.lt_of_lt_of_le k2 h3.size) ha, h3.block k k2, h2.block k k1 hb, h1.block k hk]
  · have hb : Wb.ownsRow w0.heap.size 9 1 pv' m' ps' := own_same hpv fun k hk => h3.block k (blk_lt (own_block hpv k hk).2.choose_spec)
    exact own_same hb fun k hk => h4.block k (blk_lt (own_block hb k hk).2.choose_spec) (own_ne2 hb (ch_sv H h1 h2 h3) (by decide) k hk)
end
theorem own_below {w w' : World} {base : Nat} {e : TypeId} {size : Nat} {v : Value} {n : Nat} {xs : List Value} (h : w.ownsRow base e size v n xs) (hb : Below w.heap.size w w') : w'.ownsRow base e size v n xs :=
  own_same h fun k hk => hb.block k (blk_lt (own_block h k hk).2.choose_spec)
theorem npar_le (l : List Part) : npar l ≤ l.length := by unfold npar; exact List.length_filter_le _ _
theorem npar_snoc (l : List Part) (p : Part) : npar (l ++ [p]) = npar l + (if p.par then 1 else 0) := by
  unfold npar
  rw [List.filter_append, List.length_append]
  cases h : p.par <;> simp [h]
theorem own_npar {w : World} {base : Nat} {e : TypeId} {size : Nat} {v : Value} {l : List Part} {p : Part} {xs : List Value} (h : w.ownsRow base e size v (npar l + 1) xs) (hp : p.par = true) : w.ownsRow base e size v (npar (l ++ [p])) xs := by
  rw [npar_snoc, if_pos hp]; exact h
/-- A constant segment more, behind its append. -/
theorem push_const {w0 w w4 : World} {P : Nat} {l : List Part} {gs : Nat → Nat} {σ : Nat → Seg} {sv pv : Value} {ps : List Value} {i j : Nat} (h : PSt w0 w P l gs σ sv pv ps i j) {c : Bytes} {g gb cb : Nat} {s : Seg} (hs : SegAt w g s) (hlow : w0.heap.size ≤ g) (hnew : ∀ k, k < l.length → gs k ≠ g) (hb : BN (.const c) s)
    {o : Obj} (hg : (w.alloc o).grownBy w4 sv.ownBlock) (hsv : w4.ownsRow w0.heap.size 70 1 (.slice (some ⟨gb, 0, none⟩) (l.length + 1) cb) (l.length + 1) (ptrs gs l.length ++ [.pointer (some ⟨g, 0, none⟩)])) :
    PSt w0 (w4.setCell ⟨P, 0, none⟩ (.slice (some ⟨gb, 0, none⟩) (l.length + 1) cb)) P (l ++ [.const c]) (snoc gs l.length g) (snoc σ l.length s) (.slice (some ⟨gb, 0, none⟩) (l.length + 1) cb) pv ps i j := by
  have hal : Below w.heap.size w (w.alloc o) := below_alloc (Below.refl _ _) _
  have h2 : Grown2 w w4 sv.ownBlock pv.ownBlock := ⟨hg.os, hg.tape, hg.output, Nat.le_trans hal.size hg.size, fun k hk ha _ => (hg.block k (Nat.lt_of_lt_of_le hk hal.size) ha).trans (hal.block k hk)⟩
  have hpv : w4.ownsRow w0.heap.size 9 1 pv (npar (l ++ [.const c])) ps := by
    rw [npar_snoc]
    exact own_same h.pown fun k hk => (hg.block k (Nat.lt_of_lt_of_le (blk_lt (own_block h.pown k hk).2.choose_spec) hal.size) (own_ne2 h.pown h.sown (by decide) k hk)).trans (hal.block k (blk_lt (own_block h.pown k hk).2.choose_spec))
  have hP4 := (h2.block P (blk_lt h.prs) (own_ne h.sown h.prs (by decide)) (own_ne h.pown h.prs (by decide))).trans h.prs
  exact h.push hs hlow hnew hb h2 hsv hpv (blk_set hP4 0 _) rfl rfl rfl (by simp [World.setCell]) (fun k hk => Below.heap_setCell _ _ _ k (fun e => hk e))

theorem Arr.rebase {w0 wr : World} {n sb : Nat} {gs : Nat → Nat} {σ : Nat → Seg} (h : Arr w0 wr n sb gs σ) : Arr wr wr n sb gs σ := ⟨h.cell, h.seg, h.apart, h.inj, rfl, rfl, rfl, Nat.le_refl _, fun _ _ _ => rfl⟩
/-- The last segment is marked: the loops may start. -/
theorem mark_last {w0 w : World} {P : Nat} {l : List Part} {gs : Nat → Nat} {σ : Nat → Seg} {sv pv : Value} {ps : List Value} {i j sb : Nat} (h : PSt w0 w P l gs σ sv pv ps i j) (hne : l ≠ [])
    (hsb : ∃ cs, w.heap[sb]? = some (.cells cs 70 (0, 0))) (hcell : ∀ k, k < l.length → w.cell? ⟨sb, k, none⟩ = some (.pointer (some ⟨gs k, 0, none⟩))) :
    ∃ σ', Arr w (w.setCell ⟨gs (l.length - 1), 7, none⟩ (.bool true)) l.length sb gs σ' ∧ St1 l l.length σ' := by
  have hpos : 0 < l.length := List.length_pos_iff.2 hne
  obtain ⟨cs, hcs⟩ := hsb
  have hA : Arr w w l.length sb gs σ := ⟨hcell, h.seg, fun k hk => blk_ne (h.seg k hk) hcs (by decide), h.inj, rfl, rfl, rfl, Nat.le_refl _, fun _ _ _ => rfl⟩
  refine ⟨_, hA.set (i := l.length - 1) (j := 7) (v := .bool true) (s := { σ (l.length - 1) with last := true }) (by omega) (by rfl), fun k p hp => ⟨?_, fun hk => ?_⟩⟩
  · have hk := (List.getElem?_eq_some_iff.1 hp).1
    have hb := h.is k p hp
    by_cases hkl : k = l.length - 1
    · have hk1 : l.drop (k + 1) = [] := List.drop_eq_nil_of_le (by omega)
      rw [← hkl, upd_same, hk1]
      exact ⟨hb.par, hb.consz, hb.con92, hb.con, hb.len, hb.gr, hb.opt, ⟨fun _ => rfl, fun _ => rfl⟩, hb.slash, hb.cnt⟩
    · rw [upd_ne k hkl]
      refine ⟨hb.par, hb.consz, hb.con92, hb.con, hb.len, hb.gr, hb.opt, ⟨fun e => ?_, fun e => ?_⟩, hb.slash, hb.cnt⟩
      · rw [hb.last] at e; cases e
      · have := congrArg List.length e
        rw [List.length_drop, List.length_nil] at this; omega
  · have := (List.getElem?_eq_some_iff.1 hp).1; omega

theorem parsed_end {w wc w5 w6 : World} {l : List Part} {gs : Nat → Nat} {σ1 σ2 : Nat → Seg} {sv pv : Value} {ps : List Value} {i j sb cap : Nat} {A : Option Addr} {c g7 : Nat} (hpv : pv = .slice A (npar l) c)
    (hP : PSt (w.alloc Z59) wc (w.heap.size + 1) l gs σ1 sv pv ps i j) (hg7 : ∃ k, k < l.length ∧ gs k = g7)
    (hA : Arr (wc.setCell ⟨g7, 7, none⟩ (.bool true)) w5 l.length sb gs σ2) (hI : ∀ k p, l[k]? = some p → SegIs p (l.drop (k + 1)) (σ2 k)) (hcap : l.length ≤ cap)
    (hsb : w.heap.size + 1 ≤ sb) (hsP : sb ≠ w.heap.size + 1)
    (hk : ∀ b, b ≠ w.heap.size + 1 → b ≠ w.heap.size → w6.heap[b]? = w5.heap[b]?) (hos : w6.os = w5.os) (hta : w6.tape = w5.tape) (hou : w6.output = w5.output) (hsz : w6.heap.size = w5.heap.size) :
    Parsed l w w6 (.returned (.agg #[.slice (some ⟨sb, 0, none⟩) l.length cap, .slice A (npar l) c, .int .i64 (i : Int), .int .i64 (j : Int)])) := by
  have hglo : ∀ k, k < l.length → w.heap.size + 1 ≤ gs k := fun k hk => by have := hP.low k hk; simpa using this
  have hgP : ∀ k, k < l.length → gs k ≠ w.heap.size + 1 := fun k hk => blk_ne (hP.seg k hk) hP.prs (by decide)
  have hs7 : (wc.setCell ⟨g7, 7, none⟩ (.bool true)).heap.size = wc.heap.size := by simp [World.setCell]
  have hbs := hP.below.size
  rw [show (w.alloc Z59).heap.size = w.heap.size + 1 by simp] at hbs
  refine ⟨sb, cap, gs, σ2, A, npar l, c, _, _, rfl, rfl, hcap, ⟨fun k hkl => ?_, fun k hkl => ?_, hI⟩, by omega, fun k hkl => by have := hglo k hkl; omega, ?_⟩
  · exact (World.cell?_of_block (hk sb hsP (by omega))).trans (hA.cell k hkl)
  · exact (hk _ (hgP k hkl) (by have := hglo k hkl; omega)).trans (hA.seg k hkl)
  · have hb := hP.below
    obtain ⟨k7, hk7, rfl⟩ := hg7
    refine ⟨hos.trans (hA.os.trans hb.os), hta.trans (hA.tape.trans hb.tape), hou.trans (hA.output.trans hb.output), ?_, fun b hbl => ?_⟩
    · rw [hsz]
      have := hA.size
      rw [hs7] at this; omega
    · rw [hk b (by omega) (by omega), hA.kept b (by rw [hs7]; omega) (fun k hk e => by have := hglo k hk; omega), Below.heap_setCell _ _ _ b (fun e => by have := hglo k7 hk7; simp at e; omega), hb.block b (by simp; omega)]
      exact (below_alloc (Below.refl w.heap.size w) Z59).block b hbl

set_option maxHeartbeats 16000000 in
set_option maxRecDepth 100000 in
theorem parse_some (l : List Part) (s : ByteArray) (w : World) (hne : l ≠ []) (hl : l.length ≤ 90) (hg : Pl.Good l) (hnp : npar l ≤ 30) (hs : bs s = render l) (h2 : s.size ≤ 1000) :
    Calls Tryz.prog 29 #[.string s] w fun e w' => Parsed l w w' e := by
  have HG := Lib.hid hg
  have HS := Lib.hid hs
  have HNE := Lib.hid hne
  clear hg hs hne
  go_enter Tryz.func29, Tryz.ntmps29
  go_wp2
  go_loopw [0, 5] (fun v0 v5 wr => ∃ (dn rest : List Part) (gs : Nat → Nat) (σ : Nat → Seg) (sv pv : Value) (ps : List Value) (i j : Nat) (t x : ByteArray), v0 = .string t ∧ v5 = .string x ∧ t.size ≤ 1000 ∧ i ≤ dn.length ∧ j ≤ dn.length ∧ Hid (l = dn ++ rest) ∧ Hid (rest ≠ []) ∧ Hid (bs t = render rest) ∧ Hid (PSt (w.alloc Z59) wr (w.heap.size + 1) dn gs σ sv pv ps i j)) (fun v0 _ _ => strSize v0)
  case atStart => exact ⟨[], l, fun _ => 0, fun _ => ⟨⟨#[]⟩, false, ⟨#[]⟩, ⟨#[]⟩, 0, false, false, false, false, 0⟩, _, _, [], 0, 0, s, _, rfl, rfl, h2, Nat.zero_le _, Nat.zero_le _, rfl, HNE, HS, pst_start w⟩
  case round =>
    obtain ⟨dn, rest, gs, σ, sv, pv, ps, i, j, t, x, rfl, rfl, ht2, hci, hcj, HL, HR, HT, HP⟩ := hrel
    obtain ⟨p, tl', hrest⟩ : ∃ p tl', rest = p :: tl' := by
      cases hr : rest with
      | nil => exact absurd hr HR.out
      | cons p tl' => exact ⟨p, tl', rfl⟩
    subst hrest
    have hgr : Pl.Good (p :: tl') := by
      have := good_drop HG.out dn.length
      rwa [HL.out, List.drop_left] at this
    have HGR := Lib.hid hgr
    have hpos : 1 ≤ t.size := by
      have := rend_pos hgr.one
      rw [← bs_len, HT.out, rc, List.length_append]; omega
    have ht0 : (0 : Int) < (t.size : Int) := by omega
    have hdl : dn.length + 1 ≤ 90 := by
      have := congrArg List.length HL.out
      rw [List.length_append, List.length_cons] at this; omega
    clear hgr
    cases hpar : p.par with
    | true =>
      have HPAR := Lib.hid hpar
      clear hpar
      go_wp2_with fail
      refine (nextParam_par HGR.out HPAR.out HT.out ht2 _).mono ?_
      rintro e w1 ⟨rfl, hb⟩
      have HP1 := Lib.hid (HP.out.grow hb)
      clear hb HP
      go_wp2_with fail
      refine (param_any _ t _ _ i j p tl' _ HGR.out HPAR.out HT.out ht2 HP1.out.prs (by omega) (by omega)).mono ?_
      rintro e w2 ⟨i', j', hi', hj', g, nm, rfl, hge, hseg, hprs, hgrown⟩
      go_wp2
      have HP2 := Lib.hid (HP1.out.call (i' := i') (j' := j') hgrown hprs)
      have hc0 : w2.cell? ⟨w.heap.size + 1, 0, none⟩ = some sv := blk_cell hprs 0
      have hc1 : w2.cell? ⟨w.heap.size + 1, 1, none⟩ = some pv := blk_cell hprs 1
      have hc2 : w2.cell? ⟨g, 2, none⟩ = some (.string nm) := hseg.name
      go_cut [5] (fun v5 wc => v5 = .string (t.extract 0 p.rend.length) ∧ ∃ (gs' : Nat → Nat) (σ' : Nat → Seg) (sv' pv' : Value) (ps' : List Value) (i2 j2 : Nat), i2 ≤ dn.length + 1 ∧ j2 ≤ dn.length + 1 ∧ PSt (w.alloc Z59) wc (w.heap.size + 1) (dn ++ [p]) gs' σ' sv' pv' ps' i2 j2)
      case first =>
        refine wp_region_any (by kernel_rfl) ?_
        change wpAny _ _ _ _ _ _ _ w2.drew
        have hs8 : w2.drew.cell? ⟨w.heap.size + 1, 0, none⟩ = some sv ∧ w2.drew.cell? ⟨w.heap.size + 1, 1, none⟩ = some pv ∧ w2.drew.cell? ⟨g, 2, none⟩ = some (.string nm) := ⟨hc0, hc1, hc2⟩
        refine Ords.any (c := 15) (S := fun w' => w'.cell? ⟨w.heap.size + 1, 0, none⟩ = some sv ∧ w'.cell? ⟨w.heap.size + 1, 1, none⟩ = some pv ∧ w'.cell? ⟨g, 2, none⟩ = some (.string nm)) _ _ _ _ ?_
        refine Ords.move (i := 0) (v := .pointer (some (⟨w.heap.size + 1, 1, none⟩ : Addr))) (some 25) rfl rfl (by kernel_rfl) (by kernel_rfl) (by kernel_rfl) (by kernel_rfl) (fun _ _ _ h => h) (Or.inl ⟨by rfl, fun w _ => by go_simp⟩) (fun _ => hs8) ?_
        simp only [Act.put, List.setIfInBounds_toArray, List.set_cons_zero, List.set_cons_succ]
        refine Ords.take (i := 1) (v := pv) _ (some 26) rfl rfl rfl (by kernel_rfl) (by kernel_rfl) (by kernel_rfl) (by kernel_rfl) (by kernel_rfl) (fun _ _ _ h => h) (Or.inl ⟨by rfl, fun w hS => by obtain ⟨q0, q1, q2⟩ := hS; go_simp⟩) (by kernel_rfl) hs8 ?_
        simp only [Act.put, List.setIfInBounds_toArray, List.set_cons_zero, List.set_cons_succ]
        refine Ords.move (i := 2) (v := .pointer (some (⟨g, 0, none⟩ : Addr))) (some 27) rfl rfl (by kernel_rfl) (by kernel_rfl) (by kernel_rfl) (by kernel_rfl) (fun _ _ _ h => h) (Or.inl ⟨by rfl, fun w _ => by go_simp⟩) (fun _ => hs8) ?_
        simp only [Act.put, List.setIfInBounds_toArray, List.set_cons_zero, List.set_cons_succ]
        refine Ords.move (i := 3) (v := .pointer (some (⟨g, 0, none⟩ : Addr))) (some 28) rfl rfl (by kernel_rfl) (by kernel_rfl) (by kernel_rfl) (by kernel_rfl) (fun _ _ _ h => h) (Or.inl ⟨by rfl, fun w _ => by go_simp⟩) (fun _ => hs8) ?_
        simp only [Act.put, List.setIfInBounds_toArray, List.set_cons_zero, List.set_cons_succ]
        refine Ords.move (i := 4) (v := .pointer (some (⟨g, 2, none⟩ : Addr))) (some 29) rfl rfl (by kernel_rfl) (by kernel_rfl) (by kernel_rfl) (by kernel_rfl) (fun _ _ _ h => h) (Or.inl ⟨by rfl, fun w _ => by go_simp⟩) (fun _ => hs8) ?_
        simp only [Act.put, List.setIfInBounds_toArray, List.set_cons_zero, List.set_cons_succ]
        refine Ords.take (i := 5) (v := .string nm) _ (some 30) rfl rfl rfl (by kernel_rfl) (by kernel_rfl) (by kernel_rfl) (by kernel_rfl) (by kernel_rfl) (fun _ _ _ h => h) (Or.inl ⟨by rfl, fun w hS => by obtain ⟨q0, q1, q2⟩ := hS; go_simp⟩) (by kernel_rfl) hs8 ?_
        simp only [Act.put, List.setIfInBounds_toArray, List.set_cons_zero, List.set_cons_succ]
        refine Ords.move (i := 8) (v := .pointer (some (⟨w.heap.size + 1, 0, none⟩ : Addr))) (some 33) rfl rfl (by kernel_rfl) (by kernel_rfl) (by kernel_rfl) (by kernel_rfl) (fun _ _ _ h => h) (Or.inl ⟨by rfl, fun w _ => by go_simp⟩) (fun _ => hs8) ?_
        simp only [Act.put, List.setIfInBounds_toArray, List.set_cons_zero, List.set_cons_succ]
        refine Ords.take (i := 9) (v := sv) _ (some 34) rfl rfl rfl (by kernel_rfl) (by kernel_rfl) (by kernel_rfl) (by kernel_rfl) (by kernel_rfl) (fun _ _ _ h => h) (Or.inl ⟨by rfl, fun w hS => by obtain ⟨q0, q1, q2⟩ := hS; go_simp⟩) (by kernel_rfl) hs8 ?_
        simp only [Act.put, List.setIfInBounds_toArray, List.set_cons_zero, List.set_cons_succ]
        refine Ords.move (i := 10) (v := .pointer (some (⟨g, 0, none⟩ : Addr))) (some 35) rfl rfl (by kernel_rfl) (by kernel_rfl) (by kernel_rfl) (by kernel_rfl) (fun _ _ _ h => h) (Or.inl ⟨by rfl, fun w _ => by go_simp⟩) (fun _ => hs8) ?_
        simp only [Act.put, List.setIfInBounds_toArray, List.set_cons_zero, List.set_cons_succ]
        refine Ords.move (i := 13) (v := .string (t.extract 0 p.rend.length)) (some 38) rfl rfl (by kernel_rfl) (by kernel_rfl) (by kernel_rfl) (by kernel_rfl) (fun _ _ _ h => h) (Or.inl ⟨by rfl, fun w _ => by go_simp⟩) (fun _ => hs8) ?_
        simp only [Act.put, List.setIfInBounds_toArray, List.set_cons_zero, List.set_cons_succ]
        have hsc : SC (w.heap.size + 1) g sv pv nm w2 := ⟨hc0, hc1, hc2⟩
        have hPp : some (w.heap.size + 1) ≠ pv.ownBlock := own_ne HP2.out.pown hprs (by decide)
        have hPs : some (w.heap.size + 1) ≠ sv.ownBlock := own_ne HP2.out.sown hprs (by decide)
        have hgp : some g ≠ pv.ownBlock := own_ne HP2.out.pown hseg (by decide)
        have hgs : some g ≠ sv.ownBlock := own_ne HP2.out.sown hseg (by decide)
        have hglow : (w.alloc Z59).heap.size ≤ g := Nat.le_trans HP1.out.below.size hge
        have hgnew : ∀ k, k < dn.length → gs k ≠ g := fun k hk e => by have := blk_lt (HP1.out.seg k hk); omega
        have hfar : ∀ k, w2.heap.size ≤ k → some k ≠ pv.ownBlock := fun k hk e => by have := blk_lt (own_block HP2.out.pown k e.symm).2.choose_spec; omega
        obtain ⟨i9, hi9, hz9, hs9, hb9⟩ := info_parts info9
        obtain ⟨i70, hi70, hz70, hs70, hb70⟩ := info_parts info70
        have hA : Below w2.heap.size w2 (w2.alloc (.cells #[.string nm] 9)).drew := below_drew1 (below_alloc (Below.refl w2.heap.size w2) (.cells #[.string nm] 9))
        have hB : Below w2.heap.size w2 ((w2.alloc (.cells #[.string nm] 9)).alloc (.cells #[.pointer (some ⟨g, 0, none⟩)] 70)).drew := below_drew1 (below_alloc (below_alloc (Below.refl w2.heap.size w2) (.cells #[.string nm] 9)) (.cells #[.pointer (some ⟨g, 0, none⟩)] 70))
        have hC : Below w2.heap.size w2 (w2.alloc (.cells #[.pointer (some ⟨g, 0, none⟩)] 70)).drew := below_drew1 (below_alloc (Below.refl w2.heap.size w2) (.cells #[.pointer (some ⟨g, 0, none⟩)] 70))
        have hD : Below w2.heap.size w2 ((w2.alloc (.cells #[.pointer (some ⟨g, 0, none⟩)] 70)).alloc (.cells #[.string nm] 9)).drew := below_drew1 (below_alloc (below_alloc (Below.refl w2.heap.size w2) (.cells #[.pointer (some ⟨g, 0, none⟩)] 70)) (.cells #[.string nm] 9))
        have n9 : (w2.alloc (.cells #[.string nm] 9)).drew.cell? ⟨w2.heap.size, 0, none⟩ = some (.string nm) := blk_cell (blk_new w2 (.cells #[.string nm] 9)) 0
        have n70 : (w2.alloc (.cells #[.pointer (some ⟨g, 0, none⟩)] 70)).drew.cell? ⟨w2.heap.size, 0, none⟩ = some (.pointer (some ⟨g, 0, none⟩)) := blk_cell (blk_new w2 (.cells #[.pointer (some ⟨g, 0, none⟩)] 70)) 0
        have m9 : ((w2.alloc (.cells #[.string nm] 9)).alloc (.cells #[.pointer (some ⟨g, 0, none⟩)] 70)).drew.cell? ⟨w2.heap.size, 0, none⟩ = some (.string nm) := pw_cell_below (w := (w2.alloc (.cells #[.string nm] 9)).drew) (below_alloc (Below.refl _ _) _) n9
        have m70 : ((w2.alloc (.cells #[.string nm] 9)).alloc (.cells #[.pointer (some ⟨g, 0, none⟩)] 70)).drew.cell? ⟨w2.heap.size + 1, 0, none⟩ = some (.pointer (some ⟨g, 0, none⟩)) := by simp
        have o70 : ((w2.alloc (.cells #[.pointer (some ⟨g, 0, none⟩)] 70)).alloc (.cells #[.string nm] 9)).drew.cell? ⟨w2.heap.size, 0, none⟩ = some (.pointer (some ⟨g, 0, none⟩)) := pw_cell_below (w := (w2.alloc (.cells #[.pointer (some ⟨g, 0, none⟩)] 70)).drew) (below_alloc (Below.refl _ _) _) n70
        have o9 : ((w2.alloc (.cells #[.pointer (some ⟨g, 0, none⟩)] 70)).alloc (.cells #[.string nm] 9)).drew.cell? ⟨w2.heap.size + 1, 0, none⟩ = some (.string nm) := by simp
        refine Ords.two (i := 6) (i' := 11) (by kernel_rfl) rfl rfl ?_ ?_
        · intro K hK
          go_simp
          refine hK _ _ (fun _ => SC.below hsc hA) ?_
          clear hK K
          try simp only [Act.put, List.setIfInBounds_toArray, List.set_cons_zero, List.set_cons_succ]
          refine Ords.two (i := 7) (i' := 11) (by kernel_rfl) rfl rfl ?_ ?_
          · intro K hK
            refine ap_step (by rfl) 26 31 32 31 9 (by rfl) (by rfl) i9 _ 16 Tryz.underlying31 hi9 hz9 hs9 hb9 rfl (by omega) (w.alloc Z59).heap.size pv (npar dn) ps (by rfl) (own_below HP2.out.pown hA) w2.heap.size (.string nm) (by rfl) n9 (by rfl) (by have := npar_le dn; omega) (Nat.le_trans HP2.out.below.size (hA).size) ?_
            intro ga ca w3 ho3 hg3
            have hsc3 : SC (w.heap.size + 1) g sv pv nm w3 := SC.grown (SC.below hsc hA) hg3 hPp hgp
            refine hK _ _ (fun _ => hsc3) ?_
            clear hK K
            try simp only [Act.put, List.setIfInBounds_toArray, List.set_cons_zero, List.set_cons_succ]
            refine Ords.one (i := 11) (by kernel_rfl) rfl ?_
            intro K hK
            go_simp
            refine hK _ _ (fun _ => SC.below hsc3 (below_alloc (Below.refl w3.heap.size w3) (.cells #[.pointer (some ⟨g, 0, none⟩)] 70))) ?_
            clear hK K
            try simp only [Act.put, List.setIfInBounds_toArray, List.set_cons_zero, List.set_cons_succ]
            refine Ords.one (i := 12) (by kernel_rfl) rfl ?_
            intro K hK
            refine ap_step (by rfl) 34 36 37 57 70 (by rfl) (by rfl) i70 _ 8 Tryz.underlying57 hi70 hz70 hs70 hb70 rfl (by omega) (w.alloc Z59).heap.size sv dn.length (ptrs gs dn.length) (by rfl) (ch_sv HP2.out hA hg3 (below_alloc (Below.refl w3.heap.size w3) (.cells #[.pointer (some ⟨g, 0, none⟩)] 70))) w3.heap.size (.pointer (some ⟨g, 0, none⟩)) (by rfl) (blk_cell (blk_new w3 (.cells #[.pointer (some ⟨g, 0, none⟩)] 70)) 0) (by rfl) (by omega) (Nat.le_trans HP2.out.below.size (Nat.le_trans (hA).size (Nat.le_trans hg3.size ((below_alloc (Below.refl w3.heap.size w3) (.cells #[.pointer (some ⟨g, 0, none⟩)] 70))).size))) ?_
            intro gb cb w4 ho4 hg4
            have hfin := ch_fin HP2.out hA hg3 (below_alloc (Below.refl w3.heap.size w3) (.cells #[.pointer (some ⟨g, 0, none⟩)] 70)) hg4 ho3
            have hsc4 : SC (w.heap.size + 1) g sv pv nm w4 := SC.grown (SC.below hsc3 (below_alloc (Below.refl w3.heap.size w3) (.cells #[.pointer (some ⟨g, 0, none⟩)] 70))) hg4 hPs hgs
            refine hK _ _ (fun _ => hsc4) ?_
            clear hK K
            try simp only [Act.put, List.setIfInBounds_toArray, List.set_cons_zero, List.set_cons_succ]
            refine Ords.move (i := 14) (v := .pointer (some (⟨w.heap.size + 1, 1, none⟩ : Addr))) (some 39) rfl rfl (by kernel_rfl) (by kernel_rfl) (by kernel_rfl) (by kernel_rfl) (fun _ _ _ h => h) (Or.inl ⟨by rfl, fun w _ => by go_simp⟩) (fun _ => hsc4) ?_
            try simp only [Act.put, List.setIfInBounds_toArray, List.set_cons_zero, List.set_cons_succ]
            have hPb : w4.heap[w.heap.size + 1]? = some (.cells #[sv, pv, .int .i64 (i' : Int), .int .i64 (j' : Int)] 59 (0, 0)) := (hfin.1.block _ (blk_lt hprs) hPs hPp).trans hprs
            have k1 : w4.cell? ⟨w.heap.size + 1, 1, none⟩ = some pv := blk_cell hPb 1
            have k0 : w4.cell? ⟨w.heap.size + 1, 0, none⟩ = some sv := blk_cell hPb 0
            have k1f : w4.frozen? ⟨w.heap.size + 1, 1, none⟩ = false := blk_frozen hPb 1
            have k0f : w4.frozen? ⟨w.heap.size + 1, 0, none⟩ = false := blk_frozen hPb 0
            refine Ords.one (i := 15) (by kernel_rfl) rfl ?_
            intro K hK
            go_simp
            refine hK _ _ (vac (by kernel_rfl)) ?_
            clear hK K
            try simp only [Act.put, List.setIfInBounds_toArray, List.set_cons_zero, List.set_cons_succ]
            refine Ords.move (i := 16) (v := .pointer (some (⟨w.heap.size + 1, 0, none⟩ : Addr))) (some 40) rfl rfl (by kernel_rfl) (by kernel_rfl) (by kernel_rfl) (by kernel_rfl) (fun _ _ _ h => h) (Or.inl ⟨by rfl, fun w _ => by go_simp⟩) (vac (by kernel_rfl)) ?_
            try simp only [Act.put, List.setIfInBounds_toArray, List.set_cons_zero, List.set_cons_succ]
            refine Ords.one (i := 17) (by kernel_rfl) rfl ?_
            intro K hK
            go_simp
            refine hK _ _ (vac (by kernel_rfl)) ?_
            clear hK K
            try simp only [Act.put, List.setIfInBounds_toArray, List.set_cons_zero, List.set_cons_succ]
            refine Ords.move (i := 18) (v := .string (t.extract 0 p.rend.length)) (some 5) rfl rfl (by kernel_rfl) (by kernel_rfl) (by kernel_rfl) (by kernel_rfl) (fun _ _ _ h => h) (Or.inl ⟨by rfl, fun w _ => by go_simp⟩) (vac (by kernel_rfl)) ?_
            try simp only [Act.put, List.setIfInBounds_toArray, List.set_cons_zero, List.set_cons_succ]
            refine Ords.done (by kernel_rfl) ?_
            go_wp2_with fail
            go_meet
            case rel =>
              have hsb := blk_set (blk_set hPb 1 (.slice (some ⟨ga, 0, none⟩) (npar dn + 1) ca)) 0 (.slice (some ⟨gb, 0, none⟩) (dn.length + 1) cb)
              exact ⟨rfl, _, _, _, _, _, i', j', by omega, by omega, HP2.out.push hseg hglow hgnew (bn_par HPAR.out nm) hfin.1 ho4 (own_npar hfin.2 HPAR.out) hsb rfl rfl rfl (by simp [World.setCell]) (fun k hk => (Below.heap_setCell _ _ _ k (fun e => hk e)).trans (Below.heap_setCell _ _ _ k (fun e => hk e)))⟩
          · intro K hK
            go_simp
            refine hK _ _ (fun _ => SC.below hsc hB) ?_
            clear hK K
            try simp only [Act.put, List.setIfInBounds_toArray, List.set_cons_zero, List.set_cons_succ]
            refine Ords.one (i := 7) (by kernel_rfl) rfl ?_
            intro K hK
            refine ap_step (by rfl) 26 31 32 31 9 (by rfl) (by rfl) i9 _ 16 Tryz.underlying31 hi9 hz9 hs9 hb9 rfl (by omega) (w.alloc Z59).heap.size pv (npar dn) ps (by rfl) (own_below HP2.out.pown hB) w2.heap.size (.string nm) (by rfl) m9 (by rfl) (by have := npar_le dn; omega) (Nat.le_trans HP2.out.below.size (hB).size) ?_
            intro ga ca w3 ho3 hg3
            have hsc3 : SC (w.heap.size + 1) g sv pv nm w3 := SC.grown (SC.below hsc hB) hg3 hPp hgp
            refine hK _ _ (fun _ => hsc3) ?_
            clear hK K
            try simp only [Act.put, List.setIfInBounds_toArray, List.set_cons_zero, List.set_cons_succ]
            refine Ords.one (i := 12) (by kernel_rfl) rfl ?_
            intro K hK
            refine ap_step (by rfl) 34 36 37 57 70 (by rfl) (by rfl) i70 _ 8 Tryz.underlying57 hi70 hz70 hs70 hb70 rfl (by omega) (w.alloc Z59).heap.size sv dn.length (ptrs gs dn.length) (by rfl) (ch_sv HP2.out hB hg3 (Below.refl w3.heap.size w3)) (w2.heap.size + 1) (.pointer (some ⟨g, 0, none⟩)) (by rfl) (hg3.cell m70 (hfar _ (Nat.le_succ _))) (by rfl) (by omega) (Nat.le_trans HP2.out.below.size (Nat.le_trans (hB).size (Nat.le_trans hg3.size ((Below.refl w3.heap.size w3)).size))) ?_
            intro gb cb w4 ho4 hg4
            have hfin := ch_fin HP2.out hB hg3 (Below.refl w3.heap.size w3) hg4 ho3
            have hsc4 : SC (w.heap.size + 1) g sv pv nm w4 := SC.grown (hsc3) hg4 hPs hgs
            refine hK _ _ (fun _ => hsc4) ?_
            clear hK K
            try simp only [Act.put, List.setIfInBounds_toArray, List.set_cons_zero, List.set_cons_succ]
            refine Ords.move (i := 14) (v := .pointer (some (⟨w.heap.size + 1, 1, none⟩ : Addr))) (some 39) rfl rfl (by kernel_rfl) (by kernel_rfl) (by kernel_rfl) (by kernel_rfl) (fun _ _ _ h => h) (Or.inl ⟨by rfl, fun w _ => by go_simp⟩) (fun _ => hsc4) ?_
            try simp only [Act.put, List.setIfInBounds_toArray, List.set_cons_zero, List.set_cons_succ]
            have hPb : w4.heap[w.heap.size + 1]? = some (.cells #[sv, pv, .int .i64 (i' : Int), .int .i64 (j' : Int)] 59 (0, 0)) := (hfin.1.block _ (blk_lt hprs) hPs hPp).trans hprs
            have k1 : w4.cell? ⟨w.heap.size + 1, 1, none⟩ = some pv := blk_cell hPb 1
            have k0 : w4.cell? ⟨w.heap.size + 1, 0, none⟩ = some sv := blk_cell hPb 0
            have k1f : w4.frozen? ⟨w.heap.size + 1, 1, none⟩ = false := blk_frozen hPb 1
            have k0f : w4.frozen? ⟨w.heap.size + 1, 0, none⟩ = false := blk_frozen hPb 0
            refine Ords.one (i := 15) (by kernel_rfl) rfl ?_
            intro K hK
            go_simp
            refine hK _ _ (vac (by kernel_rfl)) ?_
            clear hK K
            try simp only [Act.put, List.setIfInBounds_toArray, List.set_cons_zero, List.set_cons_succ]
            refine Ords.move (i := 16) (v := .pointer (some (⟨w.heap.size + 1, 0, none⟩ : Addr))) (some 40) rfl rfl (by kernel_rfl) (by kernel_rfl) (by kernel_rfl) (by kernel_rfl) (fun _ _ _ h => h) (Or.inl ⟨by rfl, fun w _ => by go_simp⟩) (vac (by kernel_rfl)) ?_
            try simp only [Act.put, List.setIfInBounds_toArray, List.set_cons_zero, List.set_cons_succ]
            refine Ords.one (i := 17) (by kernel_rfl) rfl ?_
            intro K hK
            go_simp
            refine hK _ _ (vac (by kernel_rfl)) ?_
            clear hK K
            try simp only [Act.put, List.setIfInBounds_toArray, List.set_cons_zero, List.set_cons_succ]
            refine Ords.move (i := 18) (v := .string (t.extract 0 p.rend.length)) (some 5) rfl rfl (by kernel_rfl) (by kernel_rfl) (by kernel_rfl) (by kernel_rfl) (fun _ _ _ h => h) (Or.inl ⟨by rfl, fun w _ => by go_simp⟩) (vac (by kernel_rfl)) ?_
            try simp only [Act.put, List.setIfInBounds_toArray, List.set_cons_zero, List.set_cons_succ]
            refine Ords.done (by kernel_rfl) ?_
            go_wp2_with fail
            go_meet
            case rel =>
              have hsb := blk_set (blk_set hPb 1 (.slice (some ⟨ga, 0, none⟩) (npar dn + 1) ca)) 0 (.slice (some ⟨gb, 0, none⟩) (dn.length + 1) cb)
              exact ⟨rfl, _, _, _, _, _, i', j', by omega, by omega, HP2.out.push hseg hglow hgnew (bn_par HPAR.out nm) hfin.1 ho4 (own_npar hfin.2 HPAR.out) hsb rfl rfl rfl (by simp [World.setCell]) (fun k hk => (Below.heap_setCell _ _ _ k (fun e => hk e)).trans (Below.heap_setCell _ _ _ k (fun e => hk e)))⟩
        · intro K hK
          go_simp
          refine hK _ _ (fun _ => SC.below hsc hC) ?_
          clear hK K
          try simp only [Act.put, List.setIfInBounds_toArray, List.set_cons_zero, List.set_cons_succ]
          refine Ords.one (i := 6) (by kernel_rfl) rfl ?_
          intro K hK
          go_simp
          refine hK _ _ (fun _ => SC.below hsc hD) ?_
          clear hK K
          try simp only [Act.put, List.setIfInBounds_toArray, List.set_cons_zero, List.set_cons_succ]
          refine Ords.one (i := 7) (by kernel_rfl) rfl ?_
          intro K hK
          refine ap_step (by rfl) 26 31 32 31 9 (by rfl) (by rfl) i9 _ 16 Tryz.underlying31 hi9 hz9 hs9 hb9 rfl (by omega) (w.alloc Z59).heap.size pv (npar dn) ps (by rfl) (own_below HP2.out.pown hD) (w2.heap.size + 1) (.string nm) (by rfl) o9 (by rfl) (by have := npar_le dn; omega) (Nat.le_trans HP2.out.below.size (hD).size) ?_
          intro ga ca w3 ho3 hg3
          have hsc3 : SC (w.heap.size + 1) g sv pv nm w3 := SC.grown (SC.below hsc hD) hg3 hPp hgp
          refine hK _ _ (fun _ => hsc3) ?_
          clear hK K
          try simp only [Act.put, List.setIfInBounds_toArray, List.set_cons_zero, List.set_cons_succ]
          refine Ords.one (i := 12) (by kernel_rfl) rfl ?_
          intro K hK
          refine ap_step (by rfl) 34 36 37 57 70 (by rfl) (by rfl) i70 _ 8 Tryz.underlying57 hi70 hz70 hs70 hb70 rfl (by omega) (w.alloc Z59).heap.size sv dn.length (ptrs gs dn.length) (by rfl) (ch_sv HP2.out hD hg3 (Below.refl w3.heap.size w3)) w2.heap.size (.pointer (some ⟨g, 0, none⟩)) (by rfl) (hg3.cell o70 (hfar _ (Nat.le_refl _))) (by rfl) (by omega) (Nat.le_trans HP2.out.below.size (Nat.le_trans (hD).size (Nat.le_trans hg3.size ((Below.refl w3.heap.size w3)).size))) ?_
          intro gb cb w4 ho4 hg4
          have hfin := ch_fin HP2.out hD hg3 (Below.refl w3.heap.size w3) hg4 ho3
          have hsc4 : SC (w.heap.size + 1) g sv pv nm w4 := SC.grown (hsc3) hg4 hPs hgs
          refine hK _ _ (fun _ => hsc4) ?_
          clear hK K
          try simp only [Act.put, List.setIfInBounds_toArray, List.set_cons_zero, List.set_cons_succ]
          refine Ords.move (i := 14) (v := .pointer (some (⟨w.heap.size + 1, 1, none⟩ : Addr))) (some 39) rfl rfl (by kernel_rfl) (by kernel_rfl) (by kernel_rfl) (by kernel_rfl) (fun _ _ _ h => h) (Or.inl ⟨by rfl, fun w _ => by go_simp⟩) (fun _ => hsc4) ?_
          try simp only [Act.put, List.setIfInBounds_toArray, List.set_cons_zero, List.set_cons_succ]
          have hPb : w4.heap[w.heap.size + 1]? = some (.cells #[sv, pv, .int .i64 (i' : Int), .int .i64 (j' : Int)] 59 (0, 0)) := (hfin.1.block _ (blk_lt hprs) hPs hPp).trans hprs
          have k1 : w4.cell? ⟨w.heap.size + 1, 1, none⟩ = some pv := blk_cell hPb 1
          have k0 : w4.cell? ⟨w.heap.size + 1, 0, none⟩ = some sv := blk_cell hPb 0
          have k1f : w4.frozen? ⟨w.heap.size + 1, 1, none⟩ = false := blk_frozen hPb 1
          have k0f : w4.frozen? ⟨w.heap.size + 1, 0, none⟩ = false := blk_frozen hPb 0
          refine Ords.one (i := 15) (by kernel_rfl) rfl ?_
          intro K hK
          go_simp
          refine hK _ _ (vac (by kernel_rfl)) ?_
          clear hK K
          try simp only [Act.put, List.setIfInBounds_toArray, List.set_cons_zero, List.set_cons_succ]
          refine Ords.move (i := 16) (v := .pointer (some (⟨w.heap.size + 1, 0, none⟩ : Addr))) (some 40) rfl rfl (by kernel_rfl) (by kernel_rfl) (by kernel_rfl) (by kernel_rfl) (fun _ _ _ h => h) (Or.inl ⟨by rfl, fun w _ => by go_simp⟩) (vac (by kernel_rfl)) ?_
          try simp only [Act.put, List.setIfInBounds_toArray, List.set_cons_zero, List.set_cons_succ]
          refine Ords.one (i := 17) (by kernel_rfl) rfl ?_
          intro K hK
          go_simp
          refine hK _ _ (vac (by kernel_rfl)) ?_
          clear hK K
          try simp only [Act.put, List.setIfInBounds_toArray, List.set_cons_zero, List.set_cons_succ]
          refine Ords.move (i := 18) (v := .string (t.extract 0 p.rend.length)) (some 5) rfl rfl (by kernel_rfl) (by kernel_rfl) (by kernel_rfl) (by kernel_rfl) (fun _ _ _ h => h) (Or.inl ⟨by rfl, fun w _ => by go_simp⟩) (vac (by kernel_rfl)) ?_
          try simp only [Act.put, List.setIfInBounds_toArray, List.set_cons_zero, List.set_cons_succ]
          refine Ords.done (by kernel_rfl) ?_
          go_wp2_with fail
          go_meet
          case rel =>
            have hsb := blk_set (blk_set hPb 1 (.slice (some ⟨ga, 0, none⟩) (npar dn + 1) ca)) 0 (.slice (some ⟨gb, 0, none⟩) (dn.length + 1) cb)
            exact ⟨rfl, _, _, _, _, _, i', j', by omega, by omega, HP2.out.push hseg hglow hgnew (bn_par HPAR.out nm) hfin.1 ho4 (own_npar hfin.2 HPAR.out) hsb rfl rfl rfl (by simp [World.setCell]) (fun k hk => (Below.heap_setCell _ _ _ k (fun e => hk e)).trans (Below.heap_setCell _ _ _ k (fun e => hk e)))⟩
      case rest =>
        obtain ⟨rfl, gs', σ', sv', pv', ps', i2, j2, hi2, hj2, hpst⟩ := hcut
        have HPF := Lib.hid hpst
        clear hpst HP2 HP1 hc0 hc1 hc2 hseg hprs hgrown hge hi' hj'
        have hrl := rend_pos HGR.out.one
        have hts : t.size = p.rend.length + (render tl').length := by rw [← bs_len, HT.out, rc, List.length_append]
        have hex : (t.extract 0 p.rend.length).size = p.rend.length := sz_to _ _ (by omega)
        by_cases hlast : tl' = []
        · have hlen : p.rend.length = t.size := by rw [hts, hlast]; simp [render]
          have heq : ((p.rend.length : Int) == (t.size : Int)) = true := by rw [beq_iff_eq]; omega
          clear hlen hts
          have HLL := Lib.hid (show dn ++ [p] = l by have := HL.out; rw [hlast] at this; exact this.symm)
          clear hlast
          have HPL := Lib.hid (show PSt (w.alloc Z59) wc (w.heap.size + 1) l gs' σ' sv' pv' ps' i2 j2 by rw [← HLL.out]; exact HPF.out)
          obtain ⟨sb, cap, rfl, hcap, hsbl, hsbk, hrow⟩ := tail_row HPL.out HNE.out
          obtain ⟨Ap, cp, rfl⟩ := own_form HPL.out.pown
          have hlp : 0 < l.length := List.length_pos_iff.2 HNE.out
          have hprs := HPL.out.prs
          have c0 : wc.cell? ⟨w.heap.size + 1, 0, none⟩ = some (.slice (some ⟨sb, 0, none⟩) l.length cap) := blk_cell hprs 0
          have cr := hrow (l.length - 1) (by omega)
          have hsg := HPL.out.seg (l.length - 1) (by omega)
          have c7 := hsg.last
          have c7f : wc.frozen? ⟨gs' (l.length - 1), 7, none⟩ = false := blk_frozen hsg 7
          obtain ⟨σ1, hA1, hS1⟩ := mark_last HPL.out HNE.out hsbk hrow
          have hw1 : IntKind.i64.wrap ((l.length : Int) - 1) = (l.length : Int) - 1 := by rw [IntKind.wrap_i64]; omega
          have hl0 : (0 : Int) < (l.length : Int) := by omega
          have HA1 := Lib.hid hA1
          have HS1 := Lib.hid hS1
          have HPR := Lib.hid hprs
          have HROW := Lib.hid hrow
          have HSP := Lib.hid (show sb ≠ w.heap.size + 1 by obtain ⟨cs, hcs⟩ := hsbk; exact blk_ne hcs hprs (by decide))
          clear hA1 hS1 hprs hrow hsg hsbk
          have hi0 : (0 : Int) ≤ (l.length : Int) - 1 := by omega
          have hi1 : (l.length : Int) - 1 < (l.length : Int) := by omega
          go_wp2_with fail
          refine (meta_some l sb cap gs' σ1 _ (by omega) HG.out hcap HA1.out.rebase HS1.out).mono ?_
          rintro e w5 ⟨rfl, σ2, hA2, hI2⟩
          have hPlt : w.heap.size + 1 < wc.heap.size := blk_lt HPR.out
          have hsz5 : (wc.setCell ⟨gs' (l.length - 1), 7, none⟩ (.bool true)).heap.size = wc.heap.size := by simp [World.setCell]
          have hgP : ∀ k, k < l.length → gs' k ≠ w.heap.size + 1 := fun k hk => blk_ne (HPL.out.seg k hk) HPR.out (by decide)
          have hglo : ∀ k, k < l.length → w.heap.size + 1 ≤ gs' k := fun k hk => by have := HPL.out.low k hk; simpa using this
          have hP5 : w5.heap[w.heap.size + 1]? = some (.cells #[.slice (some ⟨sb, 0, none⟩) l.length cap, .slice Ap (npar l) cp, .int .i64 (i2 : Int), .int .i64 (j2 : Int)] 59 (0, 0)) :=
            (hA2.kept _ (by rw [hsz5]; exact hPlt) hgP).trans ((Below.heap_setCell _ _ _ _ (fun e => hgP (l.length - 1) (by omega) e.symm)).trans HPR.out)
          have hRc : wc.heap[w.heap.size]? = some Z59 := (HPL.out.below.block w.heap.size (by simp)).trans (blk_new w Z59)
          have hR5 : w5.heap[w.heap.size]? = some Z59 :=
            (hA2.kept _ (by rw [hsz5]; omega) (fun k hk e => by have := hglo k hk; omega)).trans ((Below.heap_setCell _ _ _ _ (fun e => by have := hglo (l.length - 1) (by omega); simp at e; omega)).trans hRc)
          have p0 : w5.cell? ⟨w.heap.size + 1, 0, none⟩ = some (.slice (some ⟨sb, 0, none⟩) l.length cap) := blk_cell hP5 0
          have p1 : w5.cell? ⟨w.heap.size + 1, 1, none⟩ = some (.slice Ap (npar l) cp) := blk_cell hP5 1
          have p2 : w5.cell? ⟨w.heap.size + 1, 2, none⟩ = some (.int .i64 (i2 : Int)) := blk_cell hP5 2
          have p3 : w5.cell? ⟨w.heap.size + 1, 3, none⟩ = some (.int .i64 (j2 : Int)) := blk_cell hP5 3
          have p0f : w5.frozen? ⟨w.heap.size + 1, 0, none⟩ = false := blk_frozen hP5 0
          have r0 : w5.cell? ⟨w.heap.size, 0, none⟩ = some (.slice none 0 0) := blk_cell hR5 0
          have r1 : w5.cell? ⟨w.heap.size, 1, none⟩ = some (.slice none 0 0) := blk_cell hR5 1
          have r2 : w5.cell? ⟨w.heap.size, 2, none⟩ = some (.int .i64 0) := blk_cell hR5 2
          have r3 : w5.cell? ⟨w.heap.size, 3, none⟩ = some (.int .i64 0) := blk_cell hR5 3
          have r0f : w5.frozen? ⟨w.heap.size, 0, none⟩ = false := blk_frozen hR5 0
          have r1f : w5.frozen? ⟨w.heap.size, 1, none⟩ = false := blk_frozen hR5 1
          have r2f : w5.frozen? ⟨w.heap.size, 2, none⟩ = false := blk_frozen hR5 2
          have r3f : w5.frozen? ⟨w.heap.size, 3, none⟩ = false := blk_frozen hR5 3
          have hnp0 : ¬ (30 : Int) < (npar l : Int) := by omega
          have HA2 := Lib.hid hA2
          have HI2 := Lib.hid hI2
          have HP5 := Lib.hid hP5
          have HR5 := Lib.hid hR5
          have HGP := Lib.hid hgP
          have HGL := Lib.hid hglo
          have HSZ5 := Lib.hid hsz5
          clear hA2 hI2 hP5 hR5 hRc hgP hglo hsz5 c0 cr c7 c7f
          go_wp2
          refine bodyPost_ret (v := .agg #[.slice (some ⟨sb, 0, none⟩) l.length cap, .slice Ap (npar l) cp, .int .i64 (i2 : Int), .int .i64 (j2 : Int)]) ?_ rfl ?_
          · have q0 := blk_set (blk_set (blk_set (blk_set (show (w5.setCell ⟨w.heap.size + 1, 0, none⟩ (.slice (some ⟨sb, 0, none⟩) l.length cap)).heap[w.heap.size]? = _ from (Below.heap_setCell _ _ _ _ (by simp)).trans HR5.out) 0 (.slice (some ⟨sb, 0, none⟩) l.length cap)) 1 (.slice Ap (npar l) cp)) 2 (.int .i64 (i2 : Int))) 3 (.int .i64 (j2 : Int))
            have q1 : (((((w5.setCell ⟨w.heap.size + 1, 0, none⟩ (.slice (some ⟨sb, 0, none⟩) l.length cap)).setCell ⟨w.heap.size, 0, none⟩ (.slice (some ⟨sb, 0, none⟩) l.length cap)).setCell ⟨w.heap.size, 1, none⟩ (.slice Ap (npar l) cp)).setCell ⟨w.heap.size, 2, none⟩ (.int .i64 (i2 : Int))).setCell ⟨w.heap.size, 3, none⟩ (.int .i64 (j2 : Int))).heap[w.heap.size]? = some (.cells #[.slice (some ⟨sb, 0, none⟩) l.length cap, .slice Ap (npar l) cp, .int .i64 (i2 : Int), .int .i64 (j2 : Int)] 59 (0, 0)) := q0
            exact results_single rfl (.cell w.heap.size 59 _ _ _ rfl q1 Tryz.underlying59 rfl (by kernel_rfl) .nil)
          · refine parsed_end rfl HPL.out ⟨l.length - 1, by omega, rfl⟩ HA2.out HI2.out hcap (by simpa using hsbl) HSP.out (fun b h1 h2 => ?_) rfl rfl rfl (by simp [World.setCell])
            rw [Below.heap_setCell _ _ _ b h2, Below.heap_setCell _ _ _ b h2, Below.heap_setCell _ _ _ b h2, Below.heap_setCell _ _ _ b h2, Below.heap_setCell _ _ _ b h1]
        · have hne : (render tl').length ≠ 0 := fun h => hlast (by
            cases htl : tl' with
            | nil => rfl
            | cons q r =>
              have := rend_pos (show One q by have := HGR.out.tail; rw [htl] at this; exact this.one)
              rw [htl, rc, List.length_append] at h; omega)
          have heq : ((p.rend.length : Int) == (t.size : Int)) = false := by rw [beq_eq_false_iff_ne]; omega
          have hsl := slice_from_int t (p.rend.length : Int) (by omega) (by omega)
          have HNL := Lib.hid hlast
          have hlt : p.rend.length < t.size := by omega
          have HLT := Lib.hid hlt
          clear hlast hts hne hlt
          go_wp2
          go_roundw
          case rel => exact ⟨dn ++ [p], tl', gs', σ', sv', pv', ps', i2, j2, t.extract p.rend.length t.size, _, rfl, rfl, by rw [sz_from]; omega, by simp; omega, by simp; omega, (show l = (dn ++ [p]) ++ tl' by rw [List.append_assoc]; exact HL.out), HNL, (show bs (t.extract p.rend.length t.size) = render tl' by rw [bs_from, HT.out, rc, List.drop_left]), HPF⟩
          case measure => have := HLT.out; simp [strSize]; omega
    | false =>
      have HPAR := Lib.hid hpar
      clear hpar
      obtain ⟨c, rfl⟩ : ∃ c, p = .const c := by
        cases p with
        | const c => exact ⟨c, rfl⟩
        | named => exact absurd HPAR.out (by simp [Part.par])
        | star => exact absurd HPAR.out (by decide)
        | plus => exact absurd HPAR.out (by decide)
      have hone : c ≠ [] ∧ ∀ x ∈ c, constB x = true := HGR.out.one
      have hc1 : 1 ≤ c.length := List.length_pos_iff.2 hone.1
      have ht92 := no92 (tame_render HGR.out HT.out ht2).2
      have hts : t.size = c.length + (render tl').length := by rw [← bs_len, HT.out, rc, List.length_append]; rfl
      have H92 := Lib.hid ht92
      have HTS := Lib.hid hts
      clear hone ht92 hts
      cases htl : tl' with
      | nil =>
        subst htl
        go_wp2_with fail
        refine (nextParam_end HGR.out HT.out ht2 _).mono ?_
        rintro e w1 ⟨rfl, hb⟩
        have HP1 := Lib.hid (HP.out.grow hb)
        clear hb HP
        go_wp2_with fail
        refine (constPart_all _ t _ (by omega) H92.out).mono ?_
        rintro e w2 ⟨g, rfl, hge, hseg, hbel⟩
        have HP2 := Lib.hid (HP1.out.grow hbel)
        have hprs := HP2.out.prs
        have hc0 : w2.cell? ⟨w.heap.size + 1, 0, none⟩ = some sv := blk_cell hprs 0
        obtain ⟨i70, hi70, hz70, hs70, hb70⟩ := info_parts info70
        have hPs : some (w.heap.size + 1) ≠ sv.ownBlock := own_ne HP2.out.sown hprs (by decide)
        have hbA := blk_below hprs (below_alloc (Below.refl w2.heap.size w2) (.cells #[.pointer (some ⟨g, 0, none⟩)] 70))
        have hcA : (w2.alloc (.cells #[.pointer (some ⟨g, 0, none⟩)] 70)).cell? ⟨w.heap.size + 1, 0, none⟩ = some sv := blk_cell hbA 0
        have hcAf : (w2.alloc (.cells #[.pointer (some ⟨g, 0, none⟩)] 70)).frozen? ⟨w.heap.size + 1, 0, none⟩ = false := blk_frozen hbA 0
        have heqt : ((t.size : Int) == (t.size : Int)) = true := by simp
        go_upto_region 11 with (at_builtin; refine ap_list (by rfl) 48 50 51 57 70 (by rfl) (by rfl) i70 _ 8 Tryz.underlying57 hi70 hz70 hs70 hb70 rfl (by omega) (w.alloc Z59).heap.size sv dn.length (ptrs gs dn.length) (by rfl) (own_below HP2.out.sown (below_alloc (Below.refl _ _) _)) w2.heap.size (.pointer (some ⟨g, 0, none⟩)) (by rfl) (blk_cell (blk_new w2 (.cells #[.pointer (some ⟨g, 0, none⟩)] 70)) 0) (by rfl) (by omega) (Nat.le_trans HP2.out.below.size (by simp)) ?_; intro gb cb w4 ho4 hg4; have hPb := hg4.block (w.heap.size + 1) (Nat.lt_of_lt_of_le (blk_lt hprs) (by simp)) hPs; have k0 := (World.cell?_of_block (a := ⟨w.heap.size + 1, 0, none⟩) hPb).trans hcA; have k0f := (World.frozen?_of_block (a := ⟨w.heap.size + 1, 0, none⟩) hPb).trans hcAf)
        have hpst : PSt (w.alloc Z59) (w4.setCell ⟨w.heap.size + 1, 0, none⟩ (.slice (some ⟨gb, 0, none⟩) (dn.length + 1) cb)) (w.heap.size + 1) (dn ++ [.const c]) (snoc gs dn.length g) (snoc σ dn.length (constSeg t)) (.slice (some ⟨gb, 0, none⟩) (dn.length + 1) cb) pv ps i j :=
          push_const HP2.out hseg (Nat.le_trans HP1.out.below.size hge) (fun k hk e => by have := blk_lt (HP1.out.seg k hk); omega) (bn_const (by rw [HT.out]; simp [render, Part.rend]) (by omega) H92.out) hg4 ho4
        generalize Value.slice (some ⟨gb, 0, none⟩) (dn.length + 1) cb = sv' at hpst ⊢
        generalize w4.setCell ⟨w.heap.size + 1, 0, none⟩ sv' = wc at hpst ⊢
        have HPF := Lib.hid hpst
        have HLL := Lib.hid (show dn ++ [.const c] = l from HL.out.symm)
        generalize snoc gs dn.length g = gs' at HPF
        generalize snoc σ dn.length (constSeg t) = σ' at HPF
        clear hpst HP2 HP1 hc0 hcA hcAf hbA hprs hseg hbel hge ho4 hg4 hPb k0 k0f hPs
        obtain ⟨pv', hpv'⟩ : ∃ pv', pv' = pv := ⟨_, rfl⟩
        obtain ⟨ps', hps'⟩ : ∃ ps', ps' = ps := ⟨_, rfl⟩
        obtain ⟨i2, hi2⟩ : ∃ i2, i2 = i := ⟨_, rfl⟩
        obtain ⟨j2, hj2⟩ : ∃ j2, j2 = j := ⟨_, rfl⟩
        rw [← hpv', ← hps', ← hi2, ← hj2] at HPF
        clear hpv' hps' hi2 hj2
        have HPL := Lib.hid (show PSt (w.alloc Z59) wc (w.heap.size + 1) l gs' σ' sv' pv' ps' i2 j2 by rw [← HLL.out]; exact HPF.out)
        obtain ⟨sb, cap, rfl, hcap, hsbl, hsbk, hrow⟩ := tail_row HPL.out HNE.out
        obtain ⟨Ap, cp, rfl⟩ := own_form HPL.out.pown
        have hlp : 0 < l.length := List.length_pos_iff.2 HNE.out
        have hprs := HPL.out.prs
        have c0 : wc.cell? ⟨w.heap.size + 1, 0, none⟩ = some (.slice (some ⟨sb, 0, none⟩) l.length cap) := blk_cell hprs 0
        have cr := hrow (l.length - 1) (by omega)
        have hsg := HPL.out.seg (l.length - 1) (by omega)
        have c7 := hsg.last
        have c7f : wc.frozen? ⟨gs' (l.length - 1), 7, none⟩ = false := blk_frozen hsg 7
        obtain ⟨σ1, hA1, hS1⟩ := mark_last HPL.out HNE.out hsbk hrow
        have hw1 : IntKind.i64.wrap ((l.length : Int) - 1) = (l.length : Int) - 1 := by rw [IntKind.wrap_i64]; omega
        have hl0 : (0 : Int) < (l.length : Int) := by omega
        have HA1 := Lib.hid hA1
        have HS1 := Lib.hid hS1
        have HPR := Lib.hid hprs
        have HROW := Lib.hid hrow
        have HSP := Lib.hid (show sb ≠ w.heap.size + 1 by obtain ⟨cs, hcs⟩ := hsbk; exact blk_ne hcs hprs (by decide))
        clear hA1 hS1 hprs hrow hsg hsbk
        have hi0 : (0 : Int) ≤ (l.length : Int) - 1 := by omega
        have hi1 : (l.length : Int) - 1 < (l.length : Int) := by omega
        go_wp2_with fail
        refine (meta_some l sb cap gs' σ1 _ (by omega) HG.out hcap HA1.out.rebase HS1.out).mono ?_
        rintro e w5 ⟨rfl, σ2, hA2, hI2⟩
        have hPlt : w.heap.size + 1 < wc.heap.size := blk_lt HPR.out
        have hsz5 : (wc.setCell ⟨gs' (l.length - 1), 7, none⟩ (.bool true)).heap.size = wc.heap.size := by simp [World.setCell]
        have hgP : ∀ k, k < l.length → gs' k ≠ w.heap.size + 1 := fun k hk => blk_ne (HPL.out.seg k hk) HPR.out (by decide)
        have hglo : ∀ k, k < l.length → w.heap.size + 1 ≤ gs' k := fun k hk => by have := HPL.out.low k hk; simpa using this
        have hP5 : w5.heap[w.heap.size + 1]? = some (.cells #[.slice (some ⟨sb, 0, none⟩) l.length cap, .slice Ap (npar l) cp, .int .i64 (i2 : Int), .int .i64 (j2 : Int)] 59 (0, 0)) :=
          (hA2.kept _ (by rw [hsz5]; exact hPlt) hgP).trans ((Below.heap_setCell _ _ _ _ (fun e => hgP (l.length - 1) (by omega) e.symm)).trans HPR.out)
        have hRc : wc.heap[w.heap.size]? = some Z59 := (HPL.out.below.block w.heap.size (by simp)).trans (blk_new w Z59)
        have hR5 : w5.heap[w.heap.size]? = some Z59 :=
          (hA2.kept _ (by rw [hsz5]; omega) (fun k hk e => by have := hglo k hk; omega)).trans ((Below.heap_setCell _ _ _ _ (fun e => by have := hglo (l.length - 1) (by omega); simp at e; omega)).trans hRc)
        have p0 : w5.cell? ⟨w.heap.size + 1, 0, none⟩ = some (.slice (some ⟨sb, 0, none⟩) l.length cap) := blk_cell hP5 0
        have p1 : w5.cell? ⟨w.heap.size + 1, 1, none⟩ = some (.slice Ap (npar l) cp) := blk_cell hP5 1
        have p2 : w5.cell? ⟨w.heap.size + 1, 2, none⟩ = some (.int .i64 (i2 : Int)) := blk_cell hP5 2
        have p3 : w5.cell? ⟨w.heap.size + 1, 3, none⟩ = some (.int .i64 (j2 : Int)) := blk_cell hP5 3
        have p0f : w5.frozen? ⟨w.heap.size + 1, 0, none⟩ = false := blk_frozen hP5 0
        have r0 : w5.cell? ⟨w.heap.size, 0, none⟩ = some (.slice none 0 0) := blk_cell hR5 0
        have r1 : w5.cell? ⟨w.heap.size, 1, none⟩ = some (.slice none 0 0) := blk_cell hR5 1
        have r2 : w5.cell? ⟨w.heap.size, 2, none⟩ = some (.int .i64 0) := blk_cell hR5 2
        have r3 : w5.cell? ⟨w.heap.size, 3, none⟩ = some (.int .i64 0) := blk_cell hR5 3
        have r0f : w5.frozen? ⟨w.heap.size, 0, none⟩ = false := blk_frozen hR5 0
        have r1f : w5.frozen? ⟨w.heap.size, 1, none⟩ = false := blk_frozen hR5 1
        have r2f : w5.frozen? ⟨w.heap.size, 2, none⟩ = false := blk_frozen hR5 2
        have r3f : w5.frozen? ⟨w.heap.size, 3, none⟩ = false := blk_frozen hR5 3
        have hnp0 : ¬ (30 : Int) < (npar l : Int) := by omega
        have HA2 := Lib.hid hA2
        have HI2 := Lib.hid hI2
        have HP5 := Lib.hid hP5
        have HR5 := Lib.hid hR5
        have HGP := Lib.hid hgP
        have HGL := Lib.hid hglo
        have HSZ5 := Lib.hid hsz5
        clear hA2 hI2 hP5 hR5 hRc hgP hglo hsz5 c0 cr c7 c7f
        go_wp2
        refine bodyPost_ret (v := .agg #[.slice (some ⟨sb, 0, none⟩) l.length cap, .slice Ap (npar l) cp, .int .i64 (i2 : Int), .int .i64 (j2 : Int)]) ?_ rfl ?_
        · have q0 := blk_set (blk_set (blk_set (blk_set (show (w5.setCell ⟨w.heap.size + 1, 0, none⟩ (.slice (some ⟨sb, 0, none⟩) l.length cap)).heap[w.heap.size]? = _ from (Below.heap_setCell _ _ _ _ (by simp)).trans HR5.out) 0 (.slice (some ⟨sb, 0, none⟩) l.length cap)) 1 (.slice Ap (npar l) cp)) 2 (.int .i64 (i2 : Int))) 3 (.int .i64 (j2 : Int))
          have q1 : (((((w5.setCell ⟨w.heap.size + 1, 0, none⟩ (.slice (some ⟨sb, 0, none⟩) l.length cap)).setCell ⟨w.heap.size, 0, none⟩ (.slice (some ⟨sb, 0, none⟩) l.length cap)).setCell ⟨w.heap.size, 1, none⟩ (.slice Ap (npar l) cp)).setCell ⟨w.heap.size, 2, none⟩ (.int .i64 (i2 : Int))).setCell ⟨w.heap.size, 3, none⟩ (.int .i64 (j2 : Int))).heap[w.heap.size]? = some (.cells #[.slice (some ⟨sb, 0, none⟩) l.length cap, .slice Ap (npar l) cp, .int .i64 (i2 : Int), .int .i64 (j2 : Int)] 59 (0, 0)) := q0
          exact results_single rfl (.cell w.heap.size 59 _ _ _ rfl q1 Tryz.underlying59 rfl (by kernel_rfl) .nil)
        · refine parsed_end rfl HPL.out ⟨l.length - 1, by omega, rfl⟩ HA2.out HI2.out hcap (by simpa using hsbl) HSP.out (fun b h1 h2 => ?_) rfl rfl rfl (by simp [World.setCell])
          rw [Below.heap_setCell _ _ _ b h2, Below.heap_setCell _ _ _ b h2, Below.heap_setCell _ _ _ b h2, Below.heap_setCell _ _ _ b h2, Below.heap_setCell _ _ _ b h1]
      | cons q tl2 =>
        subst htl
        go_wp2_with fail
        refine (nextParam_con HGR.out HT.out ht2 _).mono ?_
        rintro e w1 ⟨rfl, hb⟩
        have HP1 := Lib.hid (HP.out.grow hb)
        clear hb HP
        go_wp2_with fail
        refine (constPart_to _ t c.length _ (by omega) (by have := HTS.out; omega) H92.out).mono ?_
        rintro e w2 ⟨g, rfl, hge, hseg, hbel⟩
        have HP2 := Lib.hid (HP1.out.grow hbel)
        have hprs := HP2.out.prs
        have hc0 : w2.cell? ⟨w.heap.size + 1, 0, none⟩ = some sv := blk_cell hprs 0
        obtain ⟨i70, hi70, hz70, hs70, hb70⟩ := info_parts info70
        have hPs : some (w.heap.size + 1) ≠ sv.ownBlock := own_ne HP2.out.sown hprs (by decide)
        have hbA := blk_below hprs (below_alloc (Below.refl w2.heap.size w2) (.cells #[.pointer (some ⟨g, 0, none⟩)] 70))
        have hcA : (w2.alloc (.cells #[.pointer (some ⟨g, 0, none⟩)] 70)).cell? ⟨w.heap.size + 1, 0, none⟩ = some sv := blk_cell hbA 0
        have hcAf : (w2.alloc (.cells #[.pointer (some ⟨g, 0, none⟩)] 70)).frozen? ⟨w.heap.size + 1, 0, none⟩ = false := blk_frozen hbA 0
        have hex : (t.extract 0 c.length).size = c.length := sz_to _ _ (by have := HTS.out; omega)
        have hnz : ((c.length : Int) == 0) = false := by rw [beq_eq_false_iff_ne]; omega
        have hlt : c.length < t.size := by have := HTS.out; have := rend_pos HGR.out.tail.one; rw [rc, List.length_append] at *; omega
        have heq : ((c.length : Int) == (t.size : Int)) = false := by rw [beq_eq_false_iff_ne]; omega
        have hsl := slice_from_int t (c.length : Int) (by omega) (by omega)
        go_upto_region 11 with (at_builtin; refine ap_list (by rfl) 48 50 51 57 70 (by rfl) (by rfl) i70 _ 8 Tryz.underlying57 hi70 hz70 hs70 hb70 rfl (by omega) (w.alloc Z59).heap.size sv dn.length (ptrs gs dn.length) (by rfl) (own_below HP2.out.sown (below_alloc (Below.refl _ _) _)) w2.heap.size (.pointer (some ⟨g, 0, none⟩)) (by rfl) (blk_cell (blk_new w2 (.cells #[.pointer (some ⟨g, 0, none⟩)] 70)) 0) (by rfl) (by omega) (Nat.le_trans HP2.out.below.size (by simp)) ?_; intro gb cb w4 ho4 hg4; have hPb := hg4.block (w.heap.size + 1) (Nat.lt_of_lt_of_le (blk_lt hprs) (by simp)) hPs; have k0 := (World.cell?_of_block (a := ⟨w.heap.size + 1, 0, none⟩) hPb).trans hcA; have k0f := (World.frozen?_of_block (a := ⟨w.heap.size + 1, 0, none⟩) hPb).trans hcAf)
        have hpst : PSt (w.alloc Z59) (w4.setCell ⟨w.heap.size + 1, 0, none⟩ (.slice (some ⟨gb, 0, none⟩) (dn.length + 1) cb)) (w.heap.size + 1) (dn ++ [.const c]) (snoc gs dn.length g) (snoc σ dn.length (constSeg (t.extract 0 c.length))) (.slice (some ⟨gb, 0, none⟩) (dn.length + 1) cb) pv ps i j :=
          push_const HP2.out hseg (Nat.le_trans HP1.out.below.size hge) (fun k hk e => by have := blk_lt (HP1.out.seg k hk); omega) (bn_const (by rw [bs_to, HT.out, rc]; exact List.take_left) (by omega) (by rw [bs_to]; exact fun h => H92.out (List.mem_of_mem_take h))) hg4 ho4
        generalize Value.slice (some ⟨gb, 0, none⟩) (dn.length + 1) cb = sv' at hpst ⊢
        generalize w4.setCell ⟨w.heap.size + 1, 0, none⟩ sv' = wc at hpst ⊢
        have HPF := Lib.hid hpst
        have HLT := Lib.hid hlt
        clear hpst HP2 HP1 hc0 hcA hcAf hbA hprs hseg hbel hge ho4 hg4 hPb k0 k0f hPs hlt
        go_wp2
        go_roundw
        case rel => exact ⟨dn ++ [Part.const c], q :: tl2, _, _, sv', pv, ps, i, j, t.extract c.length t.size, _, rfl, rfl, by rw [sz_from]; omega, by simp; omega, by simp; omega, (show l = (dn ++ [Part.const c]) ++ (q :: tl2) by rw [List.append_assoc]; exact HL.out), (fun h => by cases h), (show bs (t.extract c.length t.size) = render (q :: tl2) by rw [bs_from, HT.out, rc]; exact List.drop_left), HPF⟩
        case measure => have := HLT.out; simp [strSize]; omega
end Go.Proofs.YtfahabnjplnbmaaGreatDoor.Wk
