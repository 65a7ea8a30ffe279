/- addParameterMetaInfo: the three loops. -/
import Derived.Test.YtfahabnjplnbmaaGreatDoorMWk6
import Derived.Test.YtfahabnjplnbmaaGreatDoorMWk1b
import Derived.StillTailTactics
namespace Go.Proofs.YtfahabnjplnbmaaGreatDoor.Wk
open Go.RowKit Go.Proofs.YtfahabnjplnbmaaGreatDoorW.PrintWords
open Go.Proofs.YtfahabnjplnbmaaGreatDoor.Pl Go.Proofs.YtfahabnjplnbmaaGreatDoor.Q Go.Proofs.YtfahabnjplnbmaaGreatDoor.QL
set_option linter.unusedVariables false
set_option linter.unusedSimpArgs false

set_option maxHeartbeats 1000000 in
set_option maxRecDepth 100000 in
/-- A text without an escape sign is as it is. -/
theorem noEsc_calls (s : ByteArray) (w : World) (h92 : 92 ∉ bs s) :
    Calls Tryz.prog 31 #[.string s] w fun e w' => e = .returned (.string s) ∧ w = w' := by
  have HN := Lib.hid h92
  clear h92
  go_enter Tryz.func31, Tryz.ntmps31
  go_wp2_with (go_at_call 40; refine (ib_none s 92 92 _ rfl HN.out).mono ?_; rintro e w' ⟨rfl, rfl⟩)
  go_ret
  exact ⟨rfl, rfl⟩

/-- The segments in memory, behind some steps. -/
structure Arr (w0 wr : World) (n sb : Nat) (gs : Nat → Nat) (σ : Nat → Seg) : Prop where
  cell : ∀ k, k < n → wr.cell? ⟨sb, k, none⟩ = some (.pointer (some ⟨gs k, 0, none⟩))
  seg : ∀ k, k < n → SegAt wr (gs k) (σ k)
  apart : ∀ k, k < n → gs k ≠ sb
  inj : ∀ k j, k < n → j < n → gs k = gs j → k = j
  os : wr.os = w0.os
  tape : wr.tape = w0.tape
  output : wr.output = w0.output
  size : w0.heap.size ≤ wr.heap.size
  kept : ∀ b, b < w0.heap.size → (∀ k, k < n → gs k ≠ b) → wr.heap[b]? = w0.heap[b]?

def upd (σ : Nat → Seg) (i : Nat) (s : Seg) : Nat → Seg := fun k => if k = i then s else σ k
section
variable {w0 wr : World} {n sb : Nat} {gs : Nat → Nat} {σ : Nat → Seg}
theorem Arr.set (h : Arr w0 wr n sb gs σ) {i j : Nat} {v : Value} {s : Seg} (hi : i < n) (hs : (σ i).cells.setIfInBounds j v = s.cells) : Arr w0 (wr.setCell ⟨gs i, j, none⟩ v) n sb gs (upd σ i s) where
  cell k hk := by
    have := h.cell k hk
    have hne := h.apart i hi
    rw [← this]
    exact World.cell?_setCell_other (h := fun e => hne (congrArg Addr.block e)) ..
  seg k hk := by
    unfold upd
    by_cases hki : k = i
    · subst hki
      rw [if_pos rfl]
      have := blk_set (h.seg k hk) j v
      rw [hs] at this
      exact this
    · rw [if_neg hki]
      exact blk_far (h.seg k hk) (p := ⟨gs i, j, none⟩) (fun e => hki (h.inj k i hk hi e)) v
  apart := h.apart
  inj := h.inj
  os := h.os
  tape := h.tape
  output := h.output
  size := by simpa [World.setCell] using h.size
  kept b hb hk := (Below.heap_setCell wr ⟨gs i, j, none⟩ v b (fun e => hk i hi e.symm)).trans (h.kept b hb hk)
theorem Arr.drewN (h : Arr w0 wr n sb gs σ) (m : Nat) : Arr w0 (wr.drewN m) n sb gs σ := ⟨h.cell, h.seg, h.apart, h.inj, h.os, h.tape, h.output, h.size, h.kept⟩
theorem Arr.drew (h : Arr w0 wr n sb gs σ) : Arr w0 wr.drew n sb gs σ := ⟨h.cell, h.seg, h.apart, h.inj, h.os, h.tape, h.output, h.size, h.kept⟩
end

/-- A segment behind the parse, ahead of the loops. -/
structure B0 (p : Part) (t : List Part) (σ : Seg) : Prop where
  par : σ.par = p.par
  consz : σ.con.size ≤ 4294967290
  con92 : 92 ∉ bs σ.con
  con : p.par = false → bs σ.con = p.con ∧ σ.len = (p.con.length : Int)
  len : p.par = true → σ.len = 0
  gr : σ.gr = p.greedy
  opt : σ.opt = p.opt
  last : σ.last = true ↔ t = []
  slash : σ.slash = false
  cnt : σ.cnt = 0
def Cmp (p : Part) (t : List Part) (σ : Seg) : Prop := p.par = true → σ.cmp.size ≤ 4294967290 ∧ ∀ q t', t = q :: t' → bs σ.cmp = Pl.cmp q.con
structure CPs (l : List Part) (j : Nat) (cp : ByteArray) : Prop where
  size : cp.size ≤ 4294967290
  esc : 92 ∉ bs cp
  is : ∀ q t', l.drop j = q :: t' → q.par = false → bs cp = Pl.cmp q.con
def St1 (l : List Part) (j : Nat) (σ : Nat → Seg) : Prop := ∀ k p, l[k]? = some p → B0 p (l.drop (k + 1)) (σ k) ∧ (j ≤ k → Cmp p (l.drop (k + 1)) (σ k))

theorem good_next {p q : Part} {t : List Part} (h : Pl.Good (p :: q :: t)) (hp : p.par = true) : q.par = false := by
  have h2 := h.2.1
  cases q with
  | const c => rfl
  | named => cases p <;> first | exact absurd h2 id | cases hp
  | star => cases p <;> first | exact absurd h2 id | cases hp
  | plus => cases p <;> first | exact absurd h2 id | cases hp
theorem st1_param {l : List Part} (hg : Pl.Good l) {i : Nat} {p : Part} (hp : l[i]? = some p) (hpar : p.par = true) {σ : Nat → Seg} (h : St1 l (i + 1) σ) {cp : ByteArray} (hc : CPs l (i + 1) cp) :
    St1 l i (upd σ i { σ i with cmp := cp }) ∧ CPs l i cp := by
  refine ⟨fun k q hq => ?_, hc.size, hc.esc, fun q t' hd hqp => ?_⟩
  · unfold upd
    by_cases hk : k = i
    · subst hk
      rw [if_pos rfl]
      obtain rfl : p = q := by rw [hp] at hq; exact Option.some.inj hq
      have hb := (h k p hp).1
      refine ⟨⟨hb.par, hb.consz, hb.con92, hb.con, hb.len, hb.gr, hb.opt, hb.last, hb.slash, hb.cnt⟩, fun _ _ => ⟨hc.size, fun q t' ht => ?_⟩⟩
      refine hc.is q t' ht ?_
      have := good_drop hg k
      rw [drop_part hp, ht] at this
      exact good_next this hpar
    · rw [if_neg hk]
      exact ⟨(h k q hq).1, fun hik => (h k q hq).2 (by omega)⟩
  · rw [drop_part hp] at hd
    cases hd
    rw [hpar] at hqp; cases hqp
theorem st1_const {l : List Part} {i : Nat} {p : Part} (hp : l[i]? = some p) (hpar : p.par = false) {σ : Nat → Seg} (h : St1 l (i + 1) σ) {cp : ByteArray} (h1 : cp.size ≤ 4294967290) (h2 : 92 ∉ bs cp) (h3 : bs cp = Pl.cmp p.con) :
    St1 l i σ ∧ CPs l i cp := by
  refine ⟨fun k q hq => ⟨(h k q hq).1, fun hik => ?_⟩, h1, h2, fun q t' hd hqp => ?_⟩
  · by_cases hk : k = i
    · subst hk
      obtain rfl : p = q := by rw [hp] at hq; exact Option.some.inj hq
      intro hx; rw [hpar] at hx; cases hx
    · exact (h k q hq).2 (by omega)
  · rw [drop_part hp] at hd
    cases hd
    exact h3

theorem trim_calls (s : ByteArray) (hs : s.size ≤ 4294967290) (w : World) :
    Calls Tryz.prog 28 #[.string s, .int .u8 47] w fun e w' => (∃ r : ByteArray, e = .returned (.string r) ∧ bs r = trimR (bs s)) ∧ Drawn0 w w' := by
  obtain ⟨r, hr, hb⟩ := trimRight_ev s hs
  obtain ⟨k, hk⟩ := hr.rounds
  exact (fiberutils_TrimRight.calls k s 47 r w hk).mono fun e w' ⟨h1, h2⟩ => ⟨⟨r, h1, hb⟩, h2⟩

def St2 (l : List Part) (i : Nat) (σ : Nat → Seg) : Prop := ∀ k p, l[k]? = some p → (k < i → SegIs p (l.drop (k + 1)) (σ k)) ∧ (i ≤ k → B0 p (l.drop (k + 1)) (σ k) ∧ Cmp p (l.drop (k + 1)) (σ k))
theorem st2_start {l : List Part} {σ : Nat → Seg} (h : St1 l 0 σ) : St2 l 0 σ := fun k p hp => ⟨(fun hk => absurd hk (Nat.not_lt_zero _)), fun _ => ⟨(h k p hp).1, (h k p hp).2 (Nat.zero_le _)⟩⟩
theorem st2_step {l : List Part} {i : Nat} {p : Part} (hp : l[i]? = some p) {σ τ : Nat → Seg} (h : St2 l i σ) (ho : ∀ k, k ≠ i → τ k = σ k) (hi : SegIs p (l.drop (i + 1)) (τ i)) : St2 l (i + 1) τ := by
  intro k q hq
  by_cases hk : k = i
  · subst hk
    obtain rfl : p = q := by rw [hp] at hq; exact Option.some.inj hq
    exact ⟨fun _ => hi, fun hik => absurd hik (by omega)⟩
  · rw [ho k hk]
    exact ⟨fun hki => (h k q hq).1 (by omega), fun hik => (h k q hq).2 (by omega)⟩
theorem segIs_param {p : Part} {t : List Part} {σ : Seg} (hpar : p.par = true) (hb : B0 p t σ) (hc : Cmp p t σ) {c : Int} (h1 : -9223372036854775808 ≤ c) (h2 : c ≤ 9223372036854775807) : SegIs p t { σ with cnt := c } :=
  ⟨hb.par, hb.consz, (fun h => by rw [hpar] at h; cases h), fun _ => ⟨hb.gr, hb.opt, hb.last, hb.len hpar, (hc hpar).1, ⟨h1, h2⟩, (hc hpar).2⟩⟩
theorem segIs_const {p : Part} {t : List Part} {σ : Seg} (hpar : p.par = false) (hb : B0 p t σ) {b : Bool} (h : b = true ↔ MayEnd p t) : SegIs p t { σ with slash := b } :=
  ⟨hb.par, hb.consz, fun _ => ⟨(hb.con hpar).1, (hb.con hpar).2, h⟩, (fun h => by rw [hpar] at h; cases h)⟩
theorem seg_cnt {σ : Seg} {c : Int} (h : σ.cnt = c) : { σ with cnt := c } = σ := by cases σ; simp at h; simp [h]
theorem seg_slash {σ : Seg} {b : Bool} (h : σ.slash = b) : { σ with slash := b } = σ := by cases σ; simp at h; simp [h]

theorem arr_slash {w0 wr : World} {n sb : Nat} {gs : Nat → Nat} {σ : Nat → Seg} (h : Arr w0 wr n sb gs σ) {i : Nat} (hi : i < n) (b : Bool) : Arr w0 (wr.setCell ⟨gs i, 8, none⟩ (.bool b)) n sb gs (upd σ i { σ i with slash := b }) := h.set hi (by rfl)
theorem upd_ne {σ : Nat → Seg} {i : Nat} {s : Seg} : ∀ k, k ≠ i → upd σ i s k = σ k := fun k hk => by unfold upd; rw [if_neg hk]
theorem upd_same {σ : Nat → Seg} {i : Nat} {s : Seg} : upd σ i s i = s := by unfold upd; rw [if_pos rfl]
theorem last_byte {s : ByteArray} {c : Bytes} (h : bs s = c) (h1 : 1 ≤ s.size) (hl : s.size - 1 < s.size) : c.getLast? = some s[s.size - 1] := by
  rw [← h, List.getLast?_eq_getElem?, bs_len]
  exact bs_get hl

theorem wrap_bounds (n : Int) : -9223372036854775808 ≤ wrap64 n ∧ wrap64 n ≤ 9223372036854775807 := by
  unfold Go.RowKit.wrap64; omega

set_option maxHeartbeats 16000000 in
set_option maxRecDepth 100000 in
theorem meta_some (l : List Part) (sb cap : Nat) (gs : Nat → Nat) (σ0 : Nat → Seg) (w : World)
    (hl : l.length ≤ 1000) (hg : Pl.Good l) (hcap : l.length ≤ cap) (hA : Arr w w l.length sb gs σ0) (hS : St1 l l.length σ0) :
    Calls Tryz.prog 37 #[.slice (some ⟨sb, 0, none⟩) l.length cap] w fun e w' => e = .returned (.slice (some ⟨sb, 0, none⟩) l.length cap) ∧ ∃ σ, Arr w w' l.length sb gs σ ∧ ∀ k p, l[k]? = some p → SegIs p (l.drop (k + 1)) (σ k) := by
  have HA := Lib.hid hA
  have HS := Lib.hid hS
  have HG := Lib.hid hg
  clear hA hS hg
  go_enter Tryz.func37, Tryz.ntmps37
  go_wp2
  go_loopw [3, 5] (fun v3 v5 wr => ∃ (j : Nat) (z : Int) (cp : ByteArray) (σ : Nat → Seg), v3 = .string cp ∧ v5 = .int .i64 z ∧ z = (j : Int) - 1 ∧ j ≤ l.length ∧ Hid (CPs l j cp) ∧ Hid (Arr w wr l.length sb gs σ) ∧ Hid (St1 l j σ)) (fun _ v5 _ => (intOf v5 + 1).toNat)
  case atStart =>
    exact ⟨l.length, (l.length : Int) - 1, _, σ0, rfl, by go_num, rfl, Nat.le_refl _, ⟨by decide, by decide, fun q t' hd => by rw [List.drop_length] at hd; cases hd⟩, HA, HS⟩
  case round =>
    obtain ⟨j, z, cp, σ, rfl, rfl, hz, hj, HC, HA1, HS1⟩ := hrel
    by_cases hj0 : j = 0
    · have hz0 : ¬ (0 : Int) ≤ z := by omega
      subst hj0
      clear hz
      go_wp2
      have HS2 := Lib.hid (st2_start HS1.out)
      clear HS HS1 HC HA
      go_loopw [6, 7] (fun v6 v7 wr => ∃ (i : Nat) (σ : Nat → Seg), v6 = .int .i64 (i : Int) ∧ i ≤ l.length ∧ Hid (Arr w wr l.length sb gs σ) ∧ Hid (St2 l i σ)) (fun v6 _ _ => l.length - (intOf v6).toNat)
      case atStart => exact ⟨0, σ, by go_num, Nat.zero_le _, HA1, HS2⟩
      case round =>
        clear HA1 HS2
        obtain ⟨i, τ, rfl, hi, HA2, HS2⟩ := hrel
        by_cases hil : i < l.length
        · have hil0 : (i : Int) < (l.length : Int) := by omega
          obtain ⟨p, hp⟩ : ∃ p, l[i]? = some p := ⟨_, List.getElem?_eq_getElem hil⟩
          have hcell := HA2.out.cell i hil
          have hseg := HA2.out.seg i hil
          have hb := (HS2.out i p hp).2 (Nat.le_refl _)
          have c1 := hseg.par
          rw [hb.1.par] at c1
          cases hpar : p.par with
          | true =>
            rw [hpar] at c1
            have c5 := hseg.gr
            have c3 := hseg.cmp
            have hSI : ∀ c : Int, -9223372036854775808 ≤ c → c ≤ 9223372036854775807 → SegIs p (l.drop (i + 1)) { τ i with cnt := c } := fun c h1 h2 => segIs_param hpar hb.1 hb.2 h1 h2
            have HSI := Lib.hid hSI
            have HCN := Lib.hid hb.1.cnt
            have hcz := (hb.2 hpar).1
            have HP := Lib.hid hp
            have HSEG := Lib.hid hseg
            have hnx : ∀ q, l[i + 1]? = some q → q.par = false := fun q hq => by
              have := good_drop HG.out i
              rw [drop_part hp, drop_part hq] at this
              exact good_next this hpar
            have HNX := Lib.hid hnx
            clear hSI hb hseg hp hnx hpar
            go_upto_region 15 with fail
            go_cut [89] (fun v89 wd => v89 = .bool false ∧ wd = wr)
            case first =>
              by_cases hi1 : i + 1 < l.length
              · have hi1' : (i : Int) + 1 < (l.length : Int) := by omega
                cases hgr : (τ i).gr with
                | true =>
                  rw [hgr] at c5
                  clear hgr
                  go_wp2
                  go_meet
                  case rel => exact ⟨rfl, rfl⟩
                | false =>
                  rw [hgr] at c5
                  clear hgr
                  obtain ⟨q, hq2⟩ : ∃ q, l[i + 1]? = some q := ⟨_, List.getElem?_eq_getElem hi1⟩
                  have hcell2 := HA2.out.cell (i + 1) hi1
                  have hseg2 := HA2.out.seg (i + 1) hi1
                  have c11 := hseg2.par
                  rw [((HS2.out (i + 1) q hq2).2 (by omega)).1.par, HNX.out q hq2] at c11
                  clear hseg2 hq2
                  go_wp2
                  go_meet
                  case rel => exact ⟨rfl, rfl⟩
              · have hi1' : ¬ (i : Int) + 1 < (l.length : Int) := by omega
                go_wp2
                go_meet
                case rel => exact ⟨rfl, rfl⟩
            case rest =>
              obtain ⟨rfl, rfl⟩ := hcut
              clear c1 c5
              by_cases hem : (τ i).cmp.toList = []
              · have hem2 : (τ i).cmp.toList.isEmpty = true := by rw [hem]; rfl
                clear hem
                go_wp2
                go_roundw
                case rel => exact ⟨i + 1, τ, by go_num, hil, HA2, st2_step HP.out HS2.out (fun _ _ => rfl) (by rw [← seg_cnt HCN.out]; exact HSI.out 0 (by decide) (by decide))⟩
                case measure => simp [intOf]; omega
              · have hem2 : (τ i).cmp.toList.isEmpty = false := by simpa using hem
                have hcz1 : 1 ≤ (τ i).cmp.size := by
                  rcases Nat.eq_zero_or_pos (τ i).cmp.size with h | h
                  · exact absurd (by rw [tl]; exact List.eq_nil_of_length_eq_zero (by rw [bs_len]; exact h)) hem
                  · exact h
                clear hem
                go_wp2
                go_loopw [7] (fun v7 wx => ∃ (j : Nat) (ρ : Nat → Seg) (c : Int), v7 = .int .i64 (j : Int) ∧ i + 1 ≤ j ∧ j ≤ l.length ∧ -9223372036854775808 ≤ c ∧ c ≤ 9223372036854775807 ∧ Hid (Arr w wx l.length sb gs ρ) ∧ Hid (∀ k, k ≠ i → ρ k = τ k) ∧ Hid (ρ i = { τ i with cnt := c })) (fun v7 _ => l.length - (intOf v7).toNat)
                case atStart => exact ⟨i + 1, τ, 0, by go_num, Nat.le_refl _, hil, by decide, by decide, HA2, fun _ _ => rfl, (seg_cnt HCN.out).symm⟩
                case round =>
                  clear HA2 hcell c3 HSEG
                  obtain ⟨j, ρ, c, rfl, hij, hj, hc1, hc2, HA3, HNE, HEQ⟩ := hrel
                  by_cases hjl : j < l.length
                  · have hjl0 : (j : Int) ≤ (l.length : Int) - 1 := by omega
                    have hjl1 : (j : Int) < (l.length : Int) := by omega
                    have hji : j ≠ i := by omega
                    obtain ⟨q, hq⟩ : ∃ q, l[j]? = some q := ⟨_, List.getElem?_eq_getElem hjl⟩
                    have hcellj := HA3.out.cell j hjl
                    have hcelli := HA3.out.cell i hil
                    have hsegj := HA3.out.seg j hjl
                    have hsegi := HA3.out.seg i hil
                    have hbj := (HS2.out j q hq).2 (by omega)
                    rw [HNE.out j hji] at hsegj
                    have d1 := hsegj.par
                    have d0 := hsegj.con
                    rw [hbj.1.par] at d1
                    have d0z := hbj.1.consz
                    have e3 := hsegi.cmp
                    have e4 := hsegi.cnt
                    rw [HEQ.out] at e3 e4
                    have e4f := blk_frozen hsegi 4
                    clear hsegj hsegi hbj hq
                    cases hqp : q.par with
                    | true =>
                      rw [hqp] at d1
                      clear hqp
                      go_wp2
                      go_roundw
                      case rel => exact ⟨j + 1, ρ, c, by go_num, by omega, hjl, hc1, hc2, HA3, HNE, HEQ⟩
                      case measure => simp [intOf]; omega
                    | false =>
                      rw [hqp] at d1
                      clear hqp
                      go_wp2
                      go_still_tail 25, (by kernel_rfl)
                      still_call (count_val (τ j).con (τ i).cmp _ hcz1 hcz d0z)
                      repeat still_step
                      refine wpStill_nil ?_
                      change wpList _ _ _ _ _ wr.drew
                      have hA4 := HA3.out.drew
                      have HA4 := Lib.hid hA4
                      have e4' : wr.drew.cell? ⟨gs i, 4, none⟩ = some (.int .i64 c) := e4
                      have e4f' : wr.drew.frozen? ⟨gs i, 4, none⟩ = false := e4f
                      clear hA4 e4 e4f e3 d0 d1 hcellj hcelli
                      generalize wr.drew = w2 at HA4 e4' e4f' ⊢
                      go_wp2
                      go_roundw
                      case rel =>
                        have hb := wrap_bounds (c + (cntR (τ j).con (τ i).cmp : Int))
                        refine ⟨j + 1, upd ρ i { τ i with cnt := wrap64 (c + (cntR (τ j).con (τ i).cmp : Int)) }, _, by go_num, by omega, hjl, hb.1, hb.2, HA4.out.set hil (by rw [HEQ.out]; rfl), fun k hk => ?_, upd_same⟩
                        rw [upd_ne k hk]; exact HNE.out k hk
                      case measure => simp [intOf]; omega
                  · have hjl0 : ¬ (j : Int) ≤ (l.length : Int) - 1 := by omega
                    go_wp2
                    go_roundw
                    case rel => exact ⟨i + 1, ρ, by go_num, hil, HA3, st2_step HP.out HS2.out HNE.out (by rw [HEQ.out]; exact HSI.out c hc1 hc2)⟩
                    case measure => simp [intOf]; omega
          | false =>
            rw [hpar] at c1
            have c0 := hseg.con
            have c7 := hseg.last
            have c8 := hseg.slash
            have c8f : wr.frozen? ⟨gs i, 8, none⟩ = false := blk_frozen hseg 8
            have hcon := (hb.1.con hpar).1
            have hsz := hb.1.consz
            have hpos : 1 ≤ (τ i).con.size := by
              have h1 := good_drop HG.out i
              rw [drop_part hp] at h1
              have := con_pos h1.one hpar
              rw [← hcon, bs_len] at this
              exact this
            have hlb := last_byte hcon hpos (by omega)
            have hw1 : IntKind.i64.wrap (((τ i).con.size : Int) - 1) = ((τ i).con.size : Int) - 1 := by rw [IntKind.wrap_i64]; omega
            have hp0 : (0 : Int) < ((τ i).con.size : Int) := by omega
            have hix : ∀ W : World, (Instr.index 9 (.string (τ i).con) (.int .i64 (((τ i).con.size : Int) - 1))).run Tryz.prog W = .ok (.int .u8 (((τ i).con[(τ i).con.size - 1]'(by omega)).toNat : Int)) W := fun W => by
              rw [run_index_string (P := Tryz.prog) W 9 (τ i).con .i64 _ Tryz.underlying9, dif_pos ⟨by omega, by omega⟩]
              simp
            have hsl := hb.1.slash
            have HSI : ∀ b : Bool, (b = true ↔ MayEnd p (l.drop (i + 1))) → SegIs p (l.drop (i + 1)) { τ i with slash := b } := fun b h => segIs_const hpar hb.1 h
            have HSI' := Lib.hid HSI
            have HSL := Lib.hid hsl
            have HP := Lib.hid hp
            have HLAST := Lib.hid hb.1.last
            clear HSI hsl hb hcon
            by_cases h47 : (τ i).con[(τ i).con.size - 1]'(by omega) = 47
            · have hq : (((τ i).con[(τ i).con.size - 1]'(by omega)).toNat : Int) == 47 := by rw [beq_iff_eq, h47]; rfl
              rw [h47] at hlb
              have HLB := Lib.hid hlb
              clear hlb h47
              cases hla : (τ i).last with
              | true =>
                rw [hla] at c7
                have HT := Lib.hid (HLAST.out.1 hla)
                clear hla hseg hp
                go_wp2
                go_quiet (fail)
                go_wp2
                go_roundw
                case rel => exact ⟨i + 1, _, by go_num, hil, arr_slash (HA2.out.drewN _) hil true, st2_step HP.out HS2.out upd_ne (by rw [upd_same]; exact HSI'.out true ⟨fun _ => ⟨HLB.out, .inl HT.out⟩, fun _ => rfl⟩)⟩
                case measure => simp [intOf]; omega
              | false =>
                rw [hla] at c7
                have hnt : l.drop (i + 1) ≠ [] := fun h => by have := HLAST.out.2 h; rw [hla] at this; cases this
                have hi1 : i + 1 < l.length := by
                  rcases Nat.lt_or_ge (i + 1) l.length with h | h
                  · exact h
                  · exact absurd (List.drop_eq_nil_of_le h) hnt
                have hi1' : (i : Int) + 1 < (l.length : Int) := by omega
                obtain ⟨q, hq2⟩ : ∃ q, l[i + 1]? = some q := ⟨_, List.getElem?_eq_getElem hi1⟩
                have hcell2 := HA2.out.cell (i + 1) hi1
                have hseg2 := HA2.out.seg (i + 1) hi1
                have c6 := hseg2.opt
                have hbn := (HS2.out (i + 1) q hq2).2 (by omega)
                rw [hbn.1.opt] at c6
                have hhd : (l.drop (i + 1)).head? = some q := by rw [drop_part hq2]; rfl
                have HHD := Lib.hid hhd
                have HNT := Lib.hid hnt
                clear hla hseg hp hnt hseg2 hbn hq2 hhd
                cases hop : q.opt with
                | true =>
                  rw [hop] at c6
                  have HOP := Lib.hid hop
                  clear hop
                  go_wp2
                  go_quiet (fail)
                  go_wp2
                  go_roundw
                  case rel => exact ⟨i + 1, _, by go_num, hil, arr_slash (HA2.out.drewN _) hil true, st2_step HP.out HS2.out upd_ne (by rw [upd_same]; exact HSI'.out true ⟨fun _ => ⟨HLB.out, .inr ⟨q, HHD.out, HOP.out⟩⟩, fun _ => rfl⟩)⟩
                  case measure => simp [intOf]; omega
                | false =>
                  rw [hop] at c6
                  have HOP := Lib.hid hop
                  clear hop
                  go_wp2
                  go_quiet (fail)
                  go_wp2
                  go_roundw
                  case rel =>
                    refine ⟨i + 1, τ, by go_num, hil, HA2.out.drewN _, st2_step HP.out HS2.out (fun _ _ => rfl) ?_⟩
                    rw [← seg_slash HSL.out]
                    refine HSI'.out false ⟨(fun h => by cases h), fun h => ?_⟩
                    rcases h.2 with h | ⟨q', h1, h2⟩
                    · exact absurd h HNT.out
                    · rw [HHD.out] at h1; cases h1; rw [HOP.out] at h2; cases h2
                  case measure => simp [intOf]; omega
            · have hq : ((((τ i).con[(τ i).con.size - 1]'(by omega)).toNat : Int) == 47) = false := by
                rw [beq_eq_false_iff_ne]
                intro e
                exact h47 (UInt8.toNat_inj.1 (by show _ = 47; omega))
              have HLB := Lib.hid hlb
              have H47 := Lib.hid h47
              clear hlb h47 hseg hp
              go_wp2
              go_quiet (fail)
              go_wp2
              go_roundw
              case rel =>
                refine ⟨i + 1, τ, by go_num, hil, HA2.out.drewN _, st2_step HP.out HS2.out (fun _ _ => rfl) ?_⟩
                rw [← seg_slash HSL.out]
                refine HSI'.out false ⟨(fun h => by cases h), fun h => ?_⟩
                have := h.1
                rw [HLB.out] at this
                exact absurd (Option.some.inj this) H47.out
              case measure => simp [intOf]; omega
        · have hil0 : ¬ (i : Int) < (l.length : Int) := by omega
          go_wp2
          go_ret
          refine ⟨rfl, τ, HA2.out, fun k p hp => ?_⟩
          exact (HS2.out k p hp).1 (by have := (List.getElem?_eq_some_iff.1 hp).1; omega)
    · obtain ⟨i, rfl⟩ : ∃ i, j = i + 1 := ⟨j - 1, by omega⟩
      obtain rfl : z = (i : Int) := by omega
      have hi : i < l.length := hj
      obtain ⟨p, hp⟩ : ∃ p, l[i]? = some p := ⟨_, List.getElem?_eq_getElem hi⟩
      have hi0 : (0 : Int) ≤ (i : Int) := by omega
      have hi1 : (i : Int) < (l.length : Int) := by omega
      have hcell := HA1.out.cell i hi
      have hseg := HA1.out.seg i hi
      have hb := (HS1.out i p hp).1
      have c1 := hseg.par
      rw [hb.par] at c1
      cases hpar : p.par with
      | true =>
        rw [hpar] at c1
        have c3 := hseg.cmp
        have c3f : wr.frozen? ⟨gs i, 3, none⟩ = false := blk_frozen hseg 3
        have HP := Lib.hid hp
        have HPAR := Lib.hid hpar
        clear hp hpar hseg hb hj0 hz
        go_wp2
        go_region_with (go_at_call 31; refine (noEsc_calls cp _ HC.out.esc).mono ?_; rintro e w' ⟨rfl, rfl⟩)
        all_goals (
          go_wp2
          go_roundw
          case rel =>
            have hst := st1_param HG.out HP.out HPAR.out HS1.out HC.out
            exact ⟨i, _, cp, _, rfl, rfl, rfl, by omega, hst.2, (HA1.out.set hi (s := { σ i with cmp := cp }) (by rfl)).drew, hst.1⟩
          case measure => simp [intOf])
      | false =>
        rw [hpar] at c1
        have c0 := hseg.con
        have hcon := hb.con hpar
        have hsz := hb.consz
        have h92 := hb.con92
        have HP := Lib.hid hp
        have HPAR := Lib.hid hpar
        have HCON := Lib.hid hcon.1
        have H92 := Lib.hid h92
        clear hp hpar hseg hb hj0 hz hcon h92
        by_cases h1 : (1 : Int) < ((σ i).con.size : Int)
        · have hsz2 : (σ i).con.size ≤ 4294967290 := hsz
          go_wp2_with (go_at_call 28; refine (trim_calls (σ i).con hsz2 _).mono ?_; rintro e w' ⟨⟨r, rfl, hr⟩, ⟨nd, rfl⟩⟩)
          go_roundw
          case rel =>
            have hst := st1_const (cp := r) HP.out HPAR.out HS1.out (by
              rw [← bs_len, hr]
              have := (trimR_prefix (bs (σ i).con)).length_le
              rw [bs_len] at this; omega) (by
              rw [hr]
              intro hm
              exact H92.out ((trimR_prefix _).subset hm)) (by
              rw [hr, HCON.out]
              unfold Pl.cmp
              rw [if_pos (by rw [← HCON.out, bs_len]; omega)])
            exact ⟨i, _, r, σ, rfl, rfl, rfl, by omega, hst.2, HA1.out.drewN _, hst.1⟩
          case measure => simp [intOf]
        · go_wp2
          go_roundw
          case rel =>
            have hst := st1_const (cp := (σ i).con) HP.out HPAR.out HS1.out hsz H92.out (by
              rw [HCON.out]
              unfold Pl.cmp
              rw [if_neg (by rw [← HCON.out, bs_len]; omega)])
            exact ⟨i, _, _, σ, rfl, rfl, rfl, by omega, hst.2, HA1.out, hst.1⟩
          case measure => simp [intOf]
end Go.Proofs.YtfahabnjplnbmaaGreatDoor.Wk
