/- What the laid functions of the program that search a text come to. -/
import Derived.Test.YtfahabnjplnbmaaGreatDoorMQx3
import Derived.Test.YtfahabnjplnbmaaGreatDoorMQL
namespace Go.Proofs.YtfahabnjplnbmaaGreatDoor.QL
open Go.RowKit Go.Proofs.YtfahabnjplnbmaaGreatDoorW.PrintWords
open Go.Proofs.YtfahabnjplnbmaaGreatDoor.Pl Go.Proofs.YtfahabnjplnbmaaGreatDoor.Q
set_option linter.unusedVariables false
set_option linter.unusedSimpArgs false

/-- The first place of a byte of a kind, or -1. -/
def FI (P : UInt8 → Prop) (l : Bytes) (r : Int) : Prop :=
  (r = -1 ∧ ∀ x ∈ l, ¬ P x) ∨ ∃ i : Nat, r = (i : Int) ∧ ∃ x, l[i]? = some x ∧ P x ∧ ∀ y ∈ l.take i, ¬ P y

theorem FI.lt {P : UInt8 → Prop} {l : Bytes} {r : Int} (h : FI P l r) : -1 ≤ r ∧ r < (l.length : Int) := by
  rcases h with ⟨rfl, _⟩ | ⟨i, rfl, x, hx, _⟩
  · omega
  · have := (List.getElem?_eq_some_iff.1 hx).1
    omega

theorem index_fi (l : Bytes) (c : UInt8) : FI (· = c) l (Lib.indexByte l c) := by
  induction l with
  | nil => left; exact ⟨rfl, by simp⟩
  | cons b l ih =>
    unfold Lib.indexByte
    by_cases hb : b = c
    · right
      refine ⟨0, by simp [hb], b, rfl, hb, by simp⟩
    · have hb' : (b == c) = false := by rw [beq_eq_false_iff_ne]; exact hb
      rw [hb']
      simp only [Bool.false_eq_true, if_false]
      rcases ih with ⟨hr, hn⟩ | ⟨i, hr, x, hx, hxc, hn⟩
      · left
        refine ⟨by rw [hr]; rfl, ?_⟩
        intro y hy
        rcases List.mem_cons.1 hy with rfl | hy
        · exact hb
        · exact hn y hy
      · right
        have hne : (Lib.indexByte l c == -1) = false := by rw [beq_eq_false_iff_ne, hr]; omega
        refine ⟨i + 1, by rw [hne]; simp [hr], x, by simpa using hx, hxc, ?_⟩
        intro y hy
        rw [List.take_succ_cons] at hy
        rcases List.mem_cons.1 hy with rfl | hy
        · exact hb
        · exact hn y hy

theorem FI.congr {P Q : UInt8 → Prop} {l : Bytes} {r : Int} (h : FI P l r) (e : ∀ x, P x ↔ Q x) : FI Q l r := by
  have : P = Q := funext fun x => propext (e x)
  rw [← this]; exact h

/-- The nearer of two places. -/
theorem FI.min {P Q : UInt8 → Prop} {l : Bytes} {a b : Int} (ha : FI P l a) (hb : FI Q l b) :
    FI (fun x => P x ∨ Q x) l (if b = -1 then a else if b < a then b else if a = -1 then b else a) := by
  rcases hb with ⟨rfl, hb⟩ | ⟨j, rfl, y, hy, hyq, hb⟩
  · rw [if_pos rfl]
    rcases ha with ⟨rfl, ha⟩ | ⟨i, rfl, x, hx, hxp, ha⟩
    · left; exact ⟨rfl, fun x hx h => h.elim (ha x hx) (hb x hx)⟩
    · right; exact ⟨i, rfl, x, hx, .inl hxp, fun y hy h => h.elim (ha y hy) (hb y (List.mem_of_mem_take hy))⟩
  · rw [if_neg (by omega)]
    rcases ha with ⟨rfl, ha⟩ | ⟨i, rfl, x, hx, hxp, ha⟩
    · rw [if_neg (by omega), if_pos rfl]
      right; exact ⟨j, rfl, y, hy, .inr hyq, fun z hz h => h.elim (ha z (List.mem_of_mem_take hz)) (hb z hz)⟩
    · by_cases hlt : (j : Int) < (i : Int)
      · rw [if_pos hlt]
        right
        refine ⟨j, rfl, y, hy, .inr hyq, fun z hz h => h.elim (ha z ?_) (hb z hz)⟩
        exact List.take_subset_take_left _ (by omega) hz
      · rw [if_neg hlt, if_neg (by omega)]
        right
        refine ⟨i, rfl, x, hx, .inl hxp, fun z hz h => h.elim (ha z hz) (hb z ?_)⟩
        exact List.take_subset_take_left _ (by omega) hz

/-- A set of bytes, as numbers. -/
def nums (cs : Bytes) : List Int := cs.map fun c => (c.toNat : Int)
theorem nums_len (cs : Bytes) : (nums cs).length = cs.length := by simp [nums]
theorem rd_nums (cs : Bytes) (i : Nat) (h : i < cs.length) : rd (nums cs) (i : Int) = (cs[i].toNat : Int) := by
  unfold rd nums
  simp [h]
theorem u8_back (c : UInt8) : ((c.toNat : Int)).toNat.toUInt8 = c := by simp

theorem nextCs_l0 (s : ByteArray) (hs : s.size ≤ 4294967290) (cs : Bytes) (hc : cs.length ≤ 1000) : ∀ (m i : Nat), i ≤ cs.length → cs.length - i = m → ∀ a : Int, FI (· ∈ cs.take i) (bs s) a →
    ∃ r : Int, Ev (fun k => fiberpath_findNextCharsetPosition.l0 k s a (nums cs) ((nums cs).length : Int) (i : Int)) r ∧ FI (· ∈ cs) (bs s) r := by
  intro m
  induction m with
  | zero =>
    intro i hi hm a ha
    have : i = cs.length := by omega
    subst this
    refine ⟨a, Ev.step (f := fun _ => some a) (fun k => ?_) (Ev.now _), by rw [List.take_length] at ha; exact ha⟩
    simp only [fiberpath_findNextCharsetPosition.l0]
    rw [if_neg (by rw [nums_len]; omega)]
  | succ m ih =>
    intro i hi hm a ha
    have hil : i < cs.length := by omega
    have hb := index_fi (bs s) cs[i]
    have hmin := (ha.min hb).congr (Q := (· ∈ cs.take (i + 1))) (fun x => by
      rw [List.take_succ_eq_append_getElem hil, List.mem_append, List.mem_singleton])
    obtain ⟨r, hr, hri⟩ := ih (i + 1) (by omega) (by omega) _ hmin
    refine ⟨r, Ev.step (fun k => ?_) hr, hri⟩
    simp only [fiberpath_findNextCharsetPosition.l0]
    rw [if_pos (by rw [nums_len]; omega), if_pos (by omega), if_pos (by rw [nums_len]; omega), rd_nums cs i hil, w_succ i (by omega)]
    simp only [strings_IndexByte.f, Option.bind_some, u8_back]
    generalize Lib.indexByte s.data.toList cs[i] = b
    by_cases h1 : b = -1
    · rw [if_pos h1, if_pos h1]
    · rw [if_neg h1, if_neg h1]
      by_cases h2 : b < a
      · rw [if_pos h2, if_pos h2]
      · rw [if_neg h2, if_neg h2]
        by_cases h3 : a = -1
        · rw [if_pos h3, if_pos h3]
        · rw [if_neg h3, if_neg h3]

theorem nextCs_ev (s : ByteArray) (hs : s.size ≤ 4294967290) (cs : Bytes) (hc : cs.length ≤ 1000) :
    ∃ r : Int, Ev (fun k => fiberpath_findNextCharsetPosition.f k s (nums cs)) r ∧ FI (· ∈ cs) (bs s) r := by
  have := nextCs_l0 s hs cs hc cs.length 0 (by omega) (by omega) (-1) (.inl ⟨rfl, by simp⟩)
  simpa [fiberpath_findNextCharsetPosition.f] using this

theorem bt_ne_92 (s : ByteArray) (h : 92 ∉ bs s) (i : Nat) (hi : i < s.size) : bt s (i : Int) ≠ 92 := by
  intro e
  have := (bt_is s i hi 92).1 e
  exact h (List.mem_of_getElem? this)

theorem nonEsc_ev (s : ByteArray) (hs : s.size ≤ 4294967290) (h92 : 92 ∉ bs s) (cs : Bytes) (hc : cs.length ≤ 1000) :
    ∃ r : Int, Ev (fun k => fiberpath_findNextNonEscapedCharsetPosition.f k s (nums cs)) r ∧ FI (· ∈ cs) (bs s) r := by
  obtain ⟨r, hr, hri⟩ := nextCs_ev s hs cs hc
  refine ⟨r, Ev.bind hr ?_, hri⟩
  have hlt := hri.lt
  rw [bs_len] at hlt
  have hj : Ev (fun k => fiberpath_findNextNonEscapedCharsetPosition.j1 k s (nums cs) r false) r :=
    Ev.step (f := fun _ => some r) (fun k => by simp only [fiberpath_findNextNonEscapedCharsetPosition.j1]; rw [if_neg (by decide)]) (Ev.now r)
  refine Ev.step (fun k => ?_) hj
  simp only [fiberpath_findNextNonEscapedCharsetPosition.l0]
  by_cases hp : r > 0
  · obtain ⟨n, rfl⟩ : ∃ n : Nat, r = (n : Int) := ⟨r.toNat, by omega⟩
    rw [if_pos hp, w_pred n (by omega) (by omega), if_pos (by omega), if_pos (by omega)]
    have : (bt s ((n - 1 : Nat) : Int) == 92) = false := by rw [beq_eq_false_iff_ne]; exact bt_ne_92 s h92 _ (by omega)
    rw [this]
  · rw [if_neg hp]

theorem startChars : fiberpath_parameterStartChars.f = some (nums [42, 43, 58]) := rfl
theorem endChars : fiberpath_parameterEndChars.f = some (nums [63, 58, 92, 47, 45, 46]) := by
  unfold fiberpath_parameterEndChars.f fiberpath_parameterDelimiterChars.f fiberpath_routeDelimiter.f
  simp [nums]
theorem delimChars : fiberpath_parameterDelimiterChars.f = some (nums [58, 92, 47, 45, 46]) := by
  unfold fiberpath_parameterDelimiterChars.f fiberpath_routeDelimiter.f
  simp [nums]
theorem ltChars : fiberpath_parameterConstraintStartChars.f = some (nums [60]) := rfl
theorem gtChars : fiberpath_parameterConstraintEndChars.f = some (nums [62]) := rfl

/-- The next parameter's place: where no parameter's sign stands right behind another one's. -/
theorem nextParam_ev (s : ByteArray) (hs : s.size ≤ 4294967290) (h92 : 92 ∉ bs s) (r : Int) (hr : FI (· ∈ ([42, 43, 58] : Bytes)) (bs s) r)
    (hnext : ∀ i : Nat, r = (i : Int) → (bs s)[i]? ≠ some 42 → ∀ x, (bs s)[i + 1]? = some x → x ∉ ([42, 43, 58] : Bytes)) :
    Ev (fun k => fiberpath_findNextParamPosition.f k s) r := by
  obtain ⟨r1, hr1, hri1⟩ := nonEsc_ev s hs h92 [42, 43, 58] (by decide)
  have hre : r1 = r := by
    rcases hri1 with ⟨rfl, h1⟩ | ⟨i, rfl, x, hx, hxp, h1⟩ <;> rcases hr with ⟨rfl, h2⟩ | ⟨j, rfl, y, hy, hyp, h2⟩
    · rfl
    · exact absurd hyp (h1 y (List.mem_of_getElem? hy))
    · exact absurd hxp (h2 x (List.mem_of_getElem? hx))
    · rcases Nat.lt_trichotomy i j with h | h | h
      · exact absurd hxp (h2 x (mem_take_of_get hx h))
      · rw [h]
      · exact absurd hyp (h1 y (mem_take_of_get hy h))
  subst hre
  have hlt := hr.lt
  rw [bs_len] at hlt
  have hjf : Ev (fun k => fiberpath_findNextParamPosition.j0 k s r1 false) r1 :=
    Ev.step (f := fun _ => some r1) (fun k => by simp only [fiberpath_findNextParamPosition.j0]; rw [if_neg (by decide)]) (Ev.now r1)
  refine Ev.congr (f := fun k => (fiberpath_findNextNonEscapedCharsetPosition.f k s (nums [42, 43, 58])).bind fun t111 => (if t111 = (-1) then (fiberpath_findNextParamPosition.j0 k s t111 false) else (if (s.size : Int) > t111 then (if 0 ≤ t111 then (if t111 < (s.size : Int) then (fiberpath_findNextParamPosition.j0 k s t111 ((bt s t111) != 42)) else (none)) else (none)) else (fiberpath_findNextParamPosition.j0 k s t111 false)))) (fun k => by unfold fiberpath_findNextParamPosition.f; rw [startChars]; rfl) ?_
  refine Ev.bind hr1 ?_
  by_cases hm1 : r1 = -1
  · rw [show (fun n => if r1 = -1 then fiberpath_findNextParamPosition.j0 n s r1 false else _) = fun n => fiberpath_findNextParamPosition.j0 n s r1 false from funext fun n => if_pos hm1]
    exact hjf
  · obtain ⟨i, rfl⟩ : ∃ i : Nat, r1 = (i : Int) := ⟨r1.toNat, by omega⟩
    refine Ev.congr (f := fun k => fiberpath_findNextParamPosition.j0 k s (i : Int) (bt s (i : Int) != 42)) (fun k => by rw [if_neg hm1, if_pos (by omega), if_pos (by omega), if_pos (by omega)]) ?_
    by_cases h42 : bt s (i : Int) = 42
    · have : (bt s (i : Int) != 42) = false := by rw [bne_eq_false_iff_eq]; exact h42
      rw [this]; exact hjf
    · have : (bt s (i : Int) != 42) = true := by rw [bne_iff_ne]; exact h42
      rw [this]
      have hn42 : (bs s)[i]? ≠ some 42 := fun e => h42 ((bt_is s i (by omega) 42).2 e)
      obtain ⟨q, hq, hqi⟩ := nonEsc_ev (s.extract (i + 1) s.size) (by rw [sz_from]; omega) (by rw [bs_from]; intro e; exact h92 (List.mem_of_mem_drop e)) [42, 43, 58] (by decide)
      rw [bs_from] at hqi
      have hq0 : q ≠ 0 := by
        intro e
        subst e
        rcases hqi with ⟨h, _⟩ | ⟨j, h, x, hx, hxp, _⟩
        · omega
        · have : j = 0 := by omega
          subst this
          rw [List.getElem?_drop] at hx
          exact hnext i rfl hn42 x hx hxp
      refine Ev.step (f := fun k => (fiberpath_findNextNonEscapedCharsetPosition.f k (s.extract (i + 1) s.size) (nums [42, 43, 58])).bind fun t115 => fiberpath_findNextParamPosition.l0 k s (i : Int) t115) (fun k => ?_) (Ev.bind hq ?_)
      · simp only [fiberpath_findNextParamPosition.j0, if_true]
        rw [w_succ i (by omega), if_pos (by omega), if_pos (by omega), startChars]
        rfl
      · exact Ev.step (f := fun _ => some (i : Int)) (fun k => by simp only [fiberpath_findNextParamPosition.l0]; rw [if_neg hq0]) (Ev.now _)

theorem inCharset_l0 (c : UInt8) (cs : Bytes) (hc : cs.length ≤ 1000) : ∀ (m i : Nat), i ≤ cs.length → cs.length - i = m →
    ∃ r : Bool, Ev (fun k => fiberpath_isInCharset.l0 k (c.toNat : Int) (nums cs) ((nums cs).length : Int) (i : Int)) r ∧ (r = true ↔ c ∈ cs.drop i) := by
  intro m
  induction m with
  | zero =>
    intro i hi hm
    refine ⟨false, Ev.step (f := fun _ => some false) (fun k => ?_) (Ev.now _), ?_⟩
    · simp only [fiberpath_isInCharset.l0]; rw [if_neg (by rw [nums_len]; omega)]
    · have : i = cs.length := by omega
      rw [this, List.drop_length]; simp
  | succ m ih =>
    intro i hi hm
    have hil : i < cs.length := by omega
    have hd : cs.drop i = cs[i] :: cs.drop (i + 1) := List.drop_eq_getElem_cons hil
    obtain ⟨r, hr, hri⟩ := ih (i + 1) (by omega) (by omega)
    by_cases he : cs[i] = c
    · refine ⟨true, Ev.step (f := fun _ => some true) (fun k => ?_) (Ev.now _), by rw [hd, he]; simp⟩
      simp only [fiberpath_isInCharset.l0]
      rw [if_pos (by rw [nums_len]; omega), if_pos (by omega), if_pos (by rw [nums_len]; omega), rd_nums cs i hil, if_pos (by rw [he])]
    · refine ⟨r, Ev.step (fun k => ?_) hr, ?_⟩
      · simp only [fiberpath_isInCharset.l0]
        rw [if_pos (by rw [nums_len]; omega), if_pos (by omega), if_pos (by rw [nums_len]; omega), rd_nums cs i hil, if_neg (fun e => he (UInt8.toNat_inj.1 (by omega))), w_succ i (by omega)]
      · rw [hri, hd, List.mem_cons]
        constructor
        · exact .inr
        · rintro (e | e)
          · exact absurd e.symm he
          · exact e

theorem inCharset_ev (c : UInt8) (cs : Bytes) (hc : cs.length ≤ 1000) :
    ∃ r : Bool, Ev (fun k => fiberpath_isInCharset.f k (c.toNat : Int) (nums cs)) r ∧ (r = true ↔ c ∈ cs) := by
  have := inCharset_l0 c cs hc cs.length 0 (by omega) (by omega)
  simpa [fiberpath_isInCharset.f] using this

theorem lastByte_none (s : ByteArray) (hs : s.size ≤ 4294967290) (c : UInt8) (hc : c ∉ bs s) : Ev (fun k => strings_LastIndexByte.f k s (c.toNat : Int)) (-1) := by
  have h0 : ∀ (n : Nat), n ≤ s.size → Ev (fun k => bytealg_LastIndexByteString.l0 k s (c.toNat : Int) ((n : Int) - 1)) (-1) := by
    intro n
    induction n with
    | zero => intro _; exact Ev.step (f := fun _ => some (-1)) (fun k => by simp only [bytealg_LastIndexByteString.l0]; rw [if_neg (by omega)]) (Ev.now _)
    | succ n ih =>
      intro hn
      refine Ev.step (fun k => ?_) (ih (by omega))
      simp only [bytealg_LastIndexByteString.l0]
      have e : ((n + 1 : Nat) : Int) - 1 = (n : Int) := by omega
      rw [e, if_pos (by omega), if_pos (by omega), if_pos (by omega), if_neg (fun h => hc (List.mem_of_getElem? ((bt_is s n (by omega) c).1 h)))]
      rw [show wrap64 ((n : Int) - 1) = (n : Int) - 1 from by unfold wrap64; omega]
  refine Ev.bind (f := fun _ t => some t) ?_ (Ev.now (-1))
  refine Ev.congr (fun k => ?_) (h0 s.size (Nat.le_refl _))
  unfold bytealg_LastIndexByteString.f
  rw [show wrap64 ((s.size : Int) - 1) = (s.size : Int) - 1 from by unfold wrap64; omega]

theorem lastCs_none (s : ByteArray) (hs : s.size ≤ 4294967290) (h : 62 ∉ bs s) : Ev (fun k => fiberpath_findLastCharsetPosition.f k s (nums [62])) (-1) := by
  refine Ev.step (f := fun k => (strings_LastIndexByte.f k s 62).bind fun t151 => (if t151 = (-1) then (fiberpath_findLastCharsetPosition.l0 k s (-1) (nums [62]) 1 1) else (if t151 < -1 then (fiberpath_findLastCharsetPosition.l0 k s t151 (nums [62]) 1 1) else (if (-1 : Int) = (-1) then (fiberpath_findLastCharsetPosition.l0 k s t151 (nums [62]) 1 1) else (fiberpath_findLastCharsetPosition.l0 k s (-1) (nums [62]) 1 1))))) (fun k => ?_) (Ev.bind (lastByte_none s hs 62 h) ?_)
  · show fiberpath_findLastCharsetPosition.l0 (k + 1) s (-1) (nums [62]) 1 0 = _
    simp only [fiberpath_findLastCharsetPosition.l0]
    rw [if_pos (by decide), if_pos (by decide), if_pos (by decide)]
    have e1 : rd (nums [62]) 0 = 62 := rfl
    have e2 : wrap64 (0 + 1) = 1 := by unfold wrap64; omega
    rw [e1, e2]
  · simp only [if_true]
    exact Ev.step (f := fun _ => some (-1)) (fun k => rfl) (Ev.now _)

theorem noEsc_ev (s : ByteArray) (h : 92 ∉ bs s) : Ev (fun k => fiberpath_RemoveEscapeChar.f k s) s := by
  have hi := index_fi (bs s) 92
  have : Lib.indexByte (bs s) 92 = -1 := by
    rcases hi with ⟨h1, _⟩ | ⟨i, _, x, hx, rfl, _⟩
    · exact h1
    · exact absurd (List.mem_of_getElem? hx) h
  refine Ev.congr (f := fun _ => some s) (fun k => ?_) (Ev.now s)
  unfold fiberpath_RemoveEscapeChar.f
  have h2 : strings_IndexByte.f s 92 = some (-1) := by unfold strings_IndexByte.f; exact congrArg some this
  rw [h2]
  rfl

/-- A text without the slashes at its end. -/
theorem trimRight_l0 (s : ByteArray) (hs : s.size ≤ 4294967290) : ∀ n : Nat, n ≤ s.size → ∃ r : ByteArray, Ev (fun k => fiberutils_TrimRight.l0 k s 47 (n : Int)) r ∧ bs r = trimR ((bs s).take n) := by
  intro n
  induction n with
  | zero =>
    intro _
    refine ⟨s.extract 0 0, Ev.step (f := fun _ => some (s.extract 0 0)) (fun k => ?_) (Ev.now _), by rw [bs_to]; simp [trimR]⟩
    simp only [fiberutils_TrimRight.l0]
    rw [if_neg (by omega), if_pos (by omega), if_pos (by omega)]
    rfl
  | succ n ih =>
    intro hn
    have hl : n < (bs s).length := by rw [bs_len]; omega
    have htk : (bs s).take (n + 1) = (bs s).take n ++ [(bs s)[n]] := List.take_succ_eq_append_getElem hl
    have e : ((n + 1 : Nat) : Int) - 1 = (n : Int) := by omega
    have ew : wrap64 (((n + 1 : Nat) : Int) - 1) = (n : Int) := by rw [w_pred _ (by omega) (by omega)]; rfl
    by_cases h47 : bt s (n : Int) = 47
    · obtain ⟨r, hr, hrb⟩ := ih (by omega)
      refine ⟨r, Ev.step (fun k => ?_) hr, ?_⟩
      · simp only [fiberutils_TrimRight.l0]
        rw [if_pos (by omega), ew, if_pos (by omega), if_pos (by omega), if_pos h47]
      · have := (bt_47 s n (by omega)).1 h47
        rw [List.getElem?_eq_getElem hl, Option.some.injEq] at this
        rw [hrb, htk, this]
        simp [trimR]
    · refine ⟨s.extract 0 (n + 1), Ev.step (f := fun _ => some (s.extract 0 (n + 1))) (fun k => ?_) (Ev.now _), ?_⟩
      · simp only [fiberutils_TrimRight.l0]
        rw [if_pos (by omega), ew, if_pos (by omega), if_pos (by omega), if_neg h47, if_pos (by omega), if_pos (by omega)]
        rfl
      · rw [bs_to, htk]
        have hne : ((bs s)[n] == 47) = false := by
          rw [beq_eq_false_iff_ne]
          intro e2
          exact h47 ((bt_47 s n (by omega)).2 (by rw [List.getElem?_eq_getElem hl, e2]))
        unfold trimR
        rw [List.reverse_append, List.reverse_singleton, List.singleton_append, List.dropWhile_cons_of_neg (by rw [hne]; decide), List.reverse_cons, List.reverse_reverse]

theorem trimRight_ev (s : ByteArray) (hs : s.size ≤ 4294967290) : ∃ r : ByteArray, Ev (fun k => fiberutils_TrimRight.f k s 47) r ∧ bs r = trimR (bs s) := by
  obtain ⟨r, hr, hb⟩ := trimRight_l0 s hs s.size (Nat.le_refl _)
  refine ⟨r, hr, ?_⟩
  rw [hb, ← bs_len, List.take_length]

/-- The bytes at a place are a text's. -/
theorem ext_eq (s b : ByteArray) (j : Nat) (h : j + b.size ≤ s.size) : (s.extract j (j + b.size)).toList = b.toList ↔ bs b <+: (bs s).drop j := by
  rw [tl, tl, bs_ext, show j + b.size - j = b.size from by omega, ← bs_len b, List.prefix_iff_eq_take]
  exact eq_comm

theorem zzIndex_l0 (s b : ByteArray) (hs : s.size ≤ 4294967290) (hb : b.size ≤ 4294967290) : ∀ (m j : Nat), s.size + 1 - j = m → j ≤ s.size + 1 → (∀ i, i < j → ¬ bs b <+: (bs s).drop i) →
    ∃ r : Int, Ev (fun k => fiberpath_zzIndex.l0 k s b (j : Int)) r ∧ ((r = -1 ∧ ∀ k, ¬ bs b <+: (bs s).drop k ∨ s.size < k) ∨ ∃ k : Nat, r = (k : Int) ∧ k ≤ s.size ∧ FirstAt (bs b) (bs s) k) := by
  intro m
  have hw : ∀ j : Nat, j ≤ s.size + 1 → wrap64 ((j : Int) + (b.size : Int)) = ((j + b.size : Nat) : Int) := fun j hj => by unfold wrap64; omega
  induction m with
  | zero =>
    intro j hm hj hno
    refine ⟨-1, Ev.step (f := fun _ => some (-1)) (fun k => ?_) (Ev.now _), .inl ⟨rfl, fun k => ?_⟩⟩
    · simp only [fiberpath_zzIndex.l0]
      rw [hw j hj, if_neg (by omega)]
    · by_cases h : k < j
      · exact .inl (hno k h)
      · right; omega
  | succ m ih =>
    intro j hm hj hno
    by_cases hlt : j + b.size ≤ s.size
    · by_cases heq : bs b <+: (bs s).drop j
      · refine ⟨(j : Int), Ev.step (f := fun _ => some (j : Int)) (fun k => ?_) (Ev.now _), .inr ⟨j, rfl, by omega, heq, hno⟩⟩
        simp only [fiberpath_zzIndex.l0]
        rw [hw j hj, if_pos (by omega), if_pos (by omega), if_pos (by omega), if_pos (by exact (ext_eq s b j hlt).2 heq)]
      · obtain ⟨r, hr, hri⟩ := ih (j + 1) (by omega) (by omega) (fun i hi => by
          by_cases e : i = j
          · subst e; exact heq
          · exact hno i (by omega))
        refine ⟨r, Ev.step (fun k => ?_) hr, hri⟩
        simp only [fiberpath_zzIndex.l0]
        rw [hw j hj, if_pos (by omega), if_pos (by omega), if_pos (by omega), if_neg (by exact fun e => heq ((ext_eq s b j hlt).1 e)), w_succ j (by omega)]
    · refine ⟨-1, Ev.step (f := fun _ => some (-1)) (fun k => ?_) (Ev.now _), .inl ⟨rfl, fun k => ?_⟩⟩
      · simp only [fiberpath_zzIndex.l0]
        rw [hw j hj, if_neg (by omega)]
      · by_cases h : k < j
        · exact .inl (hno k h)
        · by_cases h2 : s.size < k
          · exact .inr h2
          · left
            intro hp
            have := hp.length_le
            rw [List.length_drop, bs_len, bs_len] at this
            omega

theorem zzIndex_ev (s b : ByteArray) (hs : s.size ≤ 4294967290) (hb : b.size ≤ 4294967290) :
    ∃ r : Int, Ev (fun k => fiberpath_zzIndex.f k s b) r ∧ ((r = -1 ∧ (1 ≤ b.size → ∀ k, ¬ bs b <+: (bs s).drop k)) ∨ ∃ k : Nat, r = (k : Int) ∧ k ≤ s.size ∧ FirstAt (bs b) (bs s) k) := by
  obtain ⟨r, hr, hri⟩ := zzIndex_l0 s b hs hb (s.size + 1) 0 (by omega) (by omega) (fun i hi => by omega)
  refine ⟨r, hr, ?_⟩
  rcases hri with ⟨h1, h2⟩ | h
  · left
    refine ⟨h1, fun hb1 k => ?_⟩
    rcases h2 k with h | h
    · exact h
    · intro hp
      have := hp.length_le
      rw [List.length_drop, bs_len, bs_len] at this
      omega
  · exact .inr h

theorem zzLastIndex_l0 (s b : ByteArray) (hs : s.size ≤ 4294967290) (hb : b.size ≤ 4294967290) : ∀ n : Nat, n ≤ s.size + 1 → n + b.size ≤ s.size + 1 →
    ∃ r : Int, Ev (fun k => fiberpath_zzLastIndex.l0 k s b ((n : Int) - 1)) r ∧ -1 ≤ r ∧ r ≤ (s.size : Int) := by
  intro n
  induction n with
  | zero =>
    intro _ _
    refine ⟨-1, Ev.step (f := fun _ => some (-1)) (fun k => ?_) (Ev.now _), by omega, by omega⟩
    simp only [fiberpath_zzLastIndex.l0]
    rw [if_neg (by omega)]
  | succ n ih =>
    intro hn hnb
    obtain ⟨r, hr, h1, h2⟩ := ih (by omega) (by omega)
    have e : ((n + 1 : Nat) : Int) - 1 = (n : Int) := by omega
    rw [show (fun k => fiberpath_zzLastIndex.l0 k s b (((n + 1 : Nat) : Int) - 1)) = fun k => fiberpath_zzLastIndex.l0 k s b (n : Int) from by rw [e]]
    have hw : wrap64 ((n : Int) + (b.size : Int)) = ((n + b.size : Nat) : Int) := by unfold wrap64; omega
    by_cases heq : (s.extract n (n + b.size)).toList = b.toList
    · refine ⟨(n : Int), Ev.step (f := fun _ => some (n : Int)) (fun k => ?_) (Ev.now _), by omega, by omega⟩
      simp only [fiberpath_zzLastIndex.l0]
      rw [hw, if_pos (by omega), if_pos (by omega), if_pos (by omega), if_pos (by omega), if_pos (by exact heq)]
    · refine ⟨r, Ev.step (fun k => ?_) hr, h1, h2⟩
      simp only [fiberpath_zzLastIndex.l0]
      rw [hw, if_pos (by omega), if_pos (by omega), if_pos (by omega), if_pos (by omega), if_neg (by exact heq)]
      rw [show wrap64 ((n : Int) - 1) = (n : Int) - 1 from by unfold wrap64; omega]

theorem zzLastIndex_ev (s b : ByteArray) (hs : s.size ≤ 4294967290) (hb : b.size ≤ 4294967290) :
    ∃ r : Int, Ev (fun k => fiberpath_zzLastIndex.f k s b) r ∧ -1 ≤ r ∧ r ≤ (s.size : Int) := by
  by_cases h : b.size ≤ s.size
  · obtain ⟨r, hr, h1, h2⟩ := zzLastIndex_l0 s b hs hb (s.size - b.size + 1) (by omega) (by omega)
    refine ⟨r, Ev.congr (fun k => ?_) hr, h1, h2⟩
    unfold fiberpath_zzLastIndex.f
    congr 1
    unfold wrap64; omega
  · refine ⟨-1, Ev.step (f := fun _ => some (-1)) (fun k => ?_) (Ev.now _), by omega, by omega⟩
    unfold fiberpath_zzLastIndex.f
    simp only [fiberpath_zzLastIndex.l0]
    rw [if_neg (by unfold wrap64; omega)]
end Go.Proofs.YtfahabnjplnbmaaGreatDoor.QL
