/- What the laid function of the reference's Holds comes to, in the words of the plain law. -/
import Derived.Test.YtfahabnjplnbmaaGreatDoorVQx10
import Derived.Test.YtfahabnjplnbmaaGreatDoorVQL
namespace Go.Proofs.YtfahabnjplnbmaaGreatDoor.QL
open Go.RowKit Go.Proofs.YtfahabnjplnbmaaGreatDoorW.PrintWords
open Go.Proofs.YtfahabnjplnbmaaGreatDoor.Pl Go.Proofs.YtfahabnjplnbmaaGreatDoor.Q
set_option linter.unusedVariables false
set_option linter.unusedSimpArgs false

theorem holds_l0 {L : List S42} {l : List Part} (h : All L l) (hl : l.length ≤ 99999) (hcl : ∀ p ∈ l, p.con.length ≤ 4294967290) (V : List ByteArray) (hV : ∀ v ∈ V, v.size ≤ 4294967290) (hVl : V.length ≤ 99999) (part : Bool) :
    ∀ (m i : Nat), i ≤ l.length → l.length - i = m → ∀ (kk : Nat), kk ≤ V.length → ∀ s : ByteArray, s.size ≤ 4294967290 →
    ∃ r : Bool, Ev (fun k => spec_Holds.l0 k L V s part (kk : Int) L (L.length : Int) (i : Int)) r ∧ (r = true ↔ Hold (l.drop i) ((V.drop kk).map bs) (bs s) part) := by
  have hlen := h.len
  intro m
  induction m with
  | zero =>
    intro i hi hm kk hk s hs
    have : i = l.length := by omega
    subst this
    rw [List.drop_length]
    by_cases hkl : kk = V.length
    · have hd : V.drop kk = [] := by rw [hkl, List.drop_length]
      rw [hd]
      cases part with
      | true => exact ⟨true, Ev.step (f := fun _ => some true) (fun k => by simp only [spec_Holds.l0]; rw [if_neg (by omega), if_pos (by omega)]; rfl) (Ev.now _), by simp [Hold]⟩
      | false =>
        refine ⟨s.toList == [], Ev.step (f := fun _ => some (s.toList == [])) (fun k => ?_) (Ev.now _), ?_⟩
        · simp only [spec_Holds.l0]; rw [if_neg (by omega), if_pos (by omega), if_neg (by decide)]
        · rw [tl]; simp [Hold]
    · refine ⟨false, Ev.step (f := fun _ => some false) (fun k => by simp only [spec_Holds.l0]; rw [if_neg (by omega), if_neg (by omega)]) (Ev.now _), ?_⟩
      simp only [Bool.false_eq_true, false_iff]
      rintro ⟨hv, _⟩
      have := congrArg List.length hv
      simp at this; omega
  | succ m ihm =>
    intro i hi hm kk hk s hs
    have hil : i < l.length := by omega
    have hget : l[i]? = some l[i] := List.getElem?_eq_getElem hil
    obtain ⟨x, hx, his⟩ := h.get hget
    have hdrop : l.drop i = l[i] :: l.drop (i + 1) := List.drop_eq_getElem_cons hil
    rw [hdrop]
    generalize hpe : l[i] = p at *
    have hcp : p.con.length ≤ 4294967290 := hcl p (by rw [← hpe]; exact List.getElem_mem _)
    have ih := ihm (i + 1) (by omega) (by omega)
    clear ihm
    cases hpar : p.par with
    | true =>
      have hf2 : x.f2 = true := by rw [his.par, hpar]
      by_cases hkl : kk = V.length
      · refine ⟨false, Ev.step (f := fun _ => some false) (fun k => ?_) (Ev.now _), ?_⟩
        · simp only [spec_Holds.l0]; rw [if_pos (by omega), if_pos (by omega), if_pos (by omega), rd_of hx, if_pos hf2, if_pos (by omega)]
        · simp only [Bool.false_eq_true, false_iff]
          rintro (⟨_, v, vs, hv, _⟩ | ⟨h1, _⟩)
          · rw [hkl, List.drop_length] at hv; cases hv
          · rw [hpar] at h1; cases h1
      · have hkv : kk < V.length := by omega
        have hrd : rdOf ByteArray.empty V (kk : Int) = V[kk] := by unfold rdOf; simp [hkv]
        have hdv : V.drop kk = V[kk] :: V.drop (kk + 1) := List.drop_eq_getElem_cons hkv
        have hvs : V[kk].size ≤ 4294967290 := hV _ (List.getElem_mem _)
        generalize hve : V[kk] = v at *
        obtain ⟨a, ha, hai⟩ := within_ev his v hvs
        have hstep : ∀ k, spec_Holds.l0 (k + 1) L V s part (kk : Int) L (L.length : Int) (i : Int) = (spec_within.f k x.f0 x.f1 x.f2 x.f3 x.f4 x.f5 v).bind fun t => if t = true then (if bs v <+: bs s then spec_Holds.l0 k L V (s.extract v.size s.size) part ((kk + 1 : Nat) : Int) L (L.length : Int) ((i + 1 : Nat) : Int) else some false) else some false := by
          intro k
          simp only [spec_Holds.l0]
          rw [if_pos (by omega), if_pos (by omega), if_pos (by omega), rd_of hx, if_pos hf2, if_neg (by omega), if_pos (by omega), if_pos (by omega), hrd]
          congr 1
          funext t
          by_cases ht : t = true
          · rw [if_pos ht, if_pos ht, begins_iff]
            simp only [Option.bind_some]
            by_cases hpre : bs v <+: bs s
            · have hle : v.size ≤ s.size := by have := hpre.length_le; rwa [bs_len, bs_len] at this
              rw [if_pos (by simpa using hpre), if_pos (by omega), if_pos (by omega), w_succ kk (by omega), w_succ i (by omega), if_pos hpre]
              rfl
            · rw [if_neg (by simpa using hpre), if_neg hpre]
          · rw [if_neg ht, if_neg ht]
        cases a with
        | false =>
          refine ⟨false, Ev.step hstep (Ev.bind ha ?_), ?_⟩
          · simp only [Bool.false_eq_true, if_false]; exact Ev.now _
          · simp only [Bool.false_eq_true, false_iff]
            rw [hdv]
            rintro (⟨_, v', vs, hv, hw, _⟩ | ⟨h1, _⟩)
            · simp only [List.map_cons, List.cons.injEq] at hv
              rw [← hv.1] at hw
              have := hai.2 hw
              cases this
            · rw [hpar] at h1; cases h1
        | true =>
          by_cases hpre : bs v <+: bs s
          · obtain ⟨r, hr, hri⟩ := ih (kk + 1) (by omega) (s.extract v.size s.size) (by rw [sz_from]; omega)
            refine ⟨r, Ev.step hstep (Ev.bind ha ?_), ?_⟩
            · simp only [if_true, if_pos hpre]; exact hr
            · rw [hri, bs_from, hdv]
              constructor
              · intro hh
                refine .inl ⟨hpar, bs v, _, rfl, hai.1 rfl, hpre, ?_⟩
                rw [bs_len]; exact hh
              · rintro (⟨_, v', vs, hv, _, _, hh⟩ | ⟨h1, _⟩)
                · simp only [List.map_cons, List.cons.injEq] at hv
                  rw [← hv.1, ← hv.2, bs_len] at hh
                  exact hh
                · rw [hpar] at h1; cases h1
          · refine ⟨false, Ev.step hstep (Ev.bind ha ?_), ?_⟩
            · simp only [if_true, if_neg hpre]; exact Ev.now _
            · simp only [Bool.false_eq_true, false_iff]
              rw [hdv]
              rintro (⟨_, v', vs, hv, _, hp', _⟩ | ⟨h1, _⟩)
              · simp only [List.map_cons, List.cons.injEq] at hv
                rw [← hv.1] at hp'
                exact hpre hp'
              · rw [hpar] at h1; cases h1
    | false =>
      have hf2 : ¬ (x.f2 = true) := by rw [his.par, hpar]; decide
      have hcon := his.con hpar
      have hsz : x.f0.size = p.con.length := by rw [← bs_len, hcon]
      obtain ⟨me, hme, hmi⟩ := mayEnd_ev h (by omega) hget (by omega)
      have hmi := hmi hpar
      have hj1f : ∃ r : Bool, Ev (fun k => spec_Holds.j1 k L V s part (kk : Int) x.f0 L (L.length : Int) (i : Int) false) r ∧ (r = true ↔ (p.con <+: bs s ∧ Hold (l.drop (i + 1)) ((V.drop kk).map bs) ((bs s).drop p.con.length) part)) := by
        by_cases hpre : p.con <+: bs s
        · have hle : p.con.length ≤ s.size := by have := hpre.length_le; rwa [bs_len] at this
          obtain ⟨r, hr, hri⟩ := ih kk hk (s.extract x.f0.size s.size) (by rw [sz_from]; omega)
          refine ⟨r, Ev.step (fun k => ?_) hr, ?_⟩
          · simp only [spec_Holds.j1]
            rw [if_neg (by decide), begins_iff, hcon]
            simp only [Option.bind_some]
            rw [if_pos (by simpa using hpre), if_pos (by omega), if_pos (by omega), w_succ i (by omega)]
            rfl
          · rw [hri, bs_from, hsz]
            exact ⟨fun hh => ⟨hpre, hh⟩, fun hh => hh.2⟩
        · refine ⟨false, Ev.step (f := fun _ => some false) (fun k => ?_) (Ev.now _), ?_⟩
          · simp only [spec_Holds.j1]
            rw [if_neg (by decide), begins_iff, hcon]
            simp only [Option.bind_some]
            rw [if_neg (by simpa using hpre)]
          · simp [hpre]
      obtain ⟨rf, hrf, hrfi⟩ := hj1f
      have hno : (¬ (MayEnd p (l.drop (i + 1)) ∧ bs s = p.con.dropLast)) → (rf = true ↔ Hold (p :: l.drop (i + 1)) ((V.drop kk).map bs) (bs s) part) := by
        intro hn
        rw [hrfi]
        constructor
        · rintro ⟨h1, h2⟩
          exact .inr ⟨hpar, .inr ⟨hn, h1, h2⟩⟩
        · rintro (⟨h1, _⟩ | ⟨_, ⟨h1, h2, _⟩ | ⟨_, h1, h2⟩⟩)
          · rw [hpar] at h1; cases h1
          · exact absurd ⟨h1, h2⟩ hn
          · exact ⟨h1, h2⟩
      cases me with
      | false =>
        have hm' : ¬ MayEnd p (l.drop (i + 1)) := fun q => by have := hmi.2 q; cases this
        refine ⟨rf, Ev.step (fun k => ?_) hrf, hno (fun q => hm' q.1)⟩
        simp only [spec_Holds.l0]
        rw [if_pos (by omega), if_pos (by omega), if_pos (by omega), rd_of hx, if_neg hf2, hme]
        simp only [Option.bind_some, Bool.false_eq_true, if_false]
      | true =>
        have hm' := hmi.1 rfl
        have hne : 1 ≤ p.con.length := by
          have := hm'.1
          cases hc : p.con with
          | nil => rw [hc] at this; cases this
          | cons => simp
        have hdl : bs (x.f0.extract 0 (x.f0.size - 1)) = p.con.dropLast := by rw [bs_to, hcon, hsz, List.dropLast_eq_take]
        have hstep : ∀ k, spec_Holds.l0 (k + 1) L V s part (kk : Int) L (L.length : Int) (i : Int) = spec_Holds.j1 k L V s part (kk : Int) x.f0 L (L.length : Int) (i : Int) (bs s == p.con.dropLast) := by
          intro k
          simp only [spec_Holds.l0]
          rw [if_pos (by omega), if_pos (by omega), if_pos (by omega), rd_of hx, if_neg hf2, hme]
          simp only [Option.bind_some, if_true]
          rw [w_pred _ (by omega) (by omega), if_pos (by omega), if_pos (by omega), tl, tl, Int.toNat_natCast, hdl]
        by_cases heq : bs s = p.con.dropLast
        · obtain ⟨r, hr, hri⟩ := ih kk hk (⟨#[]⟩ : ByteArray) (by show (0 : Nat) ≤ _; omega)
          have hb : (bs s == p.con.dropLast) = true := by rw [beq_iff_eq]; exact heq
          refine ⟨r, Ev.step hstep (Ev.step (f := fun k => spec_Holds.l0 k L V (⟨#[]⟩ : ByteArray) part (kk : Int) L (L.length : Int) ((i + 1 : Nat) : Int)) (fun k => ?_) hr), ?_⟩
          · rw [hb]
            simp only [spec_Holds.j1, if_true]
            rw [w_succ i (by omega)]
          · rw [hri]
            constructor
            · intro hh; exact .inr ⟨hpar, .inl ⟨hm', heq, hh⟩⟩
            · rintro (⟨h1, _⟩ | ⟨_, ⟨_, _, h2⟩ | ⟨h1, _⟩⟩)
              · rw [hpar] at h1; cases h1
              · exact h2
              · exact absurd ⟨hm', heq⟩ h1
        · have hb : (bs s == p.con.dropLast) = false := by rw [beq_eq_false_iff_ne]; exact heq
          refine ⟨rf, Ev.step hstep (by rw [hb]; exact hrf), hno (fun q => heq q.2)⟩

theorem holds_ev {L : List S42} {l : List Part} (h : All L l) (hl : l.length ≤ 99999) (hcl : ∀ p ∈ l, p.con.length ≤ 4294967290) (V : List ByteArray) (hV : ∀ v ∈ V, v.size ≤ 4294967290) (hVl : V.length ≤ 99999) (part : Bool) (s : ByteArray) (hs : s.size ≤ 4294967290) :
    ∃ r : Bool, Ev (fun k => spec_Holds.f k L V s part) r ∧ (r = true ↔ Hold l (V.map bs) (bs s) part) := by
  have := holds_l0 h hl hcl V hV hVl part l.length 0 (by omega) (by omega) 0 (by omega) s hs
  simpa [spec_Holds.f] using this
end Go.Proofs.YtfahabnjplnbmaaGreatDoor.QL
