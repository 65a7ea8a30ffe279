/- RoutePatternMatch: it answers by the run over the parts of the pattern as it is made. -/
import Derived.Test.YtfahabnjplnbmaaGreatDoorMWk13
import Derived.Test.YtfahabnjplnbmaaGreatDoorMPM
import Derived.Test.YtfahabnjplnbmaaGreatDoorMQLow
import Derived.Deep.DeepCutAuto
import Derived.Deep.CutBlock
namespace Go.Proofs.YtfahabnjplnbmaaGreatDoor.Wk
open Go.RowKit Go.Proofs.YtfahabnjplnbmaaGreatDoorW.PrintWords
open Go.Proofs.YtfahabnjplnbmaaGreatDoor.Pl Go.Proofs.YtfahabnjplnbmaaGreatDoor.Q Go.Proofs.YtfahabnjplnbmaaGreatDoor.QL
set_option linter.unusedVariables false
set_option linter.unusedSimpArgs false

theorem head_get (q : ByteArray) (h : 0 < q.size) : (bs q).head? = some (q[0]'h) := by
  rw [List.head?_eq_getElem?]
  show q.data.toList[0]? = _
  rw [Array.getElem?_toList]
  exact Array.getElem?_eq_getElem h
theorem bs_slash (q : ByteArray) : bs (⟨#[47]⟩ ++ q) = 47 :: bs q := by
  show (⟨#[47]⟩ ++ q : ByteArray).data.toList = _
  rw [ByteArray.data_append]
  simp
theorem size_slash (q : ByteArray) : (⟨#[47]⟩ ++ q : ByteArray).size = q.size + 1 := by rw [← bs_len, bs_slash, List.length_cons, bs_len]
abbrev E55 : Obj := .cells #[.string ⟨#[]⟩, .string ⟨#[]⟩, .string ⟨#[]⟩, .string ⟨#[]⟩, .string ⟨#[]⟩, .string ⟨#[]⟩, .string ⟨#[]⟩, .string ⟨#[]⟩, .string ⟨#[]⟩, .string ⟨#[]⟩, .string ⟨#[]⟩, .string ⟨#[]⟩, .string ⟨#[]⟩, .string ⟨#[]⟩, .string ⟨#[]⟩, .string ⟨#[]⟩, .string ⟨#[]⟩, .string ⟨#[]⟩, .string ⟨#[]⟩, .string ⟨#[]⟩, .string ⟨#[]⟩, .string ⟨#[]⟩, .string ⟨#[]⟩, .string ⟨#[]⟩, .string ⟨#[]⟩, .string ⟨#[]⟩, .string ⟨#[]⟩, .string ⟨#[]⟩, .string ⟨#[]⟩, .string ⟨#[]⟩] 55
abbrev C39 (a b : Bool) : Obj := .cells #[.bool a, .bool b] 39
set_option maxHeartbeats 4000000 in
set_option maxRecDepth 100000 in
theorem rpm_any (path pat : ByteArray) (sens strict : Bool) (cb : Nat) (l : List Part) (w : World) (hc0 : w.cell? ⟨cb, 0, none⟩ = some (.bool sens)) (hc1 : w.cell? ⟨cb, 1, none⟩ = some (.bool strict))
    (hl : l.length ≤ 90) (hg : Pl.Good l) (hnp : npar l ≤ 30) (hr : render l = fpat (bs pat) sens strict) (h2 : pat.size ≤ 500) (h3 : path.size ≤ 500) :
    Calls Tryz.prog 14 #[.string path, .string pat, .slice (some ⟨cb, 0, none⟩) 1 1] w fun e w' => ∃ is, e = .returned (.bool is) ∧ Answer l (fpath (bs path) sens) is ∧ Below w.heap.size w w' := by
  have HG := Lib.hid hg
  have HNP := Lib.hid hnp
  have HR := Lib.hid hr
  clear hg hnp hr
  have hcb : cb < w.heap.size := World.block_lt_of_cell? w _ hc0
  have hb0 : Below w.heap.size w ((w.alloc E55).alloc (C39 false false)) := below_alloc (below_alloc (Below.refl _ _) _) _
  have k0 : ((w.alloc E55).alloc (C39 false false)).cell? ⟨cb, 0, none⟩ = some (.bool sens) := (hb0.cell hcb).trans hc0
  have k1 : ((w.alloc E55).alloc (C39 false false)).cell? ⟨cb, 1, none⟩ = some (.bool strict) := (hb0.cell hcb).trans hc1
  clear hb0 hc0 hc1
  go_enter Tryz.func14, Tryz.ntmps14
  go_upto_if 20 with fail
  have HV := Lib.hid (show ((w.alloc E55).alloc (C39 sens strict)).heap[w.heap.size]? = some E55 from blk_alloc (blk_new w _) _)
  have HC := Lib.hid (show ((w.alloc E55).alloc (C39 sens strict)).heap[w.heap.size + 1]? = some (C39 sens strict) from blk_new2 w _ _)
  have HB := Lib.hid (show Below w.heap.size w ((w.alloc E55).alloc (C39 sens strict)) from below_alloc (below_alloc (Below.refl _ _) _) _)
  generalize (w.alloc E55).alloc (C39 sens strict) = w3 at HV HC HB ⊢
  clear k0 k1
  go_cut [0] (fun v0 wc => wc = w3 ∧ ∃ p : ByteArray, v0 = .string p ∧ Hid (bs p = p0 (bs path)) ∧ p.size ≤ 500)
  case first =>
    cases ht : path.toList.isEmpty with
    | true =>
      have HT := Lib.hid (show bs path = [] by rw [← tl]; exact List.isEmpty_iff.1 ht)
      clear ht
      go_wp2_with fail
      go_meet
      exact ⟨rfl, ⟨#[47]⟩, rfl, (by rw [p0, if_pos HT.out] : bs ⟨#[47]⟩ = p0 (bs path)), by decide⟩
    | false =>
      have HT := Lib.hid (show bs path ≠ [] by rw [← tl]; intro e; rw [e] at ht; cases ht)
      clear ht
      go_wp2_with fail
      go_meet
      exact ⟨rfl, path, rfl, (by rw [p0, if_neg HT.out] : bs path = p0 (bs path)), h3⟩
  case rest =>
    obtain ⟨rfl, p, rfl, HP, hps⟩ := hcut
    go_upto_if 22 with fail
    go_cut [1] (fun v1 wx => wx = wc ∧ ∃ q : ByteArray, v1 = .string q ∧ Hid (bs q = p0 (bs pat)) ∧ q.size ≤ 500)
    case first =>
      cases ht : pat.toList.isEmpty with
      | true =>
        have HT := Lib.hid (show bs pat = [] by rw [← tl]; exact List.isEmpty_iff.1 ht)
        clear ht
        go_wp2_with fail
        go_meet
        exact ⟨rfl, ⟨#[47]⟩, rfl, (by rw [p0, if_pos HT.out] : bs ⟨#[47]⟩ = p0 (bs pat)), by decide⟩
      | false =>
        have HT := Lib.hid (show bs pat ≠ [] by rw [← tl]; intro e; rw [e] at ht; cases ht)
        clear ht
        go_wp2_with fail
        go_meet
        exact ⟨rfl, pat, rfl, (by rw [p0, if_neg HT.out] : bs pat = p0 (bs pat)), h2⟩
    case rest =>
      obtain ⟨rfl, q, rfl, HQ, hqs⟩ := hcut
      have hqn : bs q ≠ [] := by have := HQ.out; rw [this]; exact p0_ne _
      have hq0 : 0 < q.size := by rw [← bs_len]; exact List.length_pos_iff.2 hqn
      have hq1 : (0 : Int) < (q.size : Int) := by omega
      have HH := Lib.hid (head_get q hq0)
      have HQN := Lib.hid hqn
      clear hqn
      go_upto_if 25 with fail
      go_cut [1] (fun v1 wx => wx = wc ∧ ∃ q' : ByteArray, v1 = .string q' ∧ Hid (bs q' = p1 (p0 (bs pat))) ∧ q'.size ≤ 501)
      case first =>
        cases ht : (((q[0]'hq0).toNat : Int) != 47) with
        | true =>
          have HT := Lib.hid (show (bs q).head? ≠ some 47 by
            rw [HH.out]
            intro e
            rw [Option.some.inj e] at ht
            cases ht)
          clear ht
          go_wp2_with fail
          go_meet
          exact ⟨rfl, _, rfl, (by rw [p1, ← HQ.out, if_neg HT.out]; exact bs_slash q : bs _ = p1 (p0 (bs pat))), by rw [size_slash]; omega⟩
        | false =>
          have HT := Lib.hid (show (bs q).head? = some 47 by
            rw [HH.out]
            rw [bne_eq_false_iff_eq] at ht
            exact congrArg some (UInt8.toNat_inj.1 (by show _ = 47; omega)))
          clear ht
          go_wp2_with fail
          go_meet
          exact ⟨rfl, q, rfl, (by rw [p1, ← HQ.out, if_pos HT.out] : bs q = p1 (p0 (bs pat))), by omega⟩
      case rest =>
        obtain ⟨rfl, q1, rfl, HQ1, hqs1⟩ := hcut
        clear HH HQN hq1
        obtain ⟨w4, rfl⟩ : ∃ w4 : World, w4 = wc := ⟨_, rfl⟩
        have c0 : w4.cell? ⟨w.heap.size + 1, 0, none⟩ = some (.bool sens) := blk_cell HC.out 0
        go_upto_if 31 with fail
        go_cut [0, 9] (fun v0 v9 wx => Hid (Below w4.heap.size w4 wx) ∧ ∃ p' q' : ByteArray, v0 = .string p' ∧ v9 = .string q' ∧ Hid (bs p' = fpath (bs path) sens) ∧ Hid (bs q' = p2 sens (p1 (p0 (bs pat)))) ∧ p'.size ≤ 500 ∧ q'.size ≤ 501)
        case first =>
          cases sens with
          | true =>
            go_wp2_with fail
            go_meet
            exact ⟨Below.refl _ _, p, q1, rfl, rfl, (by rw [HP.out]; rfl : bs p = fpath (bs path) true), (by rw [HQ1.out]; rfl : bs q1 = p2 true (p1 (p0 (bs pat)))), hps, hqs1⟩
          | false =>
            clear c0
            go_wp2_with fail
            refine (toLower_walk q1 _ (by omega)).mono ?_
            rintro e w6 ⟨rfl, hb⟩
            have HB6 := Lib.hid hb
            clear hb
            go_wp2_with fail
            refine (toLower_walk p _ (by omega)).mono ?_
            rintro e w7 ⟨rfl, hb⟩
            have HB7 := Lib.hid (HB6.out.trans (hb.mono HB6.out.size))
            clear hb
            go_wp2_with fail
            go_meet
            exact ⟨HB7.out, lowS p, lowS q1, rfl, rfl, (by rw [bs_low, HP.out]; rfl : bs (lowS p) = fpath (bs path) false), (by rw [bs_low, HQ1.out]; rfl : bs (lowS q1) = p2 false (p1 (p0 (bs pat)))), by rw [size_low]; exact hps, by rw [size_low]; exact hqs1⟩
        case rest =>
          obtain ⟨HBX, p', q', rfl, rfl, HP', HQ', hps', hqs'⟩ := hcut
          obtain ⟨w5, rfl⟩ : ∃ w5 : World, w5 = wc := ⟨_, rfl⟩
          clear c0
          have HV5 := Lib.hid (blk_below HV.out HBX.out)
          have HC5 := Lib.hid (blk_below HC.out HBX.out)
          have HB5 := Lib.hid (HB.out.trans (HBX.out.mono HB.out.size))
          have c1 : w5.cell? ⟨w.heap.size + 1, 1, none⟩ = some (.bool strict) := blk_cell HC5.out 1
          clear HBX HV HC HB
          go_upto_region 15 with fail
          go_cut [43] (fun v43 wx => wx = w5 ∧ v43 = .bool (!strict && decide (1 < q'.size)))
          case first =>
            cases strict with
            | true =>
              go_wp2_with fail
              go_meet
              exact ⟨rfl, rfl⟩
            | false =>
              by_cases hq : 1 < q'.size
              · have hq' : (1 : Int) < (q'.size : Int) := by omega
                go_wp2_with fail
                go_meet
                exact ⟨rfl, by simp [hq]⟩
              · have hq' : ¬ (1 : Int) < (q'.size : Int) := by omega
                go_wp2_with fail
                go_meet
                exact ⟨rfl, by simp [hq]⟩
          case rest =>
            obtain ⟨rfl, rfl⟩ := hcut
            clear c1
            go_upto_if 43 with fail
            obtain ⟨w6, rfl⟩ : ∃ w6 : World, w6 = wc := ⟨_, rfl⟩
            go_cut [9] (fun v9 wx => Hid (Below w6.heap.size w6 wx) ∧ ∃ q2 : ByteArray, v9 = .string q2 ∧ Hid (bs q2 = fpat (bs pat) sens strict) ∧ q2.size ≤ 501)
            case first =>
              cases hb : (!strict && decide (1 < q'.size)) with
              | true =>
                obtain ⟨r, hr, hbr⟩ := trimRight_ev q' (by omega)
                obtain ⟨k, hk⟩ := hr.rounds
                have HK := Lib.hid hk
                have HBR := Lib.hid (show bs r = fpat (bs pat) sens strict by
                  rw [hbr, HQ'.out, fpat, p3, if_pos]
                  rw [Bool.and_eq_true, Bool.not_eq_true', decide_eq_true_eq] at hb
                  exact ⟨hb.1, by rw [← HQ'.out, bs_len]; exact hb.2⟩)
                have HSZ := Lib.hid (show r.size ≤ 501 by
                  have := (trimR_prefix (bs q')).length_le
                  rw [← hbr, bs_len, bs_len] at this; omega)
                clear hk hr hbr hb
                go_wp2_with fail
                refine (fiberutils_TrimRight.calls k q' 47 r _ HK.out).mono ?_
                rintro e wy ⟨rfl, ⟨nd, rfl⟩⟩
                go_wp2_with fail
                go_meet
                exact ⟨pw_below_drewN (Below.refl _ _) nd, r, rfl, HBR, HSZ.out⟩
              | false =>
                have HBR := Lib.hid (show bs q' = fpat (bs pat) sens strict by
                  rw [fpat, ← HQ'.out, p3, if_neg]
                  intro h
                  rw [bs_len] at h
                  rw [h.1, decide_eq_true h.2] at hb
                  cases hb)
                clear hb
                go_wp2_with fail
                go_meet
                exact ⟨Below.refl _ _, q', rfl, HBR, hqs'⟩
            case rest =>
              obtain ⟨HBY, q2, rfl, HQ2, hq2s⟩ := hcut
              obtain ⟨w7, rfl⟩ : ∃ w7 : World, w7 = wc := ⟨_, rfl⟩
              have HV7 := Lib.hid (blk_below HV5.out HBY.out)
              have HB7 := Lib.hid (HB5.out.trans (HBY.out.mono HB5.out.size))
              have HRL := Lib.hid (HQ2.out.trans HR.out.symm)
              clear HBY HV5 HC5 HB5 HQ1 HQ HP HR
              go_wp2_with fail
              refine (parse_any l q2 _ hl HG.out HNP.out HRL.out (by omega)).mono ?_
              rintro e w8 ⟨B, n, cap, A, c, i, j, rfl, hRdy, hb⟩
              have HRDY := Lib.hid hRdy
              have HV8 := Lib.hid (blk_alloc (blk_below HV7.out hb) (.cells #[.slice B n cap, .slice A (npar l) c, .int .i64 i, .int .i64 j] 59))
              have HP8 := Lib.hid (blk_new w8 (.cells #[.slice B n cap, .slice A (npar l) c, .int .i64 i, .int .i64 j] 59))
              have HB8 := Lib.hid (below_alloc (HB7.out.trans (hb.mono HB7.out.size)) (.cells #[.slice B n cap, .slice A (npar l) c, .int .i64 i, .int .i64 j] 59))
              have HX8 := Lib.hid (below_alloc (Below.refl w8.heap.size w8) (.cells #[.slice B n cap, .slice A (npar l) c, .int .i64 i, .int .i64 j] 59))
              have HLO := Lib.hid (show w.heap.size < w7.heap.size from blk_lt HV7.out)
              have HPB := Lib.hid (show w.heap.size < w8.heap.size from Nat.lt_of_lt_of_le (blk_lt HV7.out) hb.size)
              clear hRdy hb HV7 HB7
              go_upto_region 18 with fail
              generalize w8.alloc (.cells #[.slice B n cap, .slice A (npar l) c, .int .i64 i, .int .i64 j] 59) = w9 at HV8 HP8 HB8 HX8 ⊢
              go_cut [53] (fun v53 wx => wx = w9 ∧ v53 = .bool (decide (bs q2 = [47] ∧ bs p' = [47])))
              case first =>
                by_cases e1 : bs q2 = [47]
                · have t1 : (q2.toList == [47]) = true := by rw [beq_iff_eq, tl]; exact e1
                  by_cases e2 : bs p' = [47]
                  · have t2 : (p'.toList == [47]) = true := by rw [beq_iff_eq, tl]; exact e2
                    have E := Lib.hid (And.intro e1 e2)
                    clear e1 e2
                    go_wp2_with fail
                    go_meet
                    exact ⟨rfl, by rw [decide_eq_true E.out]⟩
                  · have t2 : (p'.toList == [47]) = false := by rw [beq_eq_false_iff_ne, tl]; exact e2
                    have E := Lib.hid (show ¬ (bs q2 = [47] ∧ bs p' = [47]) from fun h => e2 h.2)
                    clear e1 e2
                    go_wp2_with fail
                    go_meet
                    exact ⟨rfl, by rw [decide_eq_false E.out]⟩
                · have t1 : (q2.toList == [47]) = false := by rw [beq_eq_false_iff_ne, tl]; exact e1
                  have E := Lib.hid (show ¬ (bs q2 = [47] ∧ bs p' = [47]) from fun h => e1 h.1)
                  clear e1
                  go_wp2_with fail
                  go_meet
                  exact ⟨rfl, by rw [decide_eq_false E.out]⟩
              case rest =>
                obtain ⟨rfl, rfl⟩ := hcut
                cases hb53 : decide (bs q2 = [47] ∧ bs p' = [47]) with
                | true =>
                  have HE := Lib.hid (of_decide_eq_true hb53)
                  clear hb53
                  go_wp2
                  go_ret
                  refine ⟨true, rfl, ⟨fun _ => .inl ⟨?_, ?_⟩, fun h => by cases h⟩, HB8.out⟩
                  · rw [← HRL.out]; exact HE.out.1
                  · rw [← HP'.out]; exact HE.out.2
                | false =>
                  clear hb53
                  go_upto_if 55 with fail
                  cases h3 : (q2.toList == [47, 42]) with
                  | true =>
                    have HE := Lib.hid (show bs q2 = [47, 42] by rw [← tl]; exact beq_iff_eq.1 h3)
                    clear h3
                    go_wp2
                    go_ret
                    exact ⟨true, rfl, ⟨fun _ => .inr (.inl (by rw [← HRL.out]; exact HE.out)), fun h => by cases h⟩, HB8.out⟩
                  | false =>
                    clear h3
                    have c1 : wc.cell? ⟨w8.heap.size, 1, none⟩ = some (.slice A (npar l) c) := blk_cell HP8.out 1
                    have H92 := Lib.hid (no92 (tame_render HG.out HRL.out (by omega)).2)
                    by_cases hn : 0 < npar l
                    · have hn' : (0 : Int) < (npar l : Int) := by omega
                      have HN := Lib.hid hn
                      clear hn
                      go_wp2_with fail
                      refine (getMatch_any l p' false w8.heap.size w.heap.size w7.heap.size (.slice B n cap) w8 _ _ HRDY.out HX8.out (.inl HLO.out) (by omega) HG.out HNP.out (by omega) (blk_cell HP8.out 0) (Nat.ne_of_gt HPB.out) HV8.out rfl).mono ?_
                      rintro e w10 ⟨hM, hgr⟩
                      have HB10 := Lib.hid (Below.grown HB8.out hgr HB8.out.size (fun k hk => by injection hk with hk; omega))
                      clear hgr c1
                      rcases hM with ⟨rfl, hrun⟩ | ⟨V, rfl, hrun, _, _⟩
                      · have HRUN := Lib.hid (show Run l (fpath (bs path) sens) false none by rw [← HP'.out]; exact hrun)
                        clear hrun
                        go_wp2_with fail
                        refine (noEsc_calls q2 _ H92.out).mono ?_
                        rintro e wz ⟨rfl, rfl⟩
                        by_cases he : bs q2 = bs p'
                        · have hs1 : ((q2.size : Int) == (p'.size : Int)) = true := by rw [beq_iff_eq, ← bs_len, ← bs_len, he]
                          have ht1 : (q2.toList == p'.toList) = true := by rw [beq_iff_eq, tl, tl]; exact he
                          have HE := Lib.hid he
                          clear he
                          go_wp2
                          go_ret
                          exact ⟨true, rfl, ⟨fun _ => .inr (.inr (.inr (by rw [← HRL.out, ← HP'.out]; exact HE.out))), fun h => by cases h⟩, HB10.out⟩
                        · have HE := Lib.hid (show render l ≠ fpath (bs path) sens by rw [← HRL.out, ← HP'.out]; exact he)
                          by_cases hz : q2.size = p'.size
                          · have hs1 : ((q2.size : Int) == (p'.size : Int)) = true := by rw [beq_iff_eq, hz]
                            have ht1 : (q2.toList == p'.toList) = false := by rw [beq_eq_false_iff_ne, tl, tl]; exact he
                            clear he hz
                            go_wp2
                            go_ret
                            exact ⟨false, rfl, ⟨(fun h => by cases h), fun _ => ⟨HE.out, fun _ => HRUN.out⟩⟩, HB10.out⟩
                          · have hs1 : ((q2.size : Int) == (p'.size : Int)) = false := by rw [beq_eq_false_iff_ne]; omega
                            clear he hz
                            go_wp2
                            go_ret
                            exact ⟨false, rfl, ⟨(fun h => by cases h), fun _ => ⟨HE.out, fun _ => HRUN.out⟩⟩, HB10.out⟩
                      · have HRUN := Lib.hid (show ∃ vs, Run l (fpath (bs path) sens) false (some vs) from ⟨_, by rw [← HP'.out]; exact hrun⟩)
                        clear hrun
                        go_wp2
                        go_ret
                        exact ⟨true, rfl, ⟨fun _ => .inr (.inr (.inl ⟨HN.out, HRUN.out⟩)), fun h => by cases h⟩, HB10.out⟩
                    · have hn' : ¬ (0 : Int) < (npar l : Int) := by omega
                      have HN := Lib.hid hn
                      clear hn
                      go_wp2_with fail
                      refine (noEsc_calls q2 _ H92.out).mono ?_
                      rintro e wz ⟨rfl, rfl⟩
                      by_cases he : bs q2 = bs p'
                      · have hs1 : ((q2.size : Int) == (p'.size : Int)) = true := by rw [beq_iff_eq, ← bs_len, ← bs_len, he]
                        have ht1 : (q2.toList == p'.toList) = true := by rw [beq_iff_eq, tl, tl]; exact he
                        have HE := Lib.hid he
                        clear he
                        go_wp2
                        go_ret
                        exact ⟨true, rfl, ⟨fun _ => .inr (.inr (.inr (by rw [← HRL.out, ← HP'.out]; exact HE.out))), fun h => by cases h⟩, HB8.out⟩
                      · have HE := Lib.hid (show render l ≠ fpath (bs path) sens by rw [← HRL.out, ← HP'.out]; exact he)
                        by_cases hz : q2.size = p'.size
                        · have hs1 : ((q2.size : Int) == (p'.size : Int)) = true := by rw [beq_iff_eq, hz]
                          have ht1 : (q2.toList == p'.toList) = false := by rw [beq_eq_false_iff_ne, tl, tl]; exact he
                          clear he hz
                          go_wp2
                          go_ret
                          exact ⟨false, rfl, ⟨(fun h => by cases h), fun _ => ⟨HE.out, fun h => absurd h HN.out⟩⟩, HB8.out⟩
                        · have hs1 : ((q2.size : Int) == (p'.size : Int)) = false := by rw [beq_eq_false_iff_ne]; omega
                          clear he hz
                          go_wp2
                          go_ret
                          exact ⟨false, rfl, ⟨(fun h => by cases h), fun _ => ⟨HE.out, fun h => absurd h HN.out⟩⟩, HB8.out⟩
end Go.Proofs.YtfahabnjplnbmaaGreatDoor.Wk
