/- Walk: addVW from one row into another. -/
import Derived.Test.YthckboojmljeiaaVw
namespace Go.Proofs.Ythckboojmljeiaa.Vw
set_option linter.unusedVariables false
set_option linter.unusedSimpArgs false
open Go.RowKit Go.Proofs.YthckboojmljeiaaW.PrintWords Go.Proofs.Ythckboojmljeiaa.Pl Go.Proofs.Ythckboojmljeiaa.Dg Go.Proofs.Ythckboojmljeiaa.Mem Go.Proofs.Ythckboojmljeiaa.Na Go.Proofs.Ythckboojmljeiaa.Bi Go.Proofs.Ythckboojmljeiaa.Vv Go.Proofs.Ythckboojmljeiaa.Ad

theorem lay_lay (cur : List Int) (o i n : Nat) (r xs : List Int) (hr : r.length = n) (hx : xs.length = n) (hi : i ≤ n) (ho : o + n ≤ cur.length) (h : r.drop i = xs.drop i) : lay (lay cur o i r) (o + i) (n - i) (xs.drop i) = lay cur o n r := by
  have h1 : (cur.take o).length = o := by rw [List.length_take]; omega
  have h2 : (r.take i).length = i := by rw [List.length_take]; omega
  have e1 : (lay cur o i r).take (o + i) = cur.take o ++ r.take i := by
    unfold lay
    rw [← List.append_assoc, List.take_left' (by rw [List.length_append, h1, h2])]
  have e2 : (lay cur o i r).drop (o + i + (n - i)) = cur.drop (o + n) := by
    unfold lay
    rw [← List.append_assoc, List.drop_append, List.drop_of_length_le (by rw [List.length_append, h1, h2]; omega), List.length_append, h1, h2, List.drop_drop, List.nil_append, show o + i + (o + i + (n - i) - (o + i)) = o + n from by omega]
  show (lay cur o i r).take (o + i) ++ ((xs.drop i).take (n - i) ++ (lay cur o i r).drop (o + i + (n - i))) = _
  rw [e1, e2, show (xs.drop i).take (n - i) = xs.drop i from List.take_of_length_le (by rw [List.length_drop]; omega), ← h]
  unfold lay
  rw [show r.take n = r from List.take_of_length_le (by omega)]
  conv => rhs; rw [← List.take_append_drop i r]
  simp only [List.append_assoc]

theorem cop_fit (cur : List Int) (o i n : Nat) (r xs : List Int) (hr : r.length = xs.length) (hx : xs.length = n) (hi : i ≤ n) (ho : o + n ≤ cur.length) :
    o + i + ((xs.drop i).map (Value.int .u64)).length ≤ ((lay cur o i r).map (Value.int .u64)).toArray.size ∧
    (((lay cur o i r).map (Value.int .u64)).toArray.toList.take (o + i) ++ ((xs.drop i).map (Value.int .u64) ++ ((lay cur o i r).map (Value.int .u64)).toArray.toList.drop (o + i + ((xs.drop i).map (Value.int .u64)).length))).toArray = ((lay (lay cur o i r) (o + i) (n - i) (xs.drop i)).map (Value.int .u64)).toArray := by
  have hl := lay_length cur o i r (by omega) (by omega)
  refine ⟨by simp [hl]; omega, ?_⟩
  congr 1
  show _ = ((lay cur o i r).take (o + i) ++ ((xs.drop i).take (n - i) ++ (lay cur o i r).drop (o + i + (n - i)))).map (Value.int .u64)
  rw [show (xs.drop i).take (n - i) = xs.drop i from List.take_of_length_le (by rw [List.length_drop]; omega)]
  simp [hx]
theorem cop_src {w : World} {gx ox : Nat} {cux xs : List Int} (i n : Nat) (h : Rw w gx cux) (hx : xs.length = n) (ho : ox + n ≤ cux.length) (hg : ∀ j, j < n → cux.getD (ox + j) 0 = xs.getD j 0) :
    ∀ j v, ((xs.drop i).map (Value.int .u64))[j]? = some v → w.cell? ((⟨gx, ox + i, none⟩ : Addr).add j) = some v := by
  intro j v hv
  rw [List.getElem?_map] at hv
  obtain ⟨x, hxx, rfl⟩ := Option.map_eq_some_iff.1 hv
  rw [List.getElem?_drop] at hxx
  have hj : i + j < xs.length := (List.getElem?_eq_some_iff.1 hxx).1
  have e : (⟨gx, ox + i, none⟩ : Addr).add j = ⟨gx, ox + (i + j), none⟩ := by rw [← Nat.add_assoc]; unfold Addr.add; split <;> simp_all
  rw [e, h.cell _ (by omega), hg (i + j) (by omega), List.getD_eq_getElem?_getD, hxx]
  rfl
set_option maxHeartbeats 1000000 in
set_option maxRecDepth 100000 in
theorem addVW_diff (g o gx ox n cz cx : Nat) (cur cux : List Int) (y : Int) (w : World) (h : Rw w g cur) (hX : Rw w gx cux) (hg : g ≠ gx) (hcz : n < cz) (hcx : n ≤ cx) (h0 : 0 < n) (ho : o + n ≤ cur.length) (hox : ox + n ≤ cux.length) (hc : cur.length ≤ 1000000) (hd : DW ((cux.drop ox).take n)) (hy0 : 0 ≤ y) (hy1 : y ≤ 1) :
    Calls Try.prog 93 #[.slice (some ⟨g, o, none⟩) n cz, .slice (some ⟨gx, ox, none⟩) n cx, .int .u64 y] w (RowOut w g (lay cur o n (addl ((cux.drop ox).take n) y).1) (addl ((cux.drop ox).take n) y).2) := by
  obtain ⟨xs, hxs⟩ : ∃ xs, (cux.drop ox).take n = xs := ⟨_, rfl⟩
  have hxl : xs.length = n := by rw [← hxs, List.length_take, List.length_drop]; omega
  have hxg : ∀ j, j < n → cux.getD (ox + j) 0 = xs.getD j 0 := fun j hj => by rw [← hxs, seg_get _ _ _ _ hj]
  rw [hxs] at hd ⊢
  have hrl := addl_length xs y
  have hst0 := addl_step xs y 0 (by omega)
  have hrest := fun i => addl_rest xs y i hd
  have hstep := fun i => addl_step xs y i
  obtain ⟨r, hr⟩ : ∃ r, (addl xs y).1 = r := ⟨_, rfl⟩
  rw [hr] at hrl hst0 ⊢
  have hx0 := hd.get (i := 0) (by omega)
  have hcell := hX.cell ox (by omega)
  rw [show cux.getD ox 0 = xs.getD 0 0 from hxg 0 h0] at hcell
  obtain ⟨zz, hzc⟩ := h.has o (by omega)
  obtain ⟨x, hx⟩ : ∃ x, xs.getD 0 0 = x := ⟨_, rfl⟩
  rw [hx] at hcell hx0 hst0
  have HA := Lib.hid (add_any x y 0 hx0.1 hy0 (by omega) (by omega) w)
  have hfree := h.free o
  have hq : sumC x y 0 = 0 ∨ sumC x y 0 = 1 := by unfold sumC; rw [Ad.bbI] at *; omega
  have hs : sumW x y 0 = r.getD 0 0 := by rw [hst0.2]; simp [sumW, addl]
  have hk : sumC x y 0 = (addl (xs.take 1) y).2 := by rw [hst0.1]; simp [sumC, addl]
  have hp := h.put o (r.getD 0 0)
  rw [show cur.set o (r.getD 0 0) = lay cur o 1 r from by have := lay_succ cur o 0 r (by omega) (by omega); rw [lay_zero, Nat.add_zero] at this; exact this] at hp
  obtain ⟨s, hs2⟩ : ∃ s, sumW x y 0 = s := ⟨_, rfl⟩
  obtain ⟨k, hk2⟩ : ∃ s, sumC x y 0 = s := ⟨_, rfl⟩
  rw [hs2] at hs HA
  rw [hk2] at hk HA hq
  rw [← hs] at hp
  have HP := Lib.hid hp
  have HK := Lib.hid hk
  have HR := Lib.hid hrl
  have HRest := Lib.hid hrest
  have HStep := Lib.hid hstep
  have HXG := Lib.hid hxg
  have HXL := Lib.hid hxl
  have HD := Lib.hid hd
  have HRR := Lib.hid hr
  have hlr : ∀ i, i ≤ n → (addl (xs.take i) y).2 = 0 → lay (lay cur o i r) (o + i) (n - i) (xs.drop i) = lay cur o n r ∧ (addl xs y).2 = 0 := fun i hi h1 => by
    obtain ⟨a, b⟩ := hrest i h1
    rw [hr] at a
    exact ⟨lay_lay cur o i n r xs (by omega) hxl hi ho a, b⟩
  have HLR := Lib.hid hlr
  have HG := Lib.hid hg
  have HX := Lib.hid hX
  have hn0 : ((n : Int) == 0) = false := by rw [beq_eq_false_iff_ne]; omega
  have hn1 : (0 : Int) < (n : Int) := by omega
  clear h hX hg hd hxl hxg hx hx0 hrl hst0 hrest hstep hr hs hk hp hs2 hk2 hxs hlr hy0 hy1
  rcases hq with hq | hq
  · subst hq
    have HF := Lib.hid (HLR.out 1 (by omega) HK.out.symm)
    rw [HF.out.2]
    have HP2 := Lib.hid (HP.out.row (lay (lay cur o 1 r) (o + 1) (n - 1) (xs.drop 1)))
    have hne := fun a : Nat => neq_other (o := o) (o' := ox) HG.out (HP.out.drewN a) ((HX.out.setOther g o (.int .u64 s) HG.out.symm).drewN a)
    have HPd := Lib.hid (fun a => HP.out.drewN a)
    by_cases hn1' : n = 1
    · have HN := Lib.hid hn1'
      have q1 : ¬ cz = 1 := by omega
      have q3 : (1 : Int) ≤ (n : Int) := by omega
      have q4 : (n : Int) = 1 := by omega
      clear hn1' q4
      by_cases q2 : cx = 1
      all_goals
        go_enter Try.func93, Try.ntmps93
        go_wp2_with fail
        refine HA.out.mono ?_
        rintro e w1 ⟨rfl, rfl⟩
        go_wp2_with fail
        go_quiet (fail)
        clear hne
        go_wp2_with fail
        go_still_tail 4, (by kernel_rfl)
        refine wpList_copy_nothing rfl (.tmp 40) (.tmp 42) 61 61 rfl 74 Try.underlying61 (by kernel_rfl) _ _ _ _ _ _ rfl rfl (by rw [HN.out]; rfl) ?_
        go_wp2
        go_ret
        refine ⟨rfl, ?_, ?_⟩
        · rw [HN.out]; exact (HP.out.drewN _).drew
        · exact ((at_set (Chg.refl _ _)).drewN _).drew
    · have q1 : ¬ cz = 1 := by omega
      have q2 : ¬ cx = 1 := by omega
      have q3 : (1 : Int) ≤ (n : Int) := by omega
      have hfit := cop_fit cur o 1 n r xs HR.out HXL.out (by omega) ho
      have HFit := Lib.hid hfit.1
      have HRow := Lib.hid hfit.2
      have HSrc := Lib.hid (cop_src 1 n (HX.out.setOther g o (.int .u64 s) HG.out.symm) HXL.out hox HXG.out)
      rw [HF.out.1] at HRow
      clear hfit
      go_enter Try.func93, Try.ntmps93
      go_wp2_with fail
      refine HA.out.mono ?_
      rintro e w1 ⟨rfl, rfl⟩
      go_wp2_with fail
      go_quiet (fail)
      clear hne
      go_wp2_with fail
      go_still_tail 4, (by kernel_rfl)
      refine wpList_copy_own rfl (.tmp 40) (.tmp 42) 61 61 rfl 74 Try.underlying61 (by kernel_rfl) g (o + 1) (n - 1) (cz - 1) ⟨gx, ox + 1, none⟩ (n - 1) (cx - 1) rfl rfl ((lay cur o 1 r).map (Value.int .u64)).toArray 74 HP.out ((xs.drop 1).map (Value.int .u64)) ?hn HSrc.out HFit.out ?h1 ?_
      case hn => have := HXL.out; simp [this]
      case h1 => intro v hv; obtain ⟨x, _, rfl⟩ := List.mem_map.1 hv; rfl
      rw [HRow.out]
      go_wp2
      go_ret
      have hch := (at_set (g := g) (o := o) (u := .int .u64 s) (Chg.refl (At g) w)).setRow g ((lay cur o n r).map (Value.int .u64)).toArray (.inl rfl)
      exact ⟨rfl, HP.out.row (lay cur o n r), hch.os, hch.tape, hch.output, hch.size, hch.block⟩
  · subst hq
    go_enter Try.func93, Try.ntmps93
    go_wp2_with fail
    refine HA.out.mono ?_
    rintro e w1 ⟨rfl, rfl⟩
    go_wp2_with fail
    go_loopw [9] (fun t wr => ∃ i : Nat, 1 ≤ i ∧ i ≤ n ∧ t = .int .i64 (i : Int) ∧ Hid (Rw wr g (lay cur o i r)) ∧ Hid ((addl (xs.take i) y).2 = 1) ∧ Hid (Chg (At g) w wr)) (fun t _ => n - (intOf t).toNat)
    case atStart => exact ⟨1, by omega, by omega, rfl, HP.out, HK.out.symm, at_set (Chg.refl _ _)⟩
    case round =>
      obtain ⟨i, hi1, hi, rfl, HRw, HCy, HCh⟩ := hrel
      by_cases hlt : i < n
      · have hst := HStep.out i (by rw [HXL.out]; exact hlt)
        rw [HCy.out, HRR.out] at hst
        have hll : (lay cur o i r).length = cur.length := lay_length _ _ _ _ (by have := HR.out; have := HXL.out; omega) (by omega)
        have HX2 := Lib.hid (HX.out.kept HCh.out HG.out.symm)
        have hcell := HX2.out.cell (ox + i) (by omega)
        rw [HXG.out i hlt] at hcell
        obtain ⟨zz', hzc'⟩ := HRw.out.has (o + i) (by omega)
        have hfree := HRw.out.free (o + i)
        have hxi := HD.out.get (i := i) (by rw [HXL.out]; exact hlt)
        obtain ⟨x', hx'⟩ : ∃ x, xs.getD i 0 = x := ⟨_, rfl⟩
        rw [hx'] at hcell hst hxi
        have hput := HRw.out.put (o + i) (r.getD i 0)
        rw [lay_succ cur o i r (by have := HR.out; have := HXL.out; omega) (by omega)] at hput
        have b1 : (i : Int) < (n : Int) := by omega
        obtain ⟨ri, hri⟩ : ∃ x, r.getD i 0 = x := ⟨_, rfl⟩
        rw [hri] at hst hput
        have HPut := Lib.hid hput
        clear hri hput hx' hll
        by_cases hmax : x' = 18446744073709551615
        · have hb : (x' != 18446744073709551615) = false := by rw [hmax]; rfl
          have hz : ri = 0 := by rw [hst.2, hmax]; rfl
          rw [hz] at HPut
          have HC2 := Lib.hid (show (addl (xs.take (i + 1)) y).2 = 1 by rw [hst.1, hmax]; rfl)
          clear hmax hz hst hxi
          go_wp2
          go_roundw
          case rel => exact ⟨i + 1, by omega, by omega, by go_num, HPut.out, HC2.out, at_set HCh.out⟩
          case measure => simp [intOf]; omega
        · have hb : (x' != 18446744073709551615) = true := by rw [bne_iff_ne]; exact hmax
          have hw : IntKind.u64.wrap (x' + 1) = ri := by rw [wu64, hst.2]; rfl
          have hc0 : (addl (xs.take (i + 1)) y).2 = 0 := by rw [hst.1]; rw [Ad.bbI] at *; omega
          have HF := Lib.hid (HLR.out (i + 1) (by omega) hc0)
          clear hmax hst hxi hc0
          have hne := fun a : Nat => neq_other (o := o) (o' := ox) HG.out (HPut.out.drewN a) ((HX2.out.setOther g (o + i) (.int .u64 ri) HG.out.symm).drewN a)
          have w1 : IntKind.i64.wrap ((i : Int) + 1) = (i : Int) + 1 := IntWalk.i64_in _ (by omega)
          have b2 : ((i : Int) + 1).toNat = i + 1 := by omega
          have b3 : (0 : Int) ≤ (i : Int) + 1 := by omega
          have b4 : (i : Int) + 1 ≤ (n : Int) := by omega
          have q1 : ¬ cz = i + 1 := by omega
          by_cases hend : i + 1 = n
          · have HN := Lib.hid hend.symm
            clear hend
            by_cases q2 : cx = i + 1
            all_goals
              go_wp2_with fail
              go_quiet (fail)
              clear hne
              go_wp2_with fail
              go_still_tail 8, (by kernel_rfl)
              refine wpList_copy_nothing rfl (.tmp 69) (.tmp 73) 61 61 rfl 74 Try.underlying61 (by kernel_rfl) _ _ _ _ _ _ rfl rfl (by rw [HN.out, Nat.sub_self]; rfl) ?_
              go_wp2
              go_ret
              refine ⟨by rw [HF.out.2]; rfl, ?_, ?_⟩
              · rw [HN.out]; exact (HPut.out.drewN _).drew
              · exact ((at_set HCh.out).drewN _).drew
          · have q2 : ¬ cx = i + 1 := by omega
            have hfit := cop_fit cur o (i + 1) n r xs HR.out HXL.out (by omega) ho
            have HFit := Lib.hid hfit.1
            have HRow := Lib.hid hfit.2
            have HSrc := Lib.hid (cop_src (i + 1) n (HX2.out.setOther g (o + i) (.int .u64 ri) HG.out.symm) HXL.out hox HXG.out)
            rw [HF.out.1] at HRow
            clear hfit
            go_wp2_with fail
            go_quiet (fail)
            clear hne
            go_wp2_with fail
            go_still_tail 8, (by kernel_rfl)
            refine wpList_copy_own rfl (.tmp 69) (.tmp 73) 61 61 rfl 74 Try.underlying61 (by kernel_rfl) g (o + (i + 1)) (n - (i + 1)) (cz - (i + 1)) ⟨gx, ox + (i + 1), none⟩ (n - (i + 1)) (cx - (i + 1)) rfl rfl ((lay cur o (i + 1) r).map (Value.int .u64)).toArray 74 HPut.out ((xs.drop (i + 1)).map (Value.int .u64)) ?hn HSrc.out HFit.out ?h1 ?_
            case hn => have := HXL.out; simp [this]
            case h1 => intro v hv; obtain ⟨x, _, rfl⟩ := List.mem_map.1 hv; rfl
            rw [HRow.out]
            go_wp2
            go_ret
            have hch := (at_set (g := g) (o := o + i) (u := .int .u64 ri) HCh.out).setRow g ((lay cur o n r).map (Value.int .u64)).toArray (.inl rfl)
            exact ⟨by rw [HF.out.2]; rfl, HPut.out.row (lay cur o n r), hch.os, hch.tape, hch.output, hch.size, hch.block⟩
      · have : i = n := by omega
        subst this
        rw [List.take_of_length_le (by rw [HXL.out]; exact Nat.le_refl _)] at HCy
        go_wp2
        go_ret
        exact ⟨by rw [HCy.out]; rfl, HRw.out, HCh.out⟩

end Go.Proofs.Ythckboojmljeiaa.Vw
