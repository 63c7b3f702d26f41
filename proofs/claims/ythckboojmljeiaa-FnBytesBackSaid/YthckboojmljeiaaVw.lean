/- Walks: addVW, subVW, in place and from one row into another. -/
import Derived.Test.YthckboojmljeiaaVv
import Derived.Test.YthckboojmljeiaaAd
namespace Go.Proofs.Ythckboojmljeiaa.Vw
set_option linter.unusedVariables false
set_option linter.unusedSimpArgs false
open Go.RowKit Go.Proofs.YthckboojmljeiaaW.PrintWords Go.Proofs.Ythckboojmljeiaa.Pl Go.Proofs.Ythckboojmljeiaa.Dg Go.Proofs.Ythckboojmljeiaa.Mem Go.Proofs.Ythckboojmljeiaa.Na Go.Proofs.Ythckboojmljeiaa.Bi Go.Proofs.Ythckboojmljeiaa.Vv Go.Proofs.Ythckboojmljeiaa.Ad

abbrev At (g : Nat) : Nat → Prop := fun k => k = g
theorem at_set {g o : Nat} {w w1 : World} {u : Value} (h : Chg (At g) w w1) : Chg (At g) w (w1.setCell ⟨g, o, none⟩ u) := h.set g o u (.inl rfl)
theorem lay_get (cur : List Int) (o i : Nat) (r : List Int) (hr : i ≤ r.length) (j : Nat) (hj : o + i ≤ j) (ho : o + i ≤ cur.length) : (lay cur o i r).getD j 0 = cur.getD j 0 := by
  unfold lay
  have h1 : (cur.take o).length = o := by rw [List.length_take]; omega
  have h2 : (r.take i).length = i := by rw [List.length_take]; omega
  rw [List.getD_eq_getElem?_getD, List.getD_eq_getElem?_getD, List.getElem?_append_right (by omega), List.getElem?_append_right (by omega), h1, h2, List.getElem?_drop, show o + i + (j - o - i) = j from by omega]

/-- What a row operation leaves. -/
def RowOut (w : World) (g : Nat) (new : List Int) (c : Int) (e : Ending) (w' : World) : Prop := e = .returned (.int .u64 c) ∧ Rw w' g new ∧ Chg (At g) w w'

theorem seg_get (cur : List Int) (o n j : Nat) (hj : j < n) : ((cur.drop o).take n).getD j 0 = cur.getD (o + j) 0 := by
  rw [List.getD_eq_getElem?_getD, List.getD_eq_getElem?_getD, List.getElem?_take, if_pos hj, List.getElem?_drop]

set_option maxHeartbeats 1000000 in
set_option maxRecDepth 100000 in
theorem addVW_same (g o n cz cx : Nat) (cur : List Int) (y : Int) (w : World) (h : Rw w g cur) (h0 : 0 < n) (ho : o + n ≤ cur.length) (hc : cur.length ≤ 1000000) (hd : DW ((cur.drop o).take n)) (hy0 : 0 ≤ y) (hy1 : y ≤ 1) :
    Calls Try.prog 93 #[.slice (some ⟨g, o, none⟩) n cz, .slice (some ⟨g, o, none⟩) n cx, .int .u64 y] w (RowOut w g (lay cur o n (addl ((cur.drop o).take n) y).1) (addl ((cur.drop o).take n) y).2) := by
  obtain ⟨xs, hxs⟩ : ∃ xs, (cur.drop o).take n = xs := ⟨_, rfl⟩
  have hxl : xs.length = n := by rw [← hxs, List.length_take, List.length_drop]; omega
  have hxg : ∀ j, j < n → cur.getD (o + j) 0 = xs.getD j 0 := fun j hj => by rw [← hxs, seg_get _ _ _ _ hj]
  have hxd : ∀ i, xs.drop i = (cur.drop (o + i)).take (n - i) := fun i => by rw [← hxs, List.drop_take, List.drop_drop]
  rw [hxs] at hd ⊢
  have hrl := addl_length xs y
  have hst0 := addl_step xs y 0 (by omega)
  have hrest := fun i => addl_rest xs y i hd
  have hstep := fun i => addl_step xs y i
  obtain ⟨r, hr⟩ : ∃ r, (addl xs y).1 = r := ⟨_, rfl⟩
  rw [hr] at hrl hst0 ⊢
  have hx0 := hd.get (i := 0) (by omega)
  have hcell := h.cell o (by omega)
  rw [show cur.getD o 0 = xs.getD 0 0 from hxg 0 h0] at hcell
  obtain ⟨x, hx⟩ : ∃ x, xs.getD 0 0 = x := ⟨_, rfl⟩
  rw [hx] at hcell hx0 hst0
  have HA := Lib.hid (add_any x y 0 hx0.1 hy0 (by omega) (by omega) w)
  have hfree := h.free o
  have hq : sumC x y 0 = 0 ∨ sumC x y 0 = 1 := by unfold sumC; rw [Ad.bbI] at *; omega
  have hs : sumW x y 0 = r.getD 0 0 := by rw [hst0.2]; simp [sumW, addl]
  have hk : sumC x y 0 = (addl (xs.take 1) y).2 := by rw [hst0.1]; simp [sumC, addl]
  have hp := h.put o (r.getD 0 0)
  rw [show cur.set o (r.getD 0 0) = lay cur o 1 r from by have := lay_succ cur o 0 r (by omega) (by omega); rw [lay_zero, Nat.add_zero] at this; exact this] at hp
  obtain ⟨s, hs2⟩ : ∃ s, sumW x y 0 = s := ⟨_, rfl⟩
  obtain ⟨k, hk2⟩ : ∃ s, sumC x y 0 = s := ⟨_, rfl⟩
  rw [hs2] at hs HA
  rw [hk2] at hk HA hq
  rw [← hs] at hp
  have HP := Lib.hid hp
  have HK := Lib.hid hk
  have HR := Lib.hid hrl
  have HRest := Lib.hid hrest
  have HStep := Lib.hid hstep
  have HXG := Lib.hid hxg
  have HXD := Lib.hid hxd
  have HXL := Lib.hid hxl
  have HD := Lib.hid hd
  have HRR := Lib.hid hr
  have hlr : ∀ i, i ≤ n → (addl (xs.take i) y).2 = 0 → lay cur o i r = lay cur o n r ∧ (addl xs y).2 = 0 := fun i hi h1 => by
    obtain ⟨a, b⟩ := hrest i h1
    exact ⟨lay_rest cur o i n r (by omega) hi ho (by rw [← hr, a, hxd]), b⟩
  have HLR := Lib.hid hlr
  have hn0 : ((n : Int) == 0) = false := by rw [beq_eq_false_iff_ne]; omega
  have hn1 : (0 : Int) < (n : Int) := by omega
  clear h hd hxl hxg hxd hx hx0 hrl hst0 hrest hstep hr hs hk hp hs2 hk2 hxs hlr hy0 hy1
  rcases hq with hq | hq
  · subst hq
    have HF := Lib.hid (HLR.out 1 (by omega) HK.out.symm)
    rw [HF.out.2]
    go_enter Try.func93, Try.ntmps93
    go_wp2_with fail
    refine HA.out.mono ?_
    rintro e w1 ⟨rfl, rfl⟩
    go_wp2_with fail
    have hne := fun a : Nat => neq_same ⟨g, o, none⟩ ((w.setCell ⟨g, o, none⟩ (.int .u64 s)).drewN a)
    go_quiet (fail)
    clear hne
    go_wp2
    go_ret
    refine ⟨rfl, ?_, ?_⟩
    · rw [← HF.out.1]; exact HP.out.drewN _
    · exact (at_set (Chg.refl _ _)).drewN _
  · subst hq
    go_enter Try.func93, Try.ntmps93
    go_wp2_with fail
    refine HA.out.mono ?_
    rintro e w1 ⟨rfl, rfl⟩
    go_wp2_with fail
    go_outline
    go_loopw [9] (fun t wr => ∃ i : Nat, 1 ≤ i ∧ i ≤ n ∧ t = .int .i64 (i : Int) ∧ Hid (Rw wr g (lay cur o i r)) ∧ Hid ((addl (xs.take i) y).2 = 1) ∧ Hid (Chg (At g) w wr)) (fun t _ => n - (intOf t).toNat)
    case atStart => exact ⟨1, by omega, by omega, rfl, HP.out, HK.out.symm, (Chg.refl _ _).set g o _ (.inl rfl)⟩
    case round =>
      obtain ⟨i, hi1, hi, rfl, HRw, HCy, HCh⟩ := hrel
      by_cases hlt : i < n
      · have hst := HStep.out i (by rw [HXL.out]; exact hlt)
        rw [HCy.out, HRR.out] at hst
        have hll : (lay cur o i r).length = cur.length := lay_length _ _ _ _ (by have := HR.out; have := HXL.out; omega) (by omega)
        have hcell := HRw.out.cell (o + i) (by omega)
        rw [lay_get cur o i r (by have := HR.out; have := HXL.out; omega) (o + i) (by omega) (by omega), HXG.out i hlt] at hcell
        have hfree := HRw.out.free (o + i)
        have hxi := HD.out.get (i := i) (by rw [HXL.out]; exact hlt)
        obtain ⟨x', hx'⟩ : ∃ x, xs.getD i 0 = x := ⟨_, rfl⟩
        rw [hx'] at hcell hst hxi
        have hput := HRw.out.put (o + i) (r.getD i 0)
        rw [lay_succ cur o i r (by have := HR.out; have := HXL.out; omega) (by omega)] at hput
        have b1 : (i : Int) < (n : Int) := by omega
        obtain ⟨ri, hri⟩ : ∃ x, r.getD i 0 = x := ⟨_, rfl⟩
        rw [hri] at hst hput
        have HPut := Lib.hid hput
        clear hri hput hx' hll
        by_cases hmax : x' = 18446744073709551615
        · have hb : (x' != 18446744073709551615) = false := by rw [hmax]; rfl
          have hz : ri = 0 := by rw [hst.2, hmax]; rfl
          rw [hz] at HPut
          have HC2 := Lib.hid (show (addl (xs.take (i + 1)) y).2 = 1 by rw [hst.1, hmax]; rfl)
          clear hmax hz hst hxi
          go_wp2
          go_roundw
          case rel => exact ⟨i + 1, by omega, by omega, by go_num, HPut.out, HC2.out, at_set HCh.out⟩
          case measure => simp [intOf]; omega
        · have hb : (x' != 18446744073709551615) = true := by rw [bne_iff_ne]; exact hmax
          have hw : IntKind.u64.wrap (x' + 1) = ri := by rw [wu64, hst.2]; rfl
          have hc0 : (addl (xs.take (i + 1)) y).2 = 0 := by rw [hst.1]; rw [Ad.bbI] at *; omega
          have HF := Lib.hid (HLR.out (i + 1) (by omega) hc0)
          clear hmax hst hxi hc0
          have hne := fun a : Nat => neq_same ⟨g, o, none⟩ ((wr.setCell ⟨g, o + i, none⟩ (.int .u64 ri)).drewN a)
          go_wp2
          go_quiet (fail)
          clear hne
          go_wp2
          go_ret
          refine ⟨by rw [HF.out.2]; rfl, ?_, ?_⟩
          · rw [← HF.out.1]; exact HPut.out.drewN _
          · exact (at_set HCh.out).drewN _
      · have : i = n := by omega
        subst this
        rw [List.take_of_length_le (by rw [HXL.out]; exact Nat.le_refl _)] at HCy
        go_wp2
        go_ret
        exact ⟨by rw [HCy.out]; rfl, HRw.out, HCh.out⟩
set_option maxHeartbeats 1000000 in
set_option maxRecDepth 100000 in
theorem subVW_same (g o n cz cx : Nat) (cur : List Int) (y : Int) (w : World) (h : Rw w g cur) (h0 : 0 < n) (ho : o + n ≤ cur.length) (hc : cur.length ≤ 1000000) (hd : DW ((cur.drop o).take n)) (hy0 : 0 ≤ y) (hy1 : y ≤ 1) :
    Calls Try.prog 95 #[.slice (some ⟨g, o, none⟩) n cz, .slice (some ⟨g, o, none⟩) n cx, .int .u64 y] w (RowOut w g (lay cur o n (subl ((cur.drop o).take n) y).1) (subl ((cur.drop o).take n) y).2) := by
  obtain ⟨xs, hxs⟩ : ∃ xs, (cur.drop o).take n = xs := ⟨_, rfl⟩
  have hxl : xs.length = n := by rw [← hxs, List.length_take, List.length_drop]; omega
  have hxg : ∀ j, j < n → cur.getD (o + j) 0 = xs.getD j 0 := fun j hj => by rw [← hxs, seg_get _ _ _ _ hj]
  have hxd : ∀ i, xs.drop i = (cur.drop (o + i)).take (n - i) := fun i => by rw [← hxs, List.drop_take, List.drop_drop]
  rw [hxs] at hd ⊢
  have hrl := subl_length xs y
  have hst0 := subl_step xs y 0 (by omega)
  have hrest := fun i => subl_rest xs y i hd
  have hstep := fun i => subl_step xs y i
  obtain ⟨r, hr⟩ : ∃ r, (subl xs y).1 = r := ⟨_, rfl⟩
  rw [hr] at hrl hst0 ⊢
  have hx0 := hd.get (i := 0) (by omega)
  have hcell := h.cell o (by omega)
  rw [show cur.getD o 0 = xs.getD 0 0 from hxg 0 h0] at hcell
  obtain ⟨x, hx⟩ : ∃ x, xs.getD 0 0 = x := ⟨_, rfl⟩
  rw [hx] at hcell hx0 hst0
  have HA := Lib.hid (sub_any x y 0 hx0.1 hx0.2 hy0 (by rw [Ad.bbI]; omega) (by omega) (by omega) w)
  have hfree := h.free o
  have hq : difC x y 0 = 0 ∨ difC x y 0 = 1 := by unfold difC; split <;> omega
  have hs : difW x y 0 = r.getD 0 0 := by rw [hst0.2]; simp [difW, subl]
  have hk : difC x y 0 = (subl (xs.take 1) y).2 := by rw [hst0.1]; simp [difC, subl]
  have hp := h.put o (r.getD 0 0)
  rw [show cur.set o (r.getD 0 0) = lay cur o 1 r from by have := lay_succ cur o 0 r (by omega) (by omega); rw [lay_zero, Nat.add_zero] at this; exact this] at hp
  obtain ⟨s, hs2⟩ : ∃ s, difW x y 0 = s := ⟨_, rfl⟩
  obtain ⟨k, hk2⟩ : ∃ s, difC x y 0 = s := ⟨_, rfl⟩
  rw [hs2] at hs HA
  rw [hk2] at hk HA hq
  rw [← hs] at hp
  have HP := Lib.hid hp
  have HK := Lib.hid hk
  have HR := Lib.hid hrl
  have HRest := Lib.hid hrest
  have HStep := Lib.hid hstep
  have HXG := Lib.hid hxg
  have HXD := Lib.hid hxd
  have HXL := Lib.hid hxl
  have HD := Lib.hid hd
  have HRR := Lib.hid hr
  have hlr : ∀ i, i ≤ n → (subl (xs.take i) y).2 = 0 → lay cur o i r = lay cur o n r ∧ (subl xs y).2 = 0 := fun i hi h1 => by
    obtain ⟨a, b⟩ := hrest i h1
    exact ⟨lay_rest cur o i n r (by omega) hi ho (by rw [← hr, a, hxd]), b⟩
  have HLR := Lib.hid hlr
  have hn0 : ((n : Int) == 0) = false := by rw [beq_eq_false_iff_ne]; omega
  have hn1 : (0 : Int) < (n : Int) := by omega
  clear h hd hxl hxg hxd hx hx0 hrl hst0 hrest hstep hr hs hk hp hs2 hk2 hxs hlr hy0 hy1
  rcases hq with hq | hq
  · subst hq
    have HF := Lib.hid (HLR.out 1 (by omega) HK.out.symm)
    rw [HF.out.2]
    go_enter Try.func95, Try.ntmps95
    go_wp2_with fail
    refine HA.out.mono ?_
    rintro e w1 ⟨rfl, rfl⟩
    go_wp2_with fail
    have hne := fun a : Nat => neq_same ⟨g, o, none⟩ ((w.setCell ⟨g, o, none⟩ (.int .u64 s)).drewN a)
    go_quiet (fail)
    clear hne
    go_wp2
    go_ret
    refine ⟨rfl, ?_, ?_⟩
    · rw [← HF.out.1]; exact HP.out.drewN _
    · exact (at_set (Chg.refl _ _)).drewN _
  · subst hq
    go_enter Try.func95, Try.ntmps95
    go_wp2_with fail
    refine HA.out.mono ?_
    rintro e w1 ⟨rfl, rfl⟩
    go_wp2_with fail
    go_outline
    go_loopw [9] (fun t wr => ∃ i : Nat, 1 ≤ i ∧ i ≤ n ∧ t = .int .i64 (i : Int) ∧ Hid (Rw wr g (lay cur o i r)) ∧ Hid ((subl (xs.take i) y).2 = 1) ∧ Hid (Chg (At g) w wr)) (fun t _ => n - (intOf t).toNat)
    case atStart => exact ⟨1, by omega, by omega, rfl, HP.out, HK.out.symm, (Chg.refl _ _).set g o _ (.inl rfl)⟩
    case round =>
      obtain ⟨i, hi1, hi, rfl, HRw, HCy, HCh⟩ := hrel
      by_cases hlt : i < n
      · have hst := HStep.out i (by rw [HXL.out]; exact hlt)
        rw [HCy.out, HRR.out] at hst
        have hll : (lay cur o i r).length = cur.length := lay_length _ _ _ _ (by have := HR.out; have := HXL.out; omega) (by omega)
        have hcell := HRw.out.cell (o + i) (by omega)
        rw [lay_get cur o i r (by have := HR.out; have := HXL.out; omega) (o + i) (by omega) (by omega), HXG.out i hlt] at hcell
        have hfree := HRw.out.free (o + i)
        have hxi := HD.out.get (i := i) (by rw [HXL.out]; exact hlt)
        obtain ⟨x', hx'⟩ : ∃ x, xs.getD i 0 = x := ⟨_, rfl⟩
        rw [hx'] at hcell hst hxi
        have hput := HRw.out.put (o + i) (r.getD i 0)
        rw [lay_succ cur o i r (by have := HR.out; have := HXL.out; omega) (by omega)] at hput
        have b1 : (i : Int) < (n : Int) := by omega
        obtain ⟨ri, hri⟩ : ∃ x, r.getD i 0 = x := ⟨_, rfl⟩
        rw [hri] at hst hput
        have HPut := Lib.hid hput
        clear hri hput hx' hll
        by_cases hmax : x' = 0
        · have hb : (x' != 0) = false := by rw [hmax]; rfl
          have hz : ri = 18446744073709551615 := by rw [hst.2, hmax]; rfl
          rw [hz] at HPut
          have HC2 := Lib.hid (show (subl (xs.take (i + 1)) y).2 = 1 by rw [hst.1, hmax]; rfl)
          clear hmax hz hst hxi
          go_wp2
          go_roundw
          case rel => exact ⟨i + 1, by omega, by omega, by go_num, HPut.out, HC2.out, at_set HCh.out⟩
          case measure => simp [intOf]; omega
        · have hb : (x' != 0) = true := by rw [bne_iff_ne]; exact hmax
          have hw : IntKind.u64.wrap (x' - 1) = ri := by rw [wu64, hst.2]; rfl
          have hc0 : (subl (xs.take (i + 1)) y).2 = 0 := by rw [hst.1, if_neg (by omega)]
          have HF := Lib.hid (HLR.out (i + 1) (by omega) hc0)
          clear hmax hst hxi hc0
          have hne := fun a : Nat => neq_same ⟨g, o, none⟩ ((wr.setCell ⟨g, o + i, none⟩ (.int .u64 ri)).drewN a)
          go_wp2
          go_quiet (fail)
          clear hne
          go_wp2
          go_ret
          refine ⟨by rw [HF.out.2]; rfl, ?_, ?_⟩
          · rw [← HF.out.1]; exact HPut.out.drewN _
          · exact (at_set HCh.out).drewN _
      · have : i = n := by omega
        subst this
        rw [List.take_of_length_le (by rw [HXL.out]; exact Nat.le_refl _)] at HCy
        go_wp2
        go_ret
        exact ⟨by rw [HCy.out]; rfl, HRw.out, HCh.out⟩
end Go.Proofs.Ythckboojmljeiaa.Vw
