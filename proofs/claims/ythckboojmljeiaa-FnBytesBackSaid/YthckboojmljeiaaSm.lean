/- Walk: nat.add with itself as receiver, and a number of one word. -/
import Derived.Test.YthckboojmljeiaaVx
import Derived.Test.YthckboojmljeiaaNb
namespace Go.Proofs.Ythckboojmljeiaa.Sm
set_option linter.unusedVariables false
set_option linter.unusedSimpArgs false
open Go.RowKit Go.Proofs.YthckboojmljeiaaW.PrintWords Go.Proofs.Ythckboojmljeiaa.Pl Go.Proofs.Ythckboojmljeiaa.Dg Go.Proofs.Ythckboojmljeiaa.Mem Go.Proofs.Ythckboojmljeiaa.Na Go.Proofs.Ythckboojmljeiaa.Nb Go.Proofs.Ythckboojmljeiaa.Bi Go.Proofs.Ythckboojmljeiaa.Vv Go.Proofs.Ythckboojmljeiaa.Vw Go.Proofs.Ythckboojmljeiaa.Ad

/-- What the row holds behind the loops: the sum's digits and its carry. -/
theorem row_sum (cur : List Int) (m : Nat) (s c : Int) (r : List Int) (hm : 0 < m) (hc : m + 1 ≤ cur.length) (hr : r.length = m - 1) :
    ((lay (cur.set 0 s) 1 (m - 1) r).set m c).take (m + 1) = (s :: r) ++ [c] := by
  have hl : (lay (cur.set 0 s) 1 (m - 1) r).length = cur.length := by rw [lay_length _ _ _ _ (by omega) (by rw [List.length_set]; omega), List.length_set]
  have e : (lay (cur.set 0 s) 1 (m - 1) r).take m = s :: r := by
    obtain ⟨y, t, rfl⟩ : ∃ y t, cur = y :: t := by
      cases cur with
      | nil => simp at hc
      | cons y t => exact ⟨y, t, rfl⟩
    simp only [List.set_cons_zero]
    unfold lay
    rw [List.take_succ_cons, List.take_zero, show r.take (m - 1) = r from List.take_of_length_le (by omega), ← List.append_assoc]
    exact List.take_left' (by simp; omega)
  rw [take_succ_getD _ m (by rw [List.length_set, hl]; omega), List.take_set, List.set_eq_of_length_le (by rw [e]; simp; omega), e, List.getD_eq_getElem?_getD, List.getElem?_set_self (by rw [hl]; omega)]
  rfl
theorem row_one (cur : List Int) (s c : Int) (hc : 2 ≤ cur.length) : ((cur.set 0 s).set 1 c).take 2 = [s] ++ [c] := by
  cases cur with
  | nil => simp at hc
  | cons y t =>
    cases t with
    | nil => simp at hc
    | cons z t => rfl

theorem sum_digits (X : Nat) (hX : 0 < X) (Y : Int) (hY0 : 0 ≤ Y) (hY1 : Y < (BB : Int)) (x0 : Int) (xs : List Int) (hx : dg X = x0 :: xs) :
    DW (((sumW x0 Y 0) :: (addl xs (sumC x0 Y 0)).1) ++ [(addl xs (sumC x0 Y 0)).2]) ∧ (lv (BB : Int) (((sumW x0 Y 0) :: (addl xs (sumC x0 Y 0)).1) ++ [(addl xs (sumC x0 Y 0)).2])).toNat = X + Y.toNat ∧ 0 ≤ sumC x0 Y 0 ∧ sumC x0 Y 0 ≤ 1 := by
  have hd := dg_dig X
  rw [hx] at hd
  obtain ⟨⟨h0, h1⟩, h2⟩ := hd.cons
  have hq : 0 ≤ sumC x0 Y 0 ∧ sumC x0 Y 0 ≤ 1 := by unfold sumC; rw [Ad.bbI] at *; omega
  have hc := addl_carry xs _ h2 hq.1 hq.2
  have e : ((sumW x0 Y 0) :: (addl xs (sumC x0 Y 0)).1, (addl xs (sumC x0 Y 0)).2) = addl (x0 :: xs) Y := by simp [addl, sumW, sumC]
  have e1 : (sumW x0 Y 0) :: (addl xs (sumC x0 Y 0)).1 = (addl (x0 :: xs) Y).1 := by rw [← e]
  have e2 : (addl xs (sumC x0 Y 0)).2 = (addl (x0 :: xs) Y).2 := by rw [← e]
  refine ⟨?_, ?_, hq⟩
  · rw [e1]
    exact (addl_dig _ _).append (Dig.mk hc.1 (by rw [Ad.bbI]; omega) (Dig.nil _))
  · rw [e1, e2, lv_append]
    have hv := addl_val (x0 :: xs) Y
    rw [addl_length]
    simp only [lv, Int.mul_zero, Int.add_zero] at hv ⊢
    have hl := lv_dg X
    rw [hx] at hl
    simp only [lv] at hl
    omega

/-- y.abs of one word. -/
theorem add_swap {w : World} {v u : Value} {lu : List Int} (h : Nt w v []) (hu : Nt w u lu) (ha : Ap v u) (hn : lu.length = 1) : Calls Try.prog 73 #[v, u, v] w (NtOut w v lu) := by
  have H := Lib.hid (set_any h hu ha (by omega))
  obtain ⟨A, c, rfl, _⟩ := h.slice
  obtain ⟨B, d, rfl, _⟩ := hu.slice
  rw [hn] at H ⊢
  clear h hu ha hn
  go_enter Try.func73, Try.ntmps73
  go_wp2_with fail
  refine H.out.mono ?_
  rintro e w1 ⟨v', rfl, h1, h2, h3⟩
  have H1 := Lib.hid h1
  have H2 := Lib.hid h2
  have H3 := Lib.hid h3
  clear h1 h2 h3
  go_wp2
  go_ret
  exact ⟨_, rfl, H1.out, H2.out, H3.out⟩

theorem add_00 {w : World} {v : Value} (h : Nt w v []) (B : Option Addr) (d : Nat) : Calls Try.prog 73 #[v, v, .slice B 0 d] w (NtOut w v []) := by
  obtain ⟨A, c, rfl, _, hc⟩ := h.slice
  have H := Lib.hid (cut0 h)
  have H2 := Lib.hid (Fr.refl w (.slice A 0 c))
  clear h
  go_enter Try.func73, Try.ntmps73
  go_wp2
  go_ret
  exact ⟨_, rfl, H.out, Chg.refl _ _, H2.out⟩

theorem add_01 {w : World} {v u : Value} {lu : List Int} (h : Nt w v []) (hu : Nt w u lu) (ha : Ap v u) (hn : lu.length = 1) : Calls Try.prog 73 #[v, v, u] w (NtOut w v lu) := by
  have H := Lib.hid (add_swap h hu ha hn)
  obtain ⟨A, c, rfl, _⟩ := h.slice
  obtain ⟨B, d, rfl, _⟩ := hu.slice
  rw [hn] at H ⊢
  clear h hu ha hn
  go_enter Try.func73, Try.ntmps73
  go_wp2_with fail
  refine H.out.mono ?_
  rintro e w1 ⟨v', rfl, h1, h2, h3⟩
  have H1 := Lib.hid h1
  have H2 := Lib.hid h2
  have H3 := Lib.hid h3
  clear h1 h2 h3
  go_wp2
  go_ret
  exact ⟨_, rfl, H1.out, H2.out, H3.out⟩

theorem add_10 {w : World} {v : Value} {l : List Int} (h : Nt w v l) (h0 : 0 < l.length) (B : Option Addr) (d : Nat) : Calls Try.prog 73 #[v, v, .slice B 0 d] w (NtOut w v l) := by
  have H := Lib.hid (set_self h)
  have HV := Lib.hid h
  obtain ⟨A, c, rfl, _⟩ := h.slice
  have hb : ((l.length : Int) == 0) = false := by rw [beq_eq_false_iff_ne]; omega
  have hb2 : (l.length == 0) = false := by rw [beq_eq_false_iff_ne]; omega
  have hb3 : (0 : Int) < (l.length : Int) := by omega
  obtain ⟨n, hn⟩ : ∃ n, l.length = n := ⟨_, rfl⟩
  rw [hn] at H HV hb hb2 hb3 ⊢
  clear h hn
  go_enter Try.func73, Try.ntmps73
  go_wp2_with fail
  refine H.out.mono ?_
  rintro e w1 ⟨rfl, rfl⟩
  go_wp2
  go_ret
  exact ⟨_, rfl, HV.out, Chg.refl _ _, Fr.refl _ _⟩

theorem Mk.old {w w' : World} {v : Value} {g : Nat} {cur : List Int} (h : Mk w v w' g cur) {g' : Nat} {c' : List Int} (hr : Rw w g' c') : Rw w' g' c' := by
  rcases h with ⟨rfl, _⟩ | ⟨_, c, _, rfl⟩
  · exact hr
  · exact hr.alloc _
theorem Mk.sep {w w' : World} {v : Value} {g : Nat} {cur : List Int} (h : Mk w v w' g cur) {gx : Nat} (hv : v.ownBlock = some gx) (hl : gx < w.heap.size) : g = gx ∨ (g ≠ gx ∧ w.heap.size ≤ g) := by
  rcases h with ⟨_, h⟩ | ⟨h, _⟩
  · rw [hv] at h
    injection h with h
    exact .inl h.symm
  · exact .inr ⟨by omega, by omega⟩
/-- addVV at one word, what it leaves. -/
theorem addVV_out {w : World} {gz gx gy cz cx cy : Nat} {x y u : Int} {cur : List Int} (hr : Rw w gz cur) (hl : 0 < cur.length) (hx : w.cell? ⟨gx, 0, none⟩ = some (.int .u64 x)) (hy : w.cell? ⟨gy, 0, none⟩ = some (.int .u64 y)) (hx0 : 0 ≤ x) (hy0 : 0 ≤ y) :
    Calls Try.prog 92 #[.slice (some ⟨gz, 0, none⟩) 1 cz, .slice (some ⟨gx, 0, none⟩) 1 cx, .slice (some ⟨gy, 0, none⟩) 1 cy] w (RowOut w gz (cur.set 0 (sumW x y 0)) (sumC x y 0)) := by
  obtain ⟨u, hu⟩ := hr.has 0 hl
  refine (addVV gz gx gy cz cx cy x y u w hx hy hu (hr.free 0) hx0 hy0).mono ?_
  rintro e w' ⟨rfl, q, rfl⟩
  exact ⟨rfl, (hr.put 0 _).drewN q, (at_set (Chg.refl _ _)).drewN q⟩
/-- The end of add: the carry laid on top, noughts off. -/
theorem norm_sum {w w3 : World} {v : Value} {g m : Nat} {row : List Int} {c : Int} {l : List Int} {Z : Nat} (hr : Rw w3 g row) (hm : m + 1 ≤ row.length) (hl : row.length ≤ 1000000) (ht : (row.set m c).take (m + 1) = l) (hd : DW l) (hz : (lv (BB : Int) l).toNat = Z) (hc : Chg (Own v) w w3) (hok : Own v g ∨ w.heap.size ≤ g) :
    Calls Try.prog 86 #[.slice (some ⟨g, 0, none⟩) (m + 1) row.length] (w3.setCell ⟨g, m, none⟩ (.int .u64 c)) (NtOut w v (dg Z)) := by
  have hp := hr.put m c
  have := norm_dg g (m + 1) (row.set m c) _ hp (by rw [List.length_set]; exact hm) (by rw [List.length_set]; exact hl) (by rw [ht]; exact hd)
  rw [List.length_set, ht, hz] at this
  refine this.mono ?_
  rintro e w' ⟨v', rfl, h1, h2, rfl⟩
  refine ⟨v', rfl, h1, hc.set g m _ hok, ?_⟩
  rcases hok with h | h
  · exact .inl (h2.trans h.symm)
  · exact .inr ⟨g, h2, h⟩
theorem At.own {w w1 w2 : World} {v : Value} {g : Nat} (h : Chg (Own v) w w1) (h2 : Chg (At g) w1 w2) (hok : Own v g ∨ w.heap.size ≤ g) : Chg (Own v) w w2 :=
  h.trans h2 (fun k hk e => by
    have e : k = g := e
    subst e
    rcases hok with h | h
    · exact h
    · omega)

set_option maxHeartbeats 1000000 in
set_option maxRecDepth 100000 in
theorem add_one {w : World} {gx gy cy : Nat} {cux : List Int} {X : Nat} {Y : Int} (hX : 0 < X) (hlen : (dg X).length = 1) (hR : Rw w gx cux) (hl : 1 ≤ cux.length) (hl2 : cux.length ≤ 1000000) (ht : cux.take 1 = dg X) (hy : w.cell? ⟨gy, 0, none⟩ = some (.int .u64 Y)) (hne : gy ≠ gx) (hcy : 1 ≤ cy) (hY0 : 0 ≤ Y) (hY1 : Y < (BB : Int)) :
    Calls Try.prog 73 #[.slice (some ⟨gx, 0, none⟩) 1 cux.length, .slice (some ⟨gx, 0, none⟩) 1 cux.length, .slice (some ⟨gy, 0, none⟩) 1 cy] w (NtOut w (.slice (some ⟨gx, 0, none⟩) 1 cux.length) (dg (X + Y.toNat))) := by
  obtain ⟨x0, xs, hx⟩ : ∃ x0 xs, dg X = x0 :: xs := by cases h : dg X with | nil => rw [h] at hlen; cases hlen | cons a b => exact ⟨a, b, rfl⟩
  obtain rfl : xs = [] := by rw [hx] at hlen; simpa using hlen
  have hN : Nt w (.slice (some ⟨gx, 0, none⟩) 1 cux.length) (dg X) := .inr ⟨gx, cux, by rw [hlen], hR, by omega, by rw [hlen]; exact ht, hl2⟩
  obtain ⟨s1, s2, s3, s4⟩ := sum_digits X hX Y hY0 hY1 x0 [] hx
  have hxc := hR.cell 0 (by omega)
  have hx0 : cux.getD 0 0 = x0 := by
    have := congrArg (fun l => l.getD 0 0) (ht.trans hx)
    rw [List.getD_eq_getElem?_getD, List.getElem?_take, if_pos (by omega), ← List.getD_eq_getElem?_getD] at this
    simpa using this
  rw [hx0] at hxc
  have hxd := dg_dig X
  rw [hx] at hxd
  have hxr := hxd.cons.1
  have HM := Lib.hid (make_any hN 2 (by omega) (by omega))
  have HXC := Lib.hid hR
  have HY := Lib.hid hy
  have HYlt := Lib.hid (World.block_lt_of_cell? w _ hy)
  have HX0 := Lib.hid hx0
  have HXR := Lib.hid hxr
  have HY0 := Lib.hid hY0
  have HS1 := Lib.hid s1
  have HS2 := Lib.hid s2
  have HL := Lib.hid hl
  clear hN hR hxc hxd hxr hx ht hlen hy hx0 hl2 hY0 hY1 s1 s2 s3 s4
  simp only [addl] at HS1 HS2
  obtain ⟨s, hs⟩ : ∃ s, sumW x0 Y 0 = s := ⟨_, rfl⟩
  obtain ⟨k, hk⟩ : ∃ s, sumC x0 Y 0 = s := ⟨_, rfl⟩
  have HSS := Lib.hid hs
  have HKK := Lib.hid hk
  rw [hs, hk] at HS1 HS2
  clear hs hk
  have hc1 : (1 : Int) ≤ (cux.length : Int) := by omega
  have hc2 : (1 : Int) ≤ (cy : Int) := by omega
  go_enter Try.func73, Try.ntmps73
  go_wp2_with fail
  refine HM.out.mono ?_
  rintro e w1 ⟨g, cur, rfl, hr, h1, h2, hk⟩
  have HR := Lib.hid hr
  have HK := Lib.hid hk
  have HC := Lib.hid h1
  have HC2 := Lib.hid h2
  have hc3 : (1 : Int) ≤ (cur.length : Int) := by omega
  have hc4 : (1 : Int) < (cur.length : Int) := by omega
  clear hr hk h1 h2
  go_wp2_with fail
  go_still_tail 9, (by kernel_rfl)
  change wpList _ _ _ _ _ w1.drew
  go_wp2_with fail
  refine (addVV_out (w := w1.drew) (cur := cur) (x := x0) (y := Y) (u := 0) HR.out.drew (by have := HC.out; omega) (by have := (Mk.old HK.out HXC.out).cell 0 HL.out; rw [HX0.out] at this; exact this) (HK.out.chg.cell HY.out (fun e => hne (by cases e; rfl))) HXR.out.1 HY0.out).mono ?_
  rw [HSS.out, HKK.out]
  rintro e w2 ⟨rfl, hq1, hq2⟩
  have HQ1 := Lib.hid hq1
  have HQ2 := Lib.hid (At.own HK.out.chg.drew hq2 HK.out.ok)
  obtain ⟨u', hcell⟩ := hq1.has 1 (by rw [List.length_set]; have := HC.out; omega)
  have hfree := hq1.free 1
  clear hq1 hq2
  go_wp2_with fail
  have hns := norm_sum (m := 1) (row := cur.set 0 s) (c := k) (l := [s] ++ [k]) HQ1.out (by rw [List.length_set]; exact HC.out) (by rw [List.length_set]; exact HC2.out) (row_one cur s k HC.out) HS1.out HS2.out HQ2.out HK.out.ok
  rw [List.length_set] at hns
  refine hns.mono ?_
  rintro e w3 ⟨v', rfl, h1, h2, h3⟩
  have H1 := Lib.hid h1
  have H2 := Lib.hid h2
  have H3 := Lib.hid h3
  clear h1 h2 h3 hns
  go_wp2
  go_ret
  exact ⟨_, rfl, H1.out, H2.out, H3.out⟩

theorem head_tail (cux : List Int) (m : Nat) (x0 : Int) (xs : List Int) (h : cux.take m = x0 :: xs) (hm : 0 < m) : cux.getD 0 0 = x0 ∧ (cux.drop 1).take (m - 1) = xs := by
  cases cux with
  | nil => simp at h
  | cons y t =>
    obtain ⟨j, rfl⟩ : ∃ j, m = j + 1 := ⟨m - 1, by omega⟩
    rw [List.take_succ_cons] at h
    injection h with h1 h2
    subst h1 h2
    simp

set_option maxHeartbeats 2000000 in
set_option maxRecDepth 100000 in
theorem add_many {w : World} {gx gy cy m : Nat} {cux : List Int} {X : Nat} {Y : Int} (hX : 0 < X) (hlen : (dg X).length = m) (hm : 1 < m) (hR : Rw w gx cux) (hl : m ≤ cux.length) (hl2 : cux.length ≤ 1000000) (hmb : m ≤ 800000) (ht : cux.take m = dg X) (hy : w.cell? ⟨gy, 0, none⟩ = some (.int .u64 Y)) (hne : gy ≠ gx) (hcy : 1 ≤ cy) (hY0 : 0 ≤ Y) (hY1 : Y < (BB : Int)) :
    Calls Try.prog 73 #[.slice (some ⟨gx, 0, none⟩) m cux.length, .slice (some ⟨gx, 0, none⟩) m cux.length, .slice (some ⟨gy, 0, none⟩) 1 cy] w (NtOut w (.slice (some ⟨gx, 0, none⟩) m cux.length) (dg (X + Y.toNat))) := by
  obtain ⟨x0, xs, hx⟩ : ∃ x0 xs, dg X = x0 :: xs := by cases h : dg X with | nil => rw [h] at hlen; simp at hlen; omega | cons a b => exact ⟨a, b, rfl⟩
  have hxl : xs.length = m - 1 := by rw [hx] at hlen; simp at hlen; omega
  have hN : Nt w (.slice (some ⟨gx, 0, none⟩) m cux.length) (dg X) := .inr ⟨gx, cux, by rw [hlen], hR, by omega, by rw [hlen]; exact ht, hl2⟩
  obtain ⟨s1, s2, s3, s4⟩ := sum_digits X hX Y hY0 hY1 x0 xs hx
  have hxc := hR.cell 0 (by omega)
  obtain ⟨hx0, hxt⟩ := head_tail cux m x0 xs (ht.trans hx) (by omega)
  rw [hx0] at hxc
  have hxd := dg_dig X
  rw [hx] at hxd
  have hxr := hxd.cons.1
  have hrl := addl_length xs (sumC x0 Y 0)
  rw [hxl] at hrl
  have HM := Lib.hid (make_any hN (m + 1) (by omega) (by omega))
  have HXC := Lib.hid hR
  have HY := Lib.hid hy
  have HX0 := Lib.hid hx0
  have HXT := Lib.hid hxt
  have HXR := Lib.hid hxr
  have HXD := Lib.hid hxd.cons.2
  have HY0 := Lib.hid hY0
  have HS1 := Lib.hid s1
  have HS2 := Lib.hid s2
  have HS3 := Lib.hid s3
  have HS4 := Lib.hid s4
  have HL := Lib.hid hl
  have HXlt := Lib.hid hR.lt
  obtain ⟨s, hs⟩ : ∃ s, sumW x0 Y 0 = s := ⟨_, rfl⟩
  obtain ⟨k, hk⟩ : ∃ s, sumC x0 Y 0 = s := ⟨_, rfl⟩
  have HSS := Lib.hid hs
  have HKK := Lib.hid hk
  rw [hs, hk] at HS1 HS2
  rw [hk] at HS3 HS4 hrl
  have HRL := Lib.hid hrl
  obtain ⟨R, hRR⟩ : ∃ R, (addl xs k).1 = R := ⟨_, rfl⟩
  obtain ⟨C, hCC⟩ : ∃ C, (addl xs k).2 = C := ⟨_, rfl⟩
  have HRR := Lib.hid hRR
  have HCC := Lib.hid hCC
  rw [hRR, hCC] at HS1 HS2
  rw [hRR] at HRL
  clear hN hR hxc hxd hxr hx ht hlen hy hx0 hxt hl2 hY0 hY1 s1 s2 s3 s4 hs hk hrl hRR hCC
  have hc1 : (1 : Int) ≤ (cux.length : Int) := by omega
  have hc2 : (1 : Int) ≤ (cy : Int) := by omega
  have hm0 : ((m : Int) == 0) = false := by rw [beq_eq_false_iff_ne]; omega
  have hm1 : (1 : Int) < (m : Int) := by omega
  have hm2 : (1 : Int) ≤ (m : Int) := by omega
  have hm3 : (m : Int) ≤ (cux.length : Int) := by omega
  have q1 : ¬ cux.length = 1 := by omega
  go_enter Try.func73, Try.ntmps73
  go_wp2_with fail
  refine HM.out.mono ?_
  rintro e w1 ⟨g, cur, rfl, hr, h1, h2, hk⟩
  have HR := Lib.hid hr
  have HK := Lib.hid hk
  have HC := Lib.hid h1
  have HC2 := Lib.hid h2
  have hc3 : (1 : Int) ≤ (cur.length : Int) := by omega
  have hc4 : (m : Int) < (cur.length : Int) := by omega
  have hc5 : (m : Int) ≤ (cur.length : Int) := by omega
  have hc6 : (m : Int) < (m : Int) + 1 := by omega
  have q2 : ¬ cur.length = 1 := by omega
  clear hr hk h1 h2
  go_wp2_with fail
  go_still_tail 9, (by kernel_rfl)
  change wpList _ _ _ _ _ w1.drew
  go_wp2_with fail
  refine (addVV_out (w := w1.drew) (cur := cur) (x := x0) (y := Y) (u := 0) HR.out.drew (by have := HC.out; omega) (by have := (Mk.old HK.out HXC.out).cell 0 (by have := HL.out; omega); rw [HX0.out] at this; exact this) (HK.out.chg.cell HY.out (fun e => hne (by cases e; rfl))) HXR.out.1 HY0.out).mono ?_
  rw [HSS.out, HKK.out]
  rintro e w2 ⟨rfl, hq1, hq2⟩
  have hsep := Mk.sep (gx := gx) HK.out rfl HXlt.out
  have HQ1 := Lib.hid hq1
  have HQX := Lib.hid (fun (e : g ≠ gx) => ((Mk.old HK.out HXC.out).drew.kept hq2 (fun h => e h.symm) : Rw w2 gx cux))
  have HQ2 := Lib.hid (At.own HK.out.chg.drew hq2 HK.out.ok)
  have HSep := Lib.hid hsep
  have HEq := Lib.hid (fun (e : g = gx) (hw : w1.heap.size = w.heap.size) => hw)
  have hcw : Calls Try.prog 93 #[.slice (some ⟨g, 1, none⟩) (m - 1) (cur.length - 1), .slice (some ⟨gx, 1, none⟩) (m - 1) (cux.length - 1), .int .u64 k] w2.drew (RowOut w2.drew g (lay (cur.set 0 s) 1 (m - 1) R) C) := by
    rcases hsep with e | ⟨e, e2⟩
    · subst e
      have hcc : cur = cux := (HR.out).inj (Mk.old HK.out HXC.out)
      have hxs : ((cur.set 0 s).drop 1).take (m - 1) = xs := by
        rw [← HXT.out, ← hcc]
        cases cur with
        | nil => rfl
        | cons a b => rfl
      have := addVW_same g 1 (m - 1) (cur.length - 1) (cux.length - 1) (cur.set 0 s) k w2.drew hq1.drew (by omega) (by rw [List.length_set]; have := HC.out; omega) (by rw [List.length_set]; exact HC2.out) (by rw [hxs]; exact HXD.out) HS3.out HS4.out
      rw [hxs, HRR.out, HCC.out] at this
      exact this
    · have := addVW_diff g 1 gx 1 (m - 1) (cur.length - 1) (cux.length - 1) (cur.set 0 s) cux k w2.drew hq1.drew (HQX.out e).drew e (by have := HC.out; omega) (by omega) (by omega) (by rw [List.length_set]; have := HC.out; omega) (by omega) (by rw [List.length_set]; exact HC2.out) (by rw [HXT.out]; exact HXD.out) HS3.out HS4.out
      rw [HXT.out, HRR.out, HCC.out] at this
      exact this
  have HCW := Lib.hid hcw
  clear hq1 hq2 hsep hcw
  go_wp2_with fail
  go_still_tail 8, (by kernel_rfl)
  change wpList _ _ _ _ _ w2.drew
  go_wp2_with fail
  refine HCW.out.mono ?_
  rintro e w3 ⟨rfl, hq3, hq4⟩
  have hll : (lay (cur.set 0 s) 1 (m - 1) R).length = cur.length := by rw [lay_length _ _ _ _ (by have := HRL.out; omega) (by rw [List.length_set]; have := HC.out; omega), List.length_set]
  have hns := norm_sum (m := m) (row := lay (cur.set 0 s) 1 (m - 1) R) (c := C) (l := (s :: R) ++ [C]) hq3 (by rw [hll]; exact HC.out) (by rw [hll]; exact HC2.out) (row_sum cur m s C R (by omega) HC.out HRL.out) HS1.out HS2.out (At.own HQ2.out.drew hq4 HK.out.ok) HK.out.ok
  rw [hll] at hns
  have HNS := Lib.hid hns
  obtain ⟨u', hcell⟩ := hq3.has m (by rw [hll]; have := HC.out; omega)
  have hfree := hq3.free m
  clear hq3 hq4 hns hll
  go_wp2_with fail
  refine HNS.out.mono ?_
  rintro e w4 ⟨v', rfl, h1, h2, h3⟩
  have H1 := Lib.hid h1
  have H2 := Lib.hid h2
  have H3 := Lib.hid h3
  clear h1 h2 h3
  go_wp2
  go_ret
  exact ⟨_, rfl, H1.out, H2.out, H3.out⟩

/-- nat.add: z.add(z, y), y of at most one word. -/
theorem add_any {w : World} {v u : Value} {X Y : Nat} (h : Nt w v (dg X)) (hu : Nt w u (dg Y)) (ha : Ap v u) (hY : Y < BB) (hl : (dg X).length ≤ 800000) : Calls Try.prog 73 #[v, v, u] w (NtOut w v (dg (X + Y))) := by
  by_cases hY0 : Y = 0
  · subst hY0
    rw [dg_zero] at hu
    rw [Nat.add_zero]
    obtain ⟨B, d, rfl, _⟩ := hu.slice
    by_cases hX0 : X = 0
    · subst hX0
      rw [dg_zero] at h ⊢
      exact add_00 h B d
    · exact add_10 h (dg_len_pos (by omega)) B d
  · have hy1 := dg_one (n := Y) (by omega) hY
    by_cases hX0 : X = 0
    · subst hX0
      rw [dg_zero] at h
      rw [Nat.zero_add]
      exact add_01 h hu ha (by rw [hy1]; rfl)
    · rcases h with ⟨_, h1⟩ | ⟨gx, cux, rfl, h1, h2, h3, h4⟩
      · exact absurd (dg_nil.1 h1) hX0
      · rcases hu with ⟨_, h5⟩ | ⟨gy, cuy, rfl, h5, h6, h7, h8⟩
        · exact absurd (dg_nil.1 h5) hY0
        · rw [hy1] at h6 h7 ⊢
          have hc := h5.cell 0 (by simp at h6; omega)
          have hcy : cuy.getD 0 0 = (Y : Int) := by
            cases cuy with
            | nil => simp at h6
            | cons a b => simp at h7; simp [h7]
          rw [hcy] at hc
          have hne : gy ≠ gx := fun e => ha gx rfl (by rw [e]; rfl)
          have e1 : ([(Y : Int)] : List Int).length = 1 := rfl
          rw [e1]
          by_cases hm : (dg X).length = 1
          · have := add_one (w := w) (gx := gx) (gy := gy) (cy := cuy.length) (cux := cux) (X := X) (Y := (Y : Int)) (by omega) hm h1 (by omega) h4 (by rw [← hm]; exact h3) hc hne (by simp at h6; omega) (by omega) (by exact_mod_cast hY)
            rw [Int.toNat_natCast] at this
            rw [hm]
            exact this
          · have hp := dg_len_pos (n := X) (by omega)
            have := add_many (w := w) (gx := gx) (gy := gy) (cy := cuy.length) (m := (dg X).length) (cux := cux) (X := X) (Y := (Y : Int)) (by omega) rfl (by omega) h1 h2 h4 hl h3 hc hne (by simp at h6; omega) (by omega) (by exact_mod_cast hY)
            rw [Int.toNat_natCast] at this
            exact this
end Go.Proofs.Ythckboojmljeiaa.Sm
