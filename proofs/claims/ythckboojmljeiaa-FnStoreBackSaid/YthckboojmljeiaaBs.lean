/- Walk: BigInt2BytesLe. -/
import Derived.Test.YthckboojmljeiaaIn
import Derived.Test.YthckboojmljeiaaBn
namespace Go.Proofs.Ythckboojmljeiaa.Bs
set_option linter.unusedVariables false
set_option linter.unusedSimpArgs false
open Go.RowKit Go.Proofs.YthckboojmljeiaaW.PrintWords Go.Proofs.YthckboojmljeiaaW.PrintLast Go.Proofs.YthckboojmljeiaaW.PrintMore Go.Proofs.Ythckboojmljeiaa.Pl Go.Proofs.Ythckboojmljeiaa.Dg Go.Proofs.Ythckboojmljeiaa.Mem Go.Proofs.Ythckboojmljeiaa.Na Go.Proofs.Ythckboojmljeiaa.Nb Go.Proofs.Ythckboojmljeiaa.Be Go.Proofs.Ythckboojmljeiaa.Ow Go.Proofs.Ythckboojmljeiaa.By Go.Proofs.Ythckboojmljeiaa.Sp Go.Proofs.Ythckboojmljeiaa.Nu Go.Proofs.Ythckboojmljeiaa.In Go.Proofs.Ythckboojmljeiaa.Bl Go.Proofs.Ythckboojmljeiaa.Bn

theorem strip_head {l : List Int} (h : strip l ≠ []) : (strip l).getD 0 0 ≠ 0 := by
  induction l with
  | nil => exact absurd rfl h
  | cons x r ih =>
    unfold strip at h ⊢
    rw [List.dropWhile_cons] at h ⊢
    by_cases hx : x = 0
    · subst hx
      exact ih h
    · rw [if_neg (by simpa using hx)]
      simpa using hx
theorem strip_dig {B : Int} {l : List Int} (h : Dig B l) : Dig B (strip l) := fun x hx => h x ((List.dropWhile_sublist _).subset hx)
theorem strip_lv (B : Int) (l : List Int) : lv B (strip l).reverse = lv B l.reverse := by
  induction l with
  | nil => rfl
  | cons x r ih =>
    unfold strip at ih ⊢
    rw [List.dropWhile_cons]
    by_cases hx : x = 0
    · subst hx
      rw [if_pos (by rfl), ih, List.reverse_cons, lv_snoc]
      omega
    · rw [if_neg (by simpa using hx)]
/-- How many bytes a number has. -/
theorem strip_len (n : Nat) (l : List Int) (hd : Dig 256 l) (h : lv 256 l.reverse = (n : Int)) : (strip l).length = (bln n + 7) / 8 := by
  rw [← strip_lv] at h
  have hsd := strip_dig hd
  have hh := @strip_head l
  obtain ⟨s, hs⟩ : ∃ s, strip l = s := ⟨_, rfl⟩
  rw [hs] at h hsd hh ⊢
  cases s with
  | nil =>
    have : n = 0 := by
      have h0 : lv 256 ([] : List Int).reverse = 0 := rfl
      omega
    subst this
    rfl
  | cons x r =>
    have hx := hh (by simp)
    simp only [List.getD_cons_zero] at hx
    obtain ⟨⟨x0, x1⟩, hr⟩ := hsd.cons
    have r1 := lv_range (B := 256) (by omega) hr.reverse
    rw [List.reverse_cons, lv_snoc] at h
    rw [List.length_reverse] at h r1
    have hp : (256 : Int) ^ r.length = ((2 ^ (8 * r.length) : Nat) : Int) := by rw [pow256]; simp
    rw [hp] at h r1
    obtain ⟨P, hP⟩ : ∃ P, 2 ^ (8 * r.length) = P := ⟨_, rfl⟩
    have hP2 : 2 ^ (8 * (r.length + 1)) = P * 256 := by rw [show 8 * (r.length + 1) = 8 * r.length + 8 from by omega, Nat.pow_add, hP]
    rw [hP] at h r1
    have hPp : 0 < P := by rw [← hP]; exact Nat.two_pow_pos _
    obtain ⟨a, rfl⟩ := Int.eq_ofNat_of_zero_le x0
    obtain ⟨b, hb⟩ := Int.eq_ofNat_of_zero_le r1.1
    rw [hb] at h r1
    have ha1 : a ≤ 255 := by omega
    have ha0 : 1 ≤ a := by omega
    have hn : n = b + P * a := by exact_mod_cast h.symm
    have hbP : b < P := by exact_mod_cast r1.2
    have e1 : P * a ≤ P * 255 := Nat.mul_le_mul_left _ ha1
    have e2 : P * 1 ≤ P * a := Nat.mul_le_mul_left _ ha0
    have u1 : bln n ≤ 8 * (r.length + 1) := bln_le.2 (by rw [hP2]; omega)
    have u2 : ¬ bln n ≤ 8 * r.length := by rw [bln_le, hP]; omega
    simp only [List.length_cons]
    omega

/-- i bytes of R are laid. -/
def Lr (w wr : World) (B g n cap : Nat) (R : List Int) (i : Nat) : Prop := ∃ cur, wr.ownsRow B 5 1 (.slice (some ⟨g, 0, none⟩) n cap) n (nums .u8 cur) ∧ cur.take i = R.take i ∧ w.grownBy wr (some g)
theorem Lr.put {w wr : World} {B g n cap i : Nat} {R : List Int} (h : Lr w wr B g n cap R i) (hi : i < n) (hR : R.length = n) (x : Int) (hx : R.getD i 0 = x) : Lr w (wr.setCell ⟨g, i, none⟩ (.int .u8 x)) B g n cap R (i + 1) := by
  obtain ⟨cur, h1, h2, h3⟩ := h
  have hl : cur.length = n := by have := h1.1; simpa [nums] using this
  have hs := h1.stored i (.int .u8 x)
  refine ⟨cur.set i x, by rw [nums, List.map_set]; exact hs.1, ?_, grownBy_trans h3 hs.2⟩
  rw [take_succ_getD _ i (by rw [List.length_set]; omega), List.take_set, List.set_eq_of_length_le (by rw [List.length_take]; omega), h2, take_succ_getD R i (by omega), List.getD_eq_getElem?_getD, List.getElem?_set_self (by omega), hx]
  rfl
theorem Lr.has {w wr : World} {B g n cap i : Nat} {R : List Int} (h : Lr w wr B g n cap R i) (j : Nat) (hj : j < n) : (∃ u, wr.cell? ⟨g, j, none⟩ = some (.int .u8 u)) ∧ wr.frozen? ⟨g, j, none⟩ = false := by
  obtain ⟨cur, h1, h2, h3⟩ := h
  have hl : cur.length = n := by have := h1.1; simpa [nums] using this
  refine ⟨⟨cur.getD j 0, ?_⟩, h1.frozenAt j⟩
  rw [h1.cellAt j (by omega), nums, List.getElem?_map, List.getD_eq_getElem?_getD, List.getElem?_eq_getElem (by omega)]
  rfl
theorem Lr.all {w wr : World} {B g n cap : Nat} {R : List Int} (h : Lr w wr B g n cap R n) (hR : R.length = n) : wr.ownsRow B 5 1 (.slice (some ⟨g, 0, none⟩) n cap) n (nums .u8 R) ∧ w.grownBy wr (some g) := by
  obtain ⟨cur, h1, h2, h3⟩ := h
  have hl : cur.length = n := by have := h1.1; simpa [nums] using this
  rw [List.take_of_length_le (by omega), List.take_of_length_le (by omega)] at h2
  subst h2
  exact ⟨h1, h3⟩

/-- What BigInt2BytesLe leaves in a buffer. -/
def stLe (xs : List Int) (z : Int) : List Int :=
  if (strip (low (dg z.natAbs)).reverse).length ≤ xs.length ∧ 0 ≤ z then (strip (low (dg z.natAbs)).reverse).reverse ++ List.replicate (xs.length - (strip (low (dg z.natAbs)).reverse).length) 0 else xs

set_option maxHeartbeats 1000000 in
set_option maxRecDepth 100000 in
theorem store_any {w : World} {p : Nat} {v : Value} {z : Int} {B g n cap : Nat} {xs : List Int} (h : Iz w p v z) (hz : (dg z.natAbs).length ≤ 100000) (hO : w.ownsRow B 5 1 (.slice (some ⟨g, 0, none⟩) n cap) n (nums .u8 xs)) (hn : n ≤ 100000) :
    Calls Try.prog 37 #[.slice (some ⟨g, 0, none⟩) n cap, .pointer (some ⟨p, 0, none⟩)] w fun e w' => e = .returned (.tuple #[]) ∧ w'.ownsRow B 5 1 (.slice (some ⟨g, 0, none⟩) n cap) n (nums .u8 (stLe xs z)) ∧ w.grownBy w' (some g) := by
  have hxl : xs.length = n := by have := hO.1; simpa [nums] using this
  have hlow := low_lv _ (dg_dig z.natAbs)
  rw [lv_dg] at hlow
  have hsl := strip_len z.natAbs (low (dg z.natAbs)).reverse (low_dig _).reverse (by rw [List.reverse_reverse]; exact hlow)
  have HL := Lib.hid (intBitLen h)
  have HS := Lib.hid (intSign h)
  have HY := Lib.hid (intBytes h hz)
  have HO := Lib.hid hO
  have hbl : bln z.natAbs ≤ 64 * (dg z.natAbs).length := bln_le.2 (by have := dg_lt z.natAbs; rw [BB_pow, ← Nat.pow_mul] at this; exact this)
  unfold stLe
  rw [hxl]
  have HX := Lib.hid hxl
  obtain ⟨L, hL⟩ : ∃ L, dg z.natAbs = L := ⟨_, rfl⟩
  rw [hL] at hsl HY hz hbl ⊢
  obtain ⟨b, hb⟩ : ∃ b, bln z.natAbs = b := ⟨_, rfl⟩
  rw [hb] at hsl HL hbl
  obtain ⟨y, hy⟩ : ∃ y, strip (low L).reverse = y := ⟨_, rfl⟩
  rw [hy] at hsl ⊢
  have HYY := Lib.hid hy
  obtain ⟨k, hk⟩ : ∃ k, y.length = k := ⟨_, rfl⟩
  rw [hk] at hsl ⊢
  have HK := Lib.hid hk
  have hkb : ((b : Int) + 7) / 8 = (k : Int) := by omega
  have hb7 : b ≤ 6400000 := by omega
  clear h hO hlow hL hb hy hk hxl
  by_cases hkn : k ≤ n
  · by_cases hz0 : 0 ≤ z
    · rw [if_pos ⟨hkn, hz0⟩]
      have hsg : (0 : Int) ≤ z.sign := Int.sign_nonneg_iff.2 hz0
      obtain ⟨R, hR⟩ : ∃ R, y.reverse ++ List.replicate (n - k) 0 = R := ⟨_, rfl⟩
      have hRl : R.length = n := by rw [← hR]; have := HK.out; simp; omega
      have hR1 : ∀ i, i < k → R.getD i 0 = y.getD (k - 1 - i) 0 := fun i hi => by
        rw [← hR, List.getD_eq_getElem?_getD, List.getElem?_append_left (by rw [List.length_reverse, HK.out]; exact hi), ← List.getD_eq_getElem?_getD, getD_reverse y i (by rw [HK.out]; exact hi), HK.out]
      have hR2 : ∀ i, k ≤ i → R.getD i 0 = 0 := fun i hi => by
        rw [← hR, List.getD_eq_getElem?_getD, List.getElem?_append_right (by rw [List.length_reverse, HK.out]; exact hi), List.getElem?_replicate]
        split <;> rfl
      rw [hR]
      have HR := Lib.hid hR
      have HRl := Lib.hid hRl
      have HR1 := Lib.hid hR1
      have HR2 := Lib.hid hR2
      clear hR hRl hR1 hR2 hsl hz
      have hkn2 : (k : Int) ≤ (n : Int) := by omega
      go_enter Try.func37, Try.ntmps37
      go_wp2_with fail
      refine HL.out.mono ?_
      rintro e w1 ⟨rfl, rfl⟩
      go_wp2_with fail
      refine HS.out.mono ?_
      rintro e w1 ⟨rfl, rfl⟩
      go_wp2_with fail
      refine HY.out.mono ?_
      rintro e w1 ⟨A', k', c', rfl, h1, h2, h3, h4, h5⟩
      rw [HYY.out] at h2 h5
      rw [HK.out] at h2
      subst h2
      have hg0 := HO.out
      have hgl : g < w.heap.size := (hg0.lt g rfl).2
      have HY5 := Lib.hid h5
      have HOw := Lib.hid h3
      have HB1 := Lib.hid h4
      have HL0 := Lib.hid (show Lr w w1 B g n cap R 0 from ⟨xs, pw_own_below hg0 h4, rfl, grown_of_below h4 _⟩)
      have HGL := Lib.hid hgl
      have HOk := Lib.hid (show ∀ wr, w.grownBy wr (some g) → True from fun _ _ => trivial)
      clear h1 h3 h4 h5 hg0 hgl HL HS HY
      have hne : w.heap.size ≠ g := by have := HGL.out; omega
      go_wp2_with fail
      go_loopw [7] (fun t wr => ∃ i : Nat, i ≤ k' ∧ t = .int .i64 (i : Int) ∧ Hid (Lr w wr B g n cap R i ∧ Ow .u8 5 w.heap.size w.heap.size (8 * L.length) (low L).reverse wr)) (fun t _ => k' - (intOf t).toNat)
      case atStart => exact ⟨0, by omega, rfl, HL0.out, HOw.out⟩
      case round =>
        clear HL0 HOw
        obtain ⟨i, hi, rfl, HI⟩ := hrel
        by_cases hlt : i < k'
        · obtain ⟨ad, e, hx⟩ := Kd.at_int (HY5.out wr HI.out.2) ((k' : Int) - 1 - (i : Int)) (by omega) (by omega)
          subst e
          have ht : ((k' : Int) - 1 - (i : Int)).toNat = k' - 1 - i := by omega
          rw [show rd y ((k' : Int) - 1 - (i : Int)) = y.getD (k' - 1 - i) 0 from by unfold rd; rw [ht], ht] at hx
          obtain ⟨x, hx2⟩ : ∃ x, y.getD (k' - 1 - i) 0 = x := ⟨_, rfl⟩
          rw [hx2] at hx
          have HP := Lib.hid (HI.out.1.put (by omega) HRl.out x (by rw [HR1.out i hlt]; exact hx2))
          obtain ⟨⟨u, hcell⟩, hfree⟩ := HI.out.1.has i (by omega)
          have HOn := Lib.hid (HI.out.2.kept (row := some g) (show wr.grownBy (wr.setCell ⟨g, i, none⟩ (.int .u8 x)) (some g) from by obtain ⟨cur, q1, _, _⟩ := HI.out.1; exact (q1.stored i _).2) (by intro e; injection e with e; exact hne e))
          have b1 : (i : Int) < (k' : Int) := by omega
          have b1n : (i : Int) < (n : Int) := by omega
          have b2 : (0 : Int) ≤ (k' : Int) - 1 - (i : Int) := by omega
          have b2b : (i : Int) ≤ (k' : Int) - 1 := by omega
          have b3 : (k' : Int) - 1 - (i : Int) < (k' : Int) := by omega
          clear hx2
          go_wp2_with fail
          go_roundw
          case rel => exact ⟨i + 1, by omega, by go_num, HP.out, HOn.out⟩
          case measure => simp [intOf]; omega
        · have hik : i = k' := by omega
          subst hik
          have HI1 := Lib.hid HI.out.1
          clear HI
          go_wp2_with fail
          go_loopw [8] (fun t w2 => ∃ j : Nat, i ≤ j ∧ j ≤ n ∧ t = .int .i64 (j : Int) ∧ Hid (Lr w w2 B g n cap R j)) (fun t _ => n - (intOf t).toNat)
          case atStart => exact ⟨i, by omega, by omega, rfl, HI1.out⟩
          case round =>
            clear HI1
            obtain ⟨j, hij, hjn, rfl, HI⟩ := hrel
            by_cases hlt2 : j < n
            · have HP := Lib.hid (HI.out.put hlt2 HRl.out 0 (HR2.out j hij))
              obtain ⟨⟨u, hcell⟩, hfree⟩ := HI.out.has j hlt2
              have b1 : (j : Int) < (n : Int) := by omega
              go_wp2_with fail
              go_roundw
              case rel => exact ⟨j + 1, by omega, by omega, by go_num, HP.out⟩
              case measure => simp [intOf]; omega
            · have hjn2 : j = n := by omega
              subst hjn2
              go_wp2_with fail
              go_end0
              exact ⟨rfl, HI.out.all HRl.out⟩
    · rw [if_neg (fun h => hz0 h.2)]
      have hsg : z.sign < 0 := by rw [Int.sign_eq_neg_one_of_neg (by omega)]; decide
      have hsg2 : ¬ (0 : Int) ≤ z.sign := by omega
      have hkn2 : (k : Int) ≤ (n : Int) := by omega
      clear hsl hz
      go_enter Try.func37, Try.ntmps37
      go_wp2_with fail
      refine HL.out.mono ?_
      rintro e w1 ⟨rfl, rfl⟩
      go_wp2_with fail
      refine HS.out.mono ?_
      rintro e w1 ⟨rfl, rfl⟩
      go_wp2_with fail
      go_end0
      exact ⟨rfl, HO.out, grownBy_refl _ _⟩
  · rw [if_neg (fun h => hkn h.1)]
    have hkn2 : ¬ (k : Int) ≤ (n : Int) := by omega
    clear hsl hz
    go_enter Try.func37, Try.ntmps37
    go_wp2_with fail
    refine HL.out.mono ?_
    rintro e w1 ⟨rfl, rfl⟩
    go_wp2_with fail
    go_end0
    exact ⟨rfl, HO.out, grownBy_refl _ _⟩
end Go.Proofs.Ythckboojmljeiaa.Bs
