/- The law FnStoreBack. -/
import Derived.Test.YthckboojmljeiaaSt
import Derived.Test.YthckboojmljeiaaPFnSignedx1
namespace Go.Proofs.Ythckboojmljeiaa.Sk
set_option linter.unusedVariables false
set_option linter.unusedSimpArgs false
open Go.RowKit Go.Proofs.YthckboojmljeiaaW.PrintWords Go.Proofs.YthckboojmljeiaaW.PrintLast Go.Proofs.YthckboojmljeiaaW.PrintMore Go.Proofs.Ythckboojmljeiaa.Pl Go.Proofs.Ythckboojmljeiaa.Dg Go.Proofs.Ythckboojmljeiaa.Mem Go.Proofs.Ythckboojmljeiaa.Na Go.Proofs.Ythckboojmljeiaa.Nb Go.Proofs.Ythckboojmljeiaa.Be Go.Proofs.Ythckboojmljeiaa.Ow Go.Proofs.Ythckboojmljeiaa.By Go.Proofs.Ythckboojmljeiaa.Sp Go.Proofs.Ythckboojmljeiaa.Nu Go.Proofs.Ythckboojmljeiaa.In Go.Proofs.Ythckboojmljeiaa.Bl Go.Proofs.Ythckboojmljeiaa.Bn Go.Proofs.Ythckboojmljeiaa.Bs Go.Proofs.Ythckboojmljeiaa.St

/-! ### Bits -/
theorem pshort_l0 (l : List Int) (hl : l.length ≤ 100000) : ∀ k, l.length < k → PFnSigned.spec_Short.l0 k l = some (strip l) := by
  induction l with
  | nil =>
    intro k hk
    obtain ⟨k, rfl⟩ : ∃ m, k = m + 1 := ⟨k - 1, by omega⟩
    simp [PFnSigned.spec_Short.l0, strip]
  | cons x r ih =>
    intro k hk
    obtain ⟨k, rfl⟩ : ∃ m, k = m + 1 := ⟨k - 1, by omega⟩
    simp only [PFnSigned.spec_Short.l0]
    simp only [List.length_cons] at hl hk
    rw [if_pos (by simp only [List.length_cons]; omega), if_pos (by simp only [List.length_cons]; omega), show rd (x :: r) 0 = x from by simp [rd]]
    by_cases h : x = 0
    · subst h
      rw [if_pos rfl, if_pos (by simp only [List.length_cons]; omega), List.drop_one, List.tail_cons, ih (by omega) k (by omega)]
      rfl
    · rw [if_neg h]
      simp only [Option.bind_some]
      rw [if_pos (by simp; omega)]
      unfold strip
      rw [List.dropWhile_cons, if_neg (by simpa using h)]
      rfl
theorem bln_half (x : Nat) (h : 0 < x) : bln x = bln (x / 2) + 1 := by
  by_cases h1 : x / 2 = 0
  · have : x = 1 := by omega
    subst this
    rfl
  · refine (bln_unique' (k := bln (x / 2) + 1) (by omega) ?_ ?_).symm
    · have := bln_lt (x / 2)
      rw [Nat.pow_succ]
      omega
    · have := bln_ge (n := x / 2) (by omega)
      have hp := bln_pos (n := x / 2) (by omega)
      rw [show bln (x / 2) + 1 - 1 = (bln (x / 2) - 1) + 1 from by omega, Nat.pow_succ]
      omega
theorem bits_l0 : ∀ (k : Nat) (x : Nat) (o : Int), x < 256 → x < k → 0 ≤ o → o + x ≤ 2000000 → PFnSigned.spec_Bits.l0 k o (x : Int) = some (o + (bln x : Nat)) := by
  intro k
  induction k with
  | zero => intro x o _ h; omega
  | succ k ih =>
    intro x o hx hk h0 h1
    simp only [PFnSigned.spec_Bits.l0]
    by_cases hx0 : x = 0
    · subst hx0
      rw [if_neg (by omega)]
      simp [bln_zero]
    · rw [if_pos (by omega), w64 (by omega) (by omega), show Int.tdiv (x : Int) 2 % 256 = ((x / 2 : Nat) : Int) from by rw [Int.tdiv_eq_ediv_of_nonneg (by omega)]; omega, ih (x / 2) (o + 1) (by omega) (by omega) (by omega) (by omega)]
      rw [bln_half x (by omega)]
      congr 1
      omega
theorem bln_up (m b x : Nat) (hb : b < 2 ^ m) (hx : 0 < x) : bln (b + 2 ^ m * x) = m + bln x := by
  have h1 := bln_lt x
  have h2 := bln_ge hx
  have h3 := bln_pos hx
  refine (bln_unique' (by omega) ?_ ?_).symm
  · rw [Nat.pow_add]
    have : 2 ^ m * (x + 1) ≤ 2 ^ m * 2 ^ bln x := Nat.mul_le_mul_left _ h1
    rw [Nat.mul_succ] at this
    omega
  · rw [show m + bln x - 1 = m + (bln x - 1) from by omega, Nat.pow_add]
    have := Nat.mul_le_mul_left (2 ^ m) h2
    omega
theorem bits_eq (l : List Int) (hd : Dig 256 l) (hl : l.length ≤ 10000) (n : Nat) (hn : lv 256 l.reverse = (n : Int)) (k : Nat) (hk : 300 + l.length < k) : PFnSigned.spec_Bits.f k l = some ((bln n : Nat) : Int) := by
  unfold PFnSigned.spec_Bits.f PFnSigned.spec_Short.f
  rw [pshort_l0 l (by omega) k (by omega)]
  simp only [Option.bind_some]
  have hle := strip_length_le l
  have hsd := strip_dig hd
  have hh := @strip_head l
  rw [← strip_lv] at hn
  obtain ⟨s, hs⟩ : ∃ s, strip l = s := ⟨_, rfl⟩
  rw [hs] at hn hsd hh hle ⊢
  cases s with
  | nil =>
    have : n = 0 := by
      have h0 : lv 256 ([] : List Int).reverse = 0 := rfl
      omega
    subst this
    simp [bln_zero]
  | cons x r =>
    have hx := hh (by simp)
    simp only [List.getD_cons_zero] at hx
    obtain ⟨⟨x0, x1⟩, hr⟩ := hsd.cons
    have r1 := lv_range (B := 256) (by omega) hr.reverse
    rw [List.reverse_cons, lv_snoc] at hn
    rw [List.length_reverse] at hn r1
    have hp : (256 : Int) ^ r.length = ((2 ^ (8 * r.length) : Nat) : Int) := by rw [pow256]; simp
    rw [hp] at hn r1
    obtain ⟨a, rfl⟩ := Int.eq_ofNat_of_zero_le x0
    obtain ⟨b, hb⟩ := Int.eq_ofNat_of_zero_le r1.1
    rw [hb] at hn r1
    have hn2 : n = b + 2 ^ (8 * r.length) * a := by exact_mod_cast hn.symm
    have hbP : b < 2 ^ (8 * r.length) := by exact_mod_cast r1.2
    rw [hn2, bln_up _ _ _ hbP (by omega)]
    simp only [List.length_cons] at hle ⊢
    rw [if_neg (by omega), if_pos (by omega), show rd ((a : Int) :: r) 0 = (a : Int) from by simp [rd], w64 (n := ((r.length + 1 : Nat) : Int) - 1) (by omega) (by omega), w64 (by omega) (by omega), bits_l0 k a _ (by omega) (by omega) (by omega) (by omega)]
    congr 1
    omega
theorem bits_call (A : Option Addr) (c : Nat) (l : List Int) (w : World) (hr : Kd.C (Kd.int .u8) w A l.length l) (hc : l.length ≤ c) (hd : Dig 256 l) (hl : l.length ≤ 10000) (n : Nat) (hn : lv 256 l.reverse = (n : Int)) :
    Calls Try.prog 19 #[.slice A l.length c] w fun e w' => e = .returned (.int .i64 ((bln n : Nat) : Int)) ∧ Below w.heap.size w w' :=
  PFnSigned.spec_Bits.calls (301 + l.length) A c l _ w hr hc (bits_eq l hd hl n hn _ (by omega))

/-! ### What is stored is the number again -/
theorem storeL_dig {buf n : List Int} {b : Bool} (h1 : Dig 256 buf) (h2 : Dig 256 n) : Dig 256 (storeL buf n b) := by
  unfold storeL
  split
  · exact h1
  · exact (strip_dig h2).reverse.append (Dig.replicate (by omega) _)
theorem storeL_len (buf n : List Int) (b : Bool) : (storeL buf n b).length = buf.length := by
  unfold storeL
  split
  · rfl
  · rename_i h
    simp
    omega
theorem strip_strip (l : List Int) : strip (strip l) = strip l := by
  induction l with
  | nil => rfl
  | cons x r ih =>
    by_cases hx : x = 0
    · subst hx; exact ih
    · have : strip (x :: r) = x :: r := by unfold strip; rw [List.dropWhile_cons, if_neg (by simpa using hx)]
      rw [this, this]
theorem back (buf n : List Int) (hd : Dig 256 n) (k : Nat) (hk : lv 256 n.reverse = (k : Int)) : strip (storeL buf n false).reverse = if 8 * buf.length < bln k then strip buf.reverse else strip n := by
  have hs := strip_len k n hd hk
  unfold storeL
  by_cases h : 8 * buf.length < bln k
  · rw [if_pos h, if_pos (.inl (by omega))]
  · rw [if_neg h, if_neg (by rintro (h1 | h1); omega; exact absurd h1.1 (by simp)), pad, List.reverse_reverse]
    exact strip_strip n

set_option maxHeartbeats 400000 in
set_option maxRecDepth 100000 in
theorem law (A : Option Addr) (c : Nat) (l : List Int) (A1 : Option Addr) (c1 : Nat) (n : List Int) (b : Bool) (w : World) (hr : Kd.C (Kd.int .u8) w A l.length l) (hc : l.length ≤ c) (hd : Dig 256 l) (hr1 : Kd.C (Kd.int .u8) w A1 n.length n) (hc1 : n.length ≤ c1) (hd1 : Dig 256 n) :
    Calls Try.prog 5 #[.slice A l.length c, .slice A1 n.length c1, .bool b] w fun e w' => e = .returned (.bool true) ∧ Below w.heap.size w w' := by
  have HR := Lib.hid hr
  have HC := Lib.hid hc
  have HD := Lib.hid hd
  have HR1 := Lib.hid hr1
  have HC1 := Lib.hid hc1
  have HD1 := Lib.hid hd1
  clear hr hc hd hr1 hc1 hd1
  go_enter Try.func5, Try.ntmps5
  by_cases h0 : (2147483647 : Int) < (l.length : Int)
  · go_wp2
    go_ret
    exact ⟨rfl, Below.refl _ _⟩
  by_cases h1 : (2147483647 : Int) < (n.length : Int)
  · go_wp2
    go_ret
    exact ⟨rfl, Below.refl _ _⟩
  by_cases h2 : (4096 : Int) < (l.length : Int)
  · go_wp2
    go_ret
    exact ⟨rfl, Below.refl _ _⟩
  by_cases h3 : (4096 : Int) < (n.length : Int)
  · go_wp2
    go_ret
    exact ⟨rfl, Below.refl _ _⟩
  have HI := Lib.hid (impl_store A c l A1 c1 n false w HR.out HC.out (by omega) HR1.out HC1.out (by omega) HD1.out)
  rw [stLe_eq l n false HD1.out] at HI
  have hl1 : l.length ≤ 4096 := by omega
  have hl2 : n.length ≤ 4096 := by omega
  obtain ⟨k, hk⟩ : ∃ k : Nat, lv 256 n.reverse = (k : Int) := Int.eq_ofNat_of_zero_le (lv_range (B := 256) (by omega) HD1.out.reverse).1
  have HK := Lib.hid hk
  have hbk := back l n HD1.out k hk
  obtain ⟨T, hT⟩ : ∃ T, (if 8 * l.length < bln k then strip l.reverse else strip n) = T := ⟨_, rfl⟩
  rw [hT] at hbk
  have HT0 := Lib.hid hT
  clear hk hT
  go_wp2_with fail
  refine HI.out.mono ?_
  rintro e w1 ⟨A2, c2, rfl, hc2, hC2, hb2⟩
  have HN := Lib.hid (impl_number A2 c2 (storeL l n false) w1 hC2 hc2 (storeL_dig HD.out HD1.out) (by rw [storeL_len]; omega))
  have HB2 := Lib.hid hb2
  clear hc2 hC2 hb2 HI
  rw [hbk] at HN
  go_wp2_with fail
  refine HN.out.mono ?_
  rintro e w2 ⟨A3, c3, rfl, hc3, hC3, hb3⟩
  have HB3 := Lib.hid (below_then HB2.out HB2.out.size hb3)
  have HS := Lib.hid (bits_call A1 c1 n w2 (Kd.C_below HR1.out HB3.out) HC1.out HD1.out (by omega) k HK.out)
  have HC3 := Lib.hid hC3
  obtain ⟨bk, hbn⟩ : ∃ bk, bln k = bk := ⟨_, rfl⟩
  rw [hbn] at HS HT0
  clear hc3 hC3 hb3 HN hbk hbn
  go_wp2_with fail
  refine HS.out.mono ?_
  rintro e w3 ⟨rfl, hb4⟩
  have HB4 := Lib.hid (below_then HB3.out HB3.out.size hb4)
  have HC4 := Lib.hid (Kd.C_below HC3.out hb4)
  clear hb4 HS HC3
  by_cases hgt : 8 * l.length < bk
  · have hgi : (8 : Int) * (l.length : Int) < (bk : Int) := by omega
    have hT := HT0.out
    rw [if_pos hgt] at hT
    subst hT
    have HT := Lib.hid (turned_call A c l w3 (Kd.C_below HR.out HB4.out) HC.out (by omega))
    clear hgt
    go_wp2_with fail
    refine HT.out.mono ?_
    rintro e w4 ⟨A5, c5, rfl, hc5, hC5, hb5⟩
    have HS5 := Lib.hid (short_call A5 c5 l.reverse w4 hC5 hc5 (by rw [List.length_reverse]; omega))
    rw [List.length_reverse] at HS5
    have HC5 := Lib.hid (Kd.C_below HC4.out hb5)
    have HB5 := Lib.hid (below_then HB4.out HB4.out.size hb5)
    clear hC5 hc5 hb5 HC4
    go_wp2_with fail
    refine HS5.out.mono ?_
    rintro e w5 ⟨A6, c6, rfl, hc6, hC6, hb6⟩
    have HE := Lib.hid (Be.equal8 A3 A6 _ c3 c6 (strip l.reverse) w5 (Kd.C_below HC5.out hb6) hC6)
    have HB6 := Lib.hid (below_then HB5.out HB5.out.size hb6)
    clear hC6 hc6 hb6
    go_wp2_with fail
    refine HE.out.mono ?_
    rintro e w6 ⟨rfl, hd6⟩
    have HB7 := Lib.hid (below_then HB6.out HB6.out.size hd6.below)
    clear hd6
    go_wp2
    go_ret
    exact ⟨rfl, HB7.out⟩
  · have hgi : ¬ (8 : Int) * (l.length : Int) < (bk : Int) := by omega
    have hT := HT0.out
    rw [if_neg hgt] at hT
    subst hT
    have HT := Lib.hid (short_call A1 c1 n w3 (Kd.C_below HR1.out HB4.out) HC1.out (by omega))
    clear hgt
    go_wp2_with fail
    refine HT.out.mono ?_
    rintro e w5 ⟨A6, c6, rfl, hc6, hC6, hb6⟩
    have HE := Lib.hid (Be.equal8 A3 A6 _ c3 c6 (strip n) w5 (Kd.C_below HC4.out hb6) hC6)
    have HB6 := Lib.hid (below_then HB4.out HB4.out.size hb6)
    clear hC6 hc6 hb6
    go_wp2_with fail
    refine HE.out.mono ?_
    rintro e w6 ⟨rfl, hd6⟩
    have HB7 := Lib.hid (below_then HB6.out HB6.out.size hd6.below)
    clear hd6
    go_wp2
    go_ret
    exact ⟨rfl, HB7.out⟩
end Go.Proofs.Ythckboojmljeiaa.Sk
