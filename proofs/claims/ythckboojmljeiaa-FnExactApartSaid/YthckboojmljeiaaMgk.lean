/- Plain: the signed digits of an odd number; The law FnStoreBack; Walk: SignedDigit. -/
import Derived.Test.YthckboojmljeiaaMga
import Derived.Test.YthckboojmljeiaaMge
import Derived.Test.YthckboojmljeiaaPFnSignedx1
import Derived.Test.YthckboojmljeiaaMgf
import Derived.Test.YthckboojmljeiaaMgg
import Derived.Test.YthckboojmljeiaaMgj
import Derived.Deep.Cut
namespace Go.Proofs.Ythckboojmljeiaa.Kp
set_option linter.unusedVariables false
set_option linter.unusedSimpArgs false
open Go.RowKit Go.Proofs.Ythckboojmljeiaa.Pl Go.Proofs.Ythckboojmljeiaa.Dg

/-- What is left behind i digits. -/
def sdK (s X : Nat) : Nat → Nat
  | 0 => X
  | i + 1 => 2 * (sdK s X i / 2 ^ (s + 1)) + 1
/-- The digit of what is left. -/
def sdV (s K : Nat) : Int := ((K % 2 ^ (s + 1) : Nat) : Int) - ((2 ^ s : Nat) : Int)
/-- The digits. -/
def sdL (s X m : Nat) : List Int := (List.range m).map (fun i => sdV s (sdK s X i)) ++ [1]
theorem sdL_length (s X m : Nat) : (sdL s X m).length = m + 1 := by simp [sdL]
theorem sdL_get (s X m i : Nat) (h : i < m) : (sdL s X m).getD i 0 = sdV s (sdK s X i) := by
  unfold sdL
  rw [List.getD_eq_getElem?_getD, List.getElem?_append_left (by simpa using h)]
  simp [h]
theorem sdL_last (s X m : Nat) : (sdL s X m).getD m 0 = 1 := by
  unfold sdL
  rw [List.getD_eq_getElem?_getD, List.getElem?_append_right (by simp)]
  simp
theorem sdK_odd (s X : Nat) (h : X % 2 = 1) (i : Nat) : sdK s X i % 2 = 1 := by
  cases i with
  | zero => exact h
  | succ i => simp only [sdK]; omega
theorem sdK_lt (s X l : Nat) (hs : 1 ≤ s) (h : X < 2 ^ l) (hl : 1 ≤ l) (i : Nat) : sdK s X i < 2 ^ (max 1 (l - i * s)) := by
  induction i with
  | zero => simp only [sdK]; rw [Nat.zero_mul, Nat.sub_zero, Nat.max_eq_right hl]; exact h
  | succ i ih =>
    simp only [sdK]
    rw [show (i + 1) * s = i * s + s from Nat.succ_mul i s]
    obtain ⟨a, ha⟩ : ∃ a, max 1 (l - i * s) = a := ⟨_, rfl⟩
    rw [ha] at ih
    by_cases h1 : a ≤ s
    · have h2 : sdK s X i / 2 ^ (s + 1) = 0 := Nat.div_eq_of_lt (Nat.lt_of_lt_of_le ih (Nat.pow_le_pow_right (by decide) (by omega)))
      rw [h2]
      have : (2 : Nat) ^ 1 ≤ 2 ^ (max 1 (l - (i * s + s))) := Nat.pow_le_pow_right (by decide) (by omega)
      omega
    · have h3 : max 1 (l - (i * s + s)) = (a - s - 1) + 1 := by omega
      have h4 : sdK s X i / 2 ^ (s + 1) < 2 ^ (a - s - 1) := by
        rw [Nat.div_lt_iff_lt_mul (Nat.pow_pos (by decide)), ← Nat.pow_add, show a - s - 1 + (s + 1) = a from by omega]
        exact ih
      obtain ⟨q, hq⟩ : ∃ q, sdK s X i / 2 ^ (s + 1) = q := ⟨_, rfl⟩
      rw [hq] at h4 ⊢
      rw [h3, Nat.pow_succ]
      omega
theorem sdK_end (s X l m : Nat) (hs : 1 ≤ s) (ho : X % 2 = 1) (h : X < 2 ^ l) (hl : 1 ≤ l) (hm : l ≤ m * s) : sdK s X m = 1 := by
  have h1 := sdK_lt s X l hs h hl m
  rw [show max 1 (l - m * s) = 1 from by omega] at h1
  have h2 := sdK_odd s X ho m
  omega
theorem sdV_range (s K : Nat) : -((2 ^ s : Nat) : Int) ≤ sdV s K ∧ sdV s K < ((2 ^ s : Nat) : Int) := by
  have h := Nat.mod_lt K (show 0 < 2 ^ (s + 1) from Nat.pow_pos (by decide))
  rw [Nat.pow_succ] at h
  unfold sdV
  rw [Nat.pow_succ]
  omega
theorem sdV_le (s K : Nat) : sdV s K ≤ (K : Int) := by
  have h := Nat.mod_le K (2 ^ (s + 1))
  unfold sdV
  omega
theorem sdV_sub (s K : Nat) : (K : Int) - sdV s K = ((2 ^ (s + 1) * (K / 2 ^ (s + 1)) + 2 ^ s : Nat) : Int) := by
  have h := Nat.div_add_mod K (2 ^ (s + 1))
  unfold sdV
  obtain ⟨q, hq⟩ : ∃ q, 2 ^ (s + 1) * (K / 2 ^ (s + 1)) = q := ⟨_, rfl⟩
  obtain ⟨r, hr⟩ : ∃ q, K % 2 ^ (s + 1) = q := ⟨_, rfl⟩
  rw [hq, hr] at h
  rw [hq, hr]
  omega
theorem sd_shift (s q : Nat) : (2 ^ (s + 1) * q + 2 ^ s) / 2 ^ s = 2 * q + 1 := by
  have hp : 0 < 2 ^ s := Nat.pow_pos (by decide)
  rw [show 2 ^ (s + 1) * q + 2 ^ s = 2 ^ s * (2 * q + 1) from by rw [Nat.pow_succ, Nat.mul_add, Nat.mul_one, Nat.mul_assoc], Nat.mul_div_cancel_left _ hp]
theorem dg_len_pow (n l : Nat) (h : n < 2 ^ l) : (dg n).length ≤ l / 64 + 1 := by
  refine dg_len_le (k := l / 64 + 1) ?_
  rw [BB_pow, ← Nat.pow_mul]
  exact Nat.lt_of_lt_of_le h (Nat.pow_le_pow_right (by omega) (by omega))
theorem sdK_dg (s X l : Nat) (hs : 1 ≤ s) (h : X < 2 ^ l) (hl : 1 ≤ l) (i : Nat) : (dg (sdK s X i)).length ≤ l / 64 + 1 :=
  dg_len_pow _ _ (Nat.lt_of_lt_of_le (sdK_lt s X l hs h hl i) (Nat.pow_le_pow_right (by omega) (by omega)))
theorem pow_bounds (s : Nat) (h1 : 1 ≤ s) (h2 : s ≤ 30) : 2 ^ (s + 1) ≤ 2147483648 ∧ 2 ^ s ≤ 1073741824 ∧ 2 ^ (s + 1) = 2 * 2 ^ s ∧ 2 ≤ 2 ^ s := by
  have a : 2 ^ (s + 1) ≤ 2 ^ 31 := Nat.pow_le_pow_right (by omega) (by omega)
  have b : 2 ^ s ≤ 2 ^ 30 := Nat.pow_le_pow_right (by omega) (by omega)
  have c : 2 ^ 1 ≤ 2 ^ s := Nat.pow_le_pow_right (by omega) (by omega)
  exact ⟨by omega, by omega, by rw [Nat.pow_succ]; omega, by omega⟩
theorem sd_pack (s K : Nat) (h1 : 1 ≤ s) (h2 : s ≤ 30) : ∃ (P Q r : Nat) (y : Int), 2 ^ (s + 1) = P ∧ 2 ^ s = Q ∧ K % 2 ^ (s + 1) = r ∧ sdV s K = y ∧ r < P ∧ P = 2 * Q ∧ 2 ≤ Q ∧ Q ≤ 1073741824 ∧ (r : Int) - (Q : Int) = y := by
  obtain ⟨a, b, c, d⟩ := pow_bounds s h1 h2
  exact ⟨_, _, _, _, rfl, rfl, rfl, rfl, Nat.mod_lt _ (Nat.pow_pos (by decide)), c, d, b, rfl⟩
theorem sdV_odd (s K : Nat) (hs : 1 ≤ s) (hK : K % 2 = 1) : (sdV s K) % 2 = 1 := by
  have e1 : (2 ^ s : Nat) = 2 * 2 ^ (s - 1) := by rw [← Nat.pow_succ']; congr 1; omega
  have e2 : K % 2 ^ (s + 1) % 2 = 1 := by
    rw [Nat.mod_mod_of_dvd K (Nat.dvd_of_mod_eq_zero (by rw [Nat.pow_succ]; omega))]
    exact hK
  unfold sdV
  obtain ⟨r, hr⟩ : ∃ q, K % 2 ^ (s + 1) = q := ⟨_, rfl⟩
  rw [hr] at e2 ⊢
  omega
end Go.Proofs.Ythckboojmljeiaa.Kp
namespace Go.Proofs.Ythckboojmljeiaa.Sk
set_option linter.unusedVariables false
set_option linter.unusedSimpArgs false
open Go.RowKit Go.Proofs.YthckboojmljeiaaW.PrintWords Go.Proofs.YthckboojmljeiaaW.PrintLast Go.Proofs.YthckboojmljeiaaW.PrintMore Go.Proofs.Ythckboojmljeiaa.Pl Go.Proofs.Ythckboojmljeiaa.Dg Go.Proofs.Ythckboojmljeiaa.Mem Go.Proofs.Ythckboojmljeiaa.Na Go.Proofs.Ythckboojmljeiaa.Nb Go.Proofs.Ythckboojmljeiaa.Be Go.Proofs.Ythckboojmljeiaa.Ow Go.Proofs.Ythckboojmljeiaa.By Go.Proofs.Ythckboojmljeiaa.Sp Go.Proofs.Ythckboojmljeiaa.Nu Go.Proofs.Ythckboojmljeiaa.In Go.Proofs.Ythckboojmljeiaa.Bl Go.Proofs.Ythckboojmljeiaa.Bn Go.Proofs.Ythckboojmljeiaa.Bs Go.Proofs.Ythckboojmljeiaa.St

/-! ### Bits -/
theorem pshort_l0 (l : List Int) (hl : l.length ≤ 100000) : ∀ k, l.length < k → PFnSigned.spec_Short.l0 k l = some (strip l) := by
  induction l with
  | nil =>
    intro k hk
    obtain ⟨k, rfl⟩ : ∃ m, k = m + 1 := ⟨k - 1, by omega⟩
    simp [PFnSigned.spec_Short.l0, strip]
  | cons x r ih =>
    intro k hk
    obtain ⟨k, rfl⟩ : ∃ m, k = m + 1 := ⟨k - 1, by omega⟩
    simp only [PFnSigned.spec_Short.l0]
    simp only [List.length_cons] at hl hk
    rw [if_pos (by simp only [List.length_cons]; omega), if_pos (by simp only [List.length_cons]; omega), show rd (x :: r) 0 = x from by simp [rd]]
    by_cases h : x = 0
    · subst h
      rw [if_pos rfl, if_pos (by simp only [List.length_cons]; omega), List.drop_one, List.tail_cons, ih (by omega) k (by omega)]
      rfl
    · rw [if_neg h]
      simp only [Option.bind_some]
      rw [if_pos (by simp; omega)]
      unfold strip
      rw [List.dropWhile_cons, if_neg (by simpa using h)]
      rfl
theorem bln_half (x : Nat) (h : 0 < x) : bln x = bln (x / 2) + 1 := by
  by_cases h1 : x / 2 = 0
  · have : x = 1 := by omega
    subst this
    rfl
  · refine (bln_unique' (k := bln (x / 2) + 1) (by omega) ?_ ?_).symm
    · have := bln_lt (x / 2)
      rw [Nat.pow_succ]
      omega
    · have := bln_ge (n := x / 2) (by omega)
      have hp := bln_pos (n := x / 2) (by omega)
      rw [show bln (x / 2) + 1 - 1 = (bln (x / 2) - 1) + 1 from by omega, Nat.pow_succ]
      omega
theorem bits_l0 : ∀ (k : Nat) (x : Nat) (o : Int), x < 256 → x < k → 0 ≤ o → o + x ≤ 2000000 → PFnSigned.spec_Bits.l0 k o (x : Int) = some (o + (bln x : Nat)) := by
  intro k
  induction k with
  | zero => intro x o _ h; omega
  | succ k ih =>
    intro x o hx hk h0 h1
    simp only [PFnSigned.spec_Bits.l0]
    by_cases hx0 : x = 0
    · subst hx0
      rw [if_neg (by omega)]
      simp [bln_zero]
    · rw [if_pos (by omega), w64 (by omega) (by omega), show Int.tdiv (x : Int) 2 % 256 = ((x / 2 : Nat) : Int) from by rw [Int.tdiv_eq_ediv_of_nonneg (by omega)]; omega, ih (x / 2) (o + 1) (by omega) (by omega) (by omega) (by omega)]
      rw [bln_half x (by omega)]
      congr 1
      omega
theorem bln_up (m b x : Nat) (hb : b < 2 ^ m) (hx : 0 < x) : bln (b + 2 ^ m * x) = m + bln x := by
  have h1 := bln_lt x
  have h2 := bln_ge hx
  have h3 := bln_pos hx
  refine (bln_unique' (by omega) ?_ ?_).symm
  · rw [Nat.pow_add]
    have : 2 ^ m * (x + 1) ≤ 2 ^ m * 2 ^ bln x := Nat.mul_le_mul_left _ h1
    rw [Nat.mul_succ] at this
    omega
  · rw [show m + bln x - 1 = m + (bln x - 1) from by omega, Nat.pow_add]
    have := Nat.mul_le_mul_left (2 ^ m) h2
    omega
theorem bits_eq (l : List Int) (hd : Dig 256 l) (hl : l.length ≤ 10000) (n : Nat) (hn : lv 256 l.reverse = (n : Int)) (k : Nat) (hk : 300 + l.length < k) : PFnSigned.spec_Bits.f k l = some ((bln n : Nat) : Int) := by
  unfold PFnSigned.spec_Bits.f PFnSigned.spec_Short.f
  rw [pshort_l0 l (by omega) k (by omega)]
  simp only [Option.bind_some]
  have hle := strip_length_le l
  have hsd := strip_dig hd
  have hh := @strip_head l
  rw [← strip_lv] at hn
  obtain ⟨s, hs⟩ : ∃ s, strip l = s := ⟨_, rfl⟩
  rw [hs] at hn hsd hh hle ⊢
  cases s with
  | nil =>
    have : n = 0 := by
      have h0 : lv 256 ([] : List Int).reverse = 0 := rfl
      omega
    subst this
    simp [bln_zero]
  | cons x r =>
    have hx := hh (by simp)
    simp only [List.getD_cons_zero] at hx
    obtain ⟨⟨x0, x1⟩, hr⟩ := hsd.cons
    have r1 := lv_range (B := 256) (by omega) hr.reverse
    rw [List.reverse_cons, lv_snoc] at hn
    rw [List.length_reverse] at hn r1
    have hp : (256 : Int) ^ r.length = ((2 ^ (8 * r.length) : Nat) : Int) := by rw [pow256]; simp
    rw [hp] at hn r1
    obtain ⟨a, rfl⟩ := Int.eq_ofNat_of_zero_le x0
    obtain ⟨b, hb⟩ := Int.eq_ofNat_of_zero_le r1.1
    rw [hb] at hn r1
    have hn2 : n = b + 2 ^ (8 * r.length) * a := by exact_mod_cast hn.symm
    have hbP : b < 2 ^ (8 * r.length) := by exact_mod_cast r1.2
    rw [hn2, bln_up _ _ _ hbP (by omega)]
    simp only [List.length_cons] at hle ⊢
    rw [if_neg (by omega), if_pos (by omega), show rd ((a : Int) :: r) 0 = (a : Int) from by simp [rd], w64 (n := ((r.length + 1 : Nat) : Int) - 1) (by omega) (by omega), w64 (by omega) (by omega), bits_l0 k a _ (by omega) (by omega) (by omega) (by omega)]
    congr 1
    omega
theorem bits_call (A : Option Addr) (c : Nat) (l : List Int) (w : World) (hr : Kd.C (Kd.int .u8) w A l.length l) (hc : l.length ≤ c) (hd : Dig 256 l) (hl : l.length ≤ 10000) (n : Nat) (hn : lv 256 l.reverse = (n : Int)) :
    Calls Try.prog 19 #[.slice A l.length c] w fun e w' => e = .returned (.int .i64 ((bln n : Nat) : Int)) ∧ Below w.heap.size w w' :=
  PFnSigned.spec_Bits.calls (301 + l.length) A c l _ w hr hc (bits_eq l hd hl n hn _ (by omega))

/-! ### What is stored is the number again -/
theorem storeL_dig {buf n : List Int} {b : Bool} (h1 : Dig 256 buf) (h2 : Dig 256 n) : Dig 256 (storeL buf n b) := by
  unfold storeL
  split
  · exact h1
  · exact (strip_dig h2).reverse.append (Dig.replicate (by omega) _)
theorem storeL_len (buf n : List Int) (b : Bool) : (storeL buf n b).length = buf.length := by
  unfold storeL
  split
  · rfl
  · rename_i h
    simp
    omega
theorem strip_strip (l : List Int) : strip (strip l) = strip l := by
  induction l with
  | nil => rfl
  | cons x r ih =>
    by_cases hx : x = 0
    · subst hx; exact ih
    · have : strip (x :: r) = x :: r := by unfold strip; rw [List.dropWhile_cons, if_neg (by simpa using hx)]
      rw [this, this]
theorem back (buf n : List Int) (hd : Dig 256 n) (k : Nat) (hk : lv 256 n.reverse = (k : Int)) : strip (storeL buf n false).reverse = if 8 * buf.length < bln k then strip buf.reverse else strip n := by
  have hs := strip_len k n hd hk
  unfold storeL
  by_cases h : 8 * buf.length < bln k
  · rw [if_pos h, if_pos (.inl (by omega))]
  · rw [if_neg h, if_neg (by rintro (h1 | h1); omega; exact absurd h1.1 (by simp)), pad, List.reverse_reverse]
    exact strip_strip n

set_option maxHeartbeats 400000 in
set_option maxRecDepth 100000 in
theorem law (A : Option Addr) (c : Nat) (l : List Int) (A1 : Option Addr) (c1 : Nat) (n : List Int) (b : Bool) (w : World) (hr : Kd.C (Kd.int .u8) w A l.length l) (hc : l.length ≤ c) (hd : Dig 256 l) (hr1 : Kd.C (Kd.int .u8) w A1 n.length n) (hc1 : n.length ≤ c1) (hd1 : Dig 256 n) :
    Calls Try.prog 5 #[.slice A l.length c, .slice A1 n.length c1, .bool b] w fun e w' => e = .returned (.bool true) ∧ Below w.heap.size w w' := by
  have HR := Lib.hid hr
  have HC := Lib.hid hc
  have HD := Lib.hid hd
  have HR1 := Lib.hid hr1
  have HC1 := Lib.hid hc1
  have HD1 := Lib.hid hd1
  clear hr hc hd hr1 hc1 hd1
  go_enter Try.func5, Try.ntmps5
  by_cases h0 : (2147483647 : Int) < (l.length : Int)
  · go_wp2
    go_ret
    exact ⟨rfl, Below.refl _ _⟩
  by_cases h1 : (2147483647 : Int) < (n.length : Int)
  · go_wp2
    go_ret
    exact ⟨rfl, Below.refl _ _⟩
  by_cases h2 : (4096 : Int) < (l.length : Int)
  · go_wp2
    go_ret
    exact ⟨rfl, Below.refl _ _⟩
  by_cases h3 : (4096 : Int) < (n.length : Int)
  · go_wp2
    go_ret
    exact ⟨rfl, Below.refl _ _⟩
  have HI := Lib.hid (impl_store A c l A1 c1 n false w HR.out HC.out (by omega) HR1.out HC1.out (by omega) HD1.out)
  rw [stLe_eq l n false HD1.out] at HI
  have hl1 : l.length ≤ 4096 := by omega
  have hl2 : n.length ≤ 4096 := by omega
  obtain ⟨k, hk⟩ : ∃ k : Nat, lv 256 n.reverse = (k : Int) := Int.eq_ofNat_of_zero_le (lv_range (B := 256) (by omega) HD1.out.reverse).1
  have HK := Lib.hid hk
  have hbk := back l n HD1.out k hk
  obtain ⟨T, hT⟩ : ∃ T, (if 8 * l.length < bln k then strip l.reverse else strip n) = T := ⟨_, rfl⟩
  rw [hT] at hbk
  have HT0 := Lib.hid hT
  clear hk hT
  go_wp2_with fail
  refine HI.out.mono ?_
  rintro e w1 ⟨A2, c2, rfl, hc2, hC2, hb2⟩
  have HN := Lib.hid (impl_number A2 c2 (storeL l n false) w1 hC2 hc2 (storeL_dig HD.out HD1.out) (by rw [storeL_len]; omega))
  have HB2 := Lib.hid hb2
  clear hc2 hC2 hb2 HI
  rw [hbk] at HN
  go_wp2_with fail
  refine HN.out.mono ?_
  rintro e w2 ⟨A3, c3, rfl, hc3, hC3, hb3⟩
  have HB3 := Lib.hid (below_then HB2.out HB2.out.size hb3)
  have HS := Lib.hid (bits_call A1 c1 n w2 (Kd.C_below HR1.out HB3.out) HC1.out HD1.out (by omega) k HK.out)
  have HC3 := Lib.hid hC3
  obtain ⟨bk, hbn⟩ : ∃ bk, bln k = bk := ⟨_, rfl⟩
  rw [hbn] at HS HT0
  clear hc3 hC3 hb3 HN hbk hbn
  go_wp2_with fail
  refine HS.out.mono ?_
  rintro e w3 ⟨rfl, hb4⟩
  have HB4 := Lib.hid (below_then HB3.out HB3.out.size hb4)
  have HC4 := Lib.hid (Kd.C_below HC3.out hb4)
  clear hb4 HS HC3
  by_cases hgt : 8 * l.length < bk
  · have hgi : (8 : Int) * (l.length : Int) < (bk : Int) := by omega
    have hT := HT0.out
    rw [if_pos hgt] at hT
    subst hT
    have HT := Lib.hid (turned_call A c l w3 (Kd.C_below HR.out HB4.out) HC.out (by omega))
    clear hgt
    go_wp2_with fail
    refine HT.out.mono ?_
    rintro e w4 ⟨A5, c5, rfl, hc5, hC5, hb5⟩
    have HS5 := Lib.hid (short_call A5 c5 l.reverse w4 hC5 hc5 (by rw [List.length_reverse]; omega))
    rw [List.length_reverse] at HS5
    have HC5 := Lib.hid (Kd.C_below HC4.out hb5)
    have HB5 := Lib.hid (below_then HB4.out HB4.out.size hb5)
    clear hC5 hc5 hb5 HC4
    go_wp2_with fail
    refine HS5.out.mono ?_
    rintro e w5 ⟨A6, c6, rfl, hc6, hC6, hb6⟩
    have HE := Lib.hid (Be.equal8 A3 A6 _ c3 c6 (strip l.reverse) w5 (Kd.C_below HC5.out hb6) hC6)
    have HB6 := Lib.hid (below_then HB5.out HB5.out.size hb6)
    clear hC6 hc6 hb6
    go_wp2_with fail
    refine HE.out.mono ?_
    rintro e w6 ⟨rfl, hd6⟩
    have HB7 := Lib.hid (below_then HB6.out HB6.out.size hd6.below)
    clear hd6
    go_wp2
    go_ret
    exact ⟨rfl, HB7.out⟩
  · have hgi : ¬ (8 : Int) * (l.length : Int) < (bk : Int) := by omega
    have hT := HT0.out
    rw [if_neg hgt] at hT
    subst hT
    have HT := Lib.hid (short_call A1 c1 n w3 (Kd.C_below HR1.out HB4.out) HC1.out (by omega))
    clear hgt
    go_wp2_with fail
    refine HT.out.mono ?_
    rintro e w5 ⟨A6, c6, rfl, hc6, hC6, hb6⟩
    have HE := Lib.hid (Be.equal8 A3 A6 _ c3 c6 (strip n) w5 (Kd.C_below HC4.out hb6) hC6)
    have HB6 := Lib.hid (below_then HB4.out HB4.out.size hb6)
    clear hC6 hc6 hb6
    go_wp2_with fail
    refine HE.out.mono ?_
    rintro e w6 ⟨rfl, hd6⟩
    have HB7 := Lib.hid (below_then HB6.out HB6.out.size hd6.below)
    clear hd6
    go_wp2
    go_ret
    exact ⟨rfl, HB7.out⟩
end Go.Proofs.Ythckboojmljeiaa.Sk
namespace Go.Proofs.Ythckboojmljeiaa.Kw
set_option linter.unusedVariables false
set_option linter.unusedSimpArgs false
open Go.RowKit Go.Proofs.YthckboojmljeiaaW.PrintWords Go.Proofs.YthckboojmljeiaaW.PrintLast Go.Proofs.YthckboojmljeiaaW.PrintMore Go.Proofs.Ythckboojmljeiaa.Pl Go.Proofs.Ythckboojmljeiaa.Dg Go.Proofs.Ythckboojmljeiaa.Mem Go.Proofs.Ythckboojmljeiaa.Na Go.Proofs.Ythckboojmljeiaa.Nb Go.Proofs.Ythckboojmljeiaa.Nu Go.Proofs.Ythckboojmljeiaa.In Go.Proofs.Ythckboojmljeiaa.Tw Go.Proofs.Ythckboojmljeiaa.Tr Go.Proofs.Ythckboojmljeiaa.Be Go.Proofs.Ythckboojmljeiaa.Ow Go.Proofs.Ythckboojmljeiaa.Bl Go.Proofs.Ythckboojmljeiaa.Bn Go.Proofs.Ythckboojmljeiaa.Rp Go.Proofs.Ythckboojmljeiaa.Rs Go.Proofs.Ythckboojmljeiaa.Ir Go.Proofs.Ythckboojmljeiaa.Ni Go.Proofs.Ythckboojmljeiaa.Is Go.Proofs.Ythckboojmljeiaa.Ia Go.Proofs.Ythckboojmljeiaa.Kp

abbrev I : TypeId := 21
abbrev L : TypeId := 37
theorem infoI32 : (Try.prog.info? I).map (fun i => (i.zero, i.size, i.bytes)) = some (some (.int .i32 0), 1, 4) := by kernel_rfl
theorem run_mk32 (k : IntKind) (l : Int) (w : World) (h0 : 0 ≤ l) (hc : l ≤ 1000000000) :
    (Instr.makeSlice 37 (.int k l) (.int k l)).run Try.prog w = .ok (.slice (Option.some ⟨w.heap.size, 0, none⟩) l.toNat l.toNat) (w.alloc (.cells (madeCells #[.int .i32 0] l.toNat) 21)) := by
  obtain ⟨i, hi, hz, hs, hb⟩ := info_parts infoI32
  have := run_make (P := Try.prog) w L I i (.int .i32 0) Try.underlying37 hi hz k k l l h0 (by omega) (by rw [hb]; omega) (by omega)
  rw [hs, Nat.mul_one] at this
  exact this

theorem intSub_any {w : World} {p q : Nat} {v u : Value} {X : Nat} {y : Int} (h : Iz w p v (X : Int)) (hq : Iz w q u y) (ha : Ap v u) (h1 : -4294967296 ≤ y) (h2 : y ≤ 4294967296) (hyX : y ≤ (X : Int)) (hl : (dg X).length ≤ 800000) :
    Calls Try.prog 63 #[.pointer (some ⟨p, 0, none⟩), .pointer (some ⟨p, 0, none⟩), .pointer (some ⟨q, 0, none⟩)] w fun e w' => e = .returned (.pointer (some ⟨p, 0, none⟩)) ∧ Upd w p v ((X : Int) - y) w' := by
  by_cases h0 : 0 ≤ y
  · obtain ⟨Y, rfl⟩ := Int.eq_ofNat_of_zero_le h0
    have := intSub_pos (X := X) (Y := Y) h hq ha (by rw [BB_eq]; omega) (by omega)
    rw [show ((X - Y : Nat) : Int) = (X : Int) - (Y : Int) from by omega] at this
    exact this
  · obtain ⟨Y, hY⟩ : ∃ Y : Nat, y = -(Y : Int) := ⟨(-y).toNat, by omega⟩
    subst hY
    have := intSub_neg (X := X) (Y := Y) h hq ha (by omega) (by rw [BB_eq]; omega) hl
    rw [show ((X + Y : Nat) : Int) = (X : Int) - -(Y : Int) from by omega] at this
    exact this
/-- The lowest bits. -/
theorem and_pow (T ω : Nat) (hT : T < BB) (hω : ω ≤ 64) : bits .and .u64 (T : Int) (((2 ^ ω : Nat) : Int) - 1) = ((T % 2 ^ ω : Nat) : Int) := by
  have h2 : (T : Int) < 2 ^ 64 := by exact_mod_cast hT
  have := u64_mask ω hω (T : Int) (by omega) h2
  rw [show ((2 ^ ω : Nat) : Int) = (2 : Int) ^ ω from by push_cast; rfl, this]
  exact_mod_cast rfl
theorem pow_cast2 (s : Nat) : (2 : Int) ^ s = ((2 ^ s : Nat) : Int) := by
  induction s with
  | zero => rfl
  | succ s ih => rw [Int.pow_succ, ih, Nat.pow_succ]; omega
theorem round_nums (P Q r : Nat) (y : Int) (h1 : r < P) (h2 : P = 2 * Q) (h3 : 2 ≤ Q) (h4 : Q ≤ 1073741824) (h5 : (r : Int) - (Q : Int) = y) :
    IntKind.u64.wrap (P : Int) = (P : Int) ∧ wrap32 (Q : Int) = (Q : Int) ∧ wrap32 y = y ∧ wrap32 (r : Int) = (r : Int) ∧ (r : Int) < 2147483648 ∧ (Q : Int) ≤ 1073741824 ∧ (P : Int) ≤ 2147483648 ∧ (1 : Int) ≤ (P : Int) ∧ (2 : Int) ≤ (Q : Int) ∧ -1073741824 ≤ y ∧ y ≤ 1073741824 :=
  ⟨wu64_in (by omega) (by omega), IntWalk.wrap32_in _ (by omega), IntWalk.wrap32_in _ (by omega), IntWalk.wrap32_in _ (by omega), by omega, by omega, by omega, by omega, by omega, by omega, by omega⟩
theorem round_facts (s K : Nat) (hs1 : 1 ≤ s) (hs2 : s ≤ 30) : ∃ (P Q r T : Nat) (y : Int), Hid (K % BB = T) ∧ Hid (sdV s K = y) ∧ Hid (y ≤ (K : Int)) ∧ Hid ((K : Int) - y = ((2 ^ (s + 1) * (K / 2 ^ (s + 1)) + 2 ^ s : Nat) : Int)) ∧
    Hid (bits .and .u64 (T : Int) ((P : Int) - 1) = (r : Int)) ∧ Hid (IntKind.u64.wrap (2 ^ (s + 1)) = (P : Int)) ∧ Hid (wrap32 (2 ^ s) = (Q : Int)) ∧ Hid (wrap32 y = y) ∧ Hid (wrap32 (r : Int) = (r : Int)) ∧ Hid ((r : Int) - (Q : Int) = y) ∧
    (r : Int) < 2147483648 ∧ (Q : Int) ≤ 1073741824 ∧ (P : Int) ≤ 2147483648 ∧ (1 : Int) ≤ (P : Int) ∧ (2 : Int) ≤ (Q : Int) ∧ -1073741824 ≤ y ∧ y ≤ 1073741824 := by
  obtain ⟨P, Q, r, y, hPP, hQQ, hrr, hy, hrl, hPQ, hQ1, hQ2, b9⟩ := sd_pack s K hs1 hs2
  obtain ⟨n1, n2, n3, n4, n5, n6, n7, n8, n9, n10, n11⟩ := round_nums P Q r y hrl hPQ hQ1 hQ2 b9
  have hle := sdV_le s K
  have hsub := sdV_sub s K
  rw [hy] at hle hsub
  have hr := and_pow (K % BB) (s + 1) (Nat.mod_lt _ BB_pos) (by omega)
  rw [show K % BB % 2 ^ (s + 1) = K % 2 ^ (s + 1) from Nat.mod_mod_of_dvd _ (by rw [BB_pow]; exact Nat.pow_dvd_pow 2 (by omega)), hrr, hPP] at hr
  have hw1 : IntKind.u64.wrap (2 ^ (s + 1)) = (P : Int) := by rw [pow_cast2, hPP]; exact n1
  have hw3 : wrap32 (2 ^ s) = (Q : Int) := by rw [pow_cast2, hQQ]; exact n2
  exact ⟨P, Q, r, K % BB, y, rfl, hy, hle, hsub, hr, hw1, hw3, n3, n4, b9, n5, n6, n7, n8, n9, n10, n11⟩

/-- A returned slice that reads a list of digits. -/
def Rd32 (w : World) (l : List Int) (e : Ending) (w' : World) : Prop := ∃ A c, e = .returned (.slice A l.length c) ∧ l.length ≤ c ∧ Kd.C (Kd.int .i32) w' A l.length l ∧ Below w.heap.size w w'

set_option maxHeartbeats 800000 in
set_option maxRecDepth 100000 in
theorem signed_any {w : World} {p0 : Nat} {v0 : Value} {X s l m : Nat} (h : Iz w p0 v0 (X : Int)) (ho : X % 2 = 1) (hs1 : 1 ≤ s) (hs2 : s ≤ 30) (hXl : bln X ≤ l) (hl2 : l ≤ 10000) (hm : (l + s - 1) / s = m) :
    Calls Try.prog 45 #[.pointer (some ⟨p0, 0, none⟩), .int .u64 ((s : Int) + 1), .int .u64 (l : Int)] w (Rd32 w (sdL s X m)) := by
  have hX : 0 < X := by omega
  have hl1 : 1 ≤ l := by have := bln_pos hX; omega
  have hX2 : X < 2 ^ l := bln_le.1 hXl
  have hmd := Nat.div_add_mod (l + s - 1) s
  rw [hm] at hmd
  have hmm := Nat.mod_lt (l + s - 1) (show 0 < s by omega)
  have hms : l ≤ m * s := by rw [Nat.mul_comm] at hmd; omega
  have hml : m ≤ 20000 := by
    have : m ≤ m * s := Nat.le_mul_of_pos_right m (by omega)
    rw [Nat.mul_comm] at hmd
    omega
  have hmI : ((l : Int) + (s : Int) - 1) / (s : Int) = (m : Int) := by
    rw [show (l : Int) + (s : Int) - 1 = ((l + s - 1 : Nat) : Int) from by omega, ← Int.natCast_ediv, hm]
  have HEnd := Lib.hid (sdK_end s X l m hs1 ho hX2 hl1 hms)
  have hKdg : ∀ i, (dg (sdK s X i)).length ≤ 800000 := fun i => by have := sdK_dg s X l hs1 hX2 hl1 i; omega
  have hXdg := hKdg 0
  simp only [sdK] at hXdg
  have HL := Lib.hid (intBitLen h)
  have HS := Lib.hid (intSign h)
  have HB0 := Lib.hid (intBit0 h hX)
  rw [Int.natAbs_natCast] at HL
  rw [Int.sign_eq_one_of_pos (by omega)] at HS
  rw [ho] at HB0
  have hmk := run_mk32 .u64 ((m : Int) + 1) w (by omega) (by omega)
  rw [show ((m : Int) + 1).toNat = m + 1 from by omega] at hmk
  obtain ⟨wl, hwl⟩ : ∃ wl, w.alloc (.cells (madeCells #[.int .i32 0] (m + 1)) 21) = wl := ⟨_, rfl⟩
  have hOw : Ow .i32 I w.heap.size w.heap.size (m + 1) (List.replicate (m + 1) 0) wl := by
    rw [← hwl]
    exact Ow.made w .i32 I (m + 1) (by unfold maxLen; omega)
  have hsz : wl.heap.size = w.heap.size + 1 := by rw [← hwl]; simp
  have hbl : Below w.heap.size w wl := by rw [← hwl]; exact (Below.refl _ _).alloc (Nat.le_refl _) _
  have hIz : Iz wl p0 v0 (X : Int) := It.kept h (S := fun _ => False) (Chg.of_below hbl) (fun e => e) (fun g hg e => e)
  have hp0 := h.lt
  rw [hwl] at hmk
  have hset : Calls Try.prog 59 #[.pointer (some ⟨wl.heap.size, 0, none⟩), .pointer (some ⟨p0, 0, none⟩)] ((wl.alloc (.cells #[.bool false, .slice none 0 0] 64)).alloc (.cells #[.bool false, .slice none 0 0] 64)) fun e w' => e = .returned (.pointer (some ⟨wl.heap.size, 0, none⟩)) ∧ Upd ((wl.alloc (.cells #[.bool false, .slice none 0 0] 64)).alloc (.cells #[.bool false, .slice none 0 0] 64)) wl.heap.size (.slice none 0 0) (X : Int) w' := by
    have h2 : Iz ((wl.alloc (.cells #[.bool false, .slice none 0 0] 64)).alloc (.cells #[.bool false, .slice none 0 0] 64)) p0 v0 (X : Int) := It.kept hIz (S := fun _ => False) (((Chg.refl _ _).alloc _).alloc _) (fun e => e) (fun g hg e => e)
    exact intSet (Two.made wl).iz h2 (Ap.nil _) (by omega) (by rw [Int.natAbs_natCast]; omega)
  have hpr : Pr wl.heap.size ((wl.alloc (.cells #[.bool false, .slice none 0 0] 64)).alloc (.cells #[.bool false, .slice none 0 0] 64)) wl.heap.size (wl.heap.size + 1) (.slice none 0 0) (.slice none 0 0) 0 0 := Pr.of_two (Two.made wl)
  obtain ⟨R, hR⟩ : ∃ R, sdL s X m = R := ⟨_, rfl⟩
  have hRl : R.length = m + 1 := by rw [← hR, sdL_length]
  have hR1 : ∀ i, i < m → R.getD i 0 = sdV s (sdK s X i) := fun i hi => by rw [← hR, sdL_get _ _ _ _ hi]
  have hR2 : R.getD m 0 = 1 := by rw [← hR, sdL_last]
  rw [hR]
  have hL0 : Lr .i32 I wl ((wl.alloc (.cells #[.bool false, .slice none 0 0] 64)).alloc (.cells #[.bool false, .slice none 0 0] 64)) w.heap.size w.heap.size (m + 1) (m + 1) R 0 :=
    Lr.chg (S := fun _ => False) (wr := wl) ⟨_, hOw, rfl, grownBy_refl _ _⟩ (((Chg.refl _ _).alloc _).alloc _) (fun k e => e.elim) (by omega)
  have hodd := fun i => sdK_odd s X ho i
  obtain ⟨b, hb⟩ : ∃ b, bln X = b := ⟨_, rfl⟩
  rw [hb] at HL hXl
  have HSet := Lib.hid hset
  have HPr := Lib.hid hpr
  have HL0 := Lib.hid hL0
  have HRl := Lib.hid hRl
  have HR1 := Lib.hid hR1
  have HR2 := Lib.hid hR2
  have HBl := Lib.hid hbl
  have HSz := Lib.hid hsz
  have HOdd := Lib.hid hodd
  have HDg := Lib.hid hKdg
  clear hset hpr hL0 hRl hR1 hR2 hbl hodd hKdg hXdg hOw hIz h hX ho hX2 hmd hmm hms hm hR hb hsz hl1
  have f1 : ¬ ((s : Int) + 1 ≤ 1) := by omega
  have f2 : ¬ ((s : Int) ≤ 0) := by omega
  have f3 : (s : Int) ≤ 30 := by omega
  have f4 : (1 : Int) ≤ (s : Int) := by omega
  have f5 : (m : Int) ≤ 20000 := by omega
  have f6 : (l : Int) ≤ 10000 := by omega
  have f7 : (b : Int) ≤ (l : Int) := by omega
  have f8 : ((s : Int) == 0) = false := by rw [beq_eq_false_iff_ne]; omega
  go_enter Try.func45, Try.ntmps45
  go_wp2_with fail
  refine HS.out.mono ?_
  rintro e w1 ⟨rfl, rfl⟩
  go_wp2_with fail
  refine HB0.out.mono ?_
  rintro e w1 ⟨rfl, rfl⟩
  go_wp2_with fail
  refine HL.out.mono ?_
  rintro e w1 ⟨rfl, rfl⟩
  go_upto_region 8 with fail
  rw [hmI]
  clear hmI
  go_wp2_with fail
  refine HSet.out.mono ?_
  rintro e w2 ⟨rfl, hu⟩
  have hsw : wl.heap.size ≤ w2.heap.size := by
    obtain ⟨_, _, i2, _⟩ := hu
    have := i2.size
    simp at this
    omega
  obtain ⟨v1, hp1⟩ := HPr.out.updP (by simp; omega) hu
  have hL1 := HL0.out.chg (HPr.out.chgP hu) (fun k e => e) (by have := HSz.out; omega)
  have HP1 := Lib.hid hp1
  have HL1 := Lib.hid hL1
  have HP2 := Lib.hid (pow_bounds s hs1 hs2)
  clear hu hsw hp1 hL1 HSet HPr HL0 hp0
  go_wp2_with fail
  go_loopw [11] (fun t wr => ∃ (i : Nat) (va ua : Value) (zi : Int), i ≤ m ∧ t = .int .u64 (i : Int) ∧ Hid (Lr .i32 I wl wr w.heap.size w.heap.size (m + 1) (m + 1) R i ∧ Pr wl.heap.size wr wl.heap.size (wl.heap.size + 1) va ua ((sdK s X i : Nat) : Int) zi)) (fun t _ => m - (intOf t).toNat)
  case atStart => exact ⟨0, _, _, 0, by omega, rfl, HL1.out, HP1.out⟩
  case round =>
    clear HP1 HL1
    obtain ⟨i, va, ua, zi, hi, rfl, HI⟩ := hrel
    by_cases hlt : i < m
    · have hoi := HOdd.out i
      have HRi := Lib.hid (HR1.out i hlt)
      have HDi := Lib.hid (HDg.out i)
      have HNx := Lib.hid (show sdK s X (i + 1) = 2 * (sdK s X i / 2 ^ (s + 1)) + 1 from rfl)
      obtain ⟨K, hK⟩ : ∃ K, sdK s X i = K := ⟨_, rfl⟩
      rw [hK] at hoi HRi HDi HI HNx
      clear hK
      have hK0 : 0 < K := by omega
      have hP := HI.out.2
      have hv := hP.iz.2
      rw [Int.natAbs_natCast] at hv
      obtain ⟨gk, ck, rfl, hcell, hlen⟩ := nt_head hv hK0
      have hpos := dg_len_pos hK0
      have HBits := Lib.hid (intBits hP.iz)
      obtain ⟨P, Q, r, T, y, HT, HY, HLe, HSub, hr, hw1, hw3, hw4, hw5, b9, b3, b4, b5, b6, b7, b10, b11⟩ := round_facts s K hs1 hs2
      obtain ⟨k, hk⟩ : ∃ k, (dg K).length = k := ⟨_, rfl⟩
      rw [hk] at HBits hlen hpos
      rw [HT.out] at hcell
      rw [HY.out] at HRi
      clear hk hv hP hoi HT HY
      have b1 : (i : Int) < (m : Int) := by omega
      have b2 : (0 : Int) < (k : Int) := by omega
      have b12 : (i : Int) < (m : Int) + 1 := by omega
      have HLb := Lib.hid (HI.out.1.put (by omega) HRl.out y HRi.out)
      have HPb := Lib.hid (HI.out.2.put w.heap.size i (.int .i32 y) (by have := HSz.out; omega))
      have HS6 := Lib.hid (setInt64 HPb.out.iq y (by omega) (by omega))
      obtain ⟨⟨u, hcl⟩, hfr⟩ := HI.out.1.has i (by omega)
      have hr := hr.out
      have hw1 := hw1.out
      have hw3 := hw3.out
      have hw4 := hw4.out
      have hw5 := hw5.out
      have b9 := b9.out
      go_wp2_with fail
      refine HBits.out.mono ?_
      rintro e w3 ⟨rfl, rfl⟩
      go_wp2_with fail
      refine HS6.out.mono ?_
      rintro e w4 ⟨rfl, hu⟩
      obtain ⟨u1, hp1⟩ := HPb.out.updQ HLb.out.size hu
      have HLc := Lib.hid (HLb.out.chg (HPb.out.swap.chgP hu) (fun k e => e) (by have := HSz.out; omega))
      have HPc := Lib.hid hp1
      have HSb := Lib.hid (intSub_any hp1.iz hp1.iq hp1.ap (by omega) (by omega) HLe.out HDi.out)
      rw [HSub.out] at HSb
      clear hu hp1 HS6
      go_wp2_with fail
      refine HSb.out.mono ?_
      rintro e w5 ⟨rfl, hu⟩
      obtain ⟨v2, hp2⟩ := HPc.out.updP HLc.out.size hu
      have HLd := Lib.hid (HLc.out.chg (HPc.out.chgP hu) (fun k e => e) (by have := HSz.out; omega))
      have HPd := Lib.hid hp2
      have hrsh := intRsh s hp2.iz hs1 (by omega)
      rw [sd_shift, ← HNx.out] at hrsh
      have HRs := Lib.hid hrsh
      clear hu hp2 HSb hrsh
      go_wp2_with fail
      refine HRs.out.mono ?_
      rintro e w6 ⟨rfl, hu⟩
      obtain ⟨v3, hp3⟩ := HPd.out.updP HLd.out.size hu
      have HLf := Lib.hid (HLd.out.chg (HPd.out.chgP hu) (fun k e => e) (by have := HSz.out; omega))
      have HPe := Lib.hid hp3
      clear hu hp3 HRs
      go_wp2_with fail
      go_roundw
      case rel => exact ⟨i + 1, _, _, _, by omega, by go_num, HLf.out, HPe.out⟩
      case measure => simp [intOf]; omega
    · have him : i = m := by omega
      subst him
      have hk1 := HEnd.out
      have hp := HI.out.2
      rw [hk1] at hp
      have HP1 := Lib.hid hp
      have HL1 := Lib.hid HI.out.1
      have HI64 := Lib.hid (intInt64 (X := 1) hp.iz (by decide))
      obtain ⟨⟨u, hcl⟩, hfr⟩ := HI.out.1.has i (by omega)
      have HL2 := Lib.hid (HI.out.1.put (by omega) HRl.out 1 HR2.out)
      clear hp HI hk1
      go_wp2_with fail
      refine HI64.out.mono ?_
      rintro e w3 ⟨rfl, rfl⟩
      go_wp2_with fail
      go_ret
      have hall := HL2.out.all HRl.out
      refine ⟨some ⟨w.heap.size, 0, none⟩, i + 1, ?_, ?_, ?_, ?_⟩
      · rw [HRl.out]; rfl
      · rw [HRl.out]; exact Nat.le_refl _
      · rw [HRl.out]; exact Ow.c hall.1
      · exact below_of_grown HBl.out hall.2 HBl.out.size (Nat.le_refl _)
end Go.Proofs.Ythckboojmljeiaa.Kw
