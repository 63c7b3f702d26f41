/- Plain: the reference's Apart answers the digits; The law FnExactApart. -/
import Derived.Test.YthckboojmljeiaaMgn
import Derived.Test.YthckboojmljeiaaPa
namespace Go.Proofs.Ythckboojmljeiaa.Ex
set_option linter.unusedVariables false
set_option linter.unusedSimpArgs false
open Go.RowKit Go.Proofs.YthckboojmljeiaaW.PrintWords Go.Proofs.YthckboojmljeiaaW.PrintLast Go.Proofs.YthckboojmljeiaaW.PrintMore Go.Proofs.Ythckboojmljeiaa.Pl Go.Proofs.Ythckboojmljeiaa.By Go.Proofs.Ythckboojmljeiaa.Bl Go.Proofs.Ythckboojmljeiaa.Kp Go.Proofs.Ythckboojmljeiaa.Kw Go.Proofs.Ythckboojmljeiaa.Mk Go.Proofs.Ythckboojmljeiaa.Ks Go.Proofs.Ythckboojmljeiaa.Op Go.Proofs.Ythckboojmljeiaa.Ol Go.Proofs.Ythckboojmljeiaa.PFnExactApart

theorem short_l0 (l : List Int) (hl : l.length ≤ 100000) : ∀ k, l.length < k → spec_Short.l0 k l = some (strip l) := by
  induction l with
  | nil =>
    intro k hk
    obtain ⟨k, rfl⟩ : ∃ m, k = m + 1 := ⟨k - 1, by omega⟩
    simp [spec_Short.l0, strip]
  | cons x r ih =>
    intro k hk
    obtain ⟨k, rfl⟩ : ∃ m, k = m + 1 := ⟨k - 1, by omega⟩
    simp only [spec_Short.l0]
    simp only [List.length_cons] at hl hk
    rw [if_pos (by simp only [List.length_cons]; omega), if_pos (by simp only [List.length_cons]; omega), show rd (x :: r) 0 = x from by simp [rd]]
    by_cases h : x = 0
    · subst h
      rw [if_pos rfl, if_pos (by simp only [List.length_cons]; omega), List.drop_one, List.tail_cons, ih (by omega) k (by omega)]
      rfl
    · rw [if_neg h]
      simp only [Option.bind_some]
      rw [if_pos (by simp; omega)]
      unfold strip
      rw [List.dropWhile_cons, if_neg (by simpa using h)]
      rfl
theorem short_eq (l : List Int) (hl : l.length ≤ 100000) (k : Nat) (hk : l.length < k) : spec_Short.f k l = some (strip l) := short_l0 l hl k hk
theorem turned_l0 (l : List Int) (hl : l.length ≤ 100000) : ∀ (i k : Nat) (acc : List Int), i ≤ l.length → acc.length + i ≤ 100000 → i < k →
    spec_Turned.l0 k l acc ((i : Int) - 1) = some (acc ++ (l.take i).reverse) := by
  intro i
  induction i with
  | zero =>
    intro k acc _ _ hk
    obtain ⟨k, rfl⟩ : ∃ m, k = m + 1 := ⟨k - 1, by omega⟩
    simp only [spec_Turned.l0]
    rw [if_neg (by omega)]
    simp
  | succ i ih =>
    intro k acc h1 h2 hk
    obtain ⟨k, rfl⟩ : ∃ m, k = m + 1 := ⟨k - 1, by omega⟩
    simp only [spec_Turned.l0]
    rw [show ((i + 1 : Nat) : Int) - 1 = (i : Int) from by omega, if_pos (by omega), if_pos (by omega), if_pos (by omega), if_pos (by omega), w64 (by omega) (by omega), show rd l (i : Int) = l.getD i 0 from by simp [rd]]
    rw [ih k _ (by omega) (by simp; omega) (by omega), take_succ_getD l i (by omega)]
    simp
theorem turned_eq (l : List Int) (hl : l.length ≤ 100000) (k : Nat) (hk : l.length < k) : spec_Turned.f k l = some l.reverse := by
  unfold spec_Turned.f
  rw [w64 (by omega) (by omega), turned_l0 l hl l.length _ [] (by omega) (by simpa using hl) (by omega)]
  simp

/-! ### The steps of the bits -/
theorem dig_set {B : Int} {l : List Int} (h : Dig B l) (p : Nat) (x : Int) (h0 : 0 ≤ x) (h1 : x < B) : Dig B (l.set p x) := by
  intro y hy
  rcases List.mem_or_eq_of_mem_set hy with hy | hy
  · exact h y hy
  · rw [hy]; exact ⟨h0, h1⟩
theorem bit_in (i j q M t : Nat) (h : t < j) : 2 ^ i * (2 ^ j * q + M % 2 ^ (t + 1)) / 2 ^ (i + t) % 2 = M / 2 ^ t % 2 := by
  have hp : 0 < 2 ^ i := Nat.pow_pos (by decide)
  have hpt : 0 < 2 ^ t := Nat.pow_pos (by decide)
  have e1 : 2 ^ j = 2 ^ t * (2 * 2 ^ (j - t - 1)) := by rw [← Nat.pow_succ', ← Nat.pow_add]; congr 1; omega
  have e2 : 2 ^ j * q = 2 ^ t * (2 * (2 ^ (j - t - 1) * q)) := by rw [e1, Nat.mul_assoc, Nat.mul_assoc]
  rw [Nat.pow_add 2 i t, ← Nat.div_div_eq_div_mul, Nat.mul_div_cancel_left _ hp, e2, Nat.mul_add_div hpt, Nat.pow_succ, Nat.mod_mul_right_div_self]
  omega
theorem rest_in (M t : Nat) : M % 2 ^ (t + 1) = M % 2 ^ t + 2 ^ t * (M / 2 ^ t % 2) := by rw [Nat.pow_succ, Nat.mod_mul]
theorem half_in (M t : Nat) : 2 * (M / 2 ^ (t + 1)) + M / 2 ^ t % 2 = M / 2 ^ t := by
  rw [Nat.pow_succ, ← Nat.div_div_eq_div_mul]
  omega
theorem low_in (X i : Nat) : X % 2 ^ i / 2 ^ i % 2 = 0 := by
  rw [Nat.div_eq_of_lt (Nat.mod_lt _ (Nat.pow_pos (by decide)))]
/-- A bit that is taken away. -/
theorem lv_clear (l : List Int) (p V b : Nat) (hp : p < l.length) (hV : lv 2 l = (V : Int)) (hb : l.getD p 0 = (b : Int)) (W : Nat) (hW : V = W + 2 ^ p * b) : lv 2 (l.set p 0) = (W : Int) := by
  rw [lv_set _ _ _ _ hp, hV, hb, hW, Int.zero_sub, Int.mul_neg, pow_cast2]
  have : (((W + 2 ^ p * b : Nat)) : Int) = (W : Int) + ((2 ^ p : Nat) : Int) * (b : Int) := by push_cast; rfl
  omega
theorem lv_lay (l : List Int) (p V : Nat) (x : Nat) (hp : p < l.length) (hV : lv 2 l = (V : Int)) (hb : l.getD p 0 = 0) : lv 2 (l.set p (x : Int)) = ((V + 2 ^ p * x : Nat) : Int) := by
  rw [lv_set _ _ _ _ hp, hV, hb, Int.sub_zero, pow_cast2]
  push_cast
  rfl
theorem shl_any (e : Nat) (h : e ≤ 40) : shl .i64 1 (e : Int) = ((2 ^ e : Nat) : Int) := by
  have h1 : 2 ^ e ≤ 2 ^ 40 := Nat.pow_le_pow_right (by omega) h
  have h2 : e ≤ 64 := by omega
  unfold shl
  rw [Int.toNat_natCast, show IntKind.i64.bits = 64 from rfl, Nat.min_eq_left h2, Int.one_mul, pow_cast2]
  obtain ⟨Q, hQ⟩ : ∃ y, 2 ^ e = y := ⟨_, rfl⟩
  rw [hQ] at h1 ⊢
  exact IntWalk.i64_in _ (by omega)
theorem wadd (i s : Nat) (h : i + s + 1 ≤ 2000000000) : wrap64 ((i : Int) + ((s : Int) + 1)) = ((i + s + 1 : Nat) : Int) := by rw [w64 (by omega) (by omega)]; omega
theorem wadd2 (i t : Nat) (h : i + t ≤ 2000000000) : wrap64 ((i : Int) + (t : Int)) = ((i + t : Nat) : Int) := by rw [w64 (by omega) (by omega)]; omega
theorem wsub1 (t : Nat) (h : t ≤ 2000000000) : wrap64 ((t : Int) - 1) = (t : Int) - 1 := w64 (by omega) (by omega)
theorem wdbl (d b : Nat) (h : d ≤ 4000000000) (hb : b ≤ 1) : wrap64 (wrap64 (2 * (d : Int)) + (b : Int)) = ((2 * d + b : Nat) : Int) := by
  rw [w64 (n := 2 * (d : Int)) (by omega) (by omega), w64 (by omega) (by omega)]
  omega

/-- The window is read and emptied. -/
theorem l2_run (s : Nat) (hs2 : s ≤ 30) (out : List Int) (i N q M : Nat) (hM : M < 2 ^ (s + 1)) (hi : i + s + 1 < N) (hN : N ≤ 1000000) : ∀ (t k : Nat) (B : List Int), t ≤ s + 1 → t < k → Dig 2 B → B.length = N → lv 2 B = ((2 ^ i * (2 ^ (s + 1) * q + M % 2 ^ t) : Nat) : Int) →
    ∃ B2, Dig 2 B2 ∧ B2.length = N ∧ lv 2 B2 = ((2 ^ i * (2 ^ (s + 1) * q) : Nat) : Int) ∧ spec_Apart.l2 k ((s : Int) + 1) B out (i : Int) ((M / 2 ^ t : Nat) : Int) ((t : Int) - 1) = spec_Apart.l2 (k - t) ((s : Int) + 1) B2 out (i : Int) (M : Int) (-1) := by
  have hMb : M ≤ 4000000000 := by
    have : 2 ^ (s + 1) ≤ 2 ^ 31 := Nat.pow_le_pow_right (by omega) (by omega)
    omega
  intro t
  induction t with
  | zero =>
    intro k B ht hk hd hl hv
    refine ⟨B, hd, hl, ?_, ?_⟩
    · rw [hv, Nat.pow_zero, Nat.mod_one, Nat.add_zero]
    · rw [Nat.pow_zero, Nat.div_one, Nat.sub_zero]
      rfl
  | succ t ih =>
    intro k B ht hk hd hl hv
    obtain ⟨k, rfl⟩ : ∃ m, k = m + 1 := ⟨k - 1, by omega⟩
    have hdg := dig_get 2 (by decide) B hd _ (i + t) hv
    rw [bit_in i (s + 1) q M t (by omega)] at hdg
    have hb1 : M / 2 ^ t % 2 ≤ 1 := by omega
    have hD : M / 2 ^ (t + 1) ≤ 4000000000 := Nat.le_trans (Nat.div_le_self _ _) hMb
    have hclr := lv_clear B (i + t) _ (M / 2 ^ t % 2) (by omega) hv hdg (2 ^ i * (2 ^ (s + 1) * q + M % 2 ^ t)) (by rw [rest_in M t, Nat.pow_add 2 i t, Nat.mul_assoc, ← Nat.mul_add, Nat.add_assoc])
    obtain ⟨B2, q1, q2, q3, q4⟩ := ih k (B.set (i + t) 0) (by omega) (by omega) (dig_set hd _ _ (by omega) (by omega)) (by rw [List.length_set]; exact hl) hclr
    refine ⟨B2, q1, q2, q3, ?_⟩
    rw [show k + 1 - (t + 1) = k - t from by omega, ← q4]
    have a1 : ((t + 1 : Nat) : Int) - 1 = (t : Int) := by omega
    have a2 : (t : Int) ≥ 0 := by omega
    have a3 : i + t ≤ 2000000000 := by omega
    have a4 : (0 : Int) ≤ ((i + t : Nat) : Int) := by omega
    have a5 : ((i + t : Nat) : Int) < (B.length : Int) := by rw [hl]; omega
    have a6 : t ≤ 2000000000 := by omega
    rw [a1, spec_Apart.l2, if_pos a2, wadd2 i t a3, if_pos a4, if_pos a5, rdn, hdg, Int.toNat_natCast, wsub1 t a6, wdbl _ _ hD hb1, half_in M t]

/-- The carry. -/
theorem l3_run (x1 : Int) (out : List Int) (hout : out.length < 35184372088832) (i N T : Nat) (d : Int) (hT : T < 2 ^ N) (hN : N ≤ 1000000) (hi : i ≤ 1000000) : ∀ (r k p : Nat) (B : List Int), N ≤ p + r → r < k → Dig 2 B → B.length = N → lv 2 B + ((2 ^ p : Nat) : Int) = (T : Int) →
    ∃ B2 k2, Dig 2 B2 ∧ B2.length = N ∧ lv 2 B2 = (T : Int) ∧ k ≤ k2 + r + 1 ∧ spec_Apart.l3 k x1 B out (i : Int) d (p : Int) = spec_Apart.l1 k2 x1 B2 (out ++ [wrap32 d]) ((i + 1 : Nat) : Int) ((i + 1 : Nat) : Int) := by
  intro r
  induction r with
  | zero =>
    intro k p B hp hk hd hl hv
    exfalso
    have h0 := (lv_range (B := 2) (by omega) hd).1
    have h1 : 2 ^ N ≤ 2 ^ p := Nat.pow_le_pow_right (by omega) (by omega)
    omega
  | succ r ih =>
    intro k p B hp hk hd hl hv
    obtain ⟨k, rfl⟩ : ∃ m, k = m + 1 := ⟨k - 1, by omega⟩
    have h0 := lv_range (B := 2) (by omega) hd
    obtain ⟨V, hV⟩ := Int.eq_ofNat_of_zero_le h0.1
    have hpN : p < N := by
      by_cases h : p < N
      · exact h
      · exfalso
        have h1 : 2 ^ N ≤ 2 ^ p := Nat.pow_le_pow_right (by omega) (by omega)
        omega
    have hg := hd.getB (by omega) p
    have a1 : (0 : Int) ≤ (p : Int) := by omega
    have a2 : (p : Int) < (B.length : Int) := by rw [hl]; omega
    have a3 : p ≤ 2000000000 := by omega
    have a4 : i ≤ 2000000000 := by omega
    have hpB : p < B.length := by omega
    have hpl : p + 1 ≤ 1000000 := by omega
    have hv2 : T = V + 2 ^ p := by omega
    by_cases hb : B.getD p 0 = 1
    · have hclr : lv 2 (B.set p 0) = (V : Int) - ((2 ^ p : Nat) : Int) := by
        rw [lv_set _ _ _ _ hpB, hV, hb, pow_cast2, Int.zero_sub, Int.mul_neg, Int.mul_one]
        rfl
      obtain ⟨B2, k2, q1, q2, q3, q4, q5⟩ := ih k (p + 1) (B.set p 0) (by omega) (by omega) (dig_set hd _ _ (by omega) (by omega)) (by rw [List.length_set]; exact hl) (by rw [hclr, Nat.pow_succ]; omega)
      refine ⟨B2, k2, q1, q2, q3, by omega, ?_⟩
      rw [spec_Apart.l3, if_pos a1, if_pos a2, rdn, if_pos hb, Int.toNat_natCast, ws p a3, q5]
    · have hz : B.getD p 0 = 0 := by omega
      have hlay := lv_lay B p V 1 hpB hV hz
      rw [Nat.mul_one, ← hv2] at hlay
      refine ⟨B.set p 1, k, dig_set hd _ _ (by omega) (by omega), by rw [List.length_set]; exact hl, hlay, by omega, ?_⟩
      rw [spec_Apart.l3, if_pos a1, if_pos a2, rdn, if_neg hb, if_pos hout, Int.toNat_natCast, ws i a4]

/-! ### The main loop -/
theorem naL_take (s X i m : Nat) (h : m ≤ i) : (naL s X i).take m = naL s X m := by
  unfold naL
  rw [← List.map_take, List.take_range, Nat.min_eq_left h]
theorem naL_succ (s X i : Nat) : naL s X i ++ [naD s (naK s X i)] = naL s X (i + 1) := by simp [naL, List.range_succ]
theorem naK_beyond (s X m : Nat) (hs1 : 1 ≤ s) (h : naK s X m = 0) (t : Nat) : naK s X (m + t) = 0 := by
  induction t with
  | zero => exact h
  | succ t ih => rw [Nat.add_succ]; simp only [naK]; rw [ih]; exact na_small s 0 hs1 (by omega)
theorem na_bound (s X b : Nat) (hs1 : 1 ≤ s) (h : X < 2 ^ b) (i : Nat) : 2 ^ i * naK s X i ≤ 2 ^ b := by
  by_cases hi : i ≤ b
  · have h1 := Nat.mul_le_mul_left (2 ^ i) (naK_le s X b hs1 h i hi)
    rw [← Nat.pow_add, show i + (b - i) = b from by omega] at h1
    exact h1
  · have h1 := naK_beyond s X (b + 1) hs1 (naK_end s X b hs1 h) (i - (b + 1))
    rw [show b + 1 + (i - (b + 1)) = i from by omega] at h1
    rw [h1, Nat.mul_zero]
    exact Nat.zero_le _
theorem last_eq (s X m i last : Nat) (hs1 : 1 ≤ s) (hm0 : naK s X m = 0) (hmp : ∀ j, j < m → 0 < naK s X j) (hmi : m ≤ i) (h2 : ∀ j, last ≤ j → j < i → naD s (naK s X j) = 0) (h3 : last = 0 ∨ naD s (naK s X (last - 1)) ≠ 0) : last = m := by
  by_cases h4 : last < m
  · exfalso
    have h5 := h2 (m - 1) (by omega) (by omega)
    have h6 := hmp (m - 1) (by omega)
    have h7 := na_eq s (naK s X (m - 1))
    have h8 : naN s (naK s X (m - 1)) = 0 := by
      have : naK s X (m - 1 + 1) = naN s (naK s X (m - 1)) := rfl
      rw [← this, show m - 1 + 1 = m from by omega]
      exact hm0
    omega
  · by_cases h5 : m < last
    · exfalso
      rcases h3 with h3 | h3
      · omega
      · have h6 := naK_beyond s X m hs1 hm0 (last - 1 - m)
        rw [show m + (last - 1 - m) = last - 1 from by omega] at h6
        rw [h6] at h3
        exact h3 (naD_zero s 0 (by decide))
    · omega
theorem l1_run (s X m N b : Nat) (hs1 : 1 ≤ s) (hs2 : s ≤ 30) (hX : X < 2 ^ b) (hbN : b < N) (hN : N ≤ 100000) (hm0 : naK s X m = 0) (hmp : ∀ j, j < m → 0 < naK s X j) (hmN : m + s + 1 ≤ N) :
    ∀ (r i k : Nat) (B : List Int) (last : Nat), i + s + 1 + r = N → (r + 1) * (N + s + 50) ≤ k → Dig 2 B → B.length = N → lv 2 B = ((2 ^ i * naK s X i : Nat) : Int) → last ≤ i → (∀ j, last ≤ j → j < i → naD s (naK s X j) = 0) → (last = 0 ∨ naD s (naK s X (last - 1)) ≠ 0) →
    spec_Apart.l1 k ((s : Int) + 1) B (naL s X i) (last : Int) (i : Int) = some (naL s X m) := by
  intro r
  induction r with
  | zero =>
    intro i k B last hi hk hd hl hv h1 h2 h3
    obtain ⟨k, rfl⟩ : ∃ m, k = m + 1 := ⟨k - 1, by omega⟩
    have he := last_eq s X m i last hs1 hm0 hmp (by omega) h2 h3
    have hmi : m ≤ i := by omega
    subst he
    have a0 : i + s + 1 ≤ 2000000000 := by omega
    have a1 : ¬ ((i + s + 1 : Nat) : Int) < (B.length : Int) := by rw [hl]; omega
    have a2 : (0 : Int) ≤ (last : Int) := by omega
    have a3 : (last : Int) ≤ ((naL s X i).length : Int) := by rw [naL_length]; omega
    rw [spec_Apart.l1, wadd i s a0, if_neg a1, if_pos a2, if_pos a3, Int.toNat_natCast, naL_take s X i last hmi]
  | succ r ih =>
    intro i k B last hi hk hd hl hv h1 h2 h3
    rw [show (r + 1 + 1) * (N + s + 50) = (r + 1) * (N + s + 50) + (N + s + 50) from Nat.succ_mul _ _] at hk
    obtain ⟨W, hW⟩ : ∃ W, (r + 1) * (N + s + 50) = W := ⟨_, rfl⟩
    rw [hW] at hk ih
    obtain ⟨k, rfl⟩ : ∃ m, k = m + 1 := ⟨k - 1, by omega⟩
    have hg := dig_get 2 (by decide) B hd _ i hv
    rw [Nat.mul_div_cancel_left _ (Nat.pow_pos (by decide))] at hg
    have hbd := na_bound s X b hs1 hX (i + 1)
    have hpb : 2 ^ b < 2 ^ N := Nat.pow_lt_pow_right (by omega) hbN
    have hsucc : naK s X (i + 1) = naN s (naK s X i) := rfl
    have hout := naL_succ s X i
    have holen := naL_length s X i
    have hdl := naD_bd s (naK s X i) hs1 hs2
    rw [hsucc] at hbd
    have a0 : i + s + 1 ≤ 2000000000 := by omega
    have a1 : ((i + s + 1 : Nat) : Int) < (B.length : Int) := by rw [hl]; omega
    have a2 : (0 : Int) ≤ (i : Int) := by omega
    have a3 : (i : Int) < (B.length : Int) := by rw [hl]; omega
    have a4 : i ≤ 2000000000 := by omega
    have a5 : (naL s X i).length < 35184372088832 := by rw [holen]; omega
    rw [spec_Apart.l1, wadd i s a0, if_pos a1, if_pos a2, if_pos a3, rdn, hg]
    by_cases ho : naK s X i % 2 = 1
    · have c1 : ((naK s X i % 2 : Nat) : Int) = 1 := by rw [ho]; rfl
      rw [if_pos c1]
      have hnz : naD s (naK s X i) ≠ 0 := by
        have := (naD_in s (naK s X i) hs1 ho).1
        intro e
        rw [e] at this
        simp at this
      have hih := fun (k2 : Nat) (B2 : List Int) (hk2 : W ≤ k2) (q1 : Dig 2 B2) (q2 : B2.length = N) (q3 : lv 2 B2 = ((2 ^ (i + 1) * naK s X (i + 1) : Nat) : Int)) => ih (i + 1) k2 B2 (i + 1) (by omega) hk2 q1 q2 q3 (Nat.le_refl _) (fun j h5 h6 => by omega) (.inr (by rw [Nat.add_sub_cancel]; exact hnz))
      rw [hsucc] at hih
      have hdef : naD s (naK s X i) = if naK s X i % 2 ^ (s + 1) < 2 ^ s then ((naK s X i % 2 ^ (s + 1) : Nat) : Int) else ((naK s X i % 2 ^ (s + 1) : Nat) : Int) - ((2 ^ (s + 1) : Nat) : Int) := by
        unfold naD; rw [if_pos ho]
      have hnx : naN s (naK s X i) = if naK s X i % 2 ^ (s + 1) < 2 ^ s then 2 ^ s * (naK s X i / 2 ^ (s + 1)) else 2 ^ s * (naK s X i / 2 ^ (s + 1) + 1) := by
        unfold naN; rw [if_pos ho]
      have hM : naK s X i % 2 ^ (s + 1) < 2 ^ (s + 1) := Nat.mod_lt _ (Nat.pow_pos (by decide))
      have hK : naK s X i = 2 ^ (s + 1) * (naK s X i / 2 ^ (s + 1)) + naK s X i % 2 ^ (s + 1) := (Nat.div_add_mod _ _).symm
      obtain ⟨M, hMM⟩ : ∃ M, naK s X i % 2 ^ (s + 1) = M := ⟨_, rfl⟩
      obtain ⟨q, hqq⟩ : ∃ q, naK s X i / 2 ^ (s + 1) = q := ⟨_, rfl⟩
      rw [hMM] at hdef hnx hM hK
      rw [hqq] at hnx hK
      have hv2 : lv 2 B = ((2 ^ i * (2 ^ (s + 1) * q + M % 2 ^ (s + 1)) : Nat) : Int) := by rw [Nat.mod_eq_of_lt hM, ← hK]; exact hv
      obtain ⟨B2, q1, q2, q3, q4⟩ := l2_run s hs2 (naL s X i) i N q M hM (by omega) (by omega) (s + 1) k B (Nat.le_refl _) (by omega) hd hl hv2
      have a6 : s ≤ 2000000000 := by omega
      have e1 : wrap64 ((s : Int) + 1 - 1) = (s : Int) := by rw [show (s : Int) + 1 - 1 = (s : Int) from by omega]; exact wn s a6
      rw [Nat.div_eq_of_lt hM, show ((s + 1 : Nat) : Int) - 1 = (s : Int) from by omega] at q4
      rw [e1, show (0 : Int) = ((0 : Nat) : Int) from rfl, q4]
      obtain ⟨k1, hk1⟩ : ∃ k1, k - (s + 1) = k1 + 1 := ⟨k - (s + 1) - 1, by omega⟩
      have b1 : ¬ ((-1 : Int) ≥ 0) := by omega
      have b2 : (0 : Int) ≤ (s : Int) := by omega
      have b3 : (0 : Int) ≤ ((s + 1 : Nat) : Int) := by omega
      have b4 : s ≤ 40 := by omega
      have b5 : s + 1 ≤ 40 := by omega
      have b6 : s + 1 ≤ 2000000000 := by omega
      have e2 : 2 ^ (i + s + 1) = 2 ^ i * 2 ^ (s + 1) := by rw [show i + s + 1 = i + (s + 1) from by omega, Nat.pow_add]
      have e3 : 2 ^ (i + 1) * (2 ^ s * q) = 2 ^ i * (2 ^ (s + 1) * q) := by rw [Nat.pow_succ, Nat.pow_succ, Nat.mul_assoc, Nat.mul_assoc, ← Nat.mul_assoc 2, Nat.mul_comm 2 (2 ^ s), Nat.mul_assoc]
      rw [hk1, spec_Apart.l2, if_neg b1, e1, un s a6, if_pos b2, shl_any s b4]
      have e4 : IntKind.u64.wrap ((s : Int) + 1) = ((s + 1 : Nat) : Int) := un (s + 1) b6
      have hp : 2 ^ (s + 1) = 2 * 2 ^ s := Nat.pow_succ'
      have hQb : 2 ^ s ≤ 2 ^ 30 := Nat.pow_le_pow_right (by omega) hs2
      have hk1b : W + N + 10 ≤ k1 := by omega
      by_cases hc : M < 2 ^ s
      · rw [if_pos hc] at hdef hnx
        have c2 : ¬ (M : Int) ≥ ((2 ^ s : Nat) : Int) := by omega
        have c3 : wrap32 (M : Int) = (M : Int) := IntWalk.wrap32_in _ (by omega)
        rw [if_neg c2, if_pos a5, c3, ← hdef, hout, ws i a4]
        refine hih k1 B2 (by omega) q1 q2 ?_
        rw [q3, hnx, e3]
      · rw [if_neg hc] at hdef hnx
        have c2 : (M : Int) ≥ ((2 ^ s : Nat) : Int) := by omega
        have c3 : wrap64 ((M : Int) - ((2 ^ (s + 1) : Nat) : Int)) = (M : Int) - ((2 ^ (s + 1) : Nat) : Int) := w64 (by omega) (by omega)
        rw [if_pos c2, e4, if_pos b3, shl_any (s + 1) b5, c3, wadd i s a0, ← hdef]
        have hTe : 2 ^ (i + 1) * naN s (naK s X i) = 2 ^ i * (2 ^ (s + 1) * q) + 2 ^ (i + s + 1) := by
          rw [hnx, Nat.mul_add, Nat.mul_add, e3, Nat.mul_one, e2]
          congr 1
          rw [Nat.pow_succ, Nat.mul_assoc, ← Nat.pow_succ']
        obtain ⟨B3, k2, p1, p2, p3, p4, p5⟩ := l3_run ((s : Int) + 1) (naL s X i) a5 i N (2 ^ (i + 1) * naN s (naK s X i)) (naD s (naK s X i)) (Nat.lt_of_le_of_lt hbd hpb) (by omega) (by omega) N k1 (i + s + 1) B2 (by omega) (by omega) q1 q2 (by rw [q3, hTe]; push_cast; rfl)
        have c4 : wrap32 (naD s (naK s X i)) = naD s (naK s X i) := IntWalk.wrap32_in _ (by omega)
        rw [p5, c4, hout]
        exact hih k2 B3 (by omega) p1 p2 p3
    · have ho2 : naK s X i % 2 = 0 := by omega
      have c1 : ¬ ((naK s X i % 2 : Nat) : Int) = 1 := by rw [ho2]; decide
      have hz := naD_zero s (naK s X i) ho
      have hnx : naN s (naK s X i) = naK s X i / 2 := by unfold naN; rw [if_neg ho]
      rw [hz] at hout
      rw [if_neg c1, if_pos a5, hout, ws i a4]
      refine ih (i + 1) k B last (by omega) (by omega) hd hl ?_ (by omega) ?_ h3
      · rw [hv, hsucc, hnx, Nat.pow_succ, Nat.mul_assoc, show 2 * (naK s X i / 2) = naK s X i from by omega]
      · intro j h5 h6
        by_cases e : j = i
        · subst e; exact hz
        · exact h2 j h5 (by omega)

/-! ### The bits are laid -/
theorem l0_run (x1 : Int) (low : List Int) (hlow : Dig 256 low) (X : Nat) (hX : lv 256 low = (X : Int)) (hXl : X < 2 ^ (8 * low.length)) (hl8 : low.length ≤ 10000) (N : Nat) (hN : 8 * low.length ≤ N) : ∀ (r i k : Nat) (B : List Int), i + r = 8 * low.length → r < k → Dig 2 B → B.length = N → lv 2 B = ((X % 2 ^ i : Nat) : Int) →
    ∃ B2, Dig 2 B2 ∧ B2.length = N ∧ lv 2 B2 = (X : Int) ∧ spec_Apart.l0 k x1 low B (i : Int) = spec_Apart.l1 (k - r - 1) x1 B2 [] 0 0 := by
  have h8 : low.length ≤ 2000000000 := by omega
  intro r
  induction r with
  | zero =>
    intro i k B hi hk hd hl hv
    obtain ⟨k, rfl⟩ : ∃ m, k = m + 1 := ⟨k - 1, by omega⟩
    have e : i = 8 * low.length := by omega
    subst e
    rw [Nat.mod_eq_of_lt hXl] at hv
    refine ⟨B, hd, hl, hv, ?_⟩
    have a1 : ¬ ((8 * low.length : Nat) : Int) < ((8 * low.length : Nat) : Int) := by omega
    rw [spec_Apart.l0, w8 _ h8, if_neg a1]
    rfl
  | succ r ih =>
    intro i k B hi hk hd hl hv
    obtain ⟨k, rfl⟩ : ∃ m, k = m + 1 := ⟨k - 1, by omega⟩
    have hz := dig_get 2 (by decide) B hd _ i hv
    rw [low_in] at hz
    have h0 : i / 8 ≤ 2000000000 := by omega
    have h2 : i % 8 ≤ 2000000000 := by omega
    have h9 : (0 : Int) ≤ ((i / 8 : Nat) : Int) := by omega
    have h10 : (0 : Int) ≤ ((i % 8 : Nat) : Int) := by omega
    have h11 : ((i / 8 : Nat) : Int) < (low.length : Int) := by omega
    have a1 : (i : Int) < ((8 * low.length : Nat) : Int) := by omega
    have a2 : (0 : Int) ≤ (i : Int) := by omega
    have a3 : (i : Int) < (B.length : Int) := by rw [hl]; omega
    have a4 : i ≤ 2000000000 := by omega
    have hw := want_bit low hlow X hX i (by omega)
    rw [td8, tm8, wn _ h0, un _ h2] at hw
    have hlay := lv_lay B i _ (X / 2 ^ i % 2) (by omega) hv hz
    rw [← rest_in] at hlay
    have hb : X / 2 ^ i % 2 ≤ 1 := by omega
    obtain ⟨B2, q1, q2, q3, q4⟩ := ih (i + 1) k (B.set i ((X / 2 ^ i % 2 : Nat) : Int)) (by omega) (by omega) (dig_set hd _ _ (by omega) (by omega)) (by rw [List.length_set]; exact hl) hlay
    refine ⟨B2, q1, q2, q3, ?_⟩
    rw [spec_Apart.l0, w8 _ h8, if_pos a1, td8, tm8, wn _ h0, un _ h2, if_pos h9, if_pos h11, if_pos h10, if_pos a2, if_pos a3, hw, Int.toNat_natCast, ws i a4, q4, show k + 1 - (r + 1) - 1 = k - r - 1 from by omega]
theorem wall (l s : Nat) (h : l ≤ 100000) (h2 : s ≤ 100) : wrap64 (wrap64 (((8 * l : Nat) : Int) + ((s : Int) + 1)) + 2) = ((8 * l + s + 3 : Nat) : Int) := by
  rw [w64 (n := ((8 * l : Nat) : Int) + ((s : Int) + 1)) (by omega) (by omega), w64 (by omega) (by omega)]
  omega
theorem strip_small (n : List Int) (hd : Dig 256 n) (X : Nat) (hX : lv 256 n.reverse = (X : Int)) : X < 2 ^ (8 * (strip n).length) := by
  have h := (lv_range (B := 256) (by omega) (Bs.strip_dig hd).reverse).2
  rw [Bs.strip_lv, hX, List.length_reverse, pow256, pow_cast2] at h
  exact_mod_cast h
theorem apart_eq (n : List Int) (hd : Dig 256 n) (hn : n.length ≤ 1000) (X s m : Nat) (hX : lv 256 n.reverse = (X : Int)) (hs1 : 1 ≤ s) (hs2 : s ≤ 30) (hm0 : naK s X m = 0) (hmp : ∀ j, j < m → 0 < naK s X j) (hmb : m ≤ bln X + 1) (k : Nat)
    (hk : (8 * n.length + 40) * (8 * n.length + 200) + 100 * n.length + 1000 ≤ k) : spec_Apart.f k n ((s : Int) + 1) = some (naL s X m) := by
  have hsl : (strip n).length ≤ n.length := (List.dropWhile_sublist _).length_le
  have hkn : n.length < k := by omega
  have h1 := short_eq n (by omega) k hkn
  have h2 := turned_eq (strip n) (by omega) k (by omega)
  have hsd : Dig 256 (strip n).reverse := (Bs.strip_dig hd).reverse
  have hsv : lv 256 (strip n).reverse = (X : Int) := by rw [Bs.strip_lv, hX]
  have hxs := strip_small n hd X hX
  have hbl : bln X ≤ 8 * (strip n).length := bln_le.2 hxs
  have hrl : (strip n).reverse.length = (strip n).length := List.length_reverse
  obtain ⟨low, hlow⟩ : ∃ low, (strip n).reverse = low := ⟨_, rfl⟩
  obtain ⟨l, hll⟩ : ∃ l, (strip n).length = l := ⟨_, rfl⟩
  rw [hll] at hsl hxs hbl hrl
  rw [hlow] at h2 hsd hsv hrl
  have hl8 : low.length ≤ 10000 := by omega
  have hz0 : lv 2 (List.replicate (8 * l + s + 3) 0) = ((X % 2 ^ 0 : Nat) : Int) := by rw [lv_zeros, Nat.pow_zero, Nat.mod_one]; rfl
  have hr0 : (List.replicate (8 * l + s + 3) (0 : Int)).length = 8 * l + s + 3 := by simp
  obtain ⟨B2, q1, q2, q3, q4⟩ := l0_run ((s : Int) + 1) low hsd X hsv (by rw [hrl]; exact hxs) hl8 (8 * l + s + 3) (by omega) (8 * low.length) 0 k _ (by omega) (by omega) (Dig.replicate (by omega) _) hr0 hz0
  have hprod : (8 * l + 2 + 1) * (8 * l + s + 3 + s + 50) ≤ (8 * n.length + 40) * (8 * n.length + 200) := Nat.mul_le_mul (by omega) (by omega)
  have q5 := l1_run s X m (8 * l + s + 3) (8 * l) hs1 hs2 hxs (by omega) (by omega) hm0 hmp (by omega) (8 * l + 2) 0 (k - 8 * low.length - 1) B2 0 (by omega) (by omega) q1 q2 (by rw [Nat.pow_zero, Nat.one_mul]; exact q3) (Nat.le_refl _) (fun j h5 h6 => by omega) (.inl rfl)
  have a1 : (0 : Int) ≤ ((8 * l + s + 3 : Nat) : Int) := by omega
  have a2 : 8 * l + s + 3 ≤ 35184372088832 := by omega
  have a3 : l ≤ 2000000000 := by omega
  have a4 : l ≤ 100000 := by omega
  have a5 : s ≤ 100 := by omega
  unfold spec_Apart.f
  rw [h1, Option.bind_some, h2, Option.bind_some, hrl, w8 l a3, wall l s a4 a5, if_pos a1, Int.toNat_natCast, if_pos a2]
  exact q4.trans q5
theorem eq_l0 (R : List Int) (hR : R.length ≤ 1000000) : ∀ (r i k : Nat), i + r = R.length → r < k → slices_Equal_int32_int32.l0 k R R (R.length : Int) (i : Int) = some true := by
  intro r
  induction r with
  | zero =>
    intro i k hi hk
    obtain ⟨k, rfl⟩ : ∃ m, k = m + 1 := ⟨k - 1, by omega⟩
    have a1 : ¬ (i : Int) < (R.length : Int) := by omega
    rw [slices_Equal_int32_int32.l0, if_neg a1]
  | succ r ih =>
    intro i k hi hk
    obtain ⟨k, rfl⟩ : ∃ m, k = m + 1 := ⟨k - 1, by omega⟩
    have a1 : (i : Int) < (R.length : Int) := by omega
    have a2 : (0 : Int) ≤ (i : Int) := by omega
    have a4 : i ≤ 2000000000 := by omega
    rw [slices_Equal_int32_int32.l0, if_pos a1, if_pos a2, if_pos a1, if_pos a1, if_pos rfl, ws i a4]
    exact ih (i + 1) k (by omega) (by omega)
theorem eq_f (R : List Int) (hR : R.length ≤ 1000000) : slices_Equal_int32_int32.f (R.length + 1) R R = some true := by
  unfold slices_Equal_int32_int32.f
  rw [if_pos rfl]
  exact eq_l0 R hR R.length 0 _ (by omega) (by omega)
end Go.Proofs.Ythckboojmljeiaa.Ex
namespace Go.Proofs.Ythckboojmljeiaa.Ez
set_option linter.unusedVariables false
set_option linter.unusedSimpArgs false
open Go.RowKit Go.Proofs.YthckboojmljeiaaW.PrintWords Go.Proofs.YthckboojmljeiaaW.PrintLast Go.Proofs.YthckboojmljeiaaW.PrintMore Go.Proofs.Ythckboojmljeiaa.Pl Go.Proofs.Ythckboojmljeiaa.Dg Go.Proofs.Ythckboojmljeiaa.Mem Go.Proofs.Ythckboojmljeiaa.Na Go.Proofs.Ythckboojmljeiaa.Nb Go.Proofs.Ythckboojmljeiaa.Be Go.Proofs.Ythckboojmljeiaa.Ow Go.Proofs.Ythckboojmljeiaa.Nu Go.Proofs.Ythckboojmljeiaa.In Go.Proofs.Ythckboojmljeiaa.Bl Go.Proofs.Ythckboojmljeiaa.Bs Go.Proofs.Ythckboojmljeiaa.Kp Go.Proofs.Ythckboojmljeiaa.Kw Go.Proofs.Ythckboojmljeiaa.Op Go.Proofs.Ythckboojmljeiaa.Ok Go.Proofs.Ythckboojmljeiaa.Ol Go.Proofs.Ythckboojmljeiaa.Ex

theorem spec_apart (A : Option Addr) (c : Nat) (n : List Int) (s m X : Nat) (w : World) (hr : Kd.C (Kd.int .u8) w A n.length n) (hc : n.length ≤ c) (hl : n.length ≤ 1000) (hd : Dig 256 n) (hX : lv 256 n.reverse = (X : Int))
    (hs1 : 1 ≤ s) (hs2 : s ≤ 30) (hm0 : naK s X m = 0) (hmp : ∀ j, j < m → 0 < naK s X j) (hmb : m ≤ bln X + 1) :
    Calls Try.prog 29 #[.slice A n.length c, .int .i64 ((s : Int) + 1)] w (Rd32 w (naL s X m)) := by
  refine (PFnExactApart.spec_Apart.calls _ A c n ((s : Int) + 1) (naL s X m) w hr hc (apart_eq n hd hl X s m hX hs1 hs2 hm0 hmp hmb _ (Nat.le_refl _))).mono ?_
  rintro e w' ⟨v, rfl, h1, h2⟩
  obtain ⟨A2, c2, rfl, h3, h4⟩ := Kd.R_reads h1
  exact ⟨A2, c2, rfl, h3, h4, h2⟩
theorem equal32 (A B : Option Addr) (c d : Nat) (R : List Int) (hR : R.length ≤ 1000000) (w : World) (h1 : Kd.C (Kd.int .i32) w A R.length R) (h2 : R.length ≤ c) (h3 : Kd.C (Kd.int .i32) w B R.length R) (h4 : R.length ≤ d) :
    Calls Try.prog 28 #[.slice A R.length c, .slice B R.length d] w fun e w' => e = .returned (.bool true) ∧ Below w.heap.size w w' := by
  refine (PFnExactApart.slices_Equal_int32_int32.calls (R.length + 1) A c R B d R true w h1 h2 h3 h4 (eq_f R hR)).mono ?_
  rintro e w' ⟨rfl, hd⟩
  exact ⟨rfl, hd.below⟩

set_option maxHeartbeats 1000000 in
set_option maxRecDepth 100000 in
theorem law (A : Option Addr) (c : Nat) (n : List Int) (win : Int) (w : World) (hr : Kd.C (Kd.int .u8) w A n.length n) (hc : n.length ≤ c) (hd : Dig 256 n) :
    Calls Try.prog 9 #[.slice A n.length c, .int .i64 win] w fun e w' => e = .returned (.bool true) ∧ Below w.heap.size w w' := by
  have hlv := (lv_range (B := 256) (by omega) hd.reverse).1
  obtain ⟨X, hX⟩ := Int.eq_ofNat_of_zero_le hlv
  have HR := Lib.hid hr
  have HC := Lib.hid hc
  have HD := Lib.hid hd
  have HX := Lib.hid hX
  clear hr hc hd hX hlv
  go_enter Try.func9, Try.ntmps9
  by_cases h0 : (2147483647 : Int) < (n.length : Int)
  · go_wp2
    go_ret
    exact ⟨rfl, Below.refl _ _⟩
  by_cases h1 : (512 : Int) < (n.length : Int)
  · go_wp2
    go_ret
    exact ⟨rfl, Below.refl _ _⟩
  by_cases h2 : win < 2
  · go_wp2
    go_ret
    exact ⟨rfl, Below.refl _ _⟩
  by_cases h3 : 31 < win
  · go_wp2
    go_ret
    exact ⟨rfl, Below.refl _ _⟩
  obtain ⟨s, rfl⟩ : ∃ s : Nat, win = (s : Int) + 1 := ⟨(win - 1).toNat, by omega⟩
  have hs1 : 1 ≤ s := by omega
  have hs2 : s ≤ 30 := by omega
  have hnl : n.length ≤ 512 := by omega
  have hbb := bln_bytes n HD.out X HX.out
  obtain ⟨m, hmb, hm0, hmp⟩ := na_count s X (bln X) hs1 (bln_lt X)
  have HAp := Lib.hid (impl_apart A c n s m w HR.out HC.out (by omega) HD.out X HX.out hs1 hs2 (by omega) hm0 hmp hmb)
  have HSp := Lib.hid (fun (w1 : World) (hb : Below w.heap.size w w1) => spec_apart A c n s m X w1 (Kd.C_below HR.out hb) HC.out (by omega) HD.out HX.out hs1 hs2 hm0 hmp hmb)
  have HNl := Lib.hid (show (naL s X m).length ≤ 1000000 by rw [naL_length]; omega)
  obtain ⟨R, hR⟩ : ∃ R, naL s X m = R := ⟨_, rfl⟩
  rw [hR] at HAp HSp HNl
  clear hm0 hmp hmb hbb hR
  go_wp2_with fail
  refine HAp.out.mono ?_
  rintro e w3 ⟨A2, c2, rfl, q1, q2, q3⟩
  have HB3 := Lib.hid q3
  have HSp2 := Lib.hid (HSp.out w3 q3)
  have HQ1 := Lib.hid q1
  have HQ2 := Lib.hid q2
  clear q1 q2 q3 HAp HSp
  go_wp2_with fail
  refine HSp2.out.mono ?_
  rintro e w4 ⟨A3, c3, rfl, q1, q2, q3⟩
  have HB4 := Lib.hid (below_then HB3.out HB3.out.size q3)
  have HE := Lib.hid (equal32 A2 A3 c2 c3 R HNl.out w4 (Kd.C_below HQ2.out q3) HQ1.out q2 q1)
  clear q1 q2 q3 HSp2
  go_wp2_with fail
  refine HE.out.mono ?_
  rintro e w5 ⟨rfl, hb⟩
  have HB5 := Lib.hid (below_then HB4.out HB4.out.size hb)
  clear hb HE
  go_wp2
  go_ret
  exact ⟨rfl, HB5.out⟩
end Go.Proofs.Ythckboojmljeiaa.Ez
