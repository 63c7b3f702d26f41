/- Plain: the reference's Makes answers true where digits are the number; The law FnSigned. -/
import Derived.Test.YthckboojmljeiaaPm
import Derived.Test.YthckboojmljeiaaMgk
import Derived.Test.YthckboojmljeiaaMgl
import Derived.Test.YthckboojmljeiaaPo
namespace Go.Proofs.Ythckboojmljeiaa.Mk
set_option linter.unusedVariables false
set_option linter.unusedSimpArgs false
open Go.RowKit Go.Proofs.Ythckboojmljeiaa.Sk Go.Proofs.YthckboojmljeiaaW.PrintWords Go.Proofs.YthckboojmljeiaaW.PrintLast Go.Proofs.YthckboojmljeiaaW.PrintMore Go.Proofs.Ythckboojmljeiaa.Pl Go.Proofs.Ythckboojmljeiaa.By Go.Proofs.Ythckboojmljeiaa.PFnSigned

/-- A digit by its place. -/
theorem dig_get (B : Nat) (hB : 0 < B) (l : List Int) (hd : Dig (B : Int) l) (X i : Nat) (h : lv (B : Int) l = (X : Int)) : l.getD i 0 = ((X / B ^ i % B : Nat) : Int) := by
  induction l generalizing X i with
  | nil =>
    have : X = 0 := by simp only [lv] at h; omega
    subst this
    simp
  | cons x r ih =>
    obtain ⟨⟨h0, h1⟩, h2⟩ := hd.cons
    obtain ⟨Y, hY⟩ := Int.eq_ofNat_of_zero_le (lv_range (B := (B : Int)) (by omega) h2).1
    obtain ⟨a, rfl⟩ := Int.eq_ofNat_of_zero_le h0
    have ha : a < B := by omega
    simp only [lv] at h
    rw [hY] at h
    have hX : X = a + B * Y := by exact_mod_cast h.symm
    cases i with
    | zero => rw [List.getD_cons_zero, Nat.pow_zero, Nat.div_one, hX, Nat.add_mul_mod_self_left, Nat.mod_eq_of_lt ha]
    | succ i =>
      rw [List.getD_cons_succ, ih h2 Y i hY, Nat.pow_succ', ← Nat.div_div_eq_div_mul, hX, Nat.add_mul_div_left _ _ hB, Nat.div_eq_of_lt ha, Nat.zero_add]
theorem byte_bit (Y r : Nat) (hr : r < 8) : (Y % 256) / 2 ^ r % 2 = Y / 2 ^ r % 2 := by
  have h : r = 0 ∨ r = 1 ∨ r = 2 ∨ r = 3 ∨ r = 4 ∨ r = 5 ∨ r = 6 ∨ r = 7 := by omega
  rcases h with h | h | h | h | h | h | h | h <;> subst h <;> simp only [Nat.reducePow] <;> omega
theorem low_bit (X i : Nat) : (X / 256 ^ (i / 8) % 256) / 2 ^ (i % 8) % 2 = X / 2 ^ i % 2 := by
  rw [byte_bit _ _ (by omega), Nat.div_div_eq_div_mul, show (256 : Nat) = 2 ^ 8 from rfl, ← Nat.pow_mul, ← Nat.pow_add, show 8 * (i / 8) + i % 8 = i from by omega]

/-! ### carried -/
theorem bit2 (x : Int) : Int.tmod (Int.tmod x 2 + 2) 2 = x % 2 := by
  by_cases h : 0 ≤ x
  · rw [Int.tmod_eq_emod_of_nonneg h, Int.tmod_eq_emod_of_nonneg (by omega)]
    omega
  · have e : Int.tmod x 2 = -((-x) % 2) := by
      have := Int.neg_tmod (-x) 2
      rw [Int.neg_neg] at this
      rw [this, Int.tmod_eq_emod_of_nonneg (by omega)]
    rw [e, Int.tmod_eq_emod_of_nonneg (by omega)]
    omega
theorem tmod2 (x : Int) : -1 ≤ Int.tmod x 2 ∧ Int.tmod x 2 ≤ 1 := by
  by_cases h : 0 ≤ x
  · rw [Int.tmod_eq_emod_of_nonneg h]; omega
  · have e : Int.tmod x 2 = -((-x) % 2) := by
      have := Int.neg_tmod (-x) 2
      rw [Int.neg_neg] at this
      rw [this, Int.tmod_eq_emod_of_nonneg (by omega)]
    rw [e]; omega
theorem l1_rest : ∀ (r k : Nat) (out : List Int) (c : Int), r ≤ 70 → r < k → Dig 2 out → out.length + r ≤ 1000000 → 0 ≤ c → c ≤ 4294967296 → c < 2 ^ r →
    ∃ o2, spec_carried.l1 k out c ((70 - r : Nat) : Int) = some (o2, true) ∧ Dig 2 o2 ∧ lv 2 o2 = lv 2 out + 2 ^ out.length * c ∧ o2.length ≤ out.length + r := by
  intro r
  induction r with
  | zero =>
    intro k out c hr hk hd hl h0 h1 h2
    obtain ⟨k, rfl⟩ : ∃ m, k = m + 1 := ⟨k - 1, by omega⟩
    have hc : c = 0 := by rw [Int.pow_zero] at h2; omega
    subst hc
    simp only [spec_carried.l1]
    exact ⟨out, by rw [if_neg (by omega)]; rfl, hd, by rw [Int.mul_zero, Int.add_zero], Nat.le_refl _⟩
  | succ r ih =>
    intro k out c hr hk hd hl h0 h1 h2
    obtain ⟨k, rfl⟩ : ∃ m, k = m + 1 := ⟨k - 1, by omega⟩
    simp only [spec_carried.l1]
    have a1 : ((70 - (r + 1) : Nat) : Int) < 70 := by omega
    rw [if_pos a1]
    by_cases hc : c > 0
    · have a2 : out.length < 17592186044416 := by omega
      rw [if_pos hc, if_pos a2]
      have e1 : Int.tmod c 2 = c % 2 := Int.tmod_eq_emod_of_nonneg h0
      have e2 : Int.tdiv c 2 = c / 2 := Int.tdiv_eq_ediv_of_nonneg h0
      have e3 : wrap64 (c / 2) = c / 2 := w64 (by omega) (by omega)
      have e4 : wrap64 (((70 - (r + 1) : Nat) : Int) + 1) = ((70 - r : Nat) : Int) := by rw [w64 (by omega) (by omega)]; omega
      rw [e1, e2, e3, e4]
      rw [Int.pow_succ] at h2
      obtain ⟨o2, q1, q2, q3, q4⟩ := ih k (out ++ [c % 2]) (c / 2) (by omega) (by omega) (hd.append (Dig.mk (by omega) (by omega) (Dig.nil _))) (by rw [List.length_append, List.length_singleton]; omega) (by omega) (by omega) (by omega)
      refine ⟨o2, q1, q2, ?_, by rw [List.length_append, List.length_singleton] at q4; omega⟩
      rw [q3, lv_snoc, List.length_append, List.length_singleton, Int.pow_succ, Int.mul_assoc, Int.add_assoc, ← Int.mul_add]
      congr 2
      omega
    · have hc0 : c = 0 := by omega
      subst hc0
      rw [if_neg hc]
      exact ⟨out, rfl, hd, by rw [Int.mul_zero, Int.add_zero], by omega⟩
/-- All numbers within 2^31. -/
def Bd (l : List Int) : Prop := ∀ j, -2147483648 ≤ l.getD j 0 ∧ l.getD j 0 ≤ 2147483648
theorem l0_rest (v : List Int) (hv : Bd v) (hvl : v.length ≤ 900000) (X : Int) (hX : 0 ≤ X) : ∀ (r i k : Nat) (out : List Int) (c : Int), i + r = v.length → r + 72 < k → out.length = i → Dig 2 out → -2147483648 ≤ c → c ≤ 2147483648 →
    lv 2 out + 2 ^ i * (c + lv 2 (v.drop i)) = X → ∃ o2, spec_carried.l0 k v out c (i : Int) = some (o2, true) ∧ Dig 2 o2 ∧ lv 2 o2 = X ∧ o2.length ≤ v.length + 70 := by
  intro r
  induction r with
  | zero =>
    intro i k out c hi hk hl hd h0 h1 hx
    obtain ⟨k, rfl⟩ : ∃ m, k = m + 1 := ⟨k - 1, by omega⟩
    simp only [spec_carried.l0]
    have a1 : ¬ (i : Int) < (v.length : Int) := by omega
    rw [if_neg a1]
    rw [List.drop_of_length_le (by omega)] at hx
    simp only [lv, Int.add_zero] at hx
    have hr := (lv_range (B := 2) (by omega) hd)
    rw [hl] at hr
    have hc0 : 0 ≤ c := by
      by_cases h : 0 ≤ c
      · exact h
      · exfalso
        have h3 : (2 : Int) ^ i * c ≤ 2 ^ i * (-1) := Int.mul_le_mul_of_nonneg_left (by omega) (Int.pow_nonneg (by decide))
        rw [Int.mul_neg, Int.mul_one] at h3
        omega
    have hp : (2 : Int) ^ 70 = 1180591620717411303424 := by decide
    obtain ⟨o2, q1, q2, q3, q4⟩ := l1_rest 70 k out c (by omega) (by omega) hd (by omega) hc0 (by omega) (by omega)
    refine ⟨o2, q1, q2, ?_, by omega⟩
    rw [q3, hl]
    exact hx
  | succ r ih =>
    intro i k out c hi hk hl hd h0 h1 hx
    obtain ⟨k, rfl⟩ : ∃ m, k = m + 1 := ⟨k - 1, by omega⟩
    have hil : i < v.length := by omega
    simp only [spec_carried.l0]
    have hb := hv i
    have a1 : (i : Int) < (v.length : Int) := by omega
    have a2 : (0 : Int) ≤ (i : Int) := by omega
    have a3 : out.length < 17592186044416 := by omega
    have e0 : rd v (i : Int) = v.getD i 0 := by unfold rd; rw [Int.toNat_natCast]
    rw [drop_getD v i hil] at hx
    simp only [lv] at hx
    obtain ⟨y, hy⟩ : ∃ y, v.getD i 0 = y := ⟨_, rfl⟩
    rw [hy] at hb hx e0
    obtain ⟨x, hxx⟩ : ∃ x, y + c = x := ⟨_, rfl⟩
    have e1 : wrap64 (y + c) = x := by rw [hxx]; exact w64 (by omega) (by omega)
    have ht := tmod2 x
    have e2 : wrap64 (Int.tmod x 2 + 2) = Int.tmod x 2 + 2 := w64 (by omega) (by omega)
    have e3 := bit2 x
    have e4 : wrap64 (x - x % 2) = 2 * (x / 2) := by rw [w64 (by omega) (by omega)]; omega
    have e5 : Int.tdiv (2 * (x / 2)) 2 = x / 2 := Int.mul_tdiv_cancel_left _ (by decide)
    have e6 : wrap64 (x / 2) = x / 2 := w64 (by omega) (by omega)
    have e7 : wrap64 ((i : Int) + 1) = ((i + 1 : Nat) : Int) := by rw [w64 (by omega) (by omega)]; omega
    rw [if_pos a1, if_pos a2, if_pos a3, e0, e1, e2, e3, e4, e5, e6, e7]
    refine ih (i + 1) k (out ++ [x % 2]) (x / 2) (by omega) (by omega) (by rw [List.length_append, List.length_singleton, hl]) (hd.append (Dig.mk (by omega) (by omega) (Dig.nil _))) (by omega) (by omega) ?_
    rw [lv_snoc, hl, Int.pow_succ, Int.mul_assoc, Int.add_assoc, ← Int.mul_add, ← hx]
    congr 2
    omega
theorem carried_eq (v : List Int) (hv : Bd v) (hvl : v.length ≤ 900000) (X : Int) (hX : 0 ≤ X) (hx : lv 2 v = X) (k : Nat) (hk : v.length + 72 < k) : ∃ o2, spec_carried.f k v = some (o2, true) ∧ Dig 2 o2 ∧ lv 2 o2 = X ∧ o2.length ≤ v.length + 70 :=
  l0_rest v hv hvl X hX v.length 0 k [] 0 (by omega) (by omega) rfl (Dig.nil _) (by omega) (by omega) (by rw [List.drop_zero, hx]; simp [lv])

/-! ### The comparison -/
theorem and1_u8 (x : Int) (h0 : 0 ≤ x) (h1 : x < 256) : bits .and .u8 x 1 = x % 2 := by
  have := bits_mask .u8 8 (by decide) wraps_u8 1 (by decide) x h0 (by omega)
  exact this
theorem wn (n : Nat) (h : n ≤ 2000000000) : wrap64 (n : Int) = (n : Int) := w64 (by omega) (by omega)
theorem ws (i : Nat) (h : i ≤ 2000000000) : wrap64 ((i : Int) + 1) = ((i + 1 : Nat) : Int) := by rw [w64 (by omega) (by omega)]; omega
theorem w8 (n : Nat) (h : n ≤ 2000000000) : wrap64 (8 * (n : Int)) = ((8 * n : Nat) : Int) := by rw [w64 (by omega) (by omega)]; omega
theorem td8 (i : Nat) : Int.tdiv (i : Int) 8 = ((i / 8 : Nat) : Int) := by rw [Int.tdiv_eq_ediv_of_nonneg (by omega)]; omega
theorem tm8 (i : Nat) : Int.tmod (i : Int) 8 = ((i % 8 : Nat) : Int) := by rw [Int.tmod_eq_emod_of_nonneg (by omega)]; omega
theorem un (n : Nat) (h : n ≤ 2000000000) : IntKind.u64.wrap (n : Int) = (n : Int) := wu64_in (by omega) (by omega)
theorem rdn (l : List Int) (n : Nat) : rd l (n : Int) = l.getD n 0 := by unfold rd; rw [Int.toNat_natCast]
theorem and1_nat (y : Nat) (h : y < 256) : wrap64 (bits .and .u8 (y : Int) 1) = ((y % 2 : Nat) : Int) := by
  rw [and1_u8 _ (by omega) (by omega), w64 (by omega) (by omega)]
  omega
theorem w31 (x : Int) (h0 : -2147483648 ≤ x) (h1 : x ≤ 2147483648) : wrap64 x = x := w64 (by omega) (by omega)
theorem wmul (i s : Nat) (h : i * s ≤ 2000000000) : wrap64 ((i : Int) * (s : Int)) = ((i * s : Nat) : Int) := by
  rw [show (i : Int) * (s : Int) = ((i * s : Nat) : Int) from by push_cast; rfl]
  exact wn _ h
theorem want_bit (low : List Int) (hd : Dig 256 low) (X : Nat) (hX : lv 256 low = (X : Int)) (i : Nat) (hi : i ≤ 1000000) :
    wrap64 (bits .and .u8 (shr .u8 (rd low (wrap64 (Int.tdiv (i : Int) 8))) (IntKind.u64.wrap (Int.tmod (i : Int) 8))) 1) = ((X / 2 ^ i % 2 : Nat) : Int) := by
  have h0 : i / 8 ≤ 2000000000 := by omega
  have h2 : i % 8 ≤ 2000000000 := by omega
  have h3 : i % 8 ≤ 8 := by omega
  rw [td8, tm8, wn _ h0, un _ h2, rdn, dig_get 256 (by decide) low hd X (i / 8) hX]
  unfold shr
  rw [Int.toNat_natCast, show IntKind.u8.bits = 8 from rfl, Nat.min_eq_left h3, show (2 : Int) ^ (i % 8) = ((2 ^ (i % 8) : Nat) : Int) from by push_cast; rfl, ← Int.natCast_ediv]
  have h1 : X / 256 ^ (i / 8) % 256 / 2 ^ (i % 8) < 256 := Nat.lt_of_le_of_lt (Nat.div_le_self _ _) (Nat.mod_lt _ (by decide))
  rw [and1_nat _ h1, low_bit]
theorem getD_out (l : List Int) (i : Nat) (h : l.length ≤ i) : l.getD i 0 = 0 := by
  rw [List.getD_eq_getElem?_getD, List.getElem?_eq_none h]
  rfl
section
variable (b : List Int) (hb : Dig 2 b) (low : List Int) (hd : Dig 256 low) (X : Nat) (hbX : lv 2 b = (X : Int)) (hX : lv 256 low = (X : Int)) (ok : Bool)
include hb hbX in
theorem cmp_j3 (k i : Nat) (hi : i ≤ 1000000) (hnext : spec_Makes.l1 k b ok low ((i + 1 : Nat) : Int) = some ok) (x : Int) (hx : x = ((X / 2 ^ i % 2 : Nat) : Int)) : spec_Makes.j3 (k + 1) b ok low (i : Int) x = some ok := by
  have hg := dig_get 2 (by decide) b hb X i hbX
  have hi2 : i ≤ 2000000000 := by omega
  have a2 : (0 : Int) ≤ (i : Int) := by omega
  rw [spec_Makes.j3]
  by_cases a1 : (i : Int) < (b.length : Int)
  · rw [if_pos a1, if_pos a2, rdn, hg, if_pos hx, ws i hi2]
    exact hnext
  · have hbl : b.length ≤ i := by omega
    rw [getD_out b i hbl] at hg
    rw [if_neg a1, if_pos (hx.trans hg.symm), ws i hi2]
    exact hnext
include hb hbX hd hX in
theorem cmp_j2 (k i : Nat) (hi : i ≤ 1000000) (hl : low.length ≤ 100000) (hnext : spec_Makes.l1 k b ok low ((i + 1 : Nat) : Int) = some ok) : spec_Makes.j2 (k + 2) b ok low (i : Int) true = some ok := by
  have h0 : i / 8 ≤ 2000000000 := by omega
  have h2 : i % 8 ≤ 2000000000 := by omega
  have h8 : low.length ≤ 2000000000 := by omega
  have h9 : (0 : Int) ≤ ((i / 8 : Nat) : Int) := by omega
  have h10 : (0 : Int) ≤ ((i % 8 : Nat) : Int) := by omega
  have hw := want_bit low hd X hX i hi
  have hdv := dig_get 256 (by decide) low hd X (i / 8) hX
  have hlb := low_bit X i
  rw [spec_Makes.j2, if_pos rfl, w8 _ h8]
  by_cases a1 : (i : Int) < ((8 * low.length : Nat) : Int)
  · have h11 : ((i / 8 : Nat) : Int) < (low.length : Int) := by omega
    rw [td8, tm8, wn _ h0, un _ h2, rdn] at hw
    rw [if_pos a1, td8, tm8, wn _ h0, un _ h2, if_pos h9, if_pos h11, if_pos h10, rdn]
    exact cmp_j3 b hb low X hbX ok k i hi hnext _ hw
  · have h12 : low.length ≤ i / 8 := by omega
    rw [if_neg a1]
    rw [getD_out low _ h12] at hdv
    have h5 : X / 256 ^ (i / 8) % 256 = 0 := by exact_mod_cast hdv.symm
    rw [h5, Nat.zero_div, Nat.zero_mod] at hlb
    exact cmp_j3 b hb low X hbX ok k i hi hnext 0 (by rw [← hlb]; rfl)
include hb hbX hd hX in
theorem cmp_rest (hl : low.length ≤ 100000) : ∀ (r i k : Nat), b.length ≤ i + r → 8 * low.length ≤ i + r → i + r ≤ 1000000 → 4 * r + 8 < k → spec_Makes.l1 k b ok low (i : Int) = some ok := by
  have h8 : low.length ≤ 2000000000 := by omega
  intro r
  induction r with
  | zero =>
    intro i k h1 h2 h4 hk
    obtain ⟨k, rfl⟩ : ∃ m, k = m + 2 := ⟨k - 2, by omega⟩
    have a1 : ¬ (i : Int) < (b.length : Int) := by omega
    have a2 : ¬ (i : Int) < ((8 * low.length : Nat) : Int) := by omega
    rw [spec_Makes.l1, if_neg a1, w8 _ h8, decide_eq_false a2, spec_Makes.j2]
    rfl
  | succ r ih =>
    intro i k h1 h2 h4 hk
    obtain ⟨k, rfl⟩ : ∃ m, k = m + 3 := ⟨k - 3, by omega⟩
    have hnext := ih (i + 1) k (by omega) (by omega) (by omega) (by omega)
    have hi : i ≤ 1000000 := by omega
    have hj2 := cmp_j2 b hb low hd X hbX hX ok k i hi hl hnext
    rw [spec_Makes.l1]
    by_cases a1 : (i : Int) < (b.length : Int)
    · rw [if_pos a1]
      exact hj2
    · rw [if_neg a1, w8 _ h8]
      by_cases a2 : (i : Int) < ((8 * low.length : Nat) : Int)
      · rw [decide_eq_true a2]
        exact hj2
      · rw [decide_eq_false a2, spec_Makes.j2]
        rfl
end

/-! ### The digits laid apart -/
theorem lv_set (B : Int) (l : List Int) (p : Nat) (x : Int) (hp : p < l.length) : lv B (l.set p x) = lv B l + B ^ p * (x - l.getD p 0) := by
  induction l generalizing p with
  | nil => simp at hp
  | cons y r ih =>
    cases p with
    | zero =>
      rw [List.set_cons_zero, List.getD_cons_zero]
      simp only [lv]
      rw [Int.pow_zero, Int.one_mul]
      omega
    | succ p =>
      rw [List.set_cons_succ, List.getD_cons_succ]
      simp only [lv]
      rw [ih p (by simpa using hp), Int.mul_add, Int.pow_succ, ← Int.mul_assoc, Int.mul_comm (B ^ p) B, Int.add_assoc]
theorem getD_set (l : List Int) (p j : Nat) (x : Int) : (l.set p x).getD j 0 = if j = p ∧ p < l.length then x else l.getD j 0 := by
  rw [List.getD_eq_getElem?_getD, List.getD_eq_getElem?_getD, List.getElem?_set]
  by_cases h : p = j
  · subst h
    by_cases h2 : p < l.length
    · simp [h2]
    · simp [h2]
  · have : ¬ (j = p ∧ p < l.length) := fun e => h e.1.symm
    rw [if_neg h, if_neg this]
theorem bd_zeros (n : Nat) : Bd (List.replicate n 0) := fun j => by
  have : (List.replicate n (0 : Int)).getD j 0 = 0 := by
    rw [List.getD_eq_getElem?_getD, List.getElem?_replicate]
    split <;> rfl
  rw [this]
  omega
/-- 'Makes' at digits that are the number. -/
theorem spread_rest (R : List Int) (s : Nat) (hs : 1 ≤ s) (hR : Bd R) (n : List Int) (X : Nat) (hN : R.length * s ≤ 800000) (F : List Int → Option Bool) (r0 : Bool)
    (hF : ∀ v : List Int, v.length = R.length * s + 1 → Bd v → lv 2 v = lv ((2 : Int) ^ s) R → F v = some r0) :
    ∀ (r i k : Nat) (v : List Int), i + r = R.length → r < k → v.length = R.length * s + 1 → Bd v → (∀ j, i * s ≤ j → v.getD j 0 = 0) → lv 2 v = lv ((2 : Int) ^ s) (R.take i) →
    (∀ k2 x7, k ≤ k2 + r + 1 → k2 + r + 1 ≤ k → spec_Makes.l0 (k2 + 1) R (s : Int) n x7 (R.length : Int) = F x7) → spec_Makes.l0 k R (s : Int) n v (i : Int) = some r0 := by
  intro r
  induction r with
  | zero =>
    intro i k v hi hk hvl hbd hz hv hend
    obtain ⟨k, rfl⟩ : ∃ m, k = m + 1 := ⟨k - 1, by omega⟩
    have hi2 : i = R.length := by omega
    subst hi2
    rw [hend k v (by omega) (by omega)]
    rw [List.take_length] at hv
    exact hF v hvl hbd hv
  | succ r ih =>
    intro i k v hi hk hvl hbd hz hv hend
    obtain ⟨k, rfl⟩ : ∃ m, k = m + 1 := ⟨k - 1, by omega⟩
    have hil : i < R.length := by omega
    have hRi := hR i
    have his : i * s + s ≤ R.length * s := by
      rw [← Nat.succ_mul]
      exact Nat.mul_le_mul_right s hil
    have m0 : i * s ≤ 2000000000 := by omega
    have m1 : i ≤ R.length * s := Nat.le_trans (by omega) (Nat.le_mul_of_pos_right R.length (by omega))
    have m2 : i ≤ 2000000000 := by omega
    have a1 : (i : Int) < (R.length : Int) := by omega
    have a2 : (0 : Int) ≤ (i : Int) := by omega
    have a3 : (0 : Int) ≤ ((i * s : Nat) : Int) := by omega
    have a4 : ((i * s : Nat) : Int) < (v.length : Int) := by rw [hvl]; omega
    have hzi := hz (i * s) (Nat.le_refl _)
    rw [spec_Makes.l0, if_pos a1, if_pos a2, rdn, w31 _ hRi.1 hRi.2, ws i m2, wmul i s m0, if_pos a3, if_pos a4, Int.toNat_natCast]
    refine ih (i + 1) k (v.set (i * s) (R.getD i 0)) (by omega) (by omega) (by rw [List.length_set]; exact hvl) ?_ ?_ ?_ (fun k2 x7 h1 h2 => hend k2 x7 (by omega) (by omega))
    · intro j
      rw [getD_set]
      split
      · exact hRi
      · exact hbd j
    · intro j hj
      rw [Nat.succ_mul] at hj
      rw [getD_set, if_neg (by omega)]
      exact hz j (by omega)
    · rw [lv_set _ _ _ _ (by omega), hzi, Int.sub_zero, hv, take_succ_getD R i hil, lv_snoc, List.length_take, Nat.min_eq_left (by omega), ← Int.pow_mul, Nat.mul_comm s i]

theorem turned_l0 (l : List Int) (hl : l.length ≤ 100000) : ∀ (i k : Nat) (acc : List Int), i ≤ l.length → acc.length + i ≤ 100000 → i < k →
    spec_Turned.l0 k l acc ((i : Int) - 1) = some (acc ++ (l.take i).reverse) := by
  intro i
  induction i with
  | zero =>
    intro k acc _ _ hk
    obtain ⟨k, rfl⟩ : ∃ m, k = m + 1 := ⟨k - 1, by omega⟩
    simp only [spec_Turned.l0]
    rw [if_neg (by omega)]
    simp
  | succ i ih =>
    intro k acc h1 h2 hk
    obtain ⟨k, rfl⟩ : ∃ m, k = m + 1 := ⟨k - 1, by omega⟩
    simp only [spec_Turned.l0]
    rw [show ((i + 1 : Nat) : Int) - 1 = (i : Int) from by omega, if_pos (by omega), if_pos (by omega), if_pos (by omega), if_pos (by omega), w64 (by omega) (by omega), show rd l (i : Int) = l.getD i 0 from by simp [rd]]
    rw [ih k _ (by omega) (by simp; omega) (by omega), take_succ_getD l i (by omega)]
    simp
theorem turned_eq (l : List Int) (hl : l.length ≤ 100000) (k : Nat) (hk : l.length < k) : spec_Turned.f k l = some l.reverse := by
  unfold spec_Turned.f
  rw [w64 (by omega) (by omega), turned_l0 l hl l.length _ [] (by omega) (by simpa using hl) (by omega)]
  simp
theorem makes_end (R : List Int) (s : Nat) (n : List Int) (hd : Dig 256 n) (hn : n.length ≤ 10000) (X : Nat) (hX : lv 256 n.reverse = (X : Int)) (k : Nat) (v : List Int) (hvl : v.length ≤ 800001) (hbd : Bd v) (hv : lv 2 v = (X : Int)) (hk : 4 * v.length + 40 * n.length + 1000 ≤ k) :
    ((spec_carried.f k v).bind fun bt145 => ((spec_Short.f k n).bind fun t149 => ((spec_Turned.f k t149).bind fun t152 => (spec_Makes.l1 k bt145.1 bt145.2 t152 0)))) = some true := by
  have hsl : (strip n).length ≤ n.length := (List.dropWhile_sublist _).length_le
  obtain ⟨o2, q1, q2, q3, q4⟩ := carried_eq v hbd (by omega) (X : Int) (by omega) hv k (by omega)
  have h1 := Sk.pshort_l0 n (by omega) k (by omega)
  have h2 := turned_eq (strip n) (by omega) k (by omega)
  have hsd : Dig 256 (strip n).reverse := (Bs.strip_dig hd).reverse
  have hsv : lv 256 (strip n).reverse = (X : Int) := by rw [Bs.strip_lv, hX]
  have hrl : (strip n).reverse.length ≤ 10000 := by rw [List.length_reverse]; omega
  have hrl2 : 8 * (strip n).reverse.length ≤ 8 * n.length := by rw [List.length_reverse]; omega
  have h1 : spec_Short.f k n = some (strip n) := h1
  have hc := cmp_rest o2 q2 (strip n).reverse hsd X q3 hsv true (by omega) (v.length + 70 + 8 * n.length) 0 k (by omega) (by omega) (by omega) (by omega)
  rw [q1, Option.bind_some, h1, Option.bind_some, h2, Option.bind_some]
  exact hc
/-- The reference's Makes answers true at digits that are the number. -/
theorem makes_eq (R : List Int) (s : Nat) (hs : 1 ≤ s) (hR : Bd R) (n : List Int) (hd : Dig 256 n) (hn : n.length ≤ 10000) (X : Nat) (hX : lv 256 n.reverse = (X : Int)) (hN : R.length * s ≤ 800000) (hv : lv ((2 : Int) ^ s) R = (X : Int)) (k : Nat)
    (hk : R.length + 4 * (R.length * s + 1) + 40 * n.length + 1010 ≤ k) : spec_Makes.f k R (s : Int) n = some true := by
  have m0 : R.length * s ≤ 2000000000 := by omega
  have m1 : (0 : Int) ≤ ((R.length * s + 1 : Nat) : Int) := by omega
  have m2 : R.length * s + 1 ≤ 35184372088832 := by omega
  have m3 : R.length ≤ R.length * s := Nat.le_mul_of_pos_right R.length (by omega)
  obtain ⟨k2, hk2⟩ : ∃ k2, k = k2 + 1 + R.length := ⟨k - 1 - R.length, by omega⟩
  unfold spec_Makes.f
  rw [wmul _ s m0, ws _ m0, if_pos m1, Int.toNat_natCast, if_pos m2]
  refine spread_rest R s hs hR n X hN (fun v => (spec_carried.f k2 v).bind fun bt145 => ((spec_Short.f k2 n).bind fun t149 => ((spec_Turned.f k2 t149).bind fun t152 => (spec_Makes.l1 k2 bt145.1 bt145.2 t152 0)))) true ?_ R.length 0 k _ (by omega) (by omega) (by simp) (bd_zeros _) ?_ ?_ ?_
  · intro v h1 h2 h3
    exact makes_end R s n hd hn X hX k2 v (by omega) h2 (by rw [h3, hv]) (by omega)
  · intro j _
    rw [List.getD_eq_getElem?_getD, List.getElem?_replicate]
    split <;> rfl
  · rw [lv_zeros]
    rfl
  · intro k3 x7 h1 h2
    have e : k3 = k2 := by omega
    subst e
    have a1 : ¬ (R.length : Int) < (R.length : Int) := by omega
    rw [spec_Makes.l0, if_neg a1]
theorem makes_call (A : Option Addr) (c : Nat) (R : List Int) (s : Nat) (A1 : Option Addr) (c1 : Nat) (n : List Int) (w : World) (hr : Kd.C (Kd.int .i32) w A R.length R) (hc : R.length ≤ c) (hr1 : Kd.C (Kd.int .u8) w A1 n.length n) (hc1 : n.length ≤ c1)
    (hs : 1 ≤ s) (hR : Bd R) (hd : Dig 256 n) (hn : n.length ≤ 10000) (X : Nat) (hX : lv 256 n.reverse = (X : Int)) (hN : R.length * s ≤ 800000) (hv : lv ((2 : Int) ^ s) R = (X : Int)) :
    Calls Try.prog 27 #[.slice A R.length c, .int .i64 (s : Int), .slice A1 n.length c1] w fun e w' => e = .returned (.bool true) ∧ Below w.heap.size w w' :=
  spec_Makes.calls _ A c R (s : Int) A1 c1 n true w hr hc hr1 hc1 (makes_eq R s hs hR n hd hn X hX hN hv _ (Nat.le_refl _))
end Go.Proofs.Ythckboojmljeiaa.Mk
namespace Go.Proofs.Ythckboojmljeiaa.Ks
set_option linter.unusedVariables false
set_option linter.unusedSimpArgs false
open Go.RowKit Go.Proofs.YthckboojmljeiaaW.PrintWords Go.Proofs.YthckboojmljeiaaW.PrintLast Go.Proofs.YthckboojmljeiaaW.PrintMore Go.Proofs.Ythckboojmljeiaa.Pl Go.Proofs.Ythckboojmljeiaa.Dg Go.Proofs.Ythckboojmljeiaa.Mem Go.Proofs.Ythckboojmljeiaa.Na Go.Proofs.Ythckboojmljeiaa.Nb Go.Proofs.Ythckboojmljeiaa.Be Go.Proofs.Ythckboojmljeiaa.Ow Go.Proofs.Ythckboojmljeiaa.Nu Go.Proofs.Ythckboojmljeiaa.In Go.Proofs.Ythckboojmljeiaa.Bl Go.Proofs.Ythckboojmljeiaa.Bs Go.Proofs.Ythckboojmljeiaa.Sk Go.Proofs.Ythckboojmljeiaa.Kp Go.Proofs.Ythckboojmljeiaa.Kw Go.Proofs.Ythckboojmljeiaa.Kl Go.Proofs.Ythckboojmljeiaa.Mk

theorem sd_sum (s X : Nat) (i : Nat) : lv ((2 : Int) ^ s) ((List.range i).map (fun i => sdV s (sdK s X i))) + ((2 : Int) ^ s) ^ i * (sdK s X i : Int) = (X : Int) := by
  induction i with
  | zero => simp [lv, sdK]
  | succ i ih =>
    have h := sdV_sub s (sdK s X i)
    have e1 : ((2 ^ (s + 1) * (sdK s X i / 2 ^ (s + 1)) + 2 ^ s : Nat) : Int) = (2 : Int) ^ s * (sdK s X (i + 1) : Int) := by
      rw [pow_cast2]
      have : 2 ^ (s + 1) * (sdK s X i / 2 ^ (s + 1)) + 2 ^ s = 2 ^ s * sdK s X (i + 1) := by
        simp only [sdK]
        rw [Nat.mul_add, Nat.mul_one, ← Nat.mul_assoc, ← Nat.pow_succ]
      rw [this]
      push_cast
      rfl
    rw [e1] at h
    rw [List.range_succ, List.map_append, List.map_cons, List.map_nil, lv_snoc, List.length_map, List.length_range, ← ih, Int.pow_succ]
    obtain ⟨K, hK⟩ : ∃ K : Int, (sdK s X i : Int) = K := ⟨_, rfl⟩
    obtain ⟨P, hP⟩ : ∃ K : Int, (2 : Int) ^ s = K := ⟨_, rfl⟩
    rw [hK, hP] at h
    rw [hK, hP, Int.mul_assoc, ← h, Int.add_assoc, ← Int.mul_add]
    congr 2
    omega
theorem sdL_sum (s X m : Nat) (h : sdK s X m = 1) : lv ((2 : Int) ^ s) (sdL s X m) = (X : Int) := by
  have := sd_sum s X m
  rw [h] at this
  unfold sdL
  rw [lv_snoc, List.length_map, List.length_range]
  exact this
theorem sdL_in (s X m : Nat) (hs1 : 1 ≤ s) (ho : X % 2 = 1) (j : Nat) (hj : j < m + 1) : (sdL s X m).getD j 0 % 2 = 1 ∧ -((2 ^ s : Nat) : Int) < (sdL s X m).getD j 0 ∧ (sdL s X m).getD j 0 < ((2 ^ s : Nat) : Int) := by
  have h2 : 2 ≤ 2 ^ s := by
    have : 2 ^ 1 ≤ 2 ^ s := Nat.pow_le_pow_right (by omega) hs1
    omega
  have he : (2 ^ s : Nat) % 2 = 0 := by
    rw [show s = (s - 1) + 1 from by omega, Nat.pow_succ]
    exact Nat.mul_mod_left _ _
  by_cases h : j < m
  · rw [sdL_get s X m j h]
    have h1 := sdV_odd s (sdK s X j) hs1 (sdK_odd s X ho j)
    obtain ⟨h3, h4⟩ := sdV_range s (sdK s X j)
    refine ⟨h1, ?_, h4⟩
    obtain ⟨y, hy⟩ : ∃ y, sdV s (sdK s X j) = y := ⟨_, rfl⟩
    obtain ⟨Q, hQ⟩ : ∃ y, 2 ^ s = y := ⟨_, rfl⟩
    rw [hy] at h1 h3 ⊢
    rw [hQ] at h3 he ⊢
    omega
  · have e : j = m := by omega
    subst e
    rw [sdL_last]
    refine ⟨rfl, ?_, ?_⟩ <;> omega
theorem sdL_bd (s X m : Nat) (hs1 : 1 ≤ s) (hs2 : s ≤ 30) (ho : X % 2 = 1) : Bd (sdL s X m) := by
  intro j
  by_cases h : j < m + 1
  · obtain ⟨_, h1, h2⟩ := sdL_in s X m hs1 ho j h
    obtain ⟨_, h3, _, _⟩ := pow_bounds s hs1 hs2
    obtain ⟨y, hy⟩ : ∃ y, (sdL s X m).getD j 0 = y := ⟨_, rfl⟩
    obtain ⟨Q, hQ⟩ : ∃ y, 2 ^ s = y := ⟨_, rfl⟩
    rw [hy] at h1 h2 ⊢
    rw [hQ] at h1 h2 h3
    omega
  · rw [getD_out _ _ (by rw [sdL_length]; omega)]
    omega

/-! ### OddWithin -/
theorem tmod_odd (d : Int) (h : d % 2 = 1) : ¬ Int.tmod d 2 = 0 := by
  intro h0
  have := bit2 d
  rw [h0, h] at this
  simp at this
theorem shl_one (s : Nat) (hs2 : s ≤ 30) : shl .i64 1 (s : Int) = ((2 ^ s : Nat) : Int) := by
  have h : 2 ^ s ≤ 2 ^ 30 := Nat.pow_le_pow_right (by omega) hs2
  have h2 : s ≤ 64 := by omega
  unfold shl
  rw [Int.toNat_natCast, show IntKind.i64.bits = 64 from rfl, Nat.min_eq_left h2, Int.one_mul, pow_cast2]
  obtain ⟨Q, hQ⟩ : ∃ y, 2 ^ s = y := ⟨_, rfl⟩
  rw [hQ] at h ⊢
  exact IntWalk.i64_in _ (by omega)
theorem win_less (s : Nat) (hs2 : s ≤ 30) : IntKind.u64.wrap (wrap64 ((s : Int) + 1 - 1)) = (s : Int) := by
  rw [show (s : Int) + 1 - 1 = (s : Int) from by omega, wn s (by omega), un s (by omega)]
theorem odd_l0 (R : List Int) (s : Nat) (hs2 : s ≤ 30) (hRl : R.length ≤ 1000000) (hR : ∀ j, j < R.length → R.getD j 0 % 2 = 1 ∧ -((2 ^ s : Nat) : Int) < R.getD j 0 ∧ R.getD j 0 < ((2 ^ s : Nat) : Int)) :
    ∀ (r i k : Nat), i + r = R.length → r < k → PFnSigned.spec_OddWithin.l0 k R ((s : Int) + 1) (i : Int) = some true := by
  have hq : 2 ^ s ≤ 2 ^ 30 := Nat.pow_le_pow_right (by omega) hs2
  intro r
  induction r with
  | zero =>
    intro i k hi hk
    obtain ⟨k, rfl⟩ : ∃ m, k = m + 1 := ⟨k - 1, by omega⟩
    have a1 : ¬ (i : Int) < (R.length : Int) := by omega
    rw [PFnSigned.spec_OddWithin.l0, if_neg a1]
  | succ r ih =>
    intro i k hi hk
    obtain ⟨k, rfl⟩ : ∃ m, k = m + 1 := ⟨k - 1, by omega⟩
    have hil : i < R.length := by omega
    have hnext := ih (i + 1) k (by omega) (by omega)
    obtain ⟨h1, h2, h3⟩ := hR i hil
    have a1 : (i : Int) < (R.length : Int) := by omega
    have a2 : (0 : Int) ≤ (i : Int) := by omega
    have a3 : (0 : Int) ≤ (s : Int) := by omega
    have a4 : i ≤ 2000000000 := by omega
    rw [PFnSigned.spec_OddWithin.l0, if_pos a1, if_pos a2, rdn, win_less s hs2, if_pos a3, shl_one s hs2, ws i a4]
    obtain ⟨d, hd⟩ : ∃ y, R.getD i 0 = y := ⟨_, rfl⟩
    obtain ⟨Q, hQ⟩ : ∃ y, 2 ^ s = y := ⟨_, rfl⟩
    rw [hd] at h1 h2 h3 ⊢
    rw [hQ] at h2 h3 hq ⊢
    have b1 : -2147483648 ≤ d := by omega
    have b2 : d ≤ 2147483648 := by omega
    have b3 : -2147483648 ≤ -d := by omega
    have b4 : -d ≤ 2147483648 := by omega
    have b5 : ¬ d ≥ (Q : Int) := by omega
    have b6 : ¬ -d ≥ (Q : Int) := by omega
    rw [w31 d b1 b2, w31 (-d) b3 b4, if_neg (tmod_odd d h1), if_neg b5, if_neg b6]
    exact hnext
theorem odd_within (A : Option Addr) (c : Nat) (R : List Int) (s : Nat) (w : World) (hr : Kd.C (Kd.int .i32) w A R.length R) (hc : R.length ≤ c) (hs2 : s ≤ 30) (hRl : R.length ≤ 1000000) (hR : ∀ j, j < R.length → R.getD j 0 % 2 = 1 ∧ -((2 ^ s : Nat) : Int) < R.getD j 0 ∧ R.getD j 0 < ((2 ^ s : Nat) : Int)) :
    Calls Try.prog 32 #[.slice A R.length c, .int .i64 ((s : Int) + 1)] w fun e w' => e = .returned (.bool true) ∧ Below w.heap.size w w' := by
  refine (PFnSigned.spec_OddWithin.calls (R.length + 1) A c R ((s : Int) + 1) true w hr hc (odd_l0 R s hs2 hRl hR R.length 0 _ (by omega) (by omega))).mono ?_
  rintro e w' ⟨rfl, hd⟩
  exact ⟨rfl, hd.below⟩

/-! ### The law -/
theorem digits_le (L s : Nat) (hs : 1 ≤ s) : (L + s - 1) / s ≤ L ∧ (L + s - 1) / s * s ≤ L + s ∧ L ≤ (L + s - 1) / s * s := by
  have h1 := Nat.div_add_mod (L + s - 1) s
  have h2 := Nat.mod_lt (L + s - 1) (show 0 < s by omega)
  rw [Nat.mul_comm] at h1
  refine ⟨?_, by omega, by omega⟩
  by_cases h0 : L = 0
  · subst h0
    rw [Nat.div_eq_of_lt (by omega)]
    omega
  · have h3 : L + s - 1 ≤ L * s := by
      obtain ⟨a, rfl⟩ : ∃ a, L = a + 1 := ⟨L - 1, by omega⟩
      rw [Nat.succ_mul]
      have := Nat.le_mul_of_pos_right a (show 0 < s by omega)
      omega
    exact Nat.le_of_mul_le_mul_right (Nat.le_trans (by omega) h3) (show 0 < s by omega)

set_option maxHeartbeats 1000000 in
set_option maxRecDepth 100000 in
theorem law (A : Option Addr) (c : Nat) (n : List Int) (win len : Int) (w : World) (hr : Kd.C (Kd.int .u8) w A n.length n) (hc : n.length ≤ c) (hd : Dig 256 n) :
    Calls Try.prog 10 #[.slice A n.length c, .int .i64 win, .int .i64 len] w fun e w' => e = .returned (.bool true) ∧ Below w.heap.size w w' := by
  have hlv := (lv_range (B := 256) (by omega) hd.reverse).1
  obtain ⟨X, hX⟩ := Int.eq_ofNat_of_zero_le hlv
  have HR := Lib.hid hr
  have HC := Lib.hid hc
  have HD := Lib.hid hd
  have HX := Lib.hid hX
  clear hr hc hd hX hlv
  go_enter Try.func10, Try.ntmps10
  by_cases h0 : (2147483647 : Int) < (n.length : Int)
  · go_wp2
    go_ret
    exact ⟨rfl, Below.refl _ _⟩
  by_cases h1 : (512 : Int) < (n.length : Int)
  · go_wp2
    go_ret
    exact ⟨rfl, Below.refl _ _⟩
  have hod := odd_call A c n w HR.out HC.out (by omega) HD.out X HX.out
  by_cases ho : X % 2 = 1
  · rw [decide_eq_true ho] at hod
    have HOd := Lib.hid hod
    have HOX := Lib.hid ho
    have hnl : n.length ≤ 512 := by omega
    have hnl2 : (n.length : Int) ≤ 512 := by omega
    clear hod ho h0 h1
    by_cases h2 : win < 2
    · go_wp2_with fail
      refine HOd.out.mono ?_
      rintro e w1 ⟨rfl, hb⟩
      have HB := Lib.hid hb
      clear hb
      go_wp2
      go_ret
      exact ⟨rfl, HB.out⟩
    by_cases h3 : 31 < win
    · go_wp2_with fail
      refine HOd.out.mono ?_
      rintro e w1 ⟨rfl, hb⟩
      have HB := Lib.hid hb
      clear hb
      go_wp2
      go_ret
      exact ⟨rfl, HB.out⟩
    have HBits := Lib.hid (fun (w1 : World) (hb : Below w.heap.size w w1) => bits_call A c n w1 (Kd.C_below HR.out hb) HC.out HD.out (by omega) X HX.out)
    obtain ⟨b, hb⟩ : ∃ b, bln X = b := ⟨_, rfl⟩
    rw [hb] at HBits
    have HBb := Lib.hid hb
    clear hb
    by_cases h4 : len < (b : Int)
    · go_wp2_with fail
      refine HOd.out.mono ?_
      rintro e w1 ⟨rfl, hb⟩
      have HB := Lib.hid hb
      have HBs := Lib.hid (HBits.out w1 hb)
      clear hb
      go_wp2_with fail
      refine HBs.out.mono ?_
      rintro e w2 ⟨rfl, hb⟩
      have HB2 := Lib.hid (below_then HB.out HB.out.size hb)
      clear hb
      go_wp2
      go_ret
      exact ⟨rfl, HB2.out⟩
    by_cases h5 : 8192 < len
    · go_wp2_with fail
      refine HOd.out.mono ?_
      rintro e w1 ⟨rfl, hb⟩
      have HB := Lib.hid hb
      have HBs := Lib.hid (HBits.out w1 hb)
      clear hb
      go_wp2_with fail
      refine HBs.out.mono ?_
      rintro e w2 ⟨rfl, hb⟩
      have HB2 := Lib.hid (below_then HB.out HB.out.size hb)
      clear hb
      go_wp2
      go_ret
      exact ⟨rfl, HB2.out⟩
    obtain ⟨s, rfl⟩ : ∃ s : Nat, win = (s : Int) + 1 := ⟨(win - 1).toNat, by omega⟩
    obtain ⟨L, rfl⟩ : ∃ L : Nat, len = (L : Int) := ⟨len.toNat, by omega⟩
    have hs1 : 1 ≤ s := by omega
    have hs2 : s ≤ 30 := by omega
    have HSg := Lib.hid (fun (w1 : World) (hb : Below w.heap.size w w1) => impl_signed A c n s L ((L + s - 1) / s) w1 (Kd.C_below HR.out hb) HC.out (by omega) HD.out X HX.out HOX.out (by omega) (by omega) (by rw [HBb.out]; omega) (by omega) rfl)
    obtain ⟨d1, d2, d3⟩ := digits_le L s hs1
    obtain ⟨m, hm⟩ : ∃ m, (L + s - 1) / s = m := ⟨_, rfl⟩
    rw [hm] at HSg d1 d2 d3
    have hXpos : 0 < X := by have := HOX.out; omega
    have hend : sdK s X m = 1 := sdK_end s X L m hs1 HOX.out (bln_le.1 (by rw [HBb.out]; omega)) (by have := bln_pos hXpos; have := HBb.out; omega) d3
    have hmul : (sdL s X m).length * s ≤ 800000 := by
      rw [sdL_length, Nat.succ_mul]
      omega
    have HMul := Lib.hid hmul
    have HSum := Lib.hid (sdL_sum s X m hend)
    have HBd := Lib.hid (sdL_bd s X m hs1 hs2 HOX.out)
    have HIn := Lib.hid (fun (j : Nat) (hj : j < (sdL s X m).length) => sdL_in s X m hs1 HOX.out j (by rw [sdL_length] at hj; exact hj))
    have HLen := Lib.hid (show (sdL s X m).length ≤ 1000000 by rw [sdL_length]; omega)
    obtain ⟨R, hR⟩ : ∃ R, sdL s X m = R := ⟨_, rfl⟩
    rw [hR] at HSg HMul HSum HBd HIn HLen
    have g1 : ¬ (L : Int) < (b : Int) := h4
    clear hm hR hend hmul d1 d2 d3
    go_wp2_with fail
    refine HOd.out.mono ?_
    rintro e w1 ⟨rfl, hb⟩
    have HB := Lib.hid hb
    have HBs := Lib.hid (HBits.out w1 hb)
    clear hb
    go_wp2_with fail
    refine HBs.out.mono ?_
    rintro e w2 ⟨rfl, hb⟩
    have HB2 := Lib.hid (below_then HB.out HB.out.size hb)
    have HS1 := Lib.hid (HSg.out w2 HB2.out)
    clear hb
    go_wp2_with fail
    refine HS1.out.mono ?_
    rintro e w3 ⟨A2, c2, rfl, q1, q2, q3⟩
    have HB3 := Lib.hid (below_then HB2.out HB2.out.size q3)
    have HOw := Lib.hid (odd_within A2 c2 R s w3 q2 q1 hs2 HLen.out HIn.out)
    have HQ1 := Lib.hid q1
    have HQ2 := Lib.hid q2
    clear q1 q2 q3 HS1
    go_wp2_with fail
    refine HOw.out.mono ?_
    rintro e w4 ⟨rfl, hb⟩
    have HB4 := Lib.hid (below_then HB3.out HB3.out.size hb)
    have HMk := Lib.hid (makes_call A2 c2 R s A c n w4 (Kd.C_below HQ2.out hb) HQ1.out (Kd.C_below HR.out HB4.out) HC.out hs1 HBd.out HD.out (by omega) X HX.out HMul.out HSum.out)
    clear hb HOw
    go_wp2_with fail
    refine HMk.out.mono ?_
    rintro e w5 ⟨rfl, hb⟩
    have HB5 := Lib.hid (below_then HB4.out HB4.out.size hb)
    clear hb HMk
    go_wp2
    go_ret
    exact ⟨rfl, HB5.out⟩
  · rw [decide_eq_false ho] at hod
    have HOd := Lib.hid hod
    clear hod ho
    go_wp2_with fail
    refine HOd.out.mono ?_
    rintro e w1 ⟨rfl, hb⟩
    have HB := Lib.hid hb
    clear hb
    go_wp2
    go_ret
    exact ⟨rfl, HB.out⟩
end Go.Proofs.Ythckboojmljeiaa.Ks
