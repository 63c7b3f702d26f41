/- Plain: the digits of a number to the base 2^64, the lowest first, none ahead. -/
import Derived.Test.YthckboojmljeiaaPl
namespace Go.Proofs.Ythckboojmljeiaa.Dg
set_option linter.unusedVariables false
set_option linter.unusedSimpArgs false
open Go.RowKit Go.Proofs.Ythckboojmljeiaa.Pl

/-- The base. -/
def BB : Nat := 18446744073709551616
theorem BB_eq : BB = 18446744073709551616 := rfl
theorem BB_pow : BB = 2 ^ 64 := rfl
theorem BB_pos : 0 < BB := by decide
abbrev DW (l : List Int) : Prop := Dig (BB : Int) l

/-- The digits of a number. -/
def dg (n : Nat) : List Int := if h : n = 0 then [] else ((n % BB : Nat) : Int) :: dg (n / BB)
termination_by n
decreasing_by exact Nat.div_lt_self (Nat.pos_of_ne_zero h) (by decide)
theorem dg_zero : dg 0 = [] := by rw [dg]; rfl
theorem dg_pos {n : Nat} (h : 0 < n) : dg n = ((n % BB : Nat) : Int) :: dg (n / BB) := by rw [dg, dif_neg (by omega)]

theorem dg_induct {P : Nat → Prop} (h0 : P 0) (h1 : ∀ n, 0 < n → P (n / BB) → P n) (n : Nat) : P n := by
  induction n using Nat.strongRecOn with
  | _ n ih =>
    by_cases h : n = 0
    · subst h; exact h0
    · exact h1 n (by omega) (ih _ (Nat.div_lt_self (by omega) (by decide)))

theorem lv_dg (n : Nat) : lv (BB : Int) (dg n) = (n : Int) := by
  induction n using dg_induct with
  | h0 => rw [dg_zero]; rfl
  | h1 n h ih =>
    rw [dg_pos h]
    simp only [lv, ih]
    have := Nat.mod_add_div n BB
    exact_mod_cast this
theorem dg_dig (n : Nat) : DW (dg n) := by
  induction n using dg_induct with
  | h0 => rw [dg_zero]; exact Dig.nil _
  | h1 n h ih =>
    rw [dg_pos h]
    exact Dig.mk (by omega) (by have := Nat.mod_lt n BB_pos; exact_mod_cast this) ih
theorem dg_nil {n : Nat} : dg n = [] ↔ n = 0 := by
  constructor
  · intro h
    by_cases h0 : n = 0
    · exact h0
    · rw [dg_pos (by omega)] at h
      cases h
  · rintro rfl
    exact dg_zero
theorem dg_len_zero {n : Nat} : (dg n).length = 0 ↔ n = 0 := by rw [List.length_eq_zero_iff]; exact dg_nil
theorem dg_len_pos {n : Nat} (h : 0 < n) : 0 < (dg n).length := by
  rw [dg_pos h]; simp

/-- Digits without noughts ahead are the digits of their number. -/
def Nm (l : List Int) : Prop := l = [] ∨ l.getD (l.length - 1) 0 ≠ 0
theorem Nm.tail {x : Int} {l : List Int} (h : Nm (x :: l)) : Nm l := by
  rcases h with h | h
  · cases h
  · cases l with
    | nil => exact .inl rfl
    | cons y r => exact .inr (by simpa using h)
theorem lv_pos_of_nm {l : List Int} (hd : DW l) (hn : Nm l) (hl : l ≠ []) : 0 < lv (BB : Int) l := by
  induction l with
  | nil => exact absurd rfl hl
  | cons x r ih =>
    obtain ⟨⟨h0, _⟩, h2⟩ := hd.cons
    simp only [lv]
    cases r with
    | nil =>
      rcases hn with h | h
      · cases h
      · simp at h
        simp only [lv]
        omega
    | cons y r =>
      have h3 := ih h2 hn.tail (by simp)
      have h4 : 0 < (BB : Int) * lv (BB : Int) (y :: r) := Int.mul_pos (by decide) h3
      omega
theorem dg_of {l : List Int} (hd : DW l) (hn : Nm l) : dg (lv (BB : Int) l).toNat = l := by
  induction l with
  | nil => exact dg_zero
  | cons x r ih =>
    obtain ⟨⟨h0, h1⟩, h2⟩ := hd.cons
    have hr := lv_range (B := (BB : Int)) (by decide) h2
    have ih' := ih h2 hn.tail
    have hp := lv_pos_of_nm hd hn (by simp)
    rw [dg_pos (by omega)]
    obtain ⟨a, rfl⟩ := Int.eq_ofNat_of_zero_le h0
    obtain ⟨b, hb⟩ := Int.eq_ofNat_of_zero_le hr.1
    rw [hb] at ih'
    have ha : a < BB := by exact_mod_cast h1
    have e : (lv (BB : Int) ((a : Int) :: r)).toNat = a + BB * b := by
      simp only [lv, hb]
      exact_mod_cast rfl
    rw [e, Nat.add_mul_mod_self_left, Nat.mod_eq_of_lt ha, Nat.add_mul_div_left _ _ BB_pos, Nat.div_eq_of_lt ha, Nat.zero_add]
    simpa using ih'
theorem dg_nm (n : Nat) : Nm (dg n) := by
  induction n using dg_induct with
  | h0 => rw [dg_zero]; exact .inl rfl
  | h1 n h ih =>
    rw [dg_pos h]
    right
    by_cases h0 : n / BB = 0
    · rw [h0, dg_zero]
      have := Nat.mod_add_div n BB
      rw [h0] at this
      simp
      omega
    · rcases ih with h1 | h1
      · exact absurd (dg_nil.1 h1) h0
      · have hl := dg_len_pos (n := n / BB) (Nat.pos_of_ne_zero h0)
        simp only [List.length_cons, Nat.add_sub_cancel]
        obtain ⟨m, hm⟩ : ∃ m, (dg (n / BB)).length = m + 1 := ⟨_, (Nat.succ_pred_eq_of_pos hl).symm⟩
        rw [hm] at h1 ⊢
        simpa using h1

theorem lv_take_zeros (B : Int) (l : List Int) (i : Nat) (hz : ∀ j, i ≤ j → l.getD j 0 = 0) : lv B l = lv B (l.take i) := by
  induction l generalizing i with
  | nil => simp
  | cons x r ih =>
    cases i with
    | zero =>
      have h0 : x = 0 := hz 0 (by omega)
      have := ih 0 (fun j _ => by have := hz (j + 1) (by omega); simpa using this)
      simp only [List.take_zero, lv] at this ⊢
      rw [this, h0]
      omega
    | succ i =>
      have := ih i (fun j hj => by have := hz (j + 1) (by omega); simpa using this)
      simp only [List.take_succ_cons, lv]
      rw [this]
/-- What 'norm' leaves. -/
theorem take_norm {l : List Int} (hd : DW l) (i : Nat) (hi : i ≤ l.length) (hz : ∀ j, i ≤ j → l.getD j 0 = 0) (hn : i = 0 ∨ l.getD (i - 1) 0 ≠ 0) : l.take i = dg (lv (BB : Int) l).toNat := by
  rw [lv_take_zeros _ l i hz]
  refine (dg_of (hd.take i) ?_).symm
  by_cases h0 : i = 0
  · subst h0; exact .inl rfl
  · right
    have hl : (l.take i).length = i := by rw [List.length_take]; omega
    rw [hl]
    rcases hn with h | h
    · exact absurd h h0
    · rw [List.getD_eq_getElem?_getD, List.getElem?_take, if_pos (by omega), ← List.getD_eq_getElem?_getD]
      exact h

theorem pow_cast (k : Nat) : ((BB : Int)) ^ k = ((BB ^ k : Nat) : Int) := by simp
theorem dg_lt (n : Nat) : n < BB ^ (dg n).length := by
  have h := (lv_range (B := (BB : Int)) (by decide) (dg_dig n)).2
  rw [lv_dg, pow_cast] at h
  exact_mod_cast h
theorem dg_len_le {n k : Nat} (h : n < BB ^ k) : (dg n).length ≤ k := by
  induction k generalizing n with
  | zero =>
    simp at h
    subst h
    rw [dg_zero]
    exact Nat.le_refl _
  | succ k ih =>
    by_cases h0 : n = 0
    · subst h0; rw [dg_zero]; exact Nat.zero_le _
    · rw [dg_pos (by omega), List.length_cons]
      have := ih (n := n / BB) (by rw [Nat.div_lt_iff_lt_mul BB_pos, ← Nat.pow_succ]; exact h)
      omega
theorem dg_len_mono {m n : Nat} (h : m ≤ n) : (dg m).length ≤ (dg n).length := dg_len_le (Nat.lt_of_le_of_lt h (dg_lt n))
theorem dg_ge {n : Nat} (h : 0 < n) : BB ^ ((dg n).length - 1) ≤ n := by
  by_cases h1 : BB ^ ((dg n).length - 1) ≤ n
  · exact h1
  · have := dg_len_le (n := n) (k := (dg n).length - 1) (by omega)
    have := dg_len_pos h
    omega
theorem dg_head {n : Nat} (h : 0 < n) : (dg n).getD 0 0 = ((n % BB : Nat) : Int) := by rw [dg_pos h]; rfl
theorem dg_one {n : Nat} (h : 0 < n) (h1 : n < BB) : dg n = [(n : Int)] := by
  rw [dg_pos h, Nat.div_eq_of_lt h1, dg_zero, Nat.mod_eq_of_lt h1]
end Go.Proofs.Ythckboojmljeiaa.Dg
