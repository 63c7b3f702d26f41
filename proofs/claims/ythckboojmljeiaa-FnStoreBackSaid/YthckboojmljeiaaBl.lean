/- Plain: how many bits a number has. -/
import Derived.Test.YthckboojmljeiaaDg
import Derived.Lib.BitFns
namespace Go.Proofs.Ythckboojmljeiaa.Bl
set_option linter.unusedVariables false
set_option linter.unusedSimpArgs false
open Go.RowKit Go.Proofs.Ythckboojmljeiaa.Pl Go.Proofs.Ythckboojmljeiaa.Dg

/-- How many bits a number has. -/
def bln (n : Nat) : Nat := if n = 0 then 0 else n.log2 + 1
theorem bln_zero : bln 0 = 0 := rfl
theorem bln_le {n k : Nat} : bln n ≤ k ↔ n < 2 ^ k := by
  unfold bln
  by_cases h : n = 0
  · subst h
    rw [if_pos rfl]
    exact ⟨fun _ => Nat.two_pow_pos k, fun _ => Nat.zero_le _⟩
  · rw [if_neg h, ← Nat.log2_lt h]
    exact ⟨fun h => by omega, fun h => by omega⟩
theorem bln_lt (n : Nat) : n < 2 ^ bln n := bln_le.1 (Nat.le_refl _)
theorem bln_unique {n k : Nat} (h1 : n < 2 ^ k) (h2 : ∀ j, n < 2 ^ j → k ≤ j) : k = bln n := Nat.le_antisymm (h2 _ (bln_lt n)) (bln_le.2 h1)
theorem bln_unique' {n k : Nat} (h0 : 0 < k) (h1 : n < 2 ^ k) (h2 : 2 ^ (k - 1) ≤ n) : k = bln n := by
  refine bln_unique h1 fun j hj => ?_
  by_cases h : k ≤ j
  · exact h
  · have : 2 ^ j ≤ 2 ^ (k - 1) := Nat.pow_le_pow_right (by decide) (by omega)
    omega
theorem bln_pos {n : Nat} (h : 0 < n) : 0 < bln n := by
  unfold bln; rw [if_neg (by omega)]; omega
theorem bln_ge {n : Nat} (h : 0 < n) : 2 ^ (bln n - 1) ≤ n := by
  by_cases h1 : n < 2 ^ (bln n - 1)
  · have := bln_le.2 h1
    have := bln_pos h
    omega
  · omega
theorem bln_mono {m n : Nat} (h : m ≤ n) : bln m ≤ bln n := bln_le.2 (Nat.lt_of_le_of_lt h (bln_lt n))

theorem aux_spec : ∀ (f x : Nat), x < 2 ^ f → x < 2 ^ Lib.bitLenAux f x ∧ (0 < x → 0 < Lib.bitLenAux f x ∧ 2 ^ (Lib.bitLenAux f x - 1) ≤ x)
  | 0, x, h => by
    simp at h
    subst h
    exact ⟨by simp [Lib.bitLenAux], fun h => absurd h (by omega)⟩
  | f + 1, x, h => by
    by_cases h0 : x = 0
    · subst h0
      exact ⟨by simp [Lib.bitLenAux], fun h => absurd h (by omega)⟩
    · have ih := aux_spec f (x / 2) (by rw [Nat.pow_succ] at h; omega)
      have e : Lib.bitLenAux (f + 1) x = 1 + Lib.bitLenAux f (x / 2) := by simp [Lib.bitLenAux, h0]
      rw [e]
      refine ⟨?_, fun _ => ⟨by omega, ?_⟩⟩
      · rw [Nat.add_comm, Nat.pow_succ]; omega
      · by_cases h1 : x / 2 = 0
        · have h2 : x = 1 := by omega
          subst h2
          have : Lib.bitLenAux f (1 / 2) = 0 := by cases f <;> simp [Lib.bitLenAux]
          rw [this]
          decide
        · obtain ⟨i1, i2⟩ := ih.2 (by omega)
          obtain ⟨m, hm⟩ : ∃ m, Lib.bitLenAux f (x / 2) = m + 1 := ⟨_, (Nat.succ_pred_eq_of_pos i1).symm⟩
          rw [hm] at i2 ⊢
          rw [show 1 + (m + 1) - 1 = m + 1 from by omega, Nat.pow_succ]
          simp at i2
          omega
theorem bitLen_eq (x : Nat) (h : x < 2 ^ 64) : Lib.bitLen x = bln x := by
  have := aux_spec 64 x h
  by_cases h0 : x = 0
  · subst h0; rfl
  · obtain ⟨h1, h2⟩ := this.2 (by omega)
    exact bln_unique' h1 this.1 h2

/-- Laid over by itself moved down, a number keeps its length. -/
theorem or_up (x : Int) (d : Nat) (h0 : 0 ≤ x) (h1 : x < (BB : Int)) : ∃ t : Int, Go.bits .or .u64 x (x / ((2 ^ d : Nat) : Int)) = t ∧ 0 ≤ t ∧ t < (BB : Int) ∧ bln t.toNat = bln x.toNat := by
  obtain ⟨n, rfl⟩ := Int.eq_ofNat_of_zero_le h0
  have hn : n < 2 ^ 64 := by have : n < BB := by exact_mod_cast h1
                             exact this
  have hq : n / 2 ^ d ≤ n := Nat.div_le_self _ _
  have e : ((n : Int) / ((2 ^ d : Nat) : Int)) = ((n / 2 ^ d : Nat) : Int) := by simp
  refine ⟨_, rfl, ?_⟩
  rw [e, (bits_nat .u64 64 (by decide) wraps_u64 n (n / 2 ^ d) hn (by omega)).2]
  have hl : n ||| n / 2 ^ d < 2 ^ 64 := Nat.or_lt_two_pow hn (by omega)
  refine ⟨Int.natCast_nonneg _, ?_, ?_⟩
  · have : n ||| n / 2 ^ d < BB := hl
    exact_mod_cast this
  · simp only [Int.toNat_natCast]
    refine Nat.le_antisymm (bln_le.2 (Nat.or_lt_two_pow (bln_lt n) (Nat.lt_of_le_of_lt hq (bln_lt n)))) (bln_mono Nat.left_le_or)
theorem or_up2 (x : Int) (d d' : Nat) (h0 : 0 ≤ x) (h1 : x < (BB : Int)) : ∃ t : Int, Go.bits .or .u64 x (x / ((2 ^ d : Nat) : Int) / ((2 ^ d' : Nat) : Int)) = t ∧ 0 ≤ t ∧ t < (BB : Int) ∧ bln t.toNat = bln x.toNat := by
  have e : x / ((2 ^ d : Nat) : Int) / ((2 ^ d' : Nat) : Int) = x / ((2 ^ (d + d') : Nat) : Int) := by
    rw [Int.ediv_ediv_of_nonneg (Int.natCast_nonneg _), Nat.pow_add, Int.natCast_mul]
  rw [e]
  exact or_up x (d + d') h0 h1

/-- The bits of a number by its highest digit. -/
theorem bln_top (n : Nat) (h : 0 < n) : (((dg n).length - 1) * 64 + bln ((dg n).getD ((dg n).length - 1) 0).toNat) = bln n := by
  induction n using dg_induct with
  | h0 => omega
  | h1 n hn ih =>
    rw [dg_pos hn]
    by_cases h0 : n / BB = 0
    · rw [h0, dg_zero]
      have := Nat.mod_add_div n BB
      rw [h0] at this
      have e : n % BB = n := by omega
      rw [e]
      simp
    · have ih' := ih (Nat.pos_of_ne_zero h0)
      have hl := dg_len_pos (n := n / BB) (Nat.pos_of_ne_zero h0)
      obtain ⟨m, hm⟩ : ∃ m, (dg (n / BB)).length = m + 1 := ⟨_, (Nat.succ_pred_eq_of_pos hl).symm⟩
      rw [hm] at ih'
      rw [List.length_cons, hm]
      simp only [Nat.add_sub_cancel, List.getD_cons_succ] at ih' ⊢
      have e : (m + 1) * 64 + bln ((dg (n / BB)).getD m 0).toNat = 64 + bln (n / BB) := by rw [← ih']; omega
      rw [e]
      have hp := bln_pos (n := n / BB) (Nat.pos_of_ne_zero h0)
      have hq := bln_lt (n / BB)
      have hg := bln_ge (n := n / BB) (Nat.pos_of_ne_zero h0)
      refine bln_unique' (by omega) ?_ ?_
      · rw [Nat.pow_add, ← BB_pow, Nat.mul_comm]
        exact (Nat.div_lt_iff_lt_mul BB_pos).1 hq
      · rw [show 64 + bln (n / BB) - 1 = 64 + (bln (n / BB) - 1) from by omega, Nat.pow_add, ← BB_pow, Nat.mul_comm]
        exact (Nat.le_div_iff_mul_le BB_pos).1 hg
end Go.Proofs.Ythckboojmljeiaa.Bl
