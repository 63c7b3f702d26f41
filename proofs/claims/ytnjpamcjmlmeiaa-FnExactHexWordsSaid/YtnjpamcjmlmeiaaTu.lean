/- What the printed reference functions tell: Turned, Low. -/
import Derived.Test.YtnjpamcjmlmeiaaPl
import Derived.Test.YtnjpamcjmlmeiaaPFnExactBytesx1
namespace Go.Proofs.Ytnjpamcjmlmeiaa.Tu
open Go.RowKit Go.Proofs.YtnjpamcjmlmeiaaW.PrintWords Go.Proofs.YtnjpamcjmlmeiaaW.PrintLast Go.Proofs.YtnjpamcjmlmeiaaW.PrintMore Go.Proofs.Ytnjpamcjmlmeiaa.Pl Go.Proofs.Ytnjpamcjmlmeiaa.PFnExactBytes

theorem turned_l0 (l : List Int) (hl : l.length ≤ 100000) : ∀ (i k : Nat) (acc : List Int), i ≤ l.length → acc.length + i ≤ 100000 → i < k →
    spec_Turned.l0 k l acc ((i : Int) - 1) = some (acc ++ (l.take i).reverse) := by
  intro i
  induction i with
  | zero =>
    intro k acc _ _ hk
    obtain ⟨k, rfl⟩ : ∃ m, k = m + 1 := ⟨k - 1, by omega⟩
    simp only [spec_Turned.l0]
    rw [if_neg (by omega)]
    simp
  | succ i ih =>
    intro k acc h1 h2 hk
    obtain ⟨k, rfl⟩ : ∃ m, k = m + 1 := ⟨k - 1, by omega⟩
    simp only [spec_Turned.l0]
    rw [show ((i + 1 : Nat) : Int) - 1 = (i : Int) from by omega, if_pos (by omega), if_pos (by omega), if_pos (by omega), if_pos (by omega), w64 (by omega) (by omega), show rd l (i : Int) = l.getD i 0 from by simp [rd]]
    rw [ih k _ (by omega) (by simp; omega) (by omega), take_succ_getD l i (by omega)]
    simp
theorem turned_eq (l : List Int) (hl : l.length ≤ 100000) : spec_Turned.f (l.length + 1) l = some l.reverse := by
  unfold spec_Turned.f
  rw [w64 (by omega) (by omega), turned_l0 l hl l.length _ [] (by omega) (by simpa using hl) (by omega)]
  simp

theorem low_l1 (l : List Int) (hd : Dig 18446744073709551616 l) (hl : l.length ≤ 10000) (i : Nat) (hi : i < l.length) (K : Nat) (r : List Int) (h : ∀ k, K ≤ k → spec_Low.l0 k l (low (l.take (i + 1))) ((i + 1 : Nat) : Int) = some r) :
    ∀ (d k j : Nat), 8 - j = d → j ≤ 8 → K + d < k → spec_Low.l1 k l (low (l.take i) ++ (le8 (l.getD i 0)).take j) (i : Int) (j : Int) = some r := by
  intro d
  induction d with
  | zero =>
    intro k j h1 h2 h3
    obtain ⟨k, rfl⟩ : ∃ m, k = m + 1 := ⟨k - 1, by omega⟩
    simp only [spec_Low.l1]
    rw [if_neg (by omega), w64 (by omega) (by omega), show (le8 (l.getD i 0)).take j = le8 (l.getD i 0) from List.take_of_length_le (by rw [le8_length]; omega), ← low_snoc l i hi]
    exact h k (by omega)
  | succ d ih =>
    intro k j h1 h2 h3
    obtain ⟨k, rfl⟩ : ∃ m, k = m + 1 := ⟨k - 1, by omega⟩
    simp only [spec_Low.l1]
    rw [w64 (n := 8 * (j : Int)) (by omega) (by omega), wu64_in (n := 8 * (j : Int)) (by omega) (by omega), if_pos (by omega), if_pos (by omega), if_pos (by omega), if_pos (by omega), if_pos, w64 (by omega) (by omega)]
    · have := ih k (j + 1) (by omega) (by omega) (by omega)
      rw [take_succ_getD (le8 (l.getD i 0)) j (by rw [le8_length]; omega), le8_get _ _ (by omega), ← List.append_assoc] at this
      unfold shr
      rw [show rd l (i : Int) = l.getD i 0 from by simp [rd], show min (8 * (j : Int)).toNat IntKind.u64.bits = 8 * j from by simp only [IntKind.bits]; omega]
      exact this
    · rw [List.length_append, low_length, List.length_take, List.length_take]
      omega
theorem low_l0 (l : List Int) (hd : Dig 18446744073709551616 l) (hl : l.length ≤ 10000) : ∀ (d k i : Nat), l.length - i = d → i ≤ l.length → 10 * d < k → spec_Low.l0 k l (low (l.take i)) (i : Int) = some (low l) := by
  intro d
  induction d with
  | zero =>
    intro k i h1 h2 h3
    obtain ⟨k, rfl⟩ : ∃ m, k = m + 1 := ⟨k - 1, by omega⟩
    simp only [spec_Low.l0]
    rw [if_neg (by omega), List.take_of_length_le (by omega)]
  | succ d ih =>
    intro k i h1 h2 h3
    obtain ⟨k, rfl⟩ : ∃ m, k = m + 1 := ⟨k - 1, by omega⟩
    simp only [spec_Low.l0]
    rw [if_pos (by omega)]
    have := low_l1 l hd hl i (by omega) (10 * d + 1) (low l) (fun k hk => ih k (i + 1) (by omega) (by omega) (by omega)) 8 k 0 (by omega) (by omega) (by omega)
    simpa using this
theorem low_eq (l : List Int) (hd : Dig 18446744073709551616 l) (hl : l.length ≤ 10000) : spec_Low.f (10 * l.length + 1) l = some (low l) :=
  low_l0 l hd hl l.length _ 0 (by omega) (by omega) (by omega)
end Go.Proofs.Ytnjpamcjmlmeiaa.Tu
