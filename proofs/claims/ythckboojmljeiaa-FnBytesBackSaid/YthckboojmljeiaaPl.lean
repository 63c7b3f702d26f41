/- Plain laws on lists of digits, their number, and Go's bits: no program in sight. -/
import Derived.Laws.BitsLemmas
import Derived.RowKit
namespace Go.Proofs.Ythckboojmljeiaa.Pl
set_option linter.unusedVariables false
set_option linter.unusedSimpArgs false
open Go.RowKit

theorem w64 {n : Int} (h0 : -9223372036854775808 ≤ n) (h1 : n < 9223372036854775808) : wrap64 n = n := by unfold wrap64; omega
theorem wu64 (n : Int) : IntKind.u64.wrap n = n % 18446744073709551616 := by simp [IntKind.wrap, IntKind.bits, IntKind.signed]
theorem wu64_in {n : Int} (h0 : 0 ≤ n) (h1 : n < 18446744073709551616) : IntKind.u64.wrap n = n := by rw [wu64]; omega
theorem wraps_u64 (n : Int) (h₀ : 0 ≤ n) (h₁ : n < 2 ^ 64) : IntKind.u64.wrap n = n := wu64_in h₀ h₁
theorem u64_or_add (i : Nat) (x y : Int) (hx : 0 ≤ x) (hx' : x < 2 ^ 64) (hi : x % 2 ^ i = 0) (hy : 0 ≤ y) (hy' : y < 2 ^ i) (hy1 : y < 2 ^ 64) : bits .or .u64 x y = x + y :=
  bits_join .u64 64 (by decide) wraps_u64 i x y hx hi hx' hy hy' hy1
theorem u64_or_comm (x y : Int) (hx : 0 ≤ x) (hx' : x < 2 ^ 64) (hy : 0 ≤ y) (hy' : y < 2 ^ 64) : bits .or .u64 x y = bits .or .u64 y x := by
  obtain ⟨a, rfl⟩ := Int.eq_ofNat_of_zero_le hx
  obtain ⟨b, rfl⟩ := Int.eq_ofNat_of_zero_le hy
  have ha : a < 2 ^ 64 := by exact_mod_cast hx'
  have hb : b < 2 ^ 64 := by exact_mod_cast hy'
  rw [(bits_nat .u64 64 (by decide) wraps_u64 a b ha hb).2, (bits_nat .u64 64 (by decide) wraps_u64 b a hb ha).2, Nat.or_comm]

/-- The number of digits to the base B, the lowest first. -/
def lv (B : Int) : List Int → Int
  | [] => 0
  | x :: r => x + B * lv B r
/-- Digits to the base B. -/
def Dig (B : Int) (l : List Int) : Prop := ∀ x ∈ l, 0 ≤ x ∧ x < B

theorem Dig.nil (B : Int) : Dig B [] := fun x hx => by cases hx
theorem Dig.append {B : Int} {a b : List Int} (ha : Dig B a) (hb : Dig B b) : Dig B (a ++ b) := fun x hx => by
  rcases List.mem_append.1 hx with h | h
  · exact ha x h
  · exact hb x h
theorem Dig.take {B : Int} {a : List Int} (ha : Dig B a) (n : Nat) : Dig B (a.take n) := fun x hx => ha x (List.mem_of_mem_take hx)
theorem Dig.drop {B : Int} {a : List Int} (ha : Dig B a) (n : Nat) : Dig B (a.drop n) := fun x hx => ha x (List.mem_of_mem_drop hx)
theorem Dig.reverse {B : Int} {a : List Int} (ha : Dig B a) : Dig B a.reverse := fun x hx => ha x (by simpa using hx)
theorem Dig.cons {B x : Int} {a : List Int} (h : Dig B (x :: a)) : (0 ≤ x ∧ x < B) ∧ Dig B a := ⟨h x (by simp), fun y hy => h y (by simp [hy])⟩
theorem Dig.mk {B x : Int} {a : List Int} (h0 : 0 ≤ x) (h1 : x < B) (h : Dig B a) : Dig B (x :: a) := fun y hy => by
  rcases List.mem_cons.1 hy with rfl | hy
  · exact ⟨h0, h1⟩
  · exact h y hy
theorem Dig.get {B : Int} {a : List Int} (h : Dig B a) {i : Nat} (hi : i < a.length) : 0 ≤ a.getD i 0 ∧ a.getD i 0 < B := by
  rw [List.getD_eq_getElem?_getD, List.getElem?_eq_getElem hi]
  exact h _ (List.getElem_mem hi)
theorem Dig.getB {B : Int} (hB : 0 < B) {a : List Int} (h : Dig B a) (i : Nat) : 0 ≤ a.getD i 0 ∧ a.getD i 0 < B := by
  by_cases hi : i < a.length
  · exact h.get hi
  · rw [List.getD_eq_getElem?_getD, List.getElem?_eq_none (by omega)]
    exact ⟨Int.le_refl _, hB⟩
theorem Dig.replicate {B : Int} (hB : 0 < B) (n : Nat) : Dig B (List.replicate n 0) := fun x hx => by
  rw [(List.mem_replicate.1 hx).2]; exact ⟨Int.le_refl _, hB⟩

theorem lv_append (B : Int) (a b : List Int) : lv B (a ++ b) = lv B a + B ^ a.length * lv B b := by
  induction a with
  | nil => simp [lv]
  | cons x a ih =>
    simp only [List.cons_append, lv, ih, List.length_cons, Int.pow_succ, Int.mul_add]
    rw [Int.mul_comm (B ^ a.length) B, Int.mul_assoc]
    omega
theorem lv_range {B : Int} (hB : 0 < B) {l : List Int} (h : Dig B l) : 0 ≤ lv B l ∧ lv B l < B ^ l.length := by
  induction l with
  | nil => exact ⟨Int.le_refl _, by simp [lv]⟩
  | cons x a ih =>
    obtain ⟨⟨h0, h1⟩, h2⟩ := h.cons
    obtain ⟨i0, i1⟩ := ih h2
    simp only [lv, List.length_cons, Int.pow_succ]
    have e : B * lv B a ≤ B * (B ^ a.length - 1) := Int.mul_le_mul_of_nonneg_left (by omega) (by omega)
    have e0 : 0 ≤ B * lv B a := Int.mul_nonneg (by omega) i0
    rw [Int.mul_sub, Int.mul_comm B (B ^ a.length)] at e
    omega
theorem lv_zeros (B : Int) (n : Nat) : lv B (List.replicate n 0) = 0 := by
  induction n with
  | zero => rfl
  | succ n ih => simp [List.replicate_succ, lv, ih]
theorem lv_snoc (B : Int) (a : List Int) (x : Int) : lv B (a ++ [x]) = lv B a + B ^ a.length * x := by simp [lv_append, lv]

theorem pow256 (n : Nat) : (256 : Int) ^ n = 2 ^ (8 * n) := by rw [Int.pow_mul]; rfl

theorem pow256_le (i j : Nat) (h : i ≤ j) : (256 : Int) ^ i ≤ 256 ^ j := by
  rw [pow256, pow256]
  have : (2 : Nat) ^ (8 * i) ≤ 2 ^ (8 * j) := Nat.pow_le_pow_right (by decide) (by omega)
  exact_mod_cast this

/-! ### reversal -/
theorem getD_reverse (l : List Int) (i : Nat) (hi : i < l.length) : l.reverse.getD i 0 = l.getD (l.length - 1 - i) 0 := by
  simp only [List.getD_eq_getElem?_getD]
  rw [List.getElem?_eq_getElem (by simpa using hi), List.getElem?_eq_getElem (by omega), List.getElem_reverse]

theorem take_succ_getD (l : List Int) (i : Nat) (hi : i < l.length) : l.take (i + 1) = l.take i ++ [l.getD i 0] := by
  rw [List.take_succ_eq_append_getElem hi, List.getD_eq_getElem?_getD, List.getElem?_eq_getElem hi]; rfl

/-! ### bytes as words -/
/-- The words of bytes, the lowest first. -/
def wds (m : Nat) (l : List Int) : List Int := (List.range m).map fun j => lv 256 ((l.drop (8 * j)).take 8)
theorem wds_length (m : Nat) (l : List Int) : (wds m l).length = m := by simp [wds]
theorem wds_get (m : Nat) (l : List Int) (j : Nat) (hj : j < m) : (wds m l).getD j 0 = lv 256 ((l.drop (8 * j)).take 8) := by
  rw [List.getD_eq_getElem?_getD]; simp [wds, hj]
theorem wds_nil (m : Nat) : wds m [] = List.replicate m 0 := by
  refine List.ext_getElem (by simp [wds]) fun i h1 h2 => ?_
  simp [wds, lv]

theorem chunk_step (l : List Int) (i j : Nat) (hi : i < l.length) (hne : j ≠ i / 8) : ((l.take (i + 1)).drop (8 * j)).take 8 = ((l.take i).drop (8 * j)).take 8 := by
  rw [take_succ_getD l i hi]
  by_cases h : 8 * j ≤ i
  · rw [List.drop_append_of_le_length (by rw [List.length_take]; omega), List.take_append_of_le_length (by rw [List.length_drop, List.length_take]; omega)]
  · rw [List.drop_of_length_le (by simp; omega), List.drop_of_length_le (by simp; omega)]
theorem chunk_at (l : List Int) (i : Nat) (hi : i < l.length) : ((l.take (i + 1)).drop (8 * (i / 8))).take 8 = (l.take i).drop (8 * (i / 8)) ++ [l.getD i 0] := by
  rw [take_succ_getD l i hi, List.drop_append_of_le_length (by rw [List.length_take]; omega)]
  exact List.take_of_length_le (by simp; omega)
theorem chunk_old (l : List Int) (i : Nat) (hi : i < l.length) : ((l.take i).drop (8 * (i / 8))).take 8 = (l.take i).drop (8 * (i / 8)) :=
  List.take_of_length_le (by simp; omega)
theorem chunk_rev (l : List Int) (i : Nat) (h : 8 * i + 8 ≤ l.length) : ((l.drop (l.length - (8 * i + 8))).take 8).reverse = (l.reverse.drop (8 * i)).take 8 := by
  refine List.ext_getElem (by simp; omega) fun j h1 h2 => ?_
  simp at h1 h2 ⊢
  congr 1
  omega
/-- One byte more. -/
theorem wds_step (m : Nat) (l : List Int) (i : Nat) (hi : i < l.length) (_hm : i / 8 < m) :
    wds m (l.take (i + 1)) = (wds m (l.take i)).set (i / 8) ((wds m (l.take i)).getD (i / 8) 0 + 256 ^ (i % 8) * l.getD i 0) := by
  refine List.ext_getElem (by simp [wds]) fun j h1 h2 => ?_
  rw [List.getElem_set]
  by_cases h : i / 8 = j
  · subst h
    rw [if_pos rfl]
    rw [wds_get _ _ _ _hm]
    simp only [wds, List.getElem_map, List.getElem_range]
    rw [chunk_at l i hi, chunk_old l i hi, lv_snoc]
    congr 3
    simp; omega
  · rw [if_neg h]
    simp only [wds, List.getElem_map, List.getElem_range]
    rw [chunk_step l i j hi (fun e => h e.symm)]
/-- Eight bytes more. -/
theorem wds_word (m : Nat) (l : List Int) (i : Nat) (_hm : i < m) :
    wds m (l.take (8 * (i + 1))) = (wds m (l.take (8 * i))).set i (lv 256 ((l.drop (8 * i)).take 8)) := by
  refine List.ext_getElem (by simp [wds]) fun j h1 h2 => ?_
  rw [List.getElem_set]
  simp only [wds, List.getElem_map, List.getElem_range]
  by_cases h : i = j
  · subst h
    rw [if_pos rfl, List.drop_take, show 8 * (i + 1) - 8 * i = 8 from by omega, List.take_take, Nat.min_self]
  · rw [if_neg h, List.drop_take, List.drop_take, List.take_take, List.take_take]
    by_cases h3 : j < i
    · rw [show min 8 (8 * (i + 1) - 8 * j) = 8 from by omega, show min 8 (8 * i - 8 * j) = 8 from by omega]
    · rw [show min 8 (8 * (i + 1) - 8 * j) = 0 from by omega, show min 8 (8 * i - 8 * j) = 0 from by omega]

theorem wds_old_lt (m : Nat) (l : List Int) (hl : Dig 256 l) (i : Nat) (hi : i < l.length) (hm : i / 8 < m) :
    0 ≤ (wds m (l.take i)).getD (i / 8) 0 ∧ (wds m (l.take i)).getD (i / 8) 0 < 256 ^ (i % 8) := by
  rw [wds_get _ _ _ hm, chunk_old l i hi]
  have h := lv_range (B := 256) (by omega) (l := (l.take i).drop (8 * (i / 8))) ((hl.take _).drop _)
  have e : ((l.take i).drop (8 * (i / 8))).length = i % 8 := by simp; omega
  rw [e] at h
  exact h

/-- A byte laid over a word below it. -/
theorem or_byte (o b : Int) (r : Nat) (hr : r < 8) (h0 : 0 ≤ o) (h1 : o < 256 ^ r) (hb0 : 0 ≤ b) (hb1 : b < 256) :
    bits .or .u64 o (IntKind.u64.wrap (b * 2 ^ (8 * r))) = o + 256 ^ r * b := by
  rw [pow256] at h1 ⊢
  have hp : (2 : Int) ^ (8 * r) ≤ 2 ^ 56 := by
    have : (2 : Nat) ^ (8 * r) ≤ 2 ^ 56 := Nat.pow_le_pow_right (by decide) (by omega)
    exact_mod_cast this
  have hpos : (0 : Int) < 2 ^ (8 * r) := by
    have : 0 < (2 : Nat) ^ (8 * r) := Nat.two_pow_pos _
    exact_mod_cast this
  have hm : b * 2 ^ (8 * r) ≤ 255 * 2 ^ (8 * r) := Int.mul_le_mul_of_nonneg_right (by omega) (by omega)
  have hm0 : 0 ≤ b * 2 ^ (8 * r) := Int.mul_nonneg hb0 (by omega)
  have h64 : (2 : Int) ^ 56 = 72057594037927936 := by decide
  rw [wu64_in hm0 (by omega), u64_or_comm _ _ h0 (by omega) hm0 (by omega), u64_or_add (8 * r) _ _ hm0 (by omega) (Int.mul_emod_left _ _) h0 h1 (by omega), Int.mul_comm b]
  omega
/-- A word moved up by a byte, and a byte laid below it. -/
theorem or_shift (o b : Int) (h0 : 0 ≤ o) (h1 : o < 72057594037927936) (hb0 : 0 ≤ b) (hb1 : b < 256) :
    bits .or .u64 (IntKind.u64.wrap (o * 256)) (IntKind.u64.wrap b) = b + 256 * o := by
  rw [wu64_in (by omega) (by omega), wu64_in hb0 (by omega), u64_or_add 8 _ _ (by omega) (by omega) (by omega) hb0 (by omega) (by omega)]
  omega

/-! ### words as bytes -/
/-- The bytes of a word, the lowest first. -/
def le8 (v : Int) : List Int := (List.range 8).map fun k => v / 2 ^ (8 * k) % 256
theorem le8_length (v : Int) : (le8 v).length = 8 := by simp [le8]
theorem le8_get (v : Int) (k : Nat) (hk : k < 8) : (le8 v).getD k 0 = v / 2 ^ (8 * k) % 256 := by
  rw [List.getD_eq_getElem?_getD, List.getElem?_eq_getElem (by rw [le8_length]; exact hk)]
  simp [le8]
theorem le8_dig (v : Int) : Dig 256 (le8 v) := fun x hx => by
  simp only [le8, List.mem_map, List.mem_range] at hx
  obtain ⟨k, _, rfl⟩ := hx
  omega
/-- The bytes of words, the lowest first. -/
def low : List Int → List Int
  | [] => []
  | v :: r => le8 v ++ low r
theorem low_length (l : List Int) : (low l).length = 8 * l.length := by
  induction l with
  | nil => rfl
  | cons x l ih => simp only [low, List.length_append, ih, le8_length, List.length_cons]; omega
theorem low_dig (l : List Int) : Dig 256 (low l) := by
  induction l with
  | nil => exact Dig.nil _
  | cons x l ih => exact (le8_dig x).append ih
theorem low_append (a b : List Int) : low (a ++ b) = low a ++ low b := by
  induction a with
  | nil => rfl
  | cons x a ih => simp only [List.cons_append, low, ih, List.append_assoc]
theorem low_snoc (l : List Int) (i : Nat) (hi : i < l.length) : low (l.take (i + 1)) = low (l.take i) ++ le8 (l.getD i 0) := by
  rw [take_succ_getD l i hi, low_append]
  simp [low]
theorem drop_getD (l : List Int) (i : Nat) (hi : i < l.length) : l.drop i = l.getD i 0 :: l.drop (i + 1) := by
  rw [List.drop_eq_getElem_cons hi, List.getD_eq_getElem?_getD, List.getElem?_eq_getElem hi]
  rfl
/-- k of the items b laid over a list from o on. -/
def lay (xs : List Int) (o k : Nat) (b : List Int) : List Int := xs.take o ++ (b.take k ++ xs.drop (o + k))
theorem lay_zero (xs : List Int) (o : Nat) (b : List Int) : lay xs o 0 b = xs := by simp [lay]
theorem lay_length (xs : List Int) (o k : Nat) (b : List Int) (hk : k ≤ b.length) (ho : o + k ≤ xs.length) : (lay xs o k b).length = xs.length := by simp [lay]; omega
theorem lay_succ (xs : List Int) (o k : Nat) (b : List Int) (hk : k < b.length) (ho : o + k < xs.length) : (lay xs o k b).set (o + k) (b.getD k 0) = lay xs o (k + 1) b := by
  have hl : (xs.take o).length = o := by rw [List.length_take]; omega
  have hb : (b.take k).length = k := by rw [List.length_take]; omega
  unfold lay
  rw [List.set_append_right _ _ (by omega), List.set_append_right _ _ (by omega), hl, hb, show o + k - o - k = 0 from by omega, drop_getD xs (o + k) ho, List.set_cons_zero, take_succ_getD b k hk]
  simp [Nat.add_assoc]
end Go.Proofs.Ythckboojmljeiaa.Pl
