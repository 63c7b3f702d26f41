/- Plain laws on lists of digits, their number, and Go's bits: no program in sight; Plain: the digits of a number to the base 2^64, the lowest first, none ahead; Plain: a carry, a borrow going through digits; Plain: the words of a number by their places, and of a number that is shifted down. -/
import Derived.Laws.BitsLemmas
import Derived.RowKit
namespace Go.Proofs.Ythckboojmljeiaa.Pl
set_option linter.unusedVariables false
set_option linter.unusedSimpArgs false
open Go.RowKit

theorem w64 {n : Int} (h0 : -9223372036854775808 ≤ n) (h1 : n < 9223372036854775808) : wrap64 n = n := by unfold wrap64; omega
theorem wu64 (n : Int) : IntKind.u64.wrap n = n % 18446744073709551616 := by simp [IntKind.wrap, IntKind.bits, IntKind.signed]
theorem wu64_in {n : Int} (h0 : 0 ≤ n) (h1 : n < 18446744073709551616) : IntKind.u64.wrap n = n := by rw [wu64]; omega
theorem wraps_u64 (n : Int) (h₀ : 0 ≤ n) (h₁ : n < 2 ^ 64) : IntKind.u64.wrap n = n := wu64_in h₀ h₁
theorem u64_or_add (i : Nat) (x y : Int) (hx : 0 ≤ x) (hx' : x < 2 ^ 64) (hi : x % 2 ^ i = 0) (hy : 0 ≤ y) (hy' : y < 2 ^ i) (hy1 : y < 2 ^ 64) : bits .or .u64 x y = x + y :=
  bits_join .u64 64 (by decide) wraps_u64 i x y hx hi hx' hy hy' hy1
theorem u64_or_comm (x y : Int) (hx : 0 ≤ x) (hx' : x < 2 ^ 64) (hy : 0 ≤ y) (hy' : y < 2 ^ 64) : bits .or .u64 x y = bits .or .u64 y x := by
  obtain ⟨a, rfl⟩ := Int.eq_ofNat_of_zero_le hx
  obtain ⟨b, rfl⟩ := Int.eq_ofNat_of_zero_le hy
  have ha : a < 2 ^ 64 := by exact_mod_cast hx'
  have hb : b < 2 ^ 64 := by exact_mod_cast hy'
  rw [(bits_nat .u64 64 (by decide) wraps_u64 a b ha hb).2, (bits_nat .u64 64 (by decide) wraps_u64 b a hb ha).2, Nat.or_comm]

/-- The number of digits to the base B, the lowest first. -/
def lv (B : Int) : List Int → Int
  | [] => 0
  | x :: r => x + B * lv B r
/-- Digits to the base B. -/
def Dig (B : Int) (l : List Int) : Prop := ∀ x ∈ l, 0 ≤ x ∧ x < B

theorem Dig.nil (B : Int) : Dig B [] := fun x hx => by cases hx
theorem Dig.append {B : Int} {a b : List Int} (ha : Dig B a) (hb : Dig B b) : Dig B (a ++ b) := fun x hx => by
  rcases List.mem_append.1 hx with h | h
  · exact ha x h
  · exact hb x h
theorem Dig.take {B : Int} {a : List Int} (ha : Dig B a) (n : Nat) : Dig B (a.take n) := fun x hx => ha x (List.mem_of_mem_take hx)
theorem Dig.drop {B : Int} {a : List Int} (ha : Dig B a) (n : Nat) : Dig B (a.drop n) := fun x hx => ha x (List.mem_of_mem_drop hx)
theorem Dig.reverse {B : Int} {a : List Int} (ha : Dig B a) : Dig B a.reverse := fun x hx => ha x (by simpa using hx)
theorem Dig.cons {B x : Int} {a : List Int} (h : Dig B (x :: a)) : (0 ≤ x ∧ x < B) ∧ Dig B a := ⟨h x (by simp), fun y hy => h y (by simp [hy])⟩
theorem Dig.mk {B x : Int} {a : List Int} (h0 : 0 ≤ x) (h1 : x < B) (h : Dig B a) : Dig B (x :: a) := fun y hy => by
  rcases List.mem_cons.1 hy with rfl | hy
  · exact ⟨h0, h1⟩
  · exact h y hy
theorem Dig.get {B : Int} {a : List Int} (h : Dig B a) {i : Nat} (hi : i < a.length) : 0 ≤ a.getD i 0 ∧ a.getD i 0 < B := by
  rw [List.getD_eq_getElem?_getD, List.getElem?_eq_getElem hi]
  exact h _ (List.getElem_mem hi)
theorem Dig.getB {B : Int} (hB : 0 < B) {a : List Int} (h : Dig B a) (i : Nat) : 0 ≤ a.getD i 0 ∧ a.getD i 0 < B := by
  by_cases hi : i < a.length
  · exact h.get hi
  · rw [List.getD_eq_getElem?_getD, List.getElem?_eq_none (by omega)]
    exact ⟨Int.le_refl _, hB⟩
theorem Dig.replicate {B : Int} (hB : 0 < B) (n : Nat) : Dig B (List.replicate n 0) := fun x hx => by
  rw [(List.mem_replicate.1 hx).2]; exact ⟨Int.le_refl _, hB⟩

theorem lv_append (B : Int) (a b : List Int) : lv B (a ++ b) = lv B a + B ^ a.length * lv B b := by
  induction a with
  | nil => simp [lv]
  | cons x a ih =>
    simp only [List.cons_append, lv, ih, List.length_cons, Int.pow_succ, Int.mul_add]
    rw [Int.mul_comm (B ^ a.length) B, Int.mul_assoc]
    omega
theorem lv_range {B : Int} (hB : 0 < B) {l : List Int} (h : Dig B l) : 0 ≤ lv B l ∧ lv B l < B ^ l.length := by
  induction l with
  | nil => exact ⟨Int.le_refl _, by simp [lv]⟩
  | cons x a ih =>
    obtain ⟨⟨h0, h1⟩, h2⟩ := h.cons
    obtain ⟨i0, i1⟩ := ih h2
    simp only [lv, List.length_cons, Int.pow_succ]
    have e : B * lv B a ≤ B * (B ^ a.length - 1) := Int.mul_le_mul_of_nonneg_left (by omega) (by omega)
    have e0 : 0 ≤ B * lv B a := Int.mul_nonneg (by omega) i0
    rw [Int.mul_sub, Int.mul_comm B (B ^ a.length)] at e
    omega
theorem lv_zeros (B : Int) (n : Nat) : lv B (List.replicate n 0) = 0 := by
  induction n with
  | zero => rfl
  | succ n ih => simp [List.replicate_succ, lv, ih]
theorem lv_snoc (B : Int) (a : List Int) (x : Int) : lv B (a ++ [x]) = lv B a + B ^ a.length * x := by simp [lv_append, lv]

theorem pow256 (n : Nat) : (256 : Int) ^ n = 2 ^ (8 * n) := by rw [Int.pow_mul]; rfl

theorem pow256_le (i j : Nat) (h : i ≤ j) : (256 : Int) ^ i ≤ 256 ^ j := by
  rw [pow256, pow256]
  have : (2 : Nat) ^ (8 * i) ≤ 2 ^ (8 * j) := Nat.pow_le_pow_right (by decide) (by omega)
  exact_mod_cast this

/-! ### reversal -/
theorem getD_reverse (l : List Int) (i : Nat) (hi : i < l.length) : l.reverse.getD i 0 = l.getD (l.length - 1 - i) 0 := by
  simp only [List.getD_eq_getElem?_getD]
  rw [List.getElem?_eq_getElem (by simpa using hi), List.getElem?_eq_getElem (by omega), List.getElem_reverse]

theorem take_succ_getD (l : List Int) (i : Nat) (hi : i < l.length) : l.take (i + 1) = l.take i ++ [l.getD i 0] := by
  rw [List.take_succ_eq_append_getElem hi, List.getD_eq_getElem?_getD, List.getElem?_eq_getElem hi]; rfl

/-! ### bytes as words -/
/-- The words of bytes, the lowest first. -/
def wds (m : Nat) (l : List Int) : List Int := (List.range m).map fun j => lv 256 ((l.drop (8 * j)).take 8)
theorem wds_length (m : Nat) (l : List Int) : (wds m l).length = m := by simp [wds]
theorem wds_get (m : Nat) (l : List Int) (j : Nat) (hj : j < m) : (wds m l).getD j 0 = lv 256 ((l.drop (8 * j)).take 8) := by
  rw [List.getD_eq_getElem?_getD]; simp [wds, hj]
theorem wds_nil (m : Nat) : wds m [] = List.replicate m 0 := by
  refine List.ext_getElem (by simp [wds]) fun i h1 h2 => ?_
  simp [wds, lv]

theorem chunk_step (l : List Int) (i j : Nat) (hi : i < l.length) (hne : j ≠ i / 8) : ((l.take (i + 1)).drop (8 * j)).take 8 = ((l.take i).drop (8 * j)).take 8 := by
  rw [take_succ_getD l i hi]
  by_cases h : 8 * j ≤ i
  · rw [List.drop_append_of_le_length (by rw [List.length_take]; omega), List.take_append_of_le_length (by rw [List.length_drop, List.length_take]; omega)]
  · rw [List.drop_of_length_le (by simp; omega), List.drop_of_length_le (by simp; omega)]
theorem chunk_at (l : List Int) (i : Nat) (hi : i < l.length) : ((l.take (i + 1)).drop (8 * (i / 8))).take 8 = (l.take i).drop (8 * (i / 8)) ++ [l.getD i 0] := by
  rw [take_succ_getD l i hi, List.drop_append_of_le_length (by rw [List.length_take]; omega)]
  exact List.take_of_length_le (by simp; omega)
theorem chunk_old (l : List Int) (i : Nat) (hi : i < l.length) : ((l.take i).drop (8 * (i / 8))).take 8 = (l.take i).drop (8 * (i / 8)) :=
  List.take_of_length_le (by simp; omega)
theorem chunk_rev (l : List Int) (i : Nat) (h : 8 * i + 8 ≤ l.length) : ((l.drop (l.length - (8 * i + 8))).take 8).reverse = (l.reverse.drop (8 * i)).take 8 := by
  refine List.ext_getElem (by simp; omega) fun j h1 h2 => ?_
  simp at h1 h2 ⊢
  congr 1
  omega
/-- One byte more. -/
theorem wds_step (m : Nat) (l : List Int) (i : Nat) (hi : i < l.length) (_hm : i / 8 < m) :
    wds m (l.take (i + 1)) = (wds m (l.take i)).set (i / 8) ((wds m (l.take i)).getD (i / 8) 0 + 256 ^ (i % 8) * l.getD i 0) := by
  refine List.ext_getElem (by simp [wds]) fun j h1 h2 => ?_
  rw [List.getElem_set]
  by_cases h : i / 8 = j
  · subst h
    rw [if_pos rfl]
    rw [wds_get _ _ _ _hm]
    simp only [wds, List.getElem_map, List.getElem_range]
    rw [chunk_at l i hi, chunk_old l i hi, lv_snoc]
    congr 3
    simp; omega
  · rw [if_neg h]
    simp only [wds, List.getElem_map, List.getElem_range]
    rw [chunk_step l i j hi (fun e => h e.symm)]
/-- Eight bytes more. -/
theorem wds_word (m : Nat) (l : List Int) (i : Nat) (_hm : i < m) :
    wds m (l.take (8 * (i + 1))) = (wds m (l.take (8 * i))).set i (lv 256 ((l.drop (8 * i)).take 8)) := by
  refine List.ext_getElem (by simp [wds]) fun j h1 h2 => ?_
  rw [List.getElem_set]
  simp only [wds, List.getElem_map, List.getElem_range]
  by_cases h : i = j
  · subst h
    rw [if_pos rfl, List.drop_take, show 8 * (i + 1) - 8 * i = 8 from by omega, List.take_take, Nat.min_self]
  · rw [if_neg h, List.drop_take, List.drop_take, List.take_take, List.take_take]
    by_cases h3 : j < i
    · rw [show min 8 (8 * (i + 1) - 8 * j) = 8 from by omega, show min 8 (8 * i - 8 * j) = 8 from by omega]
    · rw [show min 8 (8 * (i + 1) - 8 * j) = 0 from by omega, show min 8 (8 * i - 8 * j) = 0 from by omega]

theorem wds_old_lt (m : Nat) (l : List Int) (hl : Dig 256 l) (i : Nat) (hi : i < l.length) (hm : i / 8 < m) :
    0 ≤ (wds m (l.take i)).getD (i / 8) 0 ∧ (wds m (l.take i)).getD (i / 8) 0 < 256 ^ (i % 8) := by
  rw [wds_get _ _ _ hm, chunk_old l i hi]
  have h := lv_range (B := 256) (by omega) (l := (l.take i).drop (8 * (i / 8))) ((hl.take _).drop _)
  have e : ((l.take i).drop (8 * (i / 8))).length = i % 8 := by simp; omega
  rw [e] at h
  exact h

/-- A byte laid over a word below it. -/
theorem or_byte (o b : Int) (r : Nat) (hr : r < 8) (h0 : 0 ≤ o) (h1 : o < 256 ^ r) (hb0 : 0 ≤ b) (hb1 : b < 256) :
    bits .or .u64 o (IntKind.u64.wrap (b * 2 ^ (8 * r))) = o + 256 ^ r * b := by
  rw [pow256] at h1 ⊢
  have hp : (2 : Int) ^ (8 * r) ≤ 2 ^ 56 := by
    have : (2 : Nat) ^ (8 * r) ≤ 2 ^ 56 := Nat.pow_le_pow_right (by decide) (by omega)
    exact_mod_cast this
  have hpos : (0 : Int) < 2 ^ (8 * r) := by
    have : 0 < (2 : Nat) ^ (8 * r) := Nat.two_pow_pos _
    exact_mod_cast this
  have hm : b * 2 ^ (8 * r) ≤ 255 * 2 ^ (8 * r) := Int.mul_le_mul_of_nonneg_right (by omega) (by omega)
  have hm0 : 0 ≤ b * 2 ^ (8 * r) := Int.mul_nonneg hb0 (by omega)
  have h64 : (2 : Int) ^ 56 = 72057594037927936 := by decide
  rw [wu64_in hm0 (by omega), u64_or_comm _ _ h0 (by omega) hm0 (by omega), u64_or_add (8 * r) _ _ hm0 (by omega) (Int.mul_emod_left _ _) h0 h1 (by omega), Int.mul_comm b]
  omega
/-- A word moved up by a byte, and a byte laid below it. -/
theorem or_shift (o b : Int) (h0 : 0 ≤ o) (h1 : o < 72057594037927936) (hb0 : 0 ≤ b) (hb1 : b < 256) :
    bits .or .u64 (IntKind.u64.wrap (o * 256)) (IntKind.u64.wrap b) = b + 256 * o := by
  rw [wu64_in (by omega) (by omega), wu64_in hb0 (by omega), u64_or_add 8 _ _ (by omega) (by omega) (by omega) hb0 (by omega) (by omega)]
  omega

/-! ### words as bytes -/
/-- The bytes of a word, the lowest first. -/
def le8 (v : Int) : List Int := (List.range 8).map fun k => v / 2 ^ (8 * k) % 256
theorem le8_length (v : Int) : (le8 v).length = 8 := by simp [le8]
theorem le8_get (v : Int) (k : Nat) (hk : k < 8) : (le8 v).getD k 0 = v / 2 ^ (8 * k) % 256 := by
  rw [List.getD_eq_getElem?_getD, List.getElem?_eq_getElem (by rw [le8_length]; exact hk)]
  simp [le8]
theorem le8_dig (v : Int) : Dig 256 (le8 v) := fun x hx => by
  simp only [le8, List.mem_map, List.mem_range] at hx
  obtain ⟨k, _, rfl⟩ := hx
  omega
/-- The bytes of words, the lowest first. -/
def low : List Int → List Int
  | [] => []
  | v :: r => le8 v ++ low r
theorem low_length (l : List Int) : (low l).length = 8 * l.length := by
  induction l with
  | nil => rfl
  | cons x l ih => simp only [low, List.length_append, ih, le8_length, List.length_cons]; omega
theorem low_dig (l : List Int) : Dig 256 (low l) := by
  induction l with
  | nil => exact Dig.nil _
  | cons x l ih => exact (le8_dig x).append ih
theorem low_append (a b : List Int) : low (a ++ b) = low a ++ low b := by
  induction a with
  | nil => rfl
  | cons x a ih => simp only [List.cons_append, low, ih, List.append_assoc]
theorem low_snoc (l : List Int) (i : Nat) (hi : i < l.length) : low (l.take (i + 1)) = low (l.take i) ++ le8 (l.getD i 0) := by
  rw [take_succ_getD l i hi, low_append]
  simp [low]
theorem drop_getD (l : List Int) (i : Nat) (hi : i < l.length) : l.drop i = l.getD i 0 :: l.drop (i + 1) := by
  rw [List.drop_eq_getElem_cons hi, List.getD_eq_getElem?_getD, List.getElem?_eq_getElem hi]
  rfl
/-- k of the items b laid over a list from o on. -/
def lay (xs : List Int) (o k : Nat) (b : List Int) : List Int := xs.take o ++ (b.take k ++ xs.drop (o + k))
theorem lay_zero (xs : List Int) (o : Nat) (b : List Int) : lay xs o 0 b = xs := by simp [lay]
theorem lay_length (xs : List Int) (o k : Nat) (b : List Int) (hk : k ≤ b.length) (ho : o + k ≤ xs.length) : (lay xs o k b).length = xs.length := by simp [lay]; omega
theorem lay_succ (xs : List Int) (o k : Nat) (b : List Int) (hk : k < b.length) (ho : o + k < xs.length) : (lay xs o k b).set (o + k) (b.getD k 0) = lay xs o (k + 1) b := by
  have hl : (xs.take o).length = o := by rw [List.length_take]; omega
  have hb : (b.take k).length = k := by rw [List.length_take]; omega
  unfold lay
  rw [List.set_append_right _ _ (by omega), List.set_append_right _ _ (by omega), hl, hb, show o + k - o - k = 0 from by omega, drop_getD xs (o + k) ho, List.set_cons_zero, take_succ_getD b k hk]
  simp [Nat.add_assoc]
end Go.Proofs.Ythckboojmljeiaa.Pl
namespace Go.Proofs.Ythckboojmljeiaa.Dg
set_option linter.unusedVariables false
set_option linter.unusedSimpArgs false
open Go.RowKit Go.Proofs.Ythckboojmljeiaa.Pl

/-- The base. -/
def BB : Nat := 18446744073709551616
theorem BB_eq : BB = 18446744073709551616 := rfl
theorem BB_pow : BB = 2 ^ 64 := rfl
theorem BB_pos : 0 < BB := by decide
abbrev DW (l : List Int) : Prop := Dig (BB : Int) l

/-- The digits of a number. -/
def dg (n : Nat) : List Int := if h : n = 0 then [] else ((n % BB : Nat) : Int) :: dg (n / BB)
termination_by n
decreasing_by exact Nat.div_lt_self (Nat.pos_of_ne_zero h) (by decide)
theorem dg_zero : dg 0 = [] := by rw [dg]; rfl
theorem dg_pos {n : Nat} (h : 0 < n) : dg n = ((n % BB : Nat) : Int) :: dg (n / BB) := by rw [dg, dif_neg (by omega)]

theorem dg_induct {P : Nat → Prop} (h0 : P 0) (h1 : ∀ n, 0 < n → P (n / BB) → P n) (n : Nat) : P n := by
  induction n using Nat.strongRecOn with
  | _ n ih =>
    by_cases h : n = 0
    · subst h; exact h0
    · exact h1 n (by omega) (ih _ (Nat.div_lt_self (by omega) (by decide)))

theorem lv_dg (n : Nat) : lv (BB : Int) (dg n) = (n : Int) := by
  induction n using dg_induct with
  | h0 => rw [dg_zero]; rfl
  | h1 n h ih =>
    rw [dg_pos h]
    simp only [lv, ih]
    have := Nat.mod_add_div n BB
    exact_mod_cast this
theorem dg_dig (n : Nat) : DW (dg n) := by
  induction n using dg_induct with
  | h0 => rw [dg_zero]; exact Dig.nil _
  | h1 n h ih =>
    rw [dg_pos h]
    exact Dig.mk (by omega) (by have := Nat.mod_lt n BB_pos; exact_mod_cast this) ih
theorem dg_nil {n : Nat} : dg n = [] ↔ n = 0 := by
  constructor
  · intro h
    by_cases h0 : n = 0
    · exact h0
    · rw [dg_pos (by omega)] at h
      cases h
  · rintro rfl
    exact dg_zero
theorem dg_len_zero {n : Nat} : (dg n).length = 0 ↔ n = 0 := by rw [List.length_eq_zero_iff]; exact dg_nil
theorem dg_len_pos {n : Nat} (h : 0 < n) : 0 < (dg n).length := by
  rw [dg_pos h]; simp

/-- Digits without noughts ahead are the digits of their number. -/
def Nm (l : List Int) : Prop := l = [] ∨ l.getD (l.length - 1) 0 ≠ 0
theorem Nm.tail {x : Int} {l : List Int} (h : Nm (x :: l)) : Nm l := by
  rcases h with h | h
  · cases h
  · cases l with
    | nil => exact .inl rfl
    | cons y r => exact .inr (by simpa using h)
theorem lv_pos_of_nm {l : List Int} (hd : DW l) (hn : Nm l) (hl : l ≠ []) : 0 < lv (BB : Int) l := by
  induction l with
  | nil => exact absurd rfl hl
  | cons x r ih =>
    obtain ⟨⟨h0, _⟩, h2⟩ := hd.cons
    simp only [lv]
    cases r with
    | nil =>
      rcases hn with h | h
      · cases h
      · simp at h
        simp only [lv]
        omega
    | cons y r =>
      have h3 := ih h2 hn.tail (by simp)
      have h4 : 0 < (BB : Int) * lv (BB : Int) (y :: r) := Int.mul_pos (by decide) h3
      omega
theorem dg_of {l : List Int} (hd : DW l) (hn : Nm l) : dg (lv (BB : Int) l).toNat = l := by
  induction l with
  | nil => exact dg_zero
  | cons x r ih =>
    obtain ⟨⟨h0, h1⟩, h2⟩ := hd.cons
    have hr := lv_range (B := (BB : Int)) (by decide) h2
    have ih' := ih h2 hn.tail
    have hp := lv_pos_of_nm hd hn (by simp)
    rw [dg_pos (by omega)]
    obtain ⟨a, rfl⟩ := Int.eq_ofNat_of_zero_le h0
    obtain ⟨b, hb⟩ := Int.eq_ofNat_of_zero_le hr.1
    rw [hb] at ih'
    have ha : a < BB := by exact_mod_cast h1
    have e : (lv (BB : Int) ((a : Int) :: r)).toNat = a + BB * b := by
      simp only [lv, hb]
      exact_mod_cast rfl
    rw [e, Nat.add_mul_mod_self_left, Nat.mod_eq_of_lt ha, Nat.add_mul_div_left _ _ BB_pos, Nat.div_eq_of_lt ha, Nat.zero_add]
    simpa using ih'
theorem dg_nm (n : Nat) : Nm (dg n) := by
  induction n using dg_induct with
  | h0 => rw [dg_zero]; exact .inl rfl
  | h1 n h ih =>
    rw [dg_pos h]
    right
    by_cases h0 : n / BB = 0
    · rw [h0, dg_zero]
      have := Nat.mod_add_div n BB
      rw [h0] at this
      simp
      omega
    · rcases ih with h1 | h1
      · exact absurd (dg_nil.1 h1) h0
      · have hl := dg_len_pos (n := n / BB) (Nat.pos_of_ne_zero h0)
        simp only [List.length_cons, Nat.add_sub_cancel]
        obtain ⟨m, hm⟩ : ∃ m, (dg (n / BB)).length = m + 1 := ⟨_, (Nat.succ_pred_eq_of_pos hl).symm⟩
        rw [hm] at h1 ⊢
        simpa using h1

theorem lv_take_zeros (B : Int) (l : List Int) (i : Nat) (hz : ∀ j, i ≤ j → l.getD j 0 = 0) : lv B l = lv B (l.take i) := by
  induction l generalizing i with
  | nil => simp
  | cons x r ih =>
    cases i with
    | zero =>
      have h0 : x = 0 := hz 0 (by omega)
      have := ih 0 (fun j _ => by have := hz (j + 1) (by omega); simpa using this)
      simp only [List.take_zero, lv] at this ⊢
      rw [this, h0]
      omega
    | succ i =>
      have := ih i (fun j hj => by have := hz (j + 1) (by omega); simpa using this)
      simp only [List.take_succ_cons, lv]
      rw [this]
/-- What 'norm' leaves. -/
theorem take_norm {l : List Int} (hd : DW l) (i : Nat) (hi : i ≤ l.length) (hz : ∀ j, i ≤ j → l.getD j 0 = 0) (hn : i = 0 ∨ l.getD (i - 1) 0 ≠ 0) : l.take i = dg (lv (BB : Int) l).toNat := by
  rw [lv_take_zeros _ l i hz]
  refine (dg_of (hd.take i) ?_).symm
  by_cases h0 : i = 0
  · subst h0; exact .inl rfl
  · right
    have hl : (l.take i).length = i := by rw [List.length_take]; omega
    rw [hl]
    rcases hn with h | h
    · exact absurd h h0
    · rw [List.getD_eq_getElem?_getD, List.getElem?_take, if_pos (by omega), ← List.getD_eq_getElem?_getD]
      exact h

theorem pow_cast (k : Nat) : ((BB : Int)) ^ k = ((BB ^ k : Nat) : Int) := by simp
theorem dg_lt (n : Nat) : n < BB ^ (dg n).length := by
  have h := (lv_range (B := (BB : Int)) (by decide) (dg_dig n)).2
  rw [lv_dg, pow_cast] at h
  exact_mod_cast h
theorem dg_len_le {n k : Nat} (h : n < BB ^ k) : (dg n).length ≤ k := by
  induction k generalizing n with
  | zero =>
    simp at h
    subst h
    rw [dg_zero]
    exact Nat.le_refl _
  | succ k ih =>
    by_cases h0 : n = 0
    · subst h0; rw [dg_zero]; exact Nat.zero_le _
    · rw [dg_pos (by omega), List.length_cons]
      have := ih (n := n / BB) (by rw [Nat.div_lt_iff_lt_mul BB_pos, ← Nat.pow_succ]; exact h)
      omega
theorem dg_len_mono {m n : Nat} (h : m ≤ n) : (dg m).length ≤ (dg n).length := dg_len_le (Nat.lt_of_le_of_lt h (dg_lt n))
theorem dg_ge {n : Nat} (h : 0 < n) : BB ^ ((dg n).length - 1) ≤ n := by
  by_cases h1 : BB ^ ((dg n).length - 1) ≤ n
  · exact h1
  · have := dg_len_le (n := n) (k := (dg n).length - 1) (by omega)
    have := dg_len_pos h
    omega
theorem dg_head {n : Nat} (h : 0 < n) : (dg n).getD 0 0 = ((n % BB : Nat) : Int) := by rw [dg_pos h]; rfl
theorem dg_one {n : Nat} (h : 0 < n) (h1 : n < BB) : dg n = [(n : Int)] := by
  rw [dg_pos h, Nat.div_eq_of_lt h1, dg_zero, Nat.mod_eq_of_lt h1]
end Go.Proofs.Ythckboojmljeiaa.Dg
namespace Go.Proofs.Ythckboojmljeiaa.Ad
set_option linter.unusedVariables false
set_option linter.unusedSimpArgs false
open Go.RowKit Go.Proofs.Ythckboojmljeiaa.Pl Go.Proofs.Ythckboojmljeiaa.Dg

theorem bbI : (BB : Int) = 18446744073709551616 := rfl
/-- Digits and a carry: the digits of the sum, the carry behind them. -/
def addl : List Int → Int → List Int × Int
  | [], c => ([], c)
  | x :: r, c => ((x + c) % (BB : Int) :: (addl r ((x + c) / (BB : Int))).1, (addl r ((x + c) / (BB : Int))).2)
/-- Digits and a borrow. -/
def subl : List Int → Int → List Int × Int
  | [], c => ([], c)
  | x :: r, c => ((x - c) % (BB : Int) :: (subl r (if x < c then 1 else 0)).1, (subl r (if x < c then 1 else 0)).2)
theorem addl_length (l : List Int) (c : Int) : (addl l c).1.length = l.length := by
  induction l generalizing c with
  | nil => rfl
  | cons x r ih => simp [addl, ih]
theorem subl_length (l : List Int) (c : Int) : (subl l c).1.length = l.length := by
  induction l generalizing c with
  | nil => rfl
  | cons x r ih => simp [subl, ih]
theorem addl_zero {l : List Int} (hd : DW l) : addl l 0 = (l, 0) := by
  induction l with
  | nil => rfl
  | cons x r ih =>
    obtain ⟨⟨h0, h1⟩, h2⟩ := hd.cons
    have e1 : (x + 0) % (BB : Int) = x := by rw [Int.add_zero]; exact Int.emod_eq_of_lt h0 h1
    have e2 : (x + 0) / (BB : Int) = 0 := by rw [Int.add_zero]; exact Int.ediv_eq_zero_of_lt h0 h1
    simp only [addl, e1, e2, ih h2]
theorem subl_zero {l : List Int} (hd : DW l) : subl l 0 = (l, 0) := by
  induction l with
  | nil => rfl
  | cons x r ih =>
    obtain ⟨⟨h0, h1⟩, h2⟩ := hd.cons
    have e1 : (x - 0) % (BB : Int) = x := by rw [Int.sub_zero]; exact Int.emod_eq_of_lt h0 h1
    simp only [subl, e1, if_neg (show ¬ x < 0 from by omega), ih h2]
theorem addl_append (a b : List Int) (c : Int) : addl (a ++ b) c = ((addl a c).1 ++ (addl b (addl a c).2).1, (addl b (addl a c).2).2) := by
  induction a generalizing c with
  | nil => rfl
  | cons x r ih => simp [addl, ih]
theorem subl_append (a b : List Int) (c : Int) : subl (a ++ b) c = ((subl a c).1 ++ (subl b (subl a c).2).1, (subl b (subl a c).2).2) := by
  induction a generalizing c with
  | nil => rfl
  | cons x r ih => simp [subl, ih]
theorem addl_dig (l : List Int) (c : Int) : DW (addl l c).1 := by
  induction l generalizing c with
  | nil => exact Dig.nil _
  | cons x r ih => exact Dig.mk (Int.emod_nonneg _ (by decide)) (Int.emod_lt_of_pos _ (by decide)) (ih _)
theorem subl_dig (l : List Int) (c : Int) : DW (subl l c).1 := by
  induction l generalizing c with
  | nil => exact Dig.nil _
  | cons x r ih => exact Dig.mk (Int.emod_nonneg _ (by decide)) (Int.emod_lt_of_pos _ (by decide)) (ih _)
theorem addl_carry (l : List Int) (c : Int) (hd : DW l) (h0 : 0 ≤ c) (h1 : c ≤ 1) : 0 ≤ (addl l c).2 ∧ (addl l c).2 ≤ 1 := by
  induction l generalizing c with
  | nil => exact ⟨h0, h1⟩
  | cons x r ih =>
    obtain ⟨⟨g0, g1⟩, g2⟩ := hd.cons
    have hq : (x + c) / (BB : Int) = 0 ∨ (x + c) / (BB : Int) = 1 := by rw [bbI] at *; omega
    simp only [addl]
    rcases hq with hq | hq <;> rw [hq] <;> exact ih _ g2 (by omega) (by omega)
theorem addl_val (l : List Int) (c : Int) : lv (BB : Int) (addl l c).1 + (BB : Int) ^ l.length * (addl l c).2 = lv (BB : Int) l + c := by
  induction l generalizing c with
  | nil => simp [addl, lv]
  | cons x r ih =>
    have h := ih ((x + c) / (BB : Int))
    have e := Int.emod_add_mul_ediv (x + c) (BB : Int)
    simp only [addl, lv, List.length_cons, Int.pow_succ]
    generalize lv (BB : Int) (addl r ((x + c) / (BB : Int))).1 = A at *
    generalize (addl r ((x + c) / (BB : Int))).2 = C at *
    generalize lv (BB : Int) r = L at *
    generalize (BB : Int) ^ r.length = P at *
    have h2 : (BB : Int) * (A + P * C) = (BB : Int) * (L + (x + c) / (BB : Int)) := by rw [h]
    rw [Int.mul_add, Int.mul_add] at h2
    have h3 : P * (BB : Int) * C = (BB : Int) * (P * C) := by rw [Int.mul_comm P, Int.mul_assoc]
    rw [h3]
    omega
theorem subl_val (l : List Int) (c : Int) (hd : DW l) (h0 : 0 ≤ c) (h1 : c ≤ 1) : lv (BB : Int) (subl l c).1 - (BB : Int) ^ l.length * (subl l c).2 = lv (BB : Int) l - c := by
  induction l generalizing c with
  | nil => simp [subl, lv]
  | cons x r ih =>
    obtain ⟨⟨g0, g1⟩, g2⟩ := hd.cons
    have h := ih (if x < c then 1 else 0) g2 (by split <;> omega) (by split <;> omega)
    have e : (x - c) % (BB : Int) = x - c + (BB : Int) * (if x < c then 1 else 0) := by
      rw [bbI] at *
      split <;> omega
    simp only [subl, lv, List.length_cons, Int.pow_succ]
    rw [e]
    generalize (if x < c then (1 : Int) else 0) = q at *
    generalize lv (BB : Int) (subl r q).1 = A at *
    generalize (subl r q).2 = C at *
    generalize lv (BB : Int) r = L at *
    generalize (BB : Int) ^ r.length = P at *
    have h2 : (BB : Int) * (A - P * C) = (BB : Int) * (L - q) := by rw [h]
    rw [Int.mul_sub, Int.mul_sub] at h2
    have h3 : P * (BB : Int) * C = (BB : Int) * (P * C) := by rw [Int.mul_comm P, Int.mul_assoc]
    rw [h3]
    omega

/-! ### as the loops go: while the carry is 1 -/
theorem addl_step (l : List Int) (c : Int) (i : Nat) (hi : i < l.length) : (addl (l.take (i + 1)) c).2 = (l.getD i 0 + (addl (l.take i) c).2) / (BB : Int) ∧ (addl l c).1.getD i 0 = (l.getD i 0 + (addl (l.take i) c).2) % (BB : Int) := by
  have e : l = l.take i ++ (l.getD i 0 :: l.drop (i + 1)) := by rw [← drop_getD l i hi, List.take_append_drop]
  refine ⟨?_, ?_⟩
  · rw [take_succ_getD l i hi, addl_append]
    simp [addl]
  · have hl : (addl (l.take i) c).1.length = i := by rw [addl_length, List.length_take]; omega
    conv => lhs; rw [e, addl_append]
    rw [List.getD_eq_getElem?_getD, List.getElem?_append_right (by omega), hl, Nat.sub_self]
    simp [addl]
theorem subl_step (l : List Int) (c : Int) (i : Nat) (hi : i < l.length) : (subl (l.take (i + 1)) c).2 = (if l.getD i 0 < (subl (l.take i) c).2 then 1 else 0) ∧ (subl l c).1.getD i 0 = (l.getD i 0 - (subl (l.take i) c).2) % (BB : Int) := by
  have e : l = l.take i ++ (l.getD i 0 :: l.drop (i + 1)) := by rw [← drop_getD l i hi, List.take_append_drop]
  refine ⟨?_, ?_⟩
  · rw [take_succ_getD l i hi, subl_append]
    simp [subl]
  · have hl : (subl (l.take i) c).1.length = i := by rw [subl_length, List.length_take]; omega
    conv => lhs; rw [e, subl_append]
    rw [List.getD_eq_getElem?_getD, List.getElem?_append_right (by omega), hl, Nat.sub_self]
    simp [subl]
/-- Behind a carry of 0 nothing turns. -/
theorem addl_rest (l : List Int) (c : Int) (i : Nat) (hd : DW l) (h : (addl (l.take i) c).2 = 0) : (addl l c).1.drop i = l.drop i ∧ (addl l c).2 = 0 := by
  have e : l = l.take i ++ l.drop i := (List.take_append_drop i l).symm
  by_cases hi : i ≤ l.length
  · have hl : (addl (l.take i) c).1.length = i := by rw [addl_length, List.length_take]; omega
    have h2 : addl l c = ((addl (l.take i) c).1 ++ l.drop i, 0) := by
      conv => lhs; rw [e]
      rw [addl_append, h, addl_zero (hd.drop i)]
    rw [h2]
    exact ⟨List.drop_left' hl, rfl⟩
  · rw [List.take_of_length_le (by omega)] at h
    exact ⟨by rw [List.drop_of_length_le (by rw [addl_length]; omega), List.drop_of_length_le (by omega)], h⟩
theorem subl_rest (l : List Int) (c : Int) (i : Nat) (hd : DW l) (h : (subl (l.take i) c).2 = 0) : (subl l c).1.drop i = l.drop i ∧ (subl l c).2 = 0 := by
  have e : l = l.take i ++ l.drop i := (List.take_append_drop i l).symm
  by_cases hi : i ≤ l.length
  · have hl : (subl (l.take i) c).1.length = i := by rw [subl_length, List.length_take]; omega
    have h2 : subl l c = ((subl (l.take i) c).1 ++ l.drop i, 0) := by
      conv => lhs; rw [e]
      rw [subl_append, h, subl_zero (hd.drop i)]
    rw [h2]
    exact ⟨List.drop_left' hl, rfl⟩
  · rw [List.take_of_length_le (by omega)] at h
    exact ⟨by rw [List.drop_of_length_le (by rw [subl_length]; omega), List.drop_of_length_le (by omega)], h⟩
/-- Laid to the end where the rest is as it was. -/
theorem lay_rest (cur : List Int) (o i n : Nat) (r : List Int) (hr : r.length = n) (hi : i ≤ n) (ho : o + n ≤ cur.length) (h : r.drop i = (cur.drop (o + i)).take (n - i)) : lay cur o i r = lay cur o n r := by
  unfold lay
  rw [show r.take n = r from List.take_of_length_le (by omega)]
  congr 1
  have e : r = r.take i ++ r.drop i := (List.take_append_drop i r).symm
  conv => rhs; rw [e, h]
  rw [List.append_assoc]
  congr 1
  have e2 : cur.drop (o + n) = (cur.drop (o + i)).drop (n - i) := by rw [List.drop_drop, show o + i + (n - i) = o + n from by omega]
  rw [e2, List.take_append_drop]
end Go.Proofs.Ythckboojmljeiaa.Ad
namespace Go.Proofs.Ythckboojmljeiaa.Rp
set_option linter.unusedVariables false
set_option linter.unusedSimpArgs false
open Go.RowKit Go.Proofs.Ythckboojmljeiaa.Pl Go.Proofs.Ythckboojmljeiaa.Dg

theorem dg_get (X i : Nat) : (dg X).getD i 0 = ((X / BB ^ i % BB : Nat) : Int) := by
  induction i generalizing X with
  | zero =>
    by_cases h : X = 0
    · subst h; rw [dg_zero]; simp
    · rw [dg_head (by omega)]; simp
  | succ i ih =>
    by_cases h : X = 0
    · subst h; rw [dg_zero]; simp
    · rw [dg_pos (by omega), List.getD_cons_succ, ih, Nat.pow_succ', Nat.div_div_eq_div_mul]
/-- The lowest m words of a number. -/
def digs (m X : Nat) : List Int := (List.range m).map fun i => ((X / BB ^ i % BB : Nat) : Int)
theorem digs_length (m X : Nat) : (digs m X).length = m := by simp [digs]
theorem digs_get (m X i : Nat) (h : i < m) : (digs m X).getD i 0 = ((X / BB ^ i % BB : Nat) : Int) := by
  simp [digs, List.getD_eq_getElem?_getD, h]
theorem digs_dig (m X : Nat) : DW (digs m X) := by
  intro x hx
  obtain ⟨i, _, rfl⟩ := List.mem_map.1 hx
  exact ⟨by omega, by have := Nat.mod_lt (X / BB ^ i) BB_pos; exact_mod_cast this⟩
theorem lv_digs (m X : Nat) : lv (BB : Int) (digs m X) = ((X % BB ^ m : Nat) : Int) := by
  induction m with
  | zero => simp [digs, lv, Nat.mod_one]
  | succ m ih =>
    have e : digs (m + 1) X = digs m X ++ [((X / BB ^ m % BB : Nat) : Int)] := by simp [digs, List.range_succ]
    rw [e, lv_snoc, ih, digs_length, Nat.pow_succ, Nat.mod_mul, pow_cast]
    exact_mod_cast rfl
theorem digs_val (m X : Nat) (h : X < BB ^ m) : (lv (BB : Int) (digs m X)).toNat = X := by
  rw [lv_digs, Nat.mod_eq_of_lt h, Int.toNat_natCast]
theorem digs_dg (X : Nat) : digs (dg X).length X = dg X := by
  apply List.ext_getElem?
  intro i
  by_cases h : i < (dg X).length
  · have := dg_get X i
    rw [List.getD_eq_getElem?_getD, List.getElem?_eq_getElem h] at this
    simp [digs, h]
    simpa using this.symm
  · simp [digs, h]
theorem shr_word (Q s : Nat) (hs : 0 < s) (hs2 : s < 64) : (Q / 2 ^ s) % BB = (Q % BB) / 2 ^ s + ((Q / BB % BB) * 2 ^ (64 - s)) % BB := by
  have hB : BB = 2 ^ s * 2 ^ (64 - s) := by rw [← Nat.pow_add, show s + (64 - s) = 64 from by omega]; rfl
  have hp : 0 < 2 ^ s := Nat.pow_pos (by decide)
  have hp2 : 0 < 2 ^ (64 - s) := Nat.pow_pos (by decide)
  obtain ⟨q, hq⟩ : ∃ q, Q / BB = q := ⟨_, rfl⟩
  obtain ⟨r, hr⟩ : ∃ r, Q % BB = r := ⟨_, rfl⟩
  have hQ : Q = BB * q + r := by rw [← hq, ← hr]; exact (Nat.div_add_mod Q BB).symm
  have hrl : r < BB := by rw [← hr]; exact Nat.mod_lt _ BB_pos
  rw [hq, hr, Nat.mod_mul_mod]
  have h1 : Q / 2 ^ s = q * 2 ^ (64 - s) + r / 2 ^ s := by
    rw [hQ, show BB * q + r = 2 ^ s * (q * 2 ^ (64 - s)) + r from by rw [hB, Nat.mul_assoc, Nat.mul_comm q], Nat.mul_add_div hp]
  have h2 : r / 2 ^ s < 2 ^ (64 - s) := by rw [Nat.div_lt_iff_lt_mul hp, Nat.mul_comm, ← hB]; exact hrl
  obtain ⟨t, ht⟩ : ∃ t, q % 2 ^ s = t := ⟨_, rfl⟩
  have htl : t < 2 ^ s := by rw [← ht]; exact Nat.mod_lt _ hp
  have h3 : (q * 2 ^ (64 - s)) % BB = t * 2 ^ (64 - s) := by rw [hB, Nat.mul_mod_mul_right, ht]
  have h4 : t * 2 ^ (64 - s) + r / 2 ^ s < BB := by
    have : (t + 1) * 2 ^ (64 - s) ≤ 2 ^ s * 2 ^ (64 - s) := Nat.mul_le_mul_right _ htl
    rw [Nat.add_mul, Nat.one_mul, ← hB] at this
    omega
  rw [h1, Nat.add_mod, h3, Nat.mod_eq_of_lt (Nat.lt_of_le_of_lt (Nat.div_le_self _ _) hrl), Nat.mod_eq_of_lt h4, Nat.add_comm]
/-- A word of the number shifted down, by the words of the number. -/
theorem shr_get (X s i : Nat) (hs : 0 < s) (hs2 : s < 64) : X / 2 ^ s / BB ^ i % BB = (X / BB ^ i % BB) / 2 ^ s + ((X / BB ^ (i + 1) % BB) * 2 ^ (64 - s)) % BB := by
  rw [Nat.div_div_eq_div_mul, Nat.mul_comm, ← Nat.div_div_eq_div_mul, shr_word _ s hs hs2, Nat.div_div_eq_div_mul, Nat.pow_succ]
theorem shr_top (X s m : Nat) (h : X < BB ^ (m + 1)) : X / 2 ^ s / BB ^ m % BB = (X / BB ^ m % BB) / 2 ^ s := by
  have h1 : X / BB ^ m < BB := by rw [Nat.div_lt_iff_lt_mul (Nat.pow_pos BB_pos), ← Nat.pow_succ']; exact h
  rw [Nat.div_div_eq_div_mul, Nat.mul_comm, ← Nat.div_div_eq_div_mul, Nat.mod_eq_of_lt h1, Nat.mod_eq_of_lt (Nat.lt_of_le_of_lt (Nat.div_le_self _ _) h1)]
theorem dg_tail (X : Nat) : (dg X).drop 1 = dg (X / BB) := by
  by_cases h : X = 0
  · subst h; rw [Nat.zero_div, dg_zero]; rfl
  · rw [dg_pos (by omega)]; rfl
end Go.Proofs.Ythckboojmljeiaa.Rp
