/- Plain: a carry, a borrow going through digits. -/
import Derived.Test.YthckboojmljeiaaDg
namespace Go.Proofs.Ythckboojmljeiaa.Ad
set_option linter.unusedVariables false
set_option linter.unusedSimpArgs false
open Go.RowKit Go.Proofs.Ythckboojmljeiaa.Pl Go.Proofs.Ythckboojmljeiaa.Dg

theorem bbI : (BB : Int) = 18446744073709551616 := rfl
/-- Digits and a carry: the digits of the sum, the carry behind them. -/
def addl : List Int → Int → List Int × Int
  | [], c => ([], c)
  | x :: r, c => ((x + c) % (BB : Int) :: (addl r ((x + c) / (BB : Int))).1, (addl r ((x + c) / (BB : Int))).2)
/-- Digits and a borrow. -/
def subl : List Int → Int → List Int × Int
  | [], c => ([], c)
  | x :: r, c => ((x - c) % (BB : Int) :: (subl r (if x < c then 1 else 0)).1, (subl r (if x < c then 1 else 0)).2)
theorem addl_length (l : List Int) (c : Int) : (addl l c).1.length = l.length := by
  induction l generalizing c with
  | nil => rfl
  | cons x r ih => simp [addl, ih]
theorem subl_length (l : List Int) (c : Int) : (subl l c).1.length = l.length := by
  induction l generalizing c with
  | nil => rfl
  | cons x r ih => simp [subl, ih]
theorem addl_zero {l : List Int} (hd : DW l) : addl l 0 = (l, 0) := by
  induction l with
  | nil => rfl
  | cons x r ih =>
    obtain ⟨⟨h0, h1⟩, h2⟩ := hd.cons
    have e1 : (x + 0) % (BB : Int) = x := by rw [Int.add_zero]; exact Int.emod_eq_of_lt h0 h1
    have e2 : (x + 0) / (BB : Int) = 0 := by rw [Int.add_zero]; exact Int.ediv_eq_zero_of_lt h0 h1
    simp only [addl, e1, e2, ih h2]
theorem subl_zero {l : List Int} (hd : DW l) : subl l 0 = (l, 0) := by
  induction l with
  | nil => rfl
  | cons x r ih =>
    obtain ⟨⟨h0, h1⟩, h2⟩ := hd.cons
    have e1 : (x - 0) % (BB : Int) = x := by rw [Int.sub_zero]; exact Int.emod_eq_of_lt h0 h1
    simp only [subl, e1, if_neg (show ¬ x < 0 from by omega), ih h2]
theorem addl_append (a b : List Int) (c : Int) : addl (a ++ b) c = ((addl a c).1 ++ (addl b (addl a c).2).1, (addl b (addl a c).2).2) := by
  induction a generalizing c with
  | nil => rfl
  | cons x r ih => simp [addl, ih]
theorem subl_append (a b : List Int) (c : Int) : subl (a ++ b) c = ((subl a c).1 ++ (subl b (subl a c).2).1, (subl b (subl a c).2).2) := by
  induction a generalizing c with
  | nil => rfl
  | cons x r ih => simp [subl, ih]
theorem addl_dig (l : List Int) (c : Int) : DW (addl l c).1 := by
  induction l generalizing c with
  | nil => exact Dig.nil _
  | cons x r ih => exact Dig.mk (Int.emod_nonneg _ (by decide)) (Int.emod_lt_of_pos _ (by decide)) (ih _)
theorem subl_dig (l : List Int) (c : Int) : DW (subl l c).1 := by
  induction l generalizing c with
  | nil => exact Dig.nil _
  | cons x r ih => exact Dig.mk (Int.emod_nonneg _ (by decide)) (Int.emod_lt_of_pos _ (by decide)) (ih _)
theorem addl_carry (l : List Int) (c : Int) (hd : DW l) (h0 : 0 ≤ c) (h1 : c ≤ 1) : 0 ≤ (addl l c).2 ∧ (addl l c).2 ≤ 1 := by
  induction l generalizing c with
  | nil => exact ⟨h0, h1⟩
  | cons x r ih =>
    obtain ⟨⟨g0, g1⟩, g2⟩ := hd.cons
    have hq : (x + c) / (BB : Int) = 0 ∨ (x + c) / (BB : Int) = 1 := by rw [bbI] at *; omega
    simp only [addl]
    rcases hq with hq | hq <;> rw [hq] <;> exact ih _ g2 (by omega) (by omega)
theorem addl_val (l : List Int) (c : Int) : lv (BB : Int) (addl l c).1 + (BB : Int) ^ l.length * (addl l c).2 = lv (BB : Int) l + c := by
  induction l generalizing c with
  | nil => simp [addl, lv]
  | cons x r ih =>
    have h := ih ((x + c) / (BB : Int))
    have e := Int.emod_add_mul_ediv (x + c) (BB : Int)
    simp only [addl, lv, List.length_cons, Int.pow_succ]
    generalize lv (BB : Int) (addl r ((x + c) / (BB : Int))).1 = A at *
    generalize (addl r ((x + c) / (BB : Int))).2 = C at *
    generalize lv (BB : Int) r = L at *
    generalize (BB : Int) ^ r.length = P at *
    have h2 : (BB : Int) * (A + P * C) = (BB : Int) * (L + (x + c) / (BB : Int)) := by rw [h]
    rw [Int.mul_add, Int.mul_add] at h2
    have h3 : P * (BB : Int) * C = (BB : Int) * (P * C) := by rw [Int.mul_comm P, Int.mul_assoc]
    rw [h3]
    omega
theorem subl_val (l : List Int) (c : Int) (hd : DW l) (h0 : 0 ≤ c) (h1 : c ≤ 1) : lv (BB : Int) (subl l c).1 - (BB : Int) ^ l.length * (subl l c).2 = lv (BB : Int) l - c := by
  induction l generalizing c with
  | nil => simp [subl, lv]
  | cons x r ih =>
    obtain ⟨⟨g0, g1⟩, g2⟩ := hd.cons
    have h := ih (if x < c then 1 else 0) g2 (by split <;> omega) (by split <;> omega)
    have e : (x - c) % (BB : Int) = x - c + (BB : Int) * (if x < c then 1 else 0) := by
      rw [bbI] at *
      split <;> omega
    simp only [subl, lv, List.length_cons, Int.pow_succ]
    rw [e]
    generalize (if x < c then (1 : Int) else 0) = q at *
    generalize lv (BB : Int) (subl r q).1 = A at *
    generalize (subl r q).2 = C at *
    generalize lv (BB : Int) r = L at *
    generalize (BB : Int) ^ r.length = P at *
    have h2 : (BB : Int) * (A - P * C) = (BB : Int) * (L - q) := by rw [h]
    rw [Int.mul_sub, Int.mul_sub] at h2
    have h3 : P * (BB : Int) * C = (BB : Int) * (P * C) := by rw [Int.mul_comm P, Int.mul_assoc]
    rw [h3]
    omega

/-! ### as the loops go: while the carry is 1 -/
theorem addl_step (l : List Int) (c : Int) (i : Nat) (hi : i < l.length) : (addl (l.take (i + 1)) c).2 = (l.getD i 0 + (addl (l.take i) c).2) / (BB : Int) ∧ (addl l c).1.getD i 0 = (l.getD i 0 + (addl (l.take i) c).2) % (BB : Int) := by
  have e : l = l.take i ++ (l.getD i 0 :: l.drop (i + 1)) := by rw [← drop_getD l i hi, List.take_append_drop]
  refine ⟨?_, ?_⟩
  · rw [take_succ_getD l i hi, addl_append]
    simp [addl]
  · have hl : (addl (l.take i) c).1.length = i := by rw [addl_length, List.length_take]; omega
    conv => lhs; rw [e, addl_append]
    rw [List.getD_eq_getElem?_getD, List.getElem?_append_right (by omega), hl, Nat.sub_self]
    simp [addl]
theorem subl_step (l : List Int) (c : Int) (i : Nat) (hi : i < l.length) : (subl (l.take (i + 1)) c).2 = (if l.getD i 0 < (subl (l.take i) c).2 then 1 else 0) ∧ (subl l c).1.getD i 0 = (l.getD i 0 - (subl (l.take i) c).2) % (BB : Int) := by
  have e : l = l.take i ++ (l.getD i 0 :: l.drop (i + 1)) := by rw [← drop_getD l i hi, List.take_append_drop]
  refine ⟨?_, ?_⟩
  · rw [take_succ_getD l i hi, subl_append]
    simp [subl]
  · have hl : (subl (l.take i) c).1.length = i := by rw [subl_length, List.length_take]; omega
    conv => lhs; rw [e, subl_append]
    rw [List.getD_eq_getElem?_getD, List.getElem?_append_right (by omega), hl, Nat.sub_self]
    simp [subl]
/-- Behind a carry of 0 nothing turns. -/
theorem addl_rest (l : List Int) (c : Int) (i : Nat) (hd : DW l) (h : (addl (l.take i) c).2 = 0) : (addl l c).1.drop i = l.drop i ∧ (addl l c).2 = 0 := by
  have e : l = l.take i ++ l.drop i := (List.take_append_drop i l).symm
  by_cases hi : i ≤ l.length
  · have hl : (addl (l.take i) c).1.length = i := by rw [addl_length, List.length_take]; omega
    have h2 : addl l c = ((addl (l.take i) c).1 ++ l.drop i, 0) := by
      conv => lhs; rw [e]
      rw [addl_append, h, addl_zero (hd.drop i)]
    rw [h2]
    exact ⟨List.drop_left' hl, rfl⟩
  · rw [List.take_of_length_le (by omega)] at h
    exact ⟨by rw [List.drop_of_length_le (by rw [addl_length]; omega), List.drop_of_length_le (by omega)], h⟩
theorem subl_rest (l : List Int) (c : Int) (i : Nat) (hd : DW l) (h : (subl (l.take i) c).2 = 0) : (subl l c).1.drop i = l.drop i ∧ (subl l c).2 = 0 := by
  have e : l = l.take i ++ l.drop i := (List.take_append_drop i l).symm
  by_cases hi : i ≤ l.length
  · have hl : (subl (l.take i) c).1.length = i := by rw [subl_length, List.length_take]; omega
    have h2 : subl l c = ((subl (l.take i) c).1 ++ l.drop i, 0) := by
      conv => lhs; rw [e]
      rw [subl_append, h, subl_zero (hd.drop i)]
    rw [h2]
    exact ⟨List.drop_left' hl, rfl⟩
  · rw [List.take_of_length_le (by omega)] at h
    exact ⟨by rw [List.drop_of_length_le (by rw [subl_length]; omega), List.drop_of_length_le (by omega)], h⟩
/-- Laid to the end where the rest is as it was. -/
theorem lay_rest (cur : List Int) (o i n : Nat) (r : List Int) (hr : r.length = n) (hi : i ≤ n) (ho : o + n ≤ cur.length) (h : r.drop i = (cur.drop (o + i)).take (n - i)) : lay cur o i r = lay cur o n r := by
  unfold lay
  rw [show r.take n = r from List.take_of_length_le (by omega)]
  congr 1
  have e : r = r.take i ++ r.drop i := (List.take_append_drop i r).symm
  conv => rhs; rw [e, h]
  rw [List.append_assoc]
  congr 1
  have e2 : cur.drop (o + n) = (cur.drop (o + i)).drop (n - i) := by rw [List.drop_drop, show o + i + (n - i) = o + n from by omega]
  rw [e2, List.take_append_drop]
end Go.Proofs.Ythckboojmljeiaa.Ad
