/- Plain: bytes without noughts ahead. What the printed reference functions tell: Short, Turned, Store, Bits. -/
import Derived.Test.YthckboojmljeiaaBy
import Derived.Test.YthckboojmljeiaaEq
import Derived.Test.YthckboojmljeiaaPFnExactStorex2
namespace Go.Proofs.Ythckboojmljeiaa.Sp
set_option linter.unusedVariables false
set_option linter.unusedSimpArgs false
open Go.RowKit Go.Proofs.YthckboojmljeiaaW.PrintWords Go.Proofs.YthckboojmljeiaaW.PrintLast Go.Proofs.YthckboojmljeiaaW.PrintMore Go.Proofs.Ythckboojmljeiaa.Pl Go.Proofs.Ythckboojmljeiaa.Dg Go.Proofs.Ythckboojmljeiaa.By Go.Proofs.Ythckboojmljeiaa.PFnExactStore

/-! ### Digits of one number -/
theorem lv_inj {B : Int} (hB : 0 < B) {a b : List Int} (ha : Dig B a) (hb : Dig B b) (hl : a.length = b.length) (h : lv B a = lv B b) : a = b := by
  induction a generalizing b with
  | nil => exact (List.length_eq_zero_iff.1 hl.symm).symm
  | cons x a ih =>
    cases b with
    | nil => cases hl
    | cons y b =>
      obtain ⟨⟨x0, x1⟩, ha'⟩ := ha.cons
      obtain ⟨⟨y0, y1⟩, hb'⟩ := hb.cons
      simp only [lv] at h
      have e1 : (x + B * lv B a) % B = x := by rw [Int.add_mul_emod_self_left, Int.emod_eq_of_lt x0 x1]
      have e2 : (y + B * lv B b) % B = y := by rw [Int.add_mul_emod_self_left, Int.emod_eq_of_lt y0 y1]
      have e : x = y := by rw [← e1, ← e2, h]
      subst e
      have : B * lv B a = B * lv B b := by omega
      have := Int.eq_of_mul_eq_mul_left (by omega) this
      rw [ih ha' hb' (by simpa using hl) this]
theorem strip_zeros (k : Nat) (l : List Int) : strip (List.replicate k 0 ++ l) = strip l := by
  induction k with
  | zero => rfl
  | succ k ih => rw [List.replicate_succ, List.cons_append]; exact ih
theorem pad (l : List Int) (k : Nat) : strip (l ++ List.replicate k 0).reverse = strip l.reverse := by
  rw [List.reverse_append, List.reverse_replicate, strip_zeros]
theorem strip_eq {B : Int} (hB : 0 < B) {a b : List Int} (ha : Dig B a) (hb : Dig B b) (h : lv B a = lv B b) : strip a.reverse = strip b.reverse := by
  rw [← pad a b.length, ← pad b a.length]
  congr 2
  refine lv_inj hB (ha.append (Dig.replicate hB _)) (hb.append (Dig.replicate hB _)) (by simp; omega) ?_
  rw [lv_append, lv_append, lv_zeros, lv_zeros, h]
  simp

theorem le8_lv (v : Int) (h0 : 0 ≤ v) (h1 : v < 18446744073709551616) : lv 256 (le8 v) = v := by
  simp only [le8, show List.range 8 = [0, 1, 2, 3, 4, 5, 6, 7] from rfl, List.map_cons, List.map_nil, lv]
  rw [show (2 : Int) ^ (8 * 0) = 1 from by decide, show (2 : Int) ^ (8 * 1) = 256 from by decide, show (2 : Int) ^ (8 * 2) = 65536 from by decide, show (2 : Int) ^ (8 * 3) = 16777216 from by decide, show (2 : Int) ^ (8 * 4) = 4294967296 from by decide, show (2 : Int) ^ (8 * 5) = 1099511627776 from by decide, show (2 : Int) ^ (8 * 6) = 281474976710656 from by decide, show (2 : Int) ^ (8 * 7) = 72057594037927936 from by decide]
  omega
theorem low_lv (l : List Int) (hd : DW l) : lv 256 (low l) = lv (BB : Int) l := by
  induction l with
  | nil => rfl
  | cons v r ih =>
    obtain ⟨⟨h0, h1⟩, h2⟩ := hd.cons
    simp only [low, lv]
    rw [lv_append, le8_length, le8_lv v h0 h1, ih h2]
    rfl
/-- The bytes of a number, the highest first, are those of any of its digits. -/
theorem bytes_of {l : List Int} (hd : Dig 256 l) (n : Nat) (hn : lv 256 l = (n : Int)) : strip (low (dg n)).reverse = strip l.reverse := by
  refine strip_eq (by omega) (low_dig _) hd ?_
  rw [low_lv _ (dg_dig n), lv_dg, hn]

/-! ### The printed reference functions -/
theorem strip_length_le (l : List Int) : (strip l).length ≤ l.length := by
  unfold strip
  exact (List.dropWhile_sublist _).length_le
theorem short_l0 (l : List Int) (hl : l.length ≤ 100000) : ∀ k, l.length < k → spec_Short.l0 k l = some (strip l) := by
  induction l with
  | nil =>
    intro k hk
    obtain ⟨k, rfl⟩ : ∃ m, k = m + 1 := ⟨k - 1, by omega⟩
    simp [spec_Short.l0, strip]
  | cons x r ih =>
    intro k hk
    obtain ⟨k, rfl⟩ : ∃ m, k = m + 1 := ⟨k - 1, by omega⟩
    simp only [spec_Short.l0]
    simp only [List.length_cons] at hl hk
    rw [if_pos (by simp only [List.length_cons]; omega), if_pos (by simp only [List.length_cons]; omega), show rd (x :: r) 0 = x from by simp [rd]]
    by_cases h : x = 0
    · subst h
      rw [if_pos rfl, if_pos (by simp only [List.length_cons]; omega), List.drop_one, List.tail_cons, ih (by omega) k (by omega)]
      rfl
    · rw [if_neg h]
      simp only [Option.bind_some]
      rw [if_pos (by simp; omega)]
      unfold strip
      rw [List.dropWhile_cons, if_neg (by simpa using h)]
      rfl
theorem short_eq (l : List Int) (hl : l.length ≤ 100000) (k : Nat) (hk : l.length < k) : spec_Short.f k l = some (strip l) := short_l0 l hl k hk
theorem turned_l0 (l : List Int) (hl : l.length ≤ 100000) : ∀ (i k : Nat) (acc : List Int), i ≤ l.length → acc.length + i ≤ 100000 → i < k →
    spec_Turned.l0 k l acc ((i : Int) - 1) = some (acc ++ (l.take i).reverse) := by
  intro i
  induction i with
  | zero =>
    intro k acc _ _ hk
    obtain ⟨k, rfl⟩ : ∃ m, k = m + 1 := ⟨k - 1, by omega⟩
    simp only [spec_Turned.l0]
    rw [if_neg (by omega)]
    simp
  | succ i ih =>
    intro k acc h1 h2 hk
    obtain ⟨k, rfl⟩ : ∃ m, k = m + 1 := ⟨k - 1, by omega⟩
    simp only [spec_Turned.l0]
    rw [show ((i + 1 : Nat) : Int) - 1 = (i : Int) from by omega, if_pos (by omega), if_pos (by omega), if_pos (by omega), if_pos (by omega), w64 (by omega) (by omega), show rd l (i : Int) = l.getD i 0 from by simp [rd]]
    rw [ih k _ (by omega) (by simp; omega) (by omega), take_succ_getD l i (by omega)]
    simp
theorem turned_eq (l : List Int) (hl : l.length ≤ 100000) (k : Nat) (hk : l.length < k) : spec_Turned.f k l = some l.reverse := by
  unfold spec_Turned.f
  rw [w64 (by omega) (by omega), turned_l0 l hl l.length _ [] (by omega) (by simpa using hl) (by omega)]
  simp

/-- What Store answers. -/
def storeL (buf n : List Int) (minus : Bool) : List Int :=
  if buf.length < (strip n).length ∨ (minus = true ∧ 0 < (strip n).length) then buf else (strip n).reverse ++ List.replicate (buf.length - (strip n).length) 0
theorem store_eq (buf n : List Int) (minus : Bool) (hb : buf.length ≤ 10000) (hn : n.length ≤ 10000) (k : Nat) (hk : n.length < k) : spec_Store.f k buf n minus = some (storeL buf n minus) := by
  have h1 := strip_length_le n
  unfold spec_Store.f storeL
  rw [short_eq n (by omega) k hk]
  simp only [Option.bind_some]
  rw [turned_eq _ (by omega) k (by omega)]
  simp only [Option.bind_some, List.length_reverse, List.length_nil, List.nil_append]
  by_cases h : buf.length < (strip n).length
  · rw [if_pos (by omega), if_pos (by omega), if_pos (.inl h)]
  · rw [if_neg (by omega), w64 (by omega) (by omega)]
    have e : ((buf.length : Int) - ((strip n).length : Int)).toNat = buf.length - (strip n).length := by omega
    rw [e]
    by_cases hm : minus = true
    · rw [if_pos hm]
      by_cases h0 : 0 < (strip n).length
      · rw [if_pos (by omega), if_pos (by omega), if_pos (.inr ⟨hm, h0⟩)]
      · rw [if_neg (by omega), if_pos (by omega), if_pos (by omega), if_neg (by rintro (h3 | h3); exact h h3; exact h0 h3.2)]
    · rw [if_neg hm, if_pos (by omega), if_pos (by omega), if_neg (by rintro (h3 | h3); exact h h3; exact hm h3.1)]

/-! ### Their calls -/
/-- A slice of bytes comes back, made anew, that reads l. -/
def Rd8 (w : World) (l : List Int) (e : Ending) (w' : World) : Prop := ∃ A c, e = .returned (.slice A l.length c) ∧ l.length ≤ c ∧ Kd.C (Kd.int .u8) w' A l.length l ∧ Below w.heap.size w w'
theorem short_call (A : Option Addr) (c : Nat) (l : List Int) (w : World) (hr : Kd.C (Kd.int .u8) w A l.length l) (hc : l.length ≤ c) (hl : l.length ≤ 100000) :
    Calls Try.prog 15 #[.slice A l.length c] w (Rd8 w (strip l)) := by
  refine (spec_Short.calls (l.length + 1) (fun _ => True) A c l (strip l) w (Kd.V_mk hc (Kd.F_mono (Kd.C_F (Kd.heap_int .u8) hr) (fun _ _ => trivial))) (short_eq l hl _ (by omega))).mono ?_
  rintro e w' ⟨v, rfl, h1, h2⟩
  obtain ⟨A2, c2, rfl, h3, h4⟩ := Kd.R_reads h1
  exact ⟨A2, c2, rfl, h3, h4, h2⟩
theorem turned_call (A : Option Addr) (c : Nat) (l : List Int) (w : World) (hr : Kd.C (Kd.int .u8) w A l.length l) (hc : l.length ≤ c) (hl : l.length ≤ 100000) :
    Calls Try.prog 16 #[.slice A l.length c] w (Rd8 w l.reverse) := by
  refine (spec_Turned.calls (l.length + 1) A c l l.reverse w hr hc (turned_eq l hl _ (by omega))).mono ?_
  rintro e w' ⟨v, rfl, h1, h2⟩
  obtain ⟨A2, c2, rfl, h3, h4⟩ := Kd.R_reads h1
  exact ⟨A2, c2, rfl, h3, h4, h2⟩
theorem store_call (A : Option Addr) (c : Nat) (l : List Int) (A1 : Option Addr) (c1 : Nat) (n : List Int) (b : Bool) (w : World) (hr : Kd.C (Kd.int .u8) w A l.length l) (hc : l.length ≤ c) (hl : l.length ≤ 10000) (hr1 : Kd.C (Kd.int .u8) w A1 n.length n) (hc1 : n.length ≤ c1) (hl1 : n.length ≤ 10000) :
    Calls Try.prog 18 #[.slice A l.length c, .slice A1 n.length c1, .bool b] w (Rd8 w (storeL l n b)) := by
  refine (spec_Store.calls (n.length + 1) A c l A1 c1 n b (storeL l n b) w hr hc hr1 hc1 (store_eq l n b hl hl1 _ (by omega))).mono ?_
  rintro e w' ⟨v, rfl, h1, h2⟩
  obtain ⟨A2, c2, rfl, h3, h4⟩ := Kd.R_reads h1
  exact ⟨A2, c2, rfl, h3, h4, h2⟩
end Go.Proofs.Ythckboojmljeiaa.Sp
