/- Plain: the digits of a number with a window, of which few are not 0; Walk: OmegaNAF; Walk: impl.Apart. The law FnApart. -/
import Derived.Test.YthckboojmljeiaaMgk
import Derived.Deep.Cut
import Derived.Test.YthckboojmljeiaaMgm
import Derived.Test.YthckboojmljeiaaPq
namespace Go.Proofs.Ythckboojmljeiaa.Op
set_option linter.unusedVariables false
set_option linter.unusedSimpArgs false
open Go.RowKit Go.Proofs.Ythckboojmljeiaa.Pl Go.Proofs.Ythckboojmljeiaa.Dg Go.Proofs.Ythckboojmljeiaa.Kp

/-- The digit of what is left. -/
def naD (s K : Nat) : Int := if K % 2 = 1 then (if K % 2 ^ (s + 1) < 2 ^ s then ((K % 2 ^ (s + 1) : Nat) : Int) else ((K % 2 ^ (s + 1) : Nat) : Int) - ((2 ^ (s + 1) : Nat) : Int)) else 0
/-- What is left behind it. -/
def naN (s K : Nat) : Nat := if K % 2 = 1 then (if K % 2 ^ (s + 1) < 2 ^ s then 2 ^ s * (K / 2 ^ (s + 1)) else 2 ^ s * (K / 2 ^ (s + 1) + 1)) else K / 2
def naK (s X : Nat) : Nat → Nat
  | 0 => X
  | i + 1 => naN s (naK s X i)
/-- The first m digits. -/
def naL (s X m : Nat) : List Int := (List.range m).map fun i => naD s (naK s X i)
theorem naL_length (s X m : Nat) : (naL s X m).length = m := by simp [naL]
theorem naL_get (s X m i : Nat) (h : i < m) : (naL s X m).getD i 0 = naD s (naK s X i) := by
  simp [naL, List.getD_eq_getElem?_getD, h]
theorem na_eq (s K : Nat) : (K : Int) = naD s K + 2 * (naN s K : Int) := by
  have h := Nat.div_add_mod K (2 ^ (s + 1))
  have hp : 2 ^ (s + 1) = 2 * 2 ^ s := Nat.pow_succ'
  unfold naD naN
  obtain ⟨q, hq⟩ : ∃ q, K / 2 ^ (s + 1) = q := ⟨_, rfl⟩
  obtain ⟨r, hr⟩ : ∃ q, K % 2 ^ (s + 1) = q := ⟨_, rfl⟩
  obtain ⟨Q, hQ⟩ : ∃ q, 2 ^ s = q := ⟨_, rfl⟩
  rw [hq, hr] at h
  rw [hq, hr, hQ]
  rw [hp, hQ] at h ⊢
  obtain ⟨m, hm⟩ : ∃ m, Q * q = m := ⟨_, rfl⟩
  have e1 : 2 * Q * q = 2 * m := by rw [Nat.mul_assoc, hm]
  have e2 : Q * (q + 1) = m + Q := by rw [Nat.mul_add, hm, Nat.mul_one]
  rw [e1] at h
  rw [e2, hm]
  split
  · split <;> omega
  · omega
theorem na_next_le (s K a : Nat) (hs : 1 ≤ s) (ha : 1 ≤ a) (h : K ≤ 2 ^ a) : naN s K ≤ 2 ^ (a - 1) := by
  have he : 2 ^ a = 2 * 2 ^ (a - 1) := by rw [← Nat.pow_succ']; congr 1; omega
  have hq := na_eq s K
  unfold naD naN at *
  by_cases h1 : K % 2 = 1
  · rw [if_pos h1] at hq ⊢
    rw [if_pos h1] at hq
    by_cases h2 : K % 2 ^ (s + 1) < 2 ^ s
    · rw [if_pos h2] at hq ⊢
      rw [if_pos h2] at hq
      obtain ⟨N, hN⟩ : ∃ N, 2 ^ s * (K / 2 ^ (s + 1)) = N := ⟨_, rfl⟩
      rw [hN] at hq ⊢
      omega
    · rw [if_neg h2]
      have hlt : K < 2 ^ a := by omega
      by_cases h3 : a ≤ s
      · exfalso
        have h4 : 2 ^ a ≤ 2 ^ s := Nat.pow_le_pow_right (by omega) h3
        have h5 : K % 2 ^ (s + 1) ≤ K := Nat.mod_le _ _
        omega
      · have h6 : K / 2 ^ (s + 1) < 2 ^ (a - (s + 1)) := by
          rw [Nat.div_lt_iff_lt_mul (Nat.pow_pos (by decide)), ← Nat.pow_add, show a - (s + 1) + (s + 1) = a from by omega]
          exact hlt
        have h7 : 2 ^ s * (K / 2 ^ (s + 1) + 1) ≤ 2 ^ s * 2 ^ (a - (s + 1)) := Nat.mul_le_mul_left _ h6
        rw [← Nat.pow_add, show s + (a - (s + 1)) = a - 1 from by omega] at h7
        exact h7
  · rw [if_neg h1]
    omega
theorem na_small (s K : Nat) (hs : 1 ≤ s) (h : K ≤ 1) : naN s K = 0 := by
  have h2 : 2 ^ 1 ≤ 2 ^ s := Nat.pow_le_pow_right (by omega) hs
  have hp : 2 ^ (s + 1) = 2 * 2 ^ s := Nat.pow_succ'
  unfold naN
  have e1 : K % 2 ^ (s + 1) = K := Nat.mod_eq_of_lt (by omega)
  have e2 : K / 2 ^ (s + 1) = 0 := Nat.div_eq_of_lt (by omega)
  rw [e1, e2, if_pos (show K < 2 ^ s by omega), Nat.mul_zero]
  split
  · rfl
  · omega
theorem naK_le (s X b : Nat) (hs : 1 ≤ s) (h : X < 2 ^ b) (i : Nat) (hi : i ≤ b) : naK s X i ≤ 2 ^ (b - i) := by
  induction i with
  | zero => simp only [naK, Nat.sub_zero]; omega
  | succ i ih =>
    have := na_next_le s (naK s X i) (b - i) hs (by omega) (ih (by omega))
    simp only [naK]
    rw [show b - (i + 1) = b - i - 1 from by omega]
    exact this
theorem naK_end (s X b : Nat) (hs : 1 ≤ s) (h : X < 2 ^ b) : naK s X (b + 1) = 0 := by
  have := naK_le s X b hs h b (Nat.le_refl _)
  rw [Nat.sub_self, Nat.pow_zero] at this
  simp only [naK]
  exact na_small s _ hs this
theorem least (P : Nat → Prop) [DecidablePred P] (n : Nat) : (∃ m, m ≤ n ∧ P m ∧ ∀ j, j < m → ¬ P j) ∨ ∀ j, j ≤ n → ¬ P j := by
  induction n with
  | zero =>
    by_cases h : P 0
    · exact .inl ⟨0, Nat.le_refl _, h, fun j hj => by omega⟩
    · exact .inr fun j hj => by have : j = 0 := by omega
                                subst this
                                exact h
  | succ n ih =>
    rcases ih with ⟨m, h1, h2⟩ | h1
    · exact .inl ⟨m, by omega, h2⟩
    · by_cases h : P (n + 1)
      · exact .inl ⟨n + 1, Nat.le_refl _, h, fun j hj => h1 j (by omega)⟩
      · exact .inr fun j hj => by
          by_cases e : j = n + 1
          · subst e; exact h
          · exact h1 j (by omega)
/-- How many digits there are. -/
theorem na_count (s X b : Nat) (hs : 1 ≤ s) (h : X < 2 ^ b) : ∃ m, m ≤ b + 1 ∧ naK s X m = 0 ∧ ∀ j, j < m → 0 < naK s X j := by
  rcases least (fun j => naK s X j = 0) (b + 1) with ⟨m, h1, h2, h3⟩ | h1
  · exact ⟨m, h1, h2, fun j hj => Nat.pos_of_ne_zero (h3 j hj)⟩
  · exact absurd (naK_end s X b hs h) (h1 (b + 1) (Nat.le_refl _))
theorem naD_in (s K : Nat) (hs : 1 ≤ s) (h : K % 2 = 1) : naD s K % 2 = 1 ∧ -((2 ^ s : Nat) : Int) < naD s K ∧ naD s K < ((2 ^ s : Nat) : Int) := by
  have hq := na_eq s K
  have he : (2 ^ s : Nat) % 2 = 0 := by
    rw [show s = (s - 1) + 1 from by omega, Nat.pow_succ]
    exact Nat.mul_mod_left _ _
  have hp : 2 ^ (s + 1) = 2 * 2 ^ s := Nat.pow_succ'
  have hr := Nat.mod_lt K (show 0 < 2 ^ (s + 1) from Nat.pow_pos (by decide))
  have h1 : naD s K % 2 = 1 := by omega
  refine ⟨h1, ?_⟩
  clear hq
  unfold naD at h1 ⊢
  rw [if_pos h] at h1 ⊢
  obtain ⟨r, hr2⟩ : ∃ q, K % 2 ^ (s + 1) = q := ⟨_, rfl⟩
  obtain ⟨Q, hQ⟩ : ∃ q, 2 ^ s = q := ⟨_, rfl⟩
  rw [hr2] at h1 hr ⊢
  rw [hp] at h1 hr ⊢
  rw [hQ] at h1 hr he ⊢
  split
  · rename_i h3
    rw [if_pos h3] at h1
    omega
  · rename_i h3
    rw [if_neg h3] at h1
    omega
theorem naD_zero (s K : Nat) (h : ¬ K % 2 = 1) : naD s K = 0 := by unfold naD; rw [if_neg h]
theorem naD_bd (s K : Nat) (hs1 : 1 ≤ s) (hs2 : s ≤ 30) : -1073741824 ≤ naD s K ∧ naD s K ≤ 1073741824 := by
  obtain ⟨_, h3, _, _⟩ := pow_bounds s hs1 hs2
  by_cases h : K % 2 = 1
  · obtain ⟨_, h1, h2⟩ := naD_in s K hs1 h
    omega
  · rw [naD_zero s K h]
    omega
theorem na_sum (s X i : Nat) : lv 2 (naL s X i) + 2 ^ i * (naK s X i : Int) = (X : Int) := by
  induction i with
  | zero => simp [lv, naK, naL]
  | succ i ih =>
    have h := na_eq s (naK s X i)
    have e : naL s X (i + 1) = naL s X i ++ [naD s (naK s X i)] := by simp [naL, List.range_succ]
    rw [e, lv_snoc, naL_length, ← ih, Int.pow_succ, Int.mul_assoc, Int.add_assoc, ← Int.mul_add]
    congr 2
    exact h.symm
theorem naL_sum (s X m : Nat) (h : naK s X m = 0) : lv 2 (naL s X m) = (X : Int) := by
  have := na_sum s X m
  rw [h] at this
  simpa using this
end Go.Proofs.Ythckboojmljeiaa.Op
namespace Go.Proofs.Ythckboojmljeiaa.Ok
set_option linter.unusedVariables false
set_option linter.unusedSimpArgs false
open Go.RowKit Go.Proofs.YthckboojmljeiaaW.PrintWords Go.Proofs.YthckboojmljeiaaW.PrintLast Go.Proofs.YthckboojmljeiaaW.PrintMore Go.Proofs.Ythckboojmljeiaa.Pl Go.Proofs.Ythckboojmljeiaa.Dg Go.Proofs.Ythckboojmljeiaa.Mem Go.Proofs.Ythckboojmljeiaa.Na Go.Proofs.Ythckboojmljeiaa.Nb Go.Proofs.Ythckboojmljeiaa.Nu Go.Proofs.Ythckboojmljeiaa.In Go.Proofs.Ythckboojmljeiaa.Tw Go.Proofs.Ythckboojmljeiaa.Tr Go.Proofs.Ythckboojmljeiaa.Be Go.Proofs.Ythckboojmljeiaa.Ow Go.Proofs.Ythckboojmljeiaa.Bl Go.Proofs.Ythckboojmljeiaa.Bn Go.Proofs.Ythckboojmljeiaa.Rp Go.Proofs.Ythckboojmljeiaa.Rs Go.Proofs.Ythckboojmljeiaa.Ir Go.Proofs.Ythckboojmljeiaa.Ni Go.Proofs.Ythckboojmljeiaa.Is Go.Proofs.Ythckboojmljeiaa.Ia Go.Proofs.Ythckboojmljeiaa.Kp Go.Proofs.Ythckboojmljeiaa.Kw Go.Proofs.Ythckboojmljeiaa.Op

theorem odd_nums (P Q r N K : Nat) (y : Int) (h1 : r < P) (h2 : P = 2 * Q) (hQ1 : 2 ≤ Q) (hQ2 : Q ≤ 1073741824) (hdef : y = if r < Q then (r : Int) else (r : Int) - (P : Int)) (hq : (K : Int) = y + 2 * (N : Int)) :
    y ≤ (K : Int) ∧ (K : Int) - y = ((2 * N : Nat) : Int) ∧ wrap32 y = y ∧ (¬ ((Q : Int) ≤ (r : Int)) → (r : Int) = y) ∧ ((Q : Int) ≤ (r : Int) → wrap32 ((r : Int) - wrap32 (P : Int)) = y) ∧ -1073741824 ≤ y ∧ y ≤ 1073741824 := by
  by_cases h : r < Q
  · rw [if_pos h] at hdef
    exact ⟨by omega, by omega, IntWalk.wrap32_in _ (by omega), fun _ => by omega, fun e => by omega, by omega, by omega⟩
  · rw [if_neg h] at hdef
    exact ⟨by omega, by omega, IntWalk.wrap32_in _ (by omega), fun _ => by omega, fun e => by rw [hdef]; unfold wrap32; omega, by omega, by omega⟩
/-- What an odd round reckons. -/
theorem odd_facts (s K : Nat) (hs1 : 1 ≤ s) (hs2 : s ≤ 30) (ho : K % 2 = 1) : ∃ (P Q r T : Nat) (y p : Int), Hid (K % BB = T) ∧ Hid (naD s K = y) ∧ Hid (y ≤ (K : Int)) ∧ Hid ((K : Int) - y = ((2 * naN s K : Nat) : Int)) ∧
    Hid (bits .and .u64 (T : Int) ((P : Int) - 1) = (r : Int)) ∧ Hid (IntKind.u64.wrap (2 ^ (s + 1)) = (P : Int)) ∧ Hid (wrap32 (2 ^ s) = (Q : Int)) ∧ Hid (wrap32 y = y) ∧ Hid (wrap32 (r : Int) = (r : Int)) ∧ Hid (wrap32 (2 ^ (s + 1)) = p) ∧ Hid (¬ ((Q : Int) ≤ (r : Int)) → (r : Int) = y) ∧ Hid ((Q : Int) ≤ (r : Int) → wrap32 ((r : Int) - p) = y) ∧
    (r : Int) < 2147483648 ∧ (P : Int) ≤ 2147483648 ∧ (1 : Int) ≤ (P : Int) ∧ -1073741824 ≤ y ∧ y ≤ 1073741824 := by
  obtain ⟨P, Q, r, y0, hPP, hQQ, hrr, hy0, hrl, hPQ, hQ1, hQ2, b9⟩ := sd_pack s K hs1 hs2
  obtain ⟨n1, n2, n3, n4, n5, n6, n7, n8, n9, n10, n11⟩ := round_nums P Q r y0 hrl hPQ hQ1 hQ2 b9
  have hdef : naD s K = if r < Q then (r : Int) else (r : Int) - (P : Int) := by
    unfold naD
    rw [if_pos ho, hrr, hQQ, hPP]
  obtain ⟨q1, q2, q3, q4, q5, q6, q7⟩ := odd_nums P Q r (naN s K) K (naD s K) hrl hPQ hQ1 hQ2 hdef (na_eq s K)
  have hr := and_pow (K % BB) (s + 1) (Nat.mod_lt _ BB_pos) (by omega)
  rw [show K % BB % 2 ^ (s + 1) = K % 2 ^ (s + 1) from Nat.mod_mod_of_dvd _ (by rw [BB_pow]; exact Nat.pow_dvd_pow 2 (by omega)), hrr, hPP] at hr
  have hw1 : IntKind.u64.wrap (2 ^ (s + 1)) = (P : Int) := by rw [pow_cast2, hPP]; exact n1
  have hw3 : wrap32 (2 ^ s) = (Q : Int) := by rw [pow_cast2, hQQ]; exact n2
  have hw6 : wrap32 (2 ^ (s + 1)) = wrap32 (P : Int) := by rw [pow_cast2, hPP]
  exact ⟨P, Q, r, K % BB, naD s K, wrap32 (P : Int), rfl, rfl, q1, q2, hr, hw1, hw3, q3, n4, hw6, q4, q5, n5, n7, n8, q6, q7⟩

set_option maxHeartbeats 2000000 in
set_option maxRecDepth 100000 in
theorem naf_any {w : World} {p0 : Nat} {v0 : Value} {X s m : Nat} (h : Iz w p0 v0 (X : Int)) (hs1 : 1 ≤ s) (hs2 : s ≤ 30) (hXl : bln X ≤ 10000) (hm0 : naK s X m = 0) (hmp : ∀ j, j < m → 0 < naK s X j) (hmb : m ≤ bln X + 1) :
    Calls Try.prog 43 #[.pointer (some ⟨p0, 0, none⟩), .int .u64 ((s : Int) + 1)] w (Rd32 w (naL s X m)) := by
  have HEnd := Lib.hid hm0
  have hKdg : ∀ i, (dg (naK s X i)).length ≤ 800000 := fun i => by
    by_cases hi : i ≤ bln X
    · have h1 := naK_le s X (bln X) hs1 (bln_lt X) i hi
      have h2 := dg_len_pow (naK s X i) (bln X + 1) (Nat.lt_of_le_of_lt h1 (Nat.pow_lt_pow_right (by omega) (by omega)))
      omega
    · by_cases him : i < m
      · omega
      · have : ∀ t, naK s X (m + t) = 0 := fun t => by
          induction t with
          | zero => exact hm0
          | succ t ih => rw [Nat.add_succ]; simp only [naK]; rw [ih]; exact na_small s 0 hs1 (by omega)
        have h3 := this (i - m)
        rw [show m + (i - m) = i from by omega] at h3
        rw [h3, dg_zero]
        exact Nat.zero_le _
  have hXdg := hKdg 0
  simp only [naK] at hXdg
  have HL := Lib.hid (intBitLen h)
  have HS := Lib.hid (intSign h)
  rw [Int.natAbs_natCast] at HL
  have hsg : (0 : Int) ≤ (X : Int).sign := Int.sign_nonneg_iff.2 (by omega)
  obtain ⟨sg, hsgn⟩ : ∃ sg, (X : Int).sign = sg := ⟨_, rfl⟩
  rw [hsgn] at HS hsg
  have hsg2 : ¬ sg < 0 := by omega
  obtain ⟨b, hb⟩ : ∃ b, bln X = b := ⟨_, rfl⟩
  rw [hb] at HL hXl hmb
  have hmk := run_mk32 .i64 ((b : Int) + 1) w (by omega) (by omega)
  rw [show ((b : Int) + 1).toNat = b + 1 from by omega] at hmk
  obtain ⟨wl, hwl⟩ : ∃ wl, w.alloc (.cells (madeCells #[.int .i32 0] (b + 1)) 21) = wl := ⟨_, rfl⟩
  have hOw : Ow .i32 I w.heap.size w.heap.size (b + 1) (List.replicate (b + 1) 0) wl := by
    rw [← hwl]
    exact Ow.made w .i32 I (b + 1) (by unfold maxLen; omega)
  have hsz : wl.heap.size = w.heap.size + 1 := by rw [← hwl]; simp
  have hbl : Below w.heap.size w wl := by rw [← hwl]; exact (Below.refl _ _).alloc (Nat.le_refl _) _
  have hIz : Iz wl p0 v0 (X : Int) := It.kept h (S := fun _ => False) (Chg.of_below hbl) (fun e => e) (fun g hg e => e)
  have hp0 := h.lt
  rw [hwl] at hmk
  have hset : Calls Try.prog 59 #[.pointer (some ⟨wl.heap.size, 0, none⟩), .pointer (some ⟨p0, 0, none⟩)] ((wl.alloc (.cells #[.bool false, .slice none 0 0] 64)).alloc (.cells #[.bool false, .slice none 0 0] 64)) fun e w' => e = .returned (.pointer (some ⟨wl.heap.size, 0, none⟩)) ∧ Upd ((wl.alloc (.cells #[.bool false, .slice none 0 0] 64)).alloc (.cells #[.bool false, .slice none 0 0] 64)) wl.heap.size (.slice none 0 0) (X : Int) w' := by
    have h2 : Iz ((wl.alloc (.cells #[.bool false, .slice none 0 0] 64)).alloc (.cells #[.bool false, .slice none 0 0] 64)) p0 v0 (X : Int) := It.kept hIz (S := fun _ => False) (((Chg.refl _ _).alloc _).alloc _) (fun e => e) (fun g hg e => e)
    exact intSet (Two.made wl).iz h2 (Ap.nil _) (by omega) (by rw [Int.natAbs_natCast]; omega)
  have hpr : Pr wl.heap.size ((wl.alloc (.cells #[.bool false, .slice none 0 0] 64)).alloc (.cells #[.bool false, .slice none 0 0] 64)) wl.heap.size (wl.heap.size + 1) (.slice none 0 0) (.slice none 0 0) 0 0 := Pr.of_two (Two.made wl)
  obtain ⟨R, hR⟩ : ∃ R, naL s X m ++ List.replicate (b + 1 - m) 0 = R := ⟨_, rfl⟩
  have hRl : R.length = b + 1 := by rw [← hR, List.length_append, naL_length, List.length_replicate]; omega
  have hR1 : ∀ i, i < m → R.getD i 0 = naD s (naK s X i) := fun i hi => by
    rw [← hR, List.getD_eq_getElem?_getD, List.getElem?_append_left (by rw [naL_length]; exact hi), ← List.getD_eq_getElem?_getD, naL_get _ _ _ _ hi]
  have hR2 : R.take m = naL s X m := by rw [← hR]; exact List.take_left' (naL_length _ _ _)
  have hL0 : Lr .i32 I wl ((wl.alloc (.cells #[.bool false, .slice none 0 0] 64)).alloc (.cells #[.bool false, .slice none 0 0] 64)) w.heap.size w.heap.size (b + 1) (b + 1) R 0 :=
    Lr.chg (S := fun _ => False) (wr := wl) ⟨_, hOw, rfl, grownBy_refl _ _⟩ (((Chg.refl _ _).alloc _).alloc _) (fun k e => e.elim) (by omega)
  have HNL := Lib.hid (naL_length s X m)
  obtain ⟨D, hD⟩ : ∃ D, naL s X m = D := ⟨_, rfl⟩
  rw [hD] at hR2 HNL ⊢
  have HSet := Lib.hid hset
  have HPr := Lib.hid hpr
  have HL0 := Lib.hid hL0
  have HRl := Lib.hid hRl
  have HR1 := Lib.hid hR1
  have HR2 := Lib.hid hR2
  have HBl := Lib.hid hbl
  have HSz := Lib.hid hsz
  have HPos := Lib.hid hmp
  have HDg := Lib.hid hKdg
  clear hset hpr hL0 hRl hR1 hR2 hbl hmp hKdg hXdg hOw hIz h hm0 hR hb hsz hsgn hD
  have f1 : ¬ ((s : Int) + 1 ≤ 1) := by omega
  have f2 : ¬ ((s : Int) ≤ 0) := by omega
  have f3 : (s : Int) ≤ 30 := by omega
  have f4 : (1 : Int) ≤ (s : Int) := by omega
  have f5 : (b : Int) ≤ 10000 := by omega
  go_enter Try.func43, Try.ntmps43
  go_wp2_with fail
  refine HS.out.mono ?_
  rintro e w1 ⟨rfl, rfl⟩
  go_wp2_with fail
  refine HL.out.mono ?_
  rintro e w1 ⟨rfl, rfl⟩
  go_wp2_with fail
  refine HSet.out.mono ?_
  rintro e w2 ⟨rfl, hu⟩
  have hsw : wl.heap.size ≤ w2.heap.size := by
    obtain ⟨_, _, i2, _⟩ := hu
    have := i2.size
    simp at this
    omega
  obtain ⟨v1, hp1⟩ := HPr.out.updP (by simp; omega) hu
  have hL1 := HL0.out.chg (HPr.out.chgP hu) (fun k e => e) (by have := HSz.out; omega)
  have HP1 := Lib.hid hp1
  have HL1 := Lib.hid hL1
  clear hu hsw hp1 hL1 HSet HPr HL0 hp0
  go_wp2_with fail
  go_loopw [7] (fun t wr => ∃ (i : Nat) (va ua : Value) (zi : Int), i ≤ m ∧ t = .int .i64 (i : Int) ∧ Hid (Lr .i32 I wl wr w.heap.size w.heap.size (b + 1) (b + 1) R i ∧ Pr wl.heap.size wr wl.heap.size (wl.heap.size + 1) va ua ((naK s X i : Nat) : Int) zi)) (fun t _ => m - (intOf t).toNat)
  case atStart => exact ⟨0, _, _, 0, by omega, rfl, HL1.out, HP1.out⟩
  case round =>
    clear HP1 HL1
    obtain ⟨i, va, ua, zi, hi, rfl, HI⟩ := hrel
    by_cases hlt : i < m
    · have hK0 := HPos.out i hlt
      have HRi := Lib.hid (HR1.out i hlt)
      have HDi := Lib.hid (HDg.out i)
      have HNx := Lib.hid (show naK s X (i + 1) = naN s (naK s X i) from rfl)
      obtain ⟨K, hK⟩ : ∃ K, naK s X i = K := ⟨_, rfl⟩
      rw [hK] at hK0 HRi HDi HI HNx
      clear hK
      have hP := HI.out.2
      have hv := hP.iz.2
      rw [Int.natAbs_natCast] at hv
      have hsgn := intSign hP.iz
      rw [Int.sign_eq_one_of_pos (by omega)] at hsgn
      have HSgn := Lib.hid hsgn
      have HBit := Lib.hid (intBit0 hP.iz hK0)
      have b1 : (i : Int) < (b : Int) + 1 := by omega
      clear hsgn
      by_cases ho : K % 2 = 1
      · rw [ho] at HBit
        obtain ⟨gk, ck, rfl, hcell, hlen⟩ := nt_head hv hK0
        have hpos := dg_len_pos hK0
        have HBits := Lib.hid (intBits hP.iz)
        obtain ⟨P, Q, r, T, y, p, HT, HY, HLe, HSub, hr, hw1, hw3, hw4, hw5, hw6, HA, HB, b3, b5, b6, b10, b11⟩ := odd_facts s K hs1 hs2 ho
        obtain ⟨k, hk⟩ : ∃ k, (dg K).length = k := ⟨_, rfl⟩
        rw [hk] at HBits hlen hpos
        rw [HT.out] at hcell
        rw [HY.out] at HRi
        have HN := Lib.hid (show naN s K = naN s K from rfl)
        obtain ⟨N, hN⟩ : ∃ N, naN s K = N := ⟨_, rfl⟩
        rw [hN] at HNx HSub
        clear hk hv hP ho HT HY hN HN
        have HVal := Lib.hid (show wrap32 (bits .and .u64 (T : Int) (IntKind.u64.wrap (IntKind.u64.wrap (2 ^ (s + 1)) - 1))) = (r : Int) from by rw [hw1.out, wu64_in (by omega) (by omega), hr.out, hw5.out])
        have b2 : (0 : Int) < (k : Int) := by omega
        have HPa := Lib.hid HI.out.2
        have HLa := Lib.hid HI.out.1
        clear HI
        by_cases hcc : (Q : Int) ≤ (r : Int)
        · have HS6 := Lib.hid (setInt64 HPa.out.iq y (by omega) (by omega))
          have HB7 := Lib.hid (HB.out hcc)
          clear HA HB
          go_wp2_with fail
          refine HSgn.out.mono ?_
          rintro e w3 ⟨rfl, rfl⟩
          go_wp2_with fail
          refine HBit.out.mono ?_
          rintro e w3 ⟨rfl, rfl⟩
          go_wp2_with fail
          refine HBits.out.mono ?_
          rintro e w3 ⟨rfl, rfl⟩
          go_upto_region 15 with fail
          rw [HVal.out]
          go_upto_if 46 with fail
          rw [hw3.out, decide_eq_true hcc]
          go_upto_region 16 with fail
          go_upto_region 17 with fail
          rw [hw6.out, HB7.out]
          go_wp2_with fail
          refine HS6.out.mono ?_
          rintro e w4 ⟨rfl, hu⟩
          obtain ⟨u1, hp1⟩ := HPa.out.updQ HLa.out.size hu
          have HLc := Lib.hid (HLa.out.chg (HPa.out.swap.chgP hu) (fun k e => e) (by have := HSz.out; omega))
          have HPc := Lib.hid hp1
          have HSb := Lib.hid (intSub_any hp1.iz hp1.iq hp1.ap (by omega) (by omega) HLe.out HDi.out)
          rw [HSub.out] at HSb
          clear hu hp1 HS6 HPa HLa
          go_wp2_with fail
          refine HSb.out.mono ?_
          rintro e w5 ⟨rfl, hu⟩
          obtain ⟨v2, hp2⟩ := HPc.out.updP HLc.out.size hu
          have HLd := HLc.out.chg (HPc.out.chgP hu) (fun k e => e) (by have := HSz.out; omega)
          obtain ⟨⟨u, hcl⟩, hfr⟩ := HLd.has i (by omega)
          have HLe2 := Lib.hid (HLd.put (by omega) HRl.out y HRi.out)
          have HPd := Lib.hid (hp2.put w.heap.size i (.int .i32 y) (by have := HSz.out; omega))
          have HRs := Lib.hid (intRsh (X := 2 * N) 1 HPd.out.iz (by omega) (by omega))
          rw [show 2 * N / 2 ^ 1 = N from by rw [Nat.pow_one]; omega, ← HNx.out, show ((1 : Nat) : Int) = 1 from rfl] at HRs
          clear hu hp2 HLd HSb HPc HLc
          go_wp2_with fail
          refine HRs.out.mono ?_
          rintro e w6 ⟨rfl, hu⟩
          obtain ⟨v3, hp3⟩ := HPd.out.updP HLe2.out.size hu
          have HLf := Lib.hid (HLe2.out.chg (HPd.out.chgP hu) (fun k e => e) (by have := HSz.out; omega))
          have HPe := Lib.hid hp3
          clear hu hp3 HRs
          go_wp2_with fail
          go_roundw
          case rel => exact ⟨i + 1, _, _, _, by omega, by go_num, HLf.out, HPe.out⟩
          case measure => simp [intOf]; omega
        · obtain rfl := HA.out hcc
          have HS6 := Lib.hid (setInt64 HPa.out.iq (r : Int) (by omega) (by omega))
          clear HA HB
          go_wp2_with fail
          refine HSgn.out.mono ?_
          rintro e w3 ⟨rfl, rfl⟩
          go_wp2_with fail
          refine HBit.out.mono ?_
          rintro e w3 ⟨rfl, rfl⟩
          go_wp2_with fail
          refine HBits.out.mono ?_
          rintro e w3 ⟨rfl, rfl⟩
          go_upto_region 15 with fail
          rw [HVal.out]
          go_upto_if 46 with fail
          rw [hw3.out, decide_eq_false (show ¬ ((Q : Int) ≤ (r : Int)) by omega)]
          go_wp2_with fail
          refine HS6.out.mono ?_
          rintro e w4 ⟨rfl, hu⟩
          obtain ⟨u1, hp1⟩ := HPa.out.updQ HLa.out.size hu
          have HLc := Lib.hid (HLa.out.chg (HPa.out.swap.chgP hu) (fun k e => e) (by have := HSz.out; omega))
          have HPc := Lib.hid hp1
          have HSb := Lib.hid (intSub_any hp1.iz hp1.iq hp1.ap (by omega) (by omega) HLe.out HDi.out)
          rw [HSub.out] at HSb
          clear hu hp1 HS6 HPa HLa
          go_wp2_with fail
          refine HSb.out.mono ?_
          rintro e w5 ⟨rfl, hu⟩
          obtain ⟨v2, hp2⟩ := HPc.out.updP HLc.out.size hu
          have HLd := HLc.out.chg (HPc.out.chgP hu) (fun k e => e) (by have := HSz.out; omega)
          obtain ⟨⟨u, hcl⟩, hfr⟩ := HLd.has i (by omega)
          have HLe2 := Lib.hid (HLd.put (by omega) HRl.out (r : Int) HRi.out)
          have HPd := Lib.hid (hp2.put w.heap.size i (.int .i32 (r : Int)) (by have := HSz.out; omega))
          have HRs := Lib.hid (intRsh (X := 2 * N) 1 HPd.out.iz (by omega) (by omega))
          rw [show 2 * N / 2 ^ 1 = N from by rw [Nat.pow_one]; omega, ← HNx.out, show ((1 : Nat) : Int) = 1 from rfl] at HRs
          clear hu hp2 HLd HSb HPc HLc
          go_wp2_with fail
          refine HRs.out.mono ?_
          rintro e w6 ⟨rfl, hu⟩
          obtain ⟨v3, hp3⟩ := HPd.out.updP HLe2.out.size hu
          have HLf := Lib.hid (HLe2.out.chg (HPd.out.chgP hu) (fun k e => e) (by have := HSz.out; omega))
          have HPe := Lib.hid hp3
          clear hu hp3 HRs
          go_wp2_with fail
          go_roundw
          case rel => exact ⟨i + 1, _, _, _, by omega, by go_num, HLf.out, HPe.out⟩
          case measure => simp [intOf]; omega
      · have ho2 : K % 2 = 0 := by omega
        rw [ho2] at HBit
        have hnn : naN s K = K / 2 := by unfold naN; rw [if_neg ho]
        rw [hnn] at HNx
        rw [naD_zero s K ho] at HRi
        have HPa := Lib.hid HI.out.2
        obtain ⟨⟨u, hcl⟩, hfr⟩ := HI.out.1.has i (by omega)
        have HLe2 := Lib.hid (HI.out.1.put (by omega) HRl.out 0 HRi.out)
        have HPd := Lib.hid (HI.out.2.put w.heap.size i (.int .i32 0) (by have := HSz.out; omega))
        have HRs := Lib.hid (intRsh 1 HPd.out.iz (by omega) (by omega))
        rw [Nat.pow_one, ← HNx.out, show ((1 : Nat) : Int) = 1 from rfl] at HRs
        clear HI hv hP ho ho2 hnn
        go_wp2_with fail
        refine HSgn.out.mono ?_
        rintro e w3 ⟨rfl, rfl⟩
        go_wp2_with fail
        refine HBit.out.mono ?_
        rintro e w3 ⟨rfl, rfl⟩
        go_wp2_with fail
        refine HRs.out.mono ?_
        rintro e w6 ⟨rfl, hu⟩
        obtain ⟨v3, hp3⟩ := HPd.out.updP HLe2.out.size hu
        have HLf := Lib.hid (HLe2.out.chg (HPd.out.chgP hu) (fun k e => e) (by have := HSz.out; omega))
        have HPe := Lib.hid hp3
        clear hu hp3 HRs
        go_wp2_with fail
        go_roundw
        case rel => exact ⟨i + 1, _, _, _, by omega, by go_num, HLf.out, HPe.out⟩
        case measure => simp [intOf]; omega
    · have him : i = m := by omega
      subst him
      have hp := HI.out.2.iz
      rw [HEnd.out] at hp
      have hsgn := intSign hp
      rw [show ((0 : Nat) : Int).sign = 0 from rfl] at hsgn
      have HSgn := Lib.hid hsgn
      obtain ⟨cur, q1, q2, q3⟩ := HI.out.1
      have Q1 := Lib.hid q1
      have Q2 := Lib.hid q2
      have Q3 := Lib.hid q3
      have b1 : (i : Int) ≤ (b : Int) + 1 := by omega
      clear hp hsgn HI q1 q2 q3
      go_wp2_with fail
      refine HSgn.out.mono ?_
      rintro e w3 ⟨rfl, rfl⟩
      go_wp2_with fail
      go_ret
      have hdt : D = cur.take i := by rw [← HR2.out, Q2.out]
      refine ⟨some ⟨w.heap.size, 0, none⟩, b + 1, ?_, ?_, ?_, ?_⟩
      · rw [HNL.out]; rfl
      · rw [HNL.out]; omega
      · rw [HNL.out]
        refine Kd.C_of_reads (h1 := fun _ => rfl) (d := (0 : Int)) ⟨HNL.out, by omega, fun _ => ⟨_, rfl, fun j hj => ?_⟩⟩
        rw [add_plain, hdt, getD_take hj]
        exact Ow.cell (xs := cur) (m := b + 1) Q1.out j (by omega)
      · exact below_of_grown HBl.out Q3.out HBl.out.size (Nat.le_refl _)
end Go.Proofs.Ythckboojmljeiaa.Ok
namespace Go.Proofs.Ythckboojmljeiaa.Ol
set_option linter.unusedVariables false
set_option linter.unusedSimpArgs false
open Go.RowKit Go.Proofs.YthckboojmljeiaaW.PrintWords Go.Proofs.YthckboojmljeiaaW.PrintLast Go.Proofs.YthckboojmljeiaaW.PrintMore Go.Proofs.Ythckboojmljeiaa.Pl Go.Proofs.Ythckboojmljeiaa.Dg Go.Proofs.Ythckboojmljeiaa.Mem Go.Proofs.Ythckboojmljeiaa.Na Go.Proofs.Ythckboojmljeiaa.Nb Go.Proofs.Ythckboojmljeiaa.Be Go.Proofs.Ythckboojmljeiaa.Ow Go.Proofs.Ythckboojmljeiaa.Nu Go.Proofs.Ythckboojmljeiaa.In Go.Proofs.Ythckboojmljeiaa.Bl Go.Proofs.Ythckboojmljeiaa.Bs Go.Proofs.Ythckboojmljeiaa.Sk Go.Proofs.Ythckboojmljeiaa.Kp Go.Proofs.Ythckboojmljeiaa.Kw Go.Proofs.Ythckboojmljeiaa.Kl Go.Proofs.Ythckboojmljeiaa.Mk Go.Proofs.Ythckboojmljeiaa.Ks Go.Proofs.Ythckboojmljeiaa.Op Go.Proofs.Ythckboojmljeiaa.Ok

set_option maxRecDepth 100000 in
theorem impl_apart (A : Option Addr) (c : Nat) (n : List Int) (s m : Nat) (w : World) (hr : Kd.C (Kd.int .u8) w A n.length n) (hc : n.length ≤ c) (hl : n.length ≤ 10000) (hd : Dig 256 n) (X : Nat) (hX : lv 256 n.reverse = (X : Int))
    (hs1 : 1 ≤ s) (hs2 : s ≤ 30) (hXl : bln X ≤ 10000) (hm0 : naK s X m = 0) (hmp : ∀ j, j < m → 0 < naK s X j) (hmb : m ≤ bln X + 1) :
    Calls Try.prog 25 #[.slice A n.length c, .int .i64 ((s : Int) + 1)] w (Rd32 w (naL s X m)) := by
  have hof := impl_of A c n false w hr hc hd (by omega)
  rw [show (if false = true then -lv 256 n.reverse else lv 256 n.reverse) = lv 256 n.reverse from rfl, hX] at hof
  have HOf := Lib.hid hof
  have HSg := Lib.hid (fun (w1 : World) (p : Nat) (v : Value) (hz : Iz w1 p v (X : Int)) => naf_any (m := m) (s := s) hz hs1 hs2 hXl hm0 hmp hmb)
  have f1 : (s : Int) ≤ 30 := by omega
  have f2 : (1 : Int) ≤ (s : Int) := by omega
  clear hof hr hc hd hX hs1 hs2 hm0 hmp hmb hXl
  go_enter Try.func25, Try.ntmps25
  go_wp2_with fail
  refine HOf.out.mono ?_
  rintro e w1 ⟨p, v, rfl, hz, hp, hv, hb⟩
  have HS := Lib.hid (HSg.out w1 p v hz)
  have HB := Lib.hid hb
  clear hz hp hv hb HOf HSg
  go_wp2_with fail
  refine HS.out.mono ?_
  rintro e w2 ⟨A2, c2, rfl, h1, h2, h3⟩
  have H1 := Lib.hid h1
  have H2 := Lib.hid h2
  have HB2 := Lib.hid (below_then HB.out HB.out.size h3)
  clear h1 h2 h3 HS
  go_wp2
  go_ret
  exact ⟨A2, c2, rfl, H1.out, H2.out, HB2.out⟩

/-! ### Sparse -/
theorem wneg (s : Nat) (h : s ≤ 30) : wrap64 (-((s : Int) + 1)) = -((s : Int) + 1) := w64 (by omega) (by omega)
theorem wdif (i : Nat) (last : Int) (h : i ≤ 2000000000) (h1 : -100 ≤ last) (h2 : last ≤ 2000000000) : wrap64 ((i : Int) - last) = (i : Int) - last := w64 (by omega) (by omega)
/-- Behind a digit that is not 0 what is left is a multiple of 2^s. -/
theorem next_dvd (s K : Nat) (h : K % 2 = 1) : 2 ^ s ∣ naN s K := by
  unfold naN
  rw [if_pos h]
  split
  · exact Nat.dvd_mul_right _ _
  · exact Nat.dvd_mul_right _ _
theorem half_dvd (e K : Nat) (h : 2 ^ e ∣ K) : 2 ^ (e - 1) ∣ K / 2 := by
  by_cases h0 : e = 0
  · subst h0
    exact Nat.one_dvd _
  · obtain ⟨q, rfl⟩ := h
    have e1 : 2 ^ e = 2 * 2 ^ (e - 1) := by rw [← Nat.pow_succ']; congr 1; omega
    rw [e1, Nat.mul_assoc, Nat.mul_div_cancel_left _ (by decide)]
    exact Nat.dvd_mul_right _ _
theorem sparse_l0 (s X m : Nat) (hs1 : 1 ≤ s) (hs2 : s ≤ 30) (hml : m ≤ 1000000) :
    ∀ (r i k e : Nat) (last : Int), i + r = m → r < k → -100 ≤ last → last ≤ 2000000000 → (s : Int) - ((i : Int) - last - 1) ≤ (e : Int) → 2 ^ e ∣ naK s X i →
    PFnApart.spec_Sparse.l0 k (naL s X m) ((s : Int) + 1) last (i : Int) = some true := by
  have hlen := naL_length s X m
  intro r
  induction r with
  | zero =>
    intro i k e last hi hk h1 h2 h3 h4
    obtain ⟨k, rfl⟩ : ∃ m, k = m + 1 := ⟨k - 1, by omega⟩
    have a1 : ¬ (i : Int) < ((naL s X m).length : Int) := by rw [hlen]; omega
    rw [PFnApart.spec_Sparse.l0, if_neg a1]
  | succ r ih =>
    intro i k e last hi hk h1 h2 h3 h4
    obtain ⟨k, rfl⟩ : ∃ m, k = m + 1 := ⟨k - 1, by omega⟩
    have him : i < m := by omega
    have a1 : (i : Int) < ((naL s X m).length : Int) := by rw [hlen]; omega
    have a2 : (0 : Int) ≤ (i : Int) := by omega
    have a3 : (0 : Int) ≤ (s : Int) := by omega
    have a4 : i ≤ 2000000000 := by omega
    obtain ⟨b1, b2⟩ := naD_bd s (naK s X i) hs1 hs2
    rw [PFnApart.spec_Sparse.l0, if_pos a1, if_pos a2, rdn, naL_get s X m i him, win_less s hs2, if_pos a3, shl_one s hs2, ws i a4, wdif i last a4 h1 h2]
    have c1 : -2147483648 ≤ naD s (naK s X i) := by omega
    have c2 : naD s (naK s X i) ≤ 2147483648 := by omega
    have c3 : -2147483648 ≤ -naD s (naK s X i) := by omega
    have c4 : -naD s (naK s X i) ≤ 2147483648 := by omega
    rw [w31 _ c1 c2, w31 _ c3 c4]
    by_cases ho : naK s X i % 2 = 1
    · obtain ⟨d1, d2, d3⟩ := naD_in s (naK s X i) hs1 ho
      have hdv := next_dvd s (naK s X i) ho
      have he0 : e = 0 := by
        by_cases h : e = 0
        · exact h
        · exfalso
          have h5 : 2 ∣ 2 ^ e := by
            rw [show e = (e - 1) + 1 from by omega, Nat.pow_succ]
            exact Nat.dvd_mul_left _ _
          have h6 := Nat.mod_eq_zero_of_dvd (Nat.dvd_trans h5 h4)
          omega
      have hnext := ih (i + 1) k s (i : Int) (by omega) (by omega) (by omega) (by omega) (by omega) hdv
      obtain ⟨d, hd⟩ : ∃ y, naD s (naK s X i) = y := ⟨_, rfl⟩
      obtain ⟨Q, hQ⟩ : ∃ y, 2 ^ s = y := ⟨_, rfl⟩
      rw [hd] at d1 d2 d3 ⊢
      rw [hQ] at d2 d3 ⊢
      have g0 : ¬ d = 0 := by omega
      have g1 : ¬ d ≥ (Q : Int) := by omega
      have g2 : ¬ -d ≥ (Q : Int) := by omega
      have g3 : ¬ (i : Int) - last < (s : Int) + 1 := by omega
      rw [if_neg g0, if_neg (tmod_odd d d1), if_neg g1, if_neg g2, if_neg g3]
      exact hnext
    · have hz := naD_zero s (naK s X i) ho
      have hnn : naK s X (i + 1) = naK s X i / 2 := by simp only [naK]; unfold naN; rw [if_neg ho]
      have hdv := half_dvd e _ h4
      rw [← hnn] at hdv
      have hnext := ih (i + 1) k (e - 1) last (by omega) (by omega) h1 h2 (by omega) hdv
      rw [if_pos hz]
      exact hnext
theorem sparse_call (A : Option Addr) (c : Nat) (s X m : Nat) (w : World) (hr : Kd.C (Kd.int .i32) w A (naL s X m).length (naL s X m)) (hc : (naL s X m).length ≤ c) (hs1 : 1 ≤ s) (hs2 : s ≤ 30) (hml : m ≤ 1000000) :
    Calls Try.prog 26 #[.slice A (naL s X m).length c, .int .i64 ((s : Int) + 1)] w fun e w' => e = .returned (.bool true) ∧ Below w.heap.size w w' := by
  have h : PFnApart.spec_Sparse.f (m + 1) (naL s X m) ((s : Int) + 1) = some true := by
    unfold PFnApart.spec_Sparse.f
    rw [wneg s hs2]
    exact sparse_l0 s X m hs1 hs2 hml m 0 (m + 1) 0 (-((s : Int) + 1)) (by omega) (by omega) (by omega) (by omega) (by omega) (Nat.one_dvd _)
  refine (PFnApart.spec_Sparse.calls (m + 1) A c _ ((s : Int) + 1) true w hr hc h).mono ?_
  rintro e w' ⟨rfl, hd⟩
  exact ⟨rfl, hd.below⟩

/-! ### The law -/
theorem naL_bd (s X m : Nat) (hs1 : 1 ≤ s) (hs2 : s ≤ 30) : Bd (naL s X m) := by
  intro j
  by_cases h : j < m
  · rw [naL_get s X m j h]
    obtain ⟨b1, b2⟩ := naD_bd s (naK s X j) hs1 hs2
    omega
  · rw [getD_out _ _ (by rw [naL_length]; omega)]
    omega
theorem bln_bytes (n : List Int) (hd : Dig 256 n) (X : Nat) (hX : lv 256 n.reverse = (X : Int)) : bln X ≤ 8 * n.length := by
  have h := (lv_range (B := 256) (by omega) hd.reverse).2
  rw [hX, List.length_reverse, pow256, pow_cast2] at h
  exact bln_le.2 (by exact_mod_cast h)

set_option maxHeartbeats 1000000 in
set_option maxRecDepth 100000 in
theorem law (A : Option Addr) (c : Nat) (n : List Int) (win : Int) (w : World) (hr : Kd.C (Kd.int .u8) w A n.length n) (hc : n.length ≤ c) (hd : Dig 256 n) :
    Calls Try.prog 8 #[.slice A n.length c, .int .i64 win] w fun e w' => e = .returned (.bool true) ∧ Below w.heap.size w w' := by
  have hlv := (lv_range (B := 256) (by omega) hd.reverse).1
  obtain ⟨X, hX⟩ := Int.eq_ofNat_of_zero_le hlv
  have HR := Lib.hid hr
  have HC := Lib.hid hc
  have HD := Lib.hid hd
  have HX := Lib.hid hX
  clear hr hc hd hX hlv
  go_enter Try.func8, Try.ntmps8
  by_cases h0 : (2147483647 : Int) < (n.length : Int)
  · go_wp2
    go_ret
    exact ⟨rfl, Below.refl _ _⟩
  by_cases h1 : (512 : Int) < (n.length : Int)
  · go_wp2
    go_ret
    exact ⟨rfl, Below.refl _ _⟩
  by_cases h2 : win < 2
  · go_wp2
    go_ret
    exact ⟨rfl, Below.refl _ _⟩
  by_cases h3 : 31 < win
  · go_wp2
    go_ret
    exact ⟨rfl, Below.refl _ _⟩
  obtain ⟨s, rfl⟩ : ∃ s : Nat, win = (s : Int) + 1 := ⟨(win - 1).toNat, by omega⟩
  have hs1 : 1 ≤ s := by omega
  have hs2 : s ≤ 30 := by omega
  have hnl : n.length ≤ 512 := by omega
  have hbb := bln_bytes n HD.out X HX.out
  obtain ⟨m, hmb, hm0, hmp⟩ := na_count s X (bln X) hs1 (bln_lt X)
  have HAp := Lib.hid (impl_apart A c n s m w HR.out HC.out (by omega) HD.out X HX.out hs1 hs2 (by omega) hm0 hmp hmb)
  have HSum := Lib.hid (naL_sum s X m hm0)
  have HBd := Lib.hid (naL_bd s X m hs1 hs2)
  have HMb := Lib.hid (show m ≤ 10000 by omega)
  have HNl := Lib.hid (naL_length s X m)
  clear hm0 hmp hmb hbb
  go_wp2_with fail
  refine HAp.out.mono ?_
  rintro e w3 ⟨A2, c2, rfl, q1, q2, q3⟩
  have HB3 := Lib.hid q3
  have HSp := Lib.hid (sparse_call A2 c2 s X m w3 q2 q1 hs1 hs2 (by have := HMb.out; omega))
  have HQ1 := Lib.hid q1
  have HQ2 := Lib.hid q2
  clear q1 q2 q3 HAp
  go_wp2_with fail
  refine HSp.out.mono ?_
  rintro e w4 ⟨rfl, hb⟩
  have HB4 := Lib.hid (below_then HB3.out HB3.out.size hb)
  have hmk := makes_call A2 c2 (naL s X m) 1 A c n w4 (Kd.C_below HQ2.out hb) HQ1.out (Kd.C_below HR.out HB4.out) HC.out (by omega) HBd.out HD.out (by omega) X HX.out (by rw [HNl.out]; have := HMb.out; omega) (by rw [Int.pow_succ, Int.pow_zero, Int.one_mul]; exact HSum.out)
  rw [show ((1 : Nat) : Int) = 1 from rfl] at hmk
  have HMk := Lib.hid hmk
  clear hb HSp hmk
  go_wp2_with fail
  refine HMk.out.mono ?_
  rintro e w5 ⟨rfl, hb⟩
  have HB5 := Lib.hid (below_then HB4.out HB4.out.size hb)
  clear hb HMk
  go_wp2
  go_ret
  exact ⟨rfl, HB5.out⟩
end Go.Proofs.Ythckboojmljeiaa.Ol
