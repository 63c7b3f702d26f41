/- Plain: how many bits a number has; Walks: bits.Len, nat.bitLen, Int.BitLen, Int.Sign, Int.Bits. -/
import Derived.Test.YthckboojmljeiaaMga
import Derived.Lib.BitFns
import Derived.Test.YthckboojmljeiaaMgb
import Derived.Test.YthckboojmljeiaaMgc
namespace Go.Proofs.Ythckboojmljeiaa.Bl
set_option linter.unusedVariables false
set_option linter.unusedSimpArgs false
open Go.RowKit Go.Proofs.Ythckboojmljeiaa.Pl Go.Proofs.Ythckboojmljeiaa.Dg

/-- How many bits a number has. -/
def bln (n : Nat) : Nat := if n = 0 then 0 else n.log2 + 1
theorem bln_zero : bln 0 = 0 := rfl
theorem bln_le {n k : Nat} : bln n ≤ k ↔ n < 2 ^ k := by
  unfold bln
  by_cases h : n = 0
  · subst h
    rw [if_pos rfl]
    exact ⟨fun _ => Nat.two_pow_pos k, fun _ => Nat.zero_le _⟩
  · rw [if_neg h, ← Nat.log2_lt h]
    exact ⟨fun h => by omega, fun h => by omega⟩
theorem bln_lt (n : Nat) : n < 2 ^ bln n := bln_le.1 (Nat.le_refl _)
theorem bln_unique {n k : Nat} (h1 : n < 2 ^ k) (h2 : ∀ j, n < 2 ^ j → k ≤ j) : k = bln n := Nat.le_antisymm (h2 _ (bln_lt n)) (bln_le.2 h1)
theorem bln_unique' {n k : Nat} (h0 : 0 < k) (h1 : n < 2 ^ k) (h2 : 2 ^ (k - 1) ≤ n) : k = bln n := by
  refine bln_unique h1 fun j hj => ?_
  by_cases h : k ≤ j
  · exact h
  · have : 2 ^ j ≤ 2 ^ (k - 1) := Nat.pow_le_pow_right (by decide) (by omega)
    omega
theorem bln_pos {n : Nat} (h : 0 < n) : 0 < bln n := by
  unfold bln; rw [if_neg (by omega)]; omega
theorem bln_ge {n : Nat} (h : 0 < n) : 2 ^ (bln n - 1) ≤ n := by
  by_cases h1 : n < 2 ^ (bln n - 1)
  · have := bln_le.2 h1
    have := bln_pos h
    omega
  · omega
theorem bln_mono {m n : Nat} (h : m ≤ n) : bln m ≤ bln n := bln_le.2 (Nat.lt_of_le_of_lt h (bln_lt n))

theorem aux_spec : ∀ (f x : Nat), x < 2 ^ f → x < 2 ^ Lib.bitLenAux f x ∧ (0 < x → 0 < Lib.bitLenAux f x ∧ 2 ^ (Lib.bitLenAux f x - 1) ≤ x)
  | 0, x, h => by
    simp at h
    subst h
    exact ⟨by simp [Lib.bitLenAux], fun h => absurd h (by omega)⟩
  | f + 1, x, h => by
    by_cases h0 : x = 0
    · subst h0
      exact ⟨by simp [Lib.bitLenAux], fun h => absurd h (by omega)⟩
    · have ih := aux_spec f (x / 2) (by rw [Nat.pow_succ] at h; omega)
      have e : Lib.bitLenAux (f + 1) x = 1 + Lib.bitLenAux f (x / 2) := by simp [Lib.bitLenAux, h0]
      rw [e]
      refine ⟨?_, fun _ => ⟨by omega, ?_⟩⟩
      · rw [Nat.add_comm, Nat.pow_succ]; omega
      · by_cases h1 : x / 2 = 0
        · have h2 : x = 1 := by omega
          subst h2
          have : Lib.bitLenAux f (1 / 2) = 0 := by cases f <;> simp [Lib.bitLenAux]
          rw [this]
          decide
        · obtain ⟨i1, i2⟩ := ih.2 (by omega)
          obtain ⟨m, hm⟩ : ∃ m, Lib.bitLenAux f (x / 2) = m + 1 := ⟨_, (Nat.succ_pred_eq_of_pos i1).symm⟩
          rw [hm] at i2 ⊢
          rw [show 1 + (m + 1) - 1 = m + 1 from by omega, Nat.pow_succ]
          simp at i2
          omega
theorem bitLen_eq (x : Nat) (h : x < 2 ^ 64) : Lib.bitLen x = bln x := by
  have := aux_spec 64 x h
  by_cases h0 : x = 0
  · subst h0; rfl
  · obtain ⟨h1, h2⟩ := this.2 (by omega)
    exact bln_unique' h1 this.1 h2

/-- Laid over by itself moved down, a number keeps its length. -/
theorem or_up (x : Int) (d : Nat) (h0 : 0 ≤ x) (h1 : x < (BB : Int)) : ∃ t : Int, Go.bits .or .u64 x (x / ((2 ^ d : Nat) : Int)) = t ∧ 0 ≤ t ∧ t < (BB : Int) ∧ bln t.toNat = bln x.toNat := by
  obtain ⟨n, rfl⟩ := Int.eq_ofNat_of_zero_le h0
  have hn : n < 2 ^ 64 := by have : n < BB := by exact_mod_cast h1
                             exact this
  have hq : n / 2 ^ d ≤ n := Nat.div_le_self _ _
  have e : ((n : Int) / ((2 ^ d : Nat) : Int)) = ((n / 2 ^ d : Nat) : Int) := by simp
  refine ⟨_, rfl, ?_⟩
  rw [e, (bits_nat .u64 64 (by decide) wraps_u64 n (n / 2 ^ d) hn (by omega)).2]
  have hl : n ||| n / 2 ^ d < 2 ^ 64 := Nat.or_lt_two_pow hn (by omega)
  refine ⟨Int.natCast_nonneg _, ?_, ?_⟩
  · have : n ||| n / 2 ^ d < BB := hl
    exact_mod_cast this
  · simp only [Int.toNat_natCast]
    refine Nat.le_antisymm (bln_le.2 (Nat.or_lt_two_pow (bln_lt n) (Nat.lt_of_le_of_lt hq (bln_lt n)))) (bln_mono Nat.left_le_or)
theorem or_up2 (x : Int) (d d' : Nat) (h0 : 0 ≤ x) (h1 : x < (BB : Int)) : ∃ t : Int, Go.bits .or .u64 x (x / ((2 ^ d : Nat) : Int) / ((2 ^ d' : Nat) : Int)) = t ∧ 0 ≤ t ∧ t < (BB : Int) ∧ bln t.toNat = bln x.toNat := by
  have e : x / ((2 ^ d : Nat) : Int) / ((2 ^ d' : Nat) : Int) = x / ((2 ^ (d + d') : Nat) : Int) := by
    rw [Int.ediv_ediv_of_nonneg (Int.natCast_nonneg _), Nat.pow_add, Int.natCast_mul]
  rw [e]
  exact or_up x (d + d') h0 h1

/-- The bits of a number by its highest digit. -/
theorem bln_top (n : Nat) (h : 0 < n) : (((dg n).length - 1) * 64 + bln ((dg n).getD ((dg n).length - 1) 0).toNat) = bln n := by
  induction n using dg_induct with
  | h0 => omega
  | h1 n hn ih =>
    rw [dg_pos hn]
    by_cases h0 : n / BB = 0
    · rw [h0, dg_zero]
      have := Nat.mod_add_div n BB
      rw [h0] at this
      have e : n % BB = n := by omega
      rw [e]
      simp
    · have ih' := ih (Nat.pos_of_ne_zero h0)
      have hl := dg_len_pos (n := n / BB) (Nat.pos_of_ne_zero h0)
      obtain ⟨m, hm⟩ : ∃ m, (dg (n / BB)).length = m + 1 := ⟨_, (Nat.succ_pred_eq_of_pos hl).symm⟩
      rw [hm] at ih'
      rw [List.length_cons, hm]
      simp only [Nat.add_sub_cancel, List.getD_cons_succ] at ih' ⊢
      have e : (m + 1) * 64 + bln ((dg (n / BB)).getD m 0).toNat = 64 + bln (n / BB) := by rw [← ih']; omega
      rw [e]
      have hp := bln_pos (n := n / BB) (Nat.pos_of_ne_zero h0)
      have hq := bln_lt (n / BB)
      have hg := bln_ge (n := n / BB) (Nat.pos_of_ne_zero h0)
      refine bln_unique' (by omega) ?_ ?_
      · rw [Nat.pow_add, ← BB_pow, Nat.mul_comm]
        exact (Nat.div_lt_iff_lt_mul BB_pos).1 hq
      · rw [show 64 + bln (n / BB) - 1 = 64 + (bln (n / BB) - 1) from by omega, Nat.pow_add, ← BB_pow, Nat.mul_comm]
        exact (Nat.le_div_iff_mul_le BB_pos).1 hg
end Go.Proofs.Ythckboojmljeiaa.Bl
namespace Go.Proofs.Ythckboojmljeiaa.Bn
set_option linter.unusedVariables false
set_option linter.unusedSimpArgs false
open Go.RowKit Go.Proofs.YthckboojmljeiaaW.PrintWords Go.Proofs.Ythckboojmljeiaa.Pl Go.Proofs.Ythckboojmljeiaa.Dg Go.Proofs.Ythckboojmljeiaa.Mem Go.Proofs.Ythckboojmljeiaa.Bl

theorem len_any (x : Int) (w : World) (h0 : 0 ≤ x) (h1 : x < (BB : Int)) :
    Calls Try.prog 87 #[.int .u64 x] w fun e w' => e = .returned (.int .i64 (bln x.toNat : Nat)) ∧ w = w' := by
  have h := Ln.len64 x w h0 (by have : (BB : Int) = 18446744073709551616 := rfl; omega)
  rw [bitLen_eq x.toNat (by have : (BB : Int) = 18446744073709551616 := rfl; have e : (2 : Nat) ^ 64 = 18446744073709551616 := by decide
                            omega)] at h
  have H := Lib.hid h
  clear h h0 h1
  go_enter Try.func87, Try.ntmps87
  go_wp2_with (first | (go_at_call 100; refine H.out.mono ?_; rintro e w' ⟨rfl, rfl⟩))
  go_ret
  exact ⟨rfl, rfl⟩

theorem bitLen_zero (c : Nat) (A : Option Addr) (w : World) : Calls Try.prog 70 #[.slice A 0 c] w fun e w' => e = .returned (.int .i64 0) ∧ w = w' := by
  go_enter Try.func70, Try.ntmps70
  go_wp2
  go_ret
  exact ⟨rfl, rfl⟩

set_option maxHeartbeats 1000000 in
theorem bitLen_any (g c n : Nat) (l : List Int) (w : World) (hn : l.length = n) (h0 : 0 < n) (hl : n ≤ 1000000) (hd : DW l) (hc : ∀ j, j < l.length → w.cell? ⟨g, j, none⟩ = some (.int .u64 (l.getD j 0))) :
    Calls Try.prog 70 #[.slice (some ⟨g, 0, none⟩) n c] w fun e w' => e = .returned (.int .i64 (((n - 1) * 64 + bln (l.getD (n - 1) 0).toNat : Nat) : Int)) ∧ w = w' := by
  have hcell := hc (n - 1) (by omega)
  have hx := hd.get (i := n - 1) (by omega)
  obtain ⟨x, hx2⟩ : ∃ x, l.getD (n - 1) 0 = x := ⟨_, rfl⟩
  rw [hx2] at hcell hx ⊢
  clear hx2 hc hd hn
  obtain ⟨t1, e1, a1, b1, c1⟩ := or_up x 1 hx.1 hx.2
  obtain ⟨t2, e2, a2, b2, c2⟩ := or_up t1 2 a1 b1
  obtain ⟨t3, e3, a3, b3, c3⟩ := or_up t2 4 a2 b2
  obtain ⟨t4, e4, a4, b4, c4⟩ := or_up t3 8 a3 b3
  obtain ⟨t5, e5, a5, b5, c5⟩ := or_up t4 16 a4 b4
  obtain ⟨t6, e6, a6, b6, c6⟩ := or_up2 t5 16 16 a5 b5
  have hb : bln t6.toNat = bln x.toNat := by rw [c6, c5, c4, c3, c2, c1]
  have hb64 : bln x.toNat ≤ 64 := bln_le.2 (by have : (BB : Int) = 18446744073709551616 := rfl; have e : (2 : Nat) ^ 64 = 18446744073709551616 := by decide
                                               have := hx.2; omega)
  have H := Lib.hid (len_any t6 w a6 b6)
  rw [hb] at H
  obtain ⟨k, hk⟩ : ∃ k, bln x.toNat = k := ⟨_, rfl⟩
  rw [hk] at H hb64 ⊢
  rw [show (((2 : Nat) ^ 1 : Nat) : Int) = 2 from rfl] at e1
  rw [show (((2 : Nat) ^ 2 : Nat) : Int) = 4 from rfl] at e2
  rw [show (((2 : Nat) ^ 4 : Nat) : Int) = 16 from rfl] at e3
  rw [show (((2 : Nat) ^ 8 : Nat) : Int) = 256 from rfl] at e4
  rw [show (((2 : Nat) ^ 16 : Nat) : Int) = 65536 from by decide] at e5 e6
  clear hx c1 c2 c3 c4 c5 c6 b1 b2 b3 b4 b5 b6 hb hk
  have p1 : (0 : Int) ≤ (n : Int) - 1 := by omega
  have p2 : (1 : Int) ≤ (n : Int) := by omega
  have p3 : (n : Int) - 1 < (n : Int) := by omega
  have p4 : ((n : Int) - 1).toNat = n - 1 := by omega
  go_enter Try.func70, Try.ntmps70
  go_wp2_with (first | (go_at_call 87; refine H.out.mono ?_; rintro e w' ⟨rfl, rfl⟩))
  go_ret
  refine ⟨congrArg Ending.returned (congrArg (Value.int IntKind.i64) ?_), rfl⟩
  omega
/-- nat.bitLen of a number. -/
theorem bitLen_dg {w : World} {v : Value} {n : Nat} (h : Nt w v (dg n)) : Calls Try.prog 70 #[v] w fun e w' => e = .returned (.int .i64 (bln n : Nat)) ∧ w = w' := by
  by_cases h0 : n = 0
  · subst h0
    rw [dg_zero] at h
    obtain ⟨A, c, rfl, _⟩ := h.slice
    exact bitLen_zero c A w
  · have hl := dg_len_pos (n := n) (by omega)
    rcases h with ⟨rfl, h1⟩ | ⟨g, cur, rfl, h1, h2, h3, h4⟩
    · exact absurd (dg_nil.1 h1) h0
    · have hc := Nt.cells (w := w) (l := dg n) (.inr ⟨g, cur, rfl, h1, h2, h3, h4⟩) rfl
      have := bitLen_any g cur.length _ (dg n) w rfl hl (by omega) (dg_dig n) hc
      rw [bln_top n (by omega)] at this
      exact this

theorem intBitLen {w : World} {p : Nat} {v : Value} {z : Int} (h : Iz w p v z) : Calls Try.prog 50 #[.pointer (some ⟨p, 0, none⟩)] w fun e w' => e = .returned (.int .i64 (bln z.natAbs : Nat)) ∧ w = w' := by
  have H := Lib.hid (bitLen_dg h.2)
  have h1 := h.abs1
  clear h
  go_enter Try.func50, Try.ntmps50
  go_wp2_with (first | (go_at_call 70; refine H.out.mono ?_; rintro e w' ⟨rfl, rfl⟩))
  go_ret
  exact ⟨rfl, rfl⟩

/-- Int.Sign. -/
theorem intSign {w : World} {p : Nat} {v : Value} {z : Int} (h : Iz w p v z) : Calls Try.prog 51 #[.pointer (some ⟨p, 0, none⟩)] w fun e w' => e = .returned (.int .i64 z.sign) ∧ w = w' := by
  obtain ⟨A, c, hv, hlc, hc⟩ := h.2.slice
  have h0 := h.neg0
  have h1 := h.abs1
  rw [hv] at h1
  by_cases hz : z = 0
  · subst hz
    have hl : (dg (Int.natAbs 0)).length = 0 := by rw [show Int.natAbs 0 = 0 from rfl, dg_zero]; rfl
    rw [hl] at h1
    clear h hv hlc hc h0 hl
    go_enter Try.func51, Try.ntmps51
    go_wp2
    go_ret
    exact ⟨rfl, rfl⟩
  · have hl := dg_len_pos (n := z.natAbs) (by omega)
    obtain ⟨n, hn⟩ : ∃ n, (dg z.natAbs).length = n := ⟨_, rfl⟩
    rw [hn] at h1 hl hlc
    have hb : ((n : Int) == 0) = false := by rw [beq_eq_false_iff_ne]; omega
    have hb2 : (n == 0) = false := by rw [beq_eq_false_iff_ne]; omega
    clear h hv hn
    by_cases hs : z < 0
    · have e : z.sign = -1 := Int.sign_eq_neg_one_of_neg hs
      rw [decide_eq_true hs] at h0
      rw [e]
      clear hs hz e
      go_enter Try.func51, Try.ntmps51
      go_wp2
      go_ret
      exact ⟨rfl, rfl⟩
    · have e : z.sign = 1 := Int.sign_eq_one_of_pos (by omega)
      rw [decide_eq_false hs] at h0
      rw [e]
      clear hs hz e
      go_enter Try.func51, Try.ntmps51
      go_wp2
      go_ret
      exact ⟨rfl, rfl⟩

/-- Int.Bits. -/
theorem intBits {w : World} {p : Nat} {v : Value} {z : Int} (h : Iz w p v z) : Calls Try.prog 61 #[.pointer (some ⟨p, 0, none⟩)] w fun e w' => e = .returned v ∧ w = w' := by
  have h1 := h.abs1
  obtain ⟨A, c, hv, hlc, hc⟩ := h.2.slice
  rw [hv] at h1 ⊢
  clear h hv
  go_enter Try.func61, Try.ntmps61
  go_wp2
  go_ret
  exact ⟨rfl, rfl⟩
end Go.Proofs.Ythckboojmljeiaa.Bn
