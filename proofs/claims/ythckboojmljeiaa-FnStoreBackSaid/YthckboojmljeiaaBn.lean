/- Walks: bits.Len, nat.bitLen, Int.BitLen, Int.Sign, Int.Bits. -/
import Derived.Test.YthckboojmljeiaaMem
import Derived.Test.YthckboojmljeiaaBl
import Derived.Test.YthckboojmljeiaaLn
namespace Go.Proofs.Ythckboojmljeiaa.Bn
set_option linter.unusedVariables false
set_option linter.unusedSimpArgs false
open Go.RowKit Go.Proofs.YthckboojmljeiaaW.PrintWords Go.Proofs.Ythckboojmljeiaa.Pl Go.Proofs.Ythckboojmljeiaa.Dg Go.Proofs.Ythckboojmljeiaa.Mem Go.Proofs.Ythckboojmljeiaa.Bl

theorem len_any (x : Int) (w : World) (h0 : 0 ≤ x) (h1 : x < (BB : Int)) :
    Calls Try.prog 87 #[.int .u64 x] w fun e w' => e = .returned (.int .i64 (bln x.toNat : Nat)) ∧ w = w' := by
  have h := Ln.len64 x w h0 (by have : (BB : Int) = 18446744073709551616 := rfl; omega)
  rw [bitLen_eq x.toNat (by have : (BB : Int) = 18446744073709551616 := rfl; have e : (2 : Nat) ^ 64 = 18446744073709551616 := by decide
                            omega)] at h
  have H := Lib.hid h
  clear h h0 h1
  go_enter Try.func87, Try.ntmps87
  go_wp2_with (first | (go_at_call 100; refine H.out.mono ?_; rintro e w' ⟨rfl, rfl⟩))
  go_ret
  exact ⟨rfl, rfl⟩

theorem bitLen_zero (c : Nat) (A : Option Addr) (w : World) : Calls Try.prog 70 #[.slice A 0 c] w fun e w' => e = .returned (.int .i64 0) ∧ w = w' := by
  go_enter Try.func70, Try.ntmps70
  go_wp2
  go_ret
  exact ⟨rfl, rfl⟩

set_option maxHeartbeats 1000000 in
theorem bitLen_any (g c n : Nat) (l : List Int) (w : World) (hn : l.length = n) (h0 : 0 < n) (hl : n ≤ 1000000) (hd : DW l) (hc : ∀ j, j < l.length → w.cell? ⟨g, j, none⟩ = some (.int .u64 (l.getD j 0))) :
    Calls Try.prog 70 #[.slice (some ⟨g, 0, none⟩) n c] w fun e w' => e = .returned (.int .i64 (((n - 1) * 64 + bln (l.getD (n - 1) 0).toNat : Nat) : Int)) ∧ w = w' := by
  have hcell := hc (n - 1) (by omega)
  have hx := hd.get (i := n - 1) (by omega)
  obtain ⟨x, hx2⟩ : ∃ x, l.getD (n - 1) 0 = x := ⟨_, rfl⟩
  rw [hx2] at hcell hx ⊢
  clear hx2 hc hd hn
  obtain ⟨t1, e1, a1, b1, c1⟩ := or_up x 1 hx.1 hx.2
  obtain ⟨t2, e2, a2, b2, c2⟩ := or_up t1 2 a1 b1
  obtain ⟨t3, e3, a3, b3, c3⟩ := or_up t2 4 a2 b2
  obtain ⟨t4, e4, a4, b4, c4⟩ := or_up t3 8 a3 b3
  obtain ⟨t5, e5, a5, b5, c5⟩ := or_up t4 16 a4 b4
  obtain ⟨t6, e6, a6, b6, c6⟩ := or_up2 t5 16 16 a5 b5
  have hb : bln t6.toNat = bln x.toNat := by rw [c6, c5, c4, c3, c2, c1]
  have hb64 : bln x.toNat ≤ 64 := bln_le.2 (by have : (BB : Int) = 18446744073709551616 := rfl; have e : (2 : Nat) ^ 64 = 18446744073709551616 := by decide
                                               have := hx.2; omega)
  have H := Lib.hid (len_any t6 w a6 b6)
  rw [hb] at H
  obtain ⟨k, hk⟩ : ∃ k, bln x.toNat = k := ⟨_, rfl⟩
  rw [hk] at H hb64 ⊢
  rw [show (((2 : Nat) ^ 1 : Nat) : Int) = 2 from rfl] at e1
  rw [show (((2 : Nat) ^ 2 : Nat) : Int) = 4 from rfl] at e2
  rw [show (((2 : Nat) ^ 4 : Nat) : Int) = 16 from rfl] at e3
  rw [show (((2 : Nat) ^ 8 : Nat) : Int) = 256 from rfl] at e4
  rw [show (((2 : Nat) ^ 16 : Nat) : Int) = 65536 from by decide] at e5 e6
  clear hx c1 c2 c3 c4 c5 c6 b1 b2 b3 b4 b5 b6 hb hk
  have p1 : (0 : Int) ≤ (n : Int) - 1 := by omega
  have p2 : (1 : Int) ≤ (n : Int) := by omega
  have p3 : (n : Int) - 1 < (n : Int) := by omega
  have p4 : ((n : Int) - 1).toNat = n - 1 := by omega
  go_enter Try.func70, Try.ntmps70
  go_wp2_with (first | (go_at_call 87; refine H.out.mono ?_; rintro e w' ⟨rfl, rfl⟩))
  go_ret
  refine ⟨congrArg Ending.returned (congrArg (Value.int IntKind.i64) ?_), rfl⟩
  omega
/-- nat.bitLen of a number. -/
theorem bitLen_dg {w : World} {v : Value} {n : Nat} (h : Nt w v (dg n)) : Calls Try.prog 70 #[v] w fun e w' => e = .returned (.int .i64 (bln n : Nat)) ∧ w = w' := by
  by_cases h0 : n = 0
  · subst h0
    rw [dg_zero] at h
    obtain ⟨A, c, rfl, _⟩ := h.slice
    exact bitLen_zero c A w
  · have hl := dg_len_pos (n := n) (by omega)
    rcases h with ⟨rfl, h1⟩ | ⟨g, cur, rfl, h1, h2, h3, h4⟩
    · exact absurd (dg_nil.1 h1) h0
    · have hc := Nt.cells (w := w) (l := dg n) (.inr ⟨g, cur, rfl, h1, h2, h3, h4⟩) rfl
      have := bitLen_any g cur.length _ (dg n) w rfl hl (by omega) (dg_dig n) hc
      rw [bln_top n (by omega)] at this
      exact this

theorem intBitLen {w : World} {p : Nat} {v : Value} {z : Int} (h : Iz w p v z) : Calls Try.prog 50 #[.pointer (some ⟨p, 0, none⟩)] w fun e w' => e = .returned (.int .i64 (bln z.natAbs : Nat)) ∧ w = w' := by
  have H := Lib.hid (bitLen_dg h.2)
  have h1 := h.abs1
  clear h
  go_enter Try.func50, Try.ntmps50
  go_wp2_with (first | (go_at_call 70; refine H.out.mono ?_; rintro e w' ⟨rfl, rfl⟩))
  go_ret
  exact ⟨rfl, rfl⟩

/-- Int.Sign. -/
theorem intSign {w : World} {p : Nat} {v : Value} {z : Int} (h : Iz w p v z) : Calls Try.prog 51 #[.pointer (some ⟨p, 0, none⟩)] w fun e w' => e = .returned (.int .i64 z.sign) ∧ w = w' := by
  obtain ⟨A, c, hv, hlc, hc⟩ := h.2.slice
  have h0 := h.neg0
  have h1 := h.abs1
  rw [hv] at h1
  by_cases hz : z = 0
  · subst hz
    have hl : (dg (Int.natAbs 0)).length = 0 := by rw [show Int.natAbs 0 = 0 from rfl, dg_zero]; rfl
    rw [hl] at h1
    clear h hv hlc hc h0 hl
    go_enter Try.func51, Try.ntmps51
    go_wp2
    go_ret
    exact ⟨rfl, rfl⟩
  · have hl := dg_len_pos (n := z.natAbs) (by omega)
    obtain ⟨n, hn⟩ : ∃ n, (dg z.natAbs).length = n := ⟨_, rfl⟩
    rw [hn] at h1 hl hlc
    have hb : ((n : Int) == 0) = false := by rw [beq_eq_false_iff_ne]; omega
    have hb2 : (n == 0) = false := by rw [beq_eq_false_iff_ne]; omega
    clear h hv hn
    by_cases hs : z < 0
    · have e : z.sign = -1 := Int.sign_eq_neg_one_of_neg hs
      rw [decide_eq_true hs] at h0
      rw [e]
      clear hs hz e
      go_enter Try.func51, Try.ntmps51
      go_wp2
      go_ret
      exact ⟨rfl, rfl⟩
    · have e : z.sign = 1 := Int.sign_eq_one_of_pos (by omega)
      rw [decide_eq_false hs] at h0
      rw [e]
      clear hs hz e
      go_enter Try.func51, Try.ntmps51
      go_wp2
      go_ret
      exact ⟨rfl, rfl⟩

/-- Int.Bits. -/
theorem intBits {w : World} {p : Nat} {v : Value} {z : Int} (h : Iz w p v z) : Calls Try.prog 61 #[.pointer (some ⟨p, 0, none⟩)] w fun e w' => e = .returned v ∧ w = w' := by
  have h1 := h.abs1
  obtain ⟨A, c, hv, hlc, hc⟩ := h.2.slice
  rw [hv] at h1 ⊢
  clear h hv
  go_enter Try.func61, Try.ntmps61
  go_wp2
  go_ret
  exact ⟨rfl, rfl⟩
end Go.Proofs.Ythckboojmljeiaa.Bn
