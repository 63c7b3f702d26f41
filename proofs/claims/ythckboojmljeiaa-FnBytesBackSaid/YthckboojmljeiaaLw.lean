/- Walk: impl.NumberWords; what the printed Low tells. The law FnExactNumberWords. -/
import Derived.Test.YthckboojmljeiaaNw
import Derived.Test.YthckboojmljeiaaPFnExactNumberWordsx2
namespace Go.Proofs.Ythckboojmljeiaa.Lw
set_option linter.unusedVariables false
set_option linter.unusedSimpArgs false
open Go.RowKit Go.Proofs.YthckboojmljeiaaW.PrintWords Go.Proofs.YthckboojmljeiaaW.PrintLast Go.Proofs.YthckboojmljeiaaW.PrintMore Go.Proofs.Ythckboojmljeiaa.Pl Go.Proofs.Ythckboojmljeiaa.Dg Go.Proofs.Ythckboojmljeiaa.Mem Go.Proofs.Ythckboojmljeiaa.Na Go.Proofs.Ythckboojmljeiaa.Nb Go.Proofs.Ythckboojmljeiaa.Be Go.Proofs.Ythckboojmljeiaa.Ow Go.Proofs.Ythckboojmljeiaa.By Go.Proofs.Ythckboojmljeiaa.Sp Go.Proofs.Ythckboojmljeiaa.Nu Go.Proofs.Ythckboojmljeiaa.In Go.Proofs.Ythckboojmljeiaa.Nw Go.Proofs.Ythckboojmljeiaa.PFnExactNumberWords

theorem low_l1 (l : List Int) (hd : Dig 18446744073709551616 l) (hl : l.length ≤ 10000) (i : Nat) (hi : i < l.length) (K : Nat) (r : List Int) (h : ∀ k, K ≤ k → spec_Low.l0 k l (low (l.take (i + 1))) ((i + 1 : Nat) : Int) = some r) :
    ∀ (d k j : Nat), 8 - j = d → j ≤ 8 → K + d < k → spec_Low.l1 k l (low (l.take i) ++ (le8 (l.getD i 0)).take j) (i : Int) (j : Int) = some r := by
  intro d
  induction d with
  | zero =>
    intro k j h1 h2 h3
    obtain ⟨k, rfl⟩ : ∃ m, k = m + 1 := ⟨k - 1, by omega⟩
    simp only [spec_Low.l1]
    rw [if_neg (by omega), w64 (by omega) (by omega), show (le8 (l.getD i 0)).take j = le8 (l.getD i 0) from List.take_of_length_le (by rw [le8_length]; omega), ← low_snoc l i hi]
    exact h k (by omega)
  | succ d ih =>
    intro k j h1 h2 h3
    obtain ⟨k, rfl⟩ : ∃ m, k = m + 1 := ⟨k - 1, by omega⟩
    simp only [spec_Low.l1]
    rw [w64 (n := 8 * (j : Int)) (by omega) (by omega), wu64_in (n := 8 * (j : Int)) (by omega) (by omega), if_pos (by omega), if_pos (by omega), if_pos (by omega), if_pos (by omega), if_pos, w64 (by omega) (by omega)]
    · have := ih k (j + 1) (by omega) (by omega) (by omega)
      rw [take_succ_getD (le8 (l.getD i 0)) j (by rw [le8_length]; omega), le8_get _ _ (by omega), ← List.append_assoc] at this
      unfold shr
      rw [show rd l (i : Int) = l.getD i 0 from by simp [rd], show min (8 * (j : Int)).toNat IntKind.u64.bits = 8 * j from by simp only [IntKind.bits]; omega]
      exact this
    · rw [List.length_append, low_length, List.length_take, List.length_take]
      omega
theorem low_l0 (l : List Int) (hd : Dig 18446744073709551616 l) (hl : l.length ≤ 10000) : ∀ (d k i : Nat), l.length - i = d → i ≤ l.length → 10 * d < k → spec_Low.l0 k l (low (l.take i)) (i : Int) = some (low l) := by
  intro d
  induction d with
  | zero =>
    intro k i h1 h2 h3
    obtain ⟨k, rfl⟩ : ∃ m, k = m + 1 := ⟨k - 1, by omega⟩
    simp only [spec_Low.l0]
    rw [if_neg (by omega), List.take_of_length_le (by omega)]
  | succ d ih =>
    intro k i h1 h2 h3
    obtain ⟨k, rfl⟩ : ∃ m, k = m + 1 := ⟨k - 1, by omega⟩
    simp only [spec_Low.l0]
    rw [if_pos (by omega)]
    have := low_l1 l hd hl i (by omega) (10 * d + 1) (low l) (fun k hk => ih k (i + 1) (by omega) (by omega) (by omega)) 8 k 0 (by omega) (by omega) (by omega)
    simpa using this
theorem low_eq (l : List Int) (hd : Dig 18446744073709551616 l) (hl : l.length ≤ 10000) : spec_Low.f (10 * l.length + 1) l = some (low l) :=
  low_l0 l hd hl l.length _ 0 (by omega) (by omega) (by omega)
theorem low_call (A : Option Addr) (c : Nat) (l : List Int) (w : World) (hr : Kd.C (Kd.int .u64) w A l.length l) (hc : l.length ≤ c) (hd : Dig 18446744073709551616 l) (hl : l.length ≤ 10000) :
    Calls Try.prog 21 #[.slice A l.length c] w (Rd8 w (low l)) := by
  refine (spec_Low.calls _ A c l (low l) w hr hc (low_eq l hd hl)).mono ?_
  rintro e w' ⟨v, rfl, h1, h2⟩
  obtain ⟨A2, c2, rfl, h3, h4⟩ := Kd.R_reads h1
  exact ⟨A2, c2, rfl, h3, h4, h2⟩

theorem dgw_len (l : List Int) (hd : DW l) : (dg (lv (BB : Int) l).natAbs).length ≤ l.length := by
  have h := lv_range (B := (BB : Int)) (by decide) hd
  refine dg_len_le ?_
  have h2 : ((BB ^ l.length : Nat) : Int) = (BB : Int) ^ l.length := (pow_cast _).symm
  omega

set_option maxRecDepth 100000 in
theorem impl_words (A : Option Addr) (c : Nat) (l : List Int) (w : World) (hr : Kd.C (Kd.int .u64) w A l.length l) (hd : DW l) (hl : l.length ≤ 10000) :
    Calls Try.prog 20 #[.slice A l.length c] w (Rd8 w (strip (low l).reverse)) := by
  obtain ⟨wa, hwa⟩ : ∃ wa, w.alloc (.cells #[] 5) = wa := ⟨_, rfl⟩
  have HBa := Lib.hid (show Below w.heap.size w wa from by rw [← hwa]; exact (Below.refl _ _).alloc (Nat.le_refl _) _)
  have HOa := Lib.hid (show wa.ownsRow w.heap.size 5 1 (.slice (some ⟨w.heap.size, 0, none⟩) 0 0) 0 (encs (Value.int .u8) []) from by rw [← hwa]; exact lit_row w)
  have HN := Lib.hid (num_words A c l wa (Kd.C_below hr HBa.out) hd hl)
  have HD := Lib.hid hd
  have HLr := Lib.hid (lv_range (B := (BB : Int)) (by decide) hd)
  clear hr hd
  go_enter Try.func20, Try.ntmps20
  go_wp2_with fail
  clear hwa
  refine HN.out.mono ?_
  rintro e w1 ⟨p, v, rfl, hz, hp, hv, hb⟩
  have HY := Lib.hid (intBytes hz (Nat.le_trans (dgw_len l HD.out) (by omega)))
  have hbo := bytes_of (low_dig l) (lv (BB : Int) l).natAbs (by rw [low_lv l HD.out]; have := HLr.out; omega)
  have HB := Lib.hid (below_then HBa.out HBa.out.size hb)
  have HOb := Lib.hid (pw_own_below HOa.out hb)
  clear hz hp hv hb
  go_wp2_with fail
  refine HY.out.mono ?_
  rintro e w2 ⟨A', k, c', rfl, h1, h2, h3, h4, h5⟩
  rw [hbo] at h2 h5
  have HR := Lib.hid (h5 _ h3)
  subst h2
  have hk : (strip (low l).reverse).length ≤ 100000 := Nat.le_trans (strip_length_le _) (by rw [List.length_reverse, low_length]; omega)
  have HB2 := Lib.hid (below_then HB.out HB.out.size h4)
  have HOc := Lib.hid (pw_own_below HOb.out h4)
  clear h3 h4 h5 hbo
  go_wp2_with (first | (at_builtin; refine print_append_row_of (w0 := w) (Value.int .u8) (0 : Int) w.heap.size rfl (.tmp 3) (.tmp 6) 22 5 (.int .u8 0) 1 rfl Try.underlying22 Be.infoU8 rfl (by decide) (fun _ => rfl) (.slice (some ⟨w.heap.size, 0, none⟩) 0 0) [] (strip (low l).reverse) A' (strip (low l).reverse).length c' rfl rfl ?aO ?aR ?aB ?aS ?aL ?_; (case aO => exact HOc.out); (case aR => exact Kd.reads_of_C HR.out); (case aB => exact HB2.out); (case aS => exact HB2.out.size); (case aL => simp; omega); intro v1 w3 ho hb hg hat; have HO1 := Lib.hid ho; have HB3 := Lib.hid hb; clear ho hb hg hat))
  go_ret
  obtain ⟨A3, c3, rfl, h3, h4⟩ := own_reads_of_le (d := (0 : Int)) HO1.out
  exact ⟨A3, c3, rfl, h3, Kd.C_of_reads (h1 := fun _ => rfl) h4, HB3.out⟩

theorem dig_of_wf64 {l : List Int} (h : ∀ x ∈ l, (Lit.int .u64 x).wf = true) : DW l := fun x hx => by
  have := Go.bounds_u64 (h x hx)
  have e : (BB : Int) = 18446744073709551616 := rfl
  omega

set_option maxRecDepth 100000 in
theorem law (A : Option Addr) (c : Nat) (l : List Int) (w : World) (hr : Kd.C (Kd.int .u64) w A l.length l) (hc : l.length ≤ c) (hd : DW l) :
    Calls Try.prog 6 #[.slice A l.length c] w fun e w' => e = .returned (.bool true) ∧ Below w.heap.size w w' := by
  have HR := Lib.hid hr
  have HC := Lib.hid hc
  have HD := Lib.hid hd
  clear hr hc hd
  go_enter Try.func6, Try.ntmps6
  by_cases h0 : (2147483647 : Int) < (l.length : Int)
  · go_wp2
    go_ret
    exact ⟨rfl, Below.refl _ _⟩
  by_cases h1 : (4096 : Int) < (l.length : Int)
  · go_wp2
    go_ret
    exact ⟨rfl, Below.refl _ _⟩
  have hl : l.length ≤ 4096 := by omega
  have HN := Lib.hid (impl_words A c l w HR.out HD.out (by omega))
  go_wp2_with fail
  refine HN.out.mono ?_
  rintro e w1 ⟨A1, c1, rfl, hc1, hC1, hb1⟩
  have HLo := Lib.hid (low_call A c l w1 (Kd.C_below HR.out hb1) HC.out HD.out (by omega))
  have HC1 := Lib.hid hC1
  have HB1 := Lib.hid hb1
  clear hC1 hb1 hc1
  go_wp2_with fail
  refine HLo.out.mono ?_
  rintro e w5 ⟨A5, c5, rfl, hc5, hC5, hb5⟩
  have HT := Lib.hid (turned_call A5 c5 (low l) w5 hC5 hc5 (by rw [low_length]; omega))
  have HC5 := Lib.hid (Kd.C_below HC1.out hb5)
  have HB5 := Lib.hid (below_then HB1.out HB1.out.size hb5)
  clear hC5 hb5 hc5 HLo HC1
  go_wp2_with fail
  refine HT.out.mono ?_
  rintro e w2 ⟨A2, c2, rfl, hc2, hC2, hb2⟩
  have HS := Lib.hid (short_call A2 c2 (low l).reverse w2 hC2 hc2 (by rw [List.length_reverse, low_length]; omega))
  rw [List.length_reverse] at HS
  have HC1b := Lib.hid (Kd.C_below HC5.out hb2)
  have HB2 := Lib.hid (below_then HB5.out HB5.out.size hb2)
  clear hC2 hb2 hc2 HT HC5
  go_wp2_with fail
  refine HS.out.mono ?_
  rintro e w3 ⟨A3, c3, rfl, hc3, hC3, hb3⟩
  have HE := Lib.hid (Be.equal8 A1 A3 _ c1 c3 (strip (low l).reverse) w3 (Kd.C_below HC1b.out hb3) hC3)
  have HB3 := Lib.hid (below_then HB2.out HB2.out.size hb3)
  clear hC3 hb3 hc3 HS HC1b
  go_wp2_with fail
  refine HE.out.mono ?_
  rintro e w4 ⟨rfl, hd4⟩
  have HB4 := Lib.hid (below_then HB3.out HB3.out.size hd4.below)
  clear hd4
  go_wp2
  go_ret
  exact ⟨rfl, HB4.out⟩
end Go.Proofs.Ythckboojmljeiaa.Lw
