/- The law FnBytesBack. -/
import Derived.Test.YthckboojmljeiaaLw
import Derived.Test.YthckboojmljeiaaLe
namespace Go.Proofs.Ythckboojmljeiaa.Bb
set_option linter.unusedVariables false
set_option linter.unusedSimpArgs false
open Go.RowKit Go.Proofs.YthckboojmljeiaaW.PrintWords Go.Proofs.YthckboojmljeiaaW.PrintLast Go.Proofs.YthckboojmljeiaaW.PrintMore Go.Proofs.Ythckboojmljeiaa.Pl Go.Proofs.Ythckboojmljeiaa.Dg Go.Proofs.Ythckboojmljeiaa.Be Go.Proofs.Ythckboojmljeiaa.Ow Go.Proofs.Ythckboojmljeiaa.By Go.Proofs.Ythckboojmljeiaa.Sp Go.Proofs.Ythckboojmljeiaa.Nu Go.Proofs.Ythckboojmljeiaa.Lw

theorem wds_low (l : List Int) (hd : Dig 18446744073709551616 l) : wds l.length (low l) = l := by
  induction l with
  | nil => rfl
  | cons v r ih =>
    obtain ⟨⟨h0, h1⟩, h2⟩ := hd.cons
    rw [List.length_cons, Sb.wds_cons]
    simp only [low]
    rw [List.take_left' (le8_length v), List.drop_left' (le8_length v), le8_lv v h0 h1, ih h2]

theorem impl_beWords (A : Option Addr) (c : Nat) (l : List Int) (w : World) (hr : Kd.C (Kd.int .u8) w A l.length l) (hc : l.length ≤ c) (hd : Dig 256 l) (hl : l.length ≤ 100000) :
    Calls Try.prog 23 #[.slice A l.length c] w fun e w' => e = .returned (.slice (some ⟨w.heap.size, 0, none⟩) ((l.length + 7) / 8) ((l.length + 7) / 8)) ∧ Q w ((l.length + 7) / 8) (wds ((l.length + 7) / 8) l.reverse) w' := by
  have h := Lib.hid (be_any A c l w hr hc hd hl)
  clear hr hc hd hl
  go_enter Try.func23, Try.ntmps23
  go_wp2_with (first | (go_at_call 40; refine h.out.mono ?_; rintro e w' ⟨rfl, hq⟩; have HQ := Lib.hid hq; clear hq))
  go_ret
  exact ⟨rfl, HQ.out⟩

theorem Q.c {w wr : World} {m : Nat} {xs : List Int} (h : Q w m xs wr) : Kd.C (Kd.int .u64) wr (some ⟨w.heap.size, 0, none⟩) m xs := by
  have hl : xs.length = m := by have := h.1.1; simpa using this
  refine Kd.C_of_reads (h1 := fun _ => rfl) (d := (0 : Int)) ?_
  have hm : m ≤ 9223372036854775807 := by
    rcases h.1.2 with ⟨h0, _⟩ | ⟨g, cap, cur, _, _, _, h1, h2, _⟩
    · cases h0
    · unfold maxLen at h2; omega
  refine ⟨hl, hm, fun _ => ⟨_, rfl, fun j hj => ?_⟩⟩
  rw [add_plain]
  exact h.cell j hj

set_option maxHeartbeats 1000000 in
set_option maxRecDepth 100000 in
theorem law (A : Option Addr) (c : Nat) (l : List Int) (b : Bool) (w : World) (hr : Kd.C (Kd.int .u64) w A l.length l) (hc : l.length ≤ c) (hd : Dig 18446744073709551616 l) :
    Calls Try.prog 7 #[.slice A l.length c, .bool b] w fun e w' => e = .returned (.bool true) ∧ Below w.heap.size w w' := by
  have HR := Lib.hid hr
  have HC := Lib.hid hc
  have HD := Lib.hid hd
  clear hr hc hd
  go_enter Try.func7, Try.ntmps7
  by_cases h0 : (2147483647 : Int) < (l.length : Int)
  · go_wp2
    go_ret
    exact ⟨rfl, Below.refl _ _⟩
  by_cases h1 : (4096 : Int) < (l.length : Int)
  · go_wp2
    go_ret
    exact ⟨rfl, Below.refl _ _⟩
  have hl : l.length ≤ 4096 := by omega
  have HI := Lib.hid (impl_be A l.length c l w HR.out HD.out (by omega))
  have HLr := Lib.hid (show (low l).reverse.length = 8 * l.length by rw [List.length_reverse, low_length])
  have hq8 : (8 * l.length + 7) / 8 = l.length := by omega
  go_wp2_with fail
  refine HI.out.mono ?_
  rintro e w1 ⟨rfl, hq, hb⟩
  have hw := impl_beWords _ (8 * l.length) (low l).reverse w1 (by rw [HLr.out]; exact hq.c) (by rw [HLr.out]; exact Nat.le_refl _) (low_dig l).reverse (by rw [HLr.out]; omega)
  rw [HLr.out, hq8, List.reverse_reverse, wds_low l HD.out] at hw
  have HW := Lib.hid hw
  have HB1 := Lib.hid hb
  clear hw hq hb HI hq8
  go_wp2_with fail
  refine HW.out.mono ?_
  rintro e w2 ⟨rfl, hq⟩
  have HB2 := Lib.hid (below_then HB1.out HB1.out.size hq.2)
  have HE := Lib.hid (Be.equal _ A l.length l.length c l w2 (Q.c hq) (Kd.C_below HR.out HB2.out))
  clear hq HW
  go_wp2_with fail
  refine HE.out.mono ?_
  rintro e w3 ⟨rfl, hd3⟩
  have HB3 := Lib.hid (below_then HB2.out HB2.out.size hd3.below)
  clear hd3 HE
  have HN := Lib.hid (impl_words A c l w3 (Kd.C_below HR.out HB3.out) HD.out (by omega))
  go_wp2_with fail
  refine HN.out.mono ?_
  rintro e w4 ⟨A4, c4, rfl, hc4, hC4, hb4⟩
  have HB4 := Lib.hid (below_then HB3.out HB3.out.size hb4)
  have HC4 := Lib.hid hC4
  have HL := Lib.hid (impl_le A l.length c l w4 (Kd.C_below HR.out HB4.out) HD.out (by omega))
  clear hc4 hC4 hb4 HN
  go_wp2_with fail
  refine HL.out.mono ?_
  rintro e w5 ⟨rfl, hq, hb5⟩
  have HB5 := Lib.hid (below_then HB4.out HB4.out.size hb5)
  have HC5 := Lib.hid (Kd.C_below HC4.out hb5)
  have hnn := impl_number (some ⟨w4.heap.size, 0, none⟩) (8 * l.length) (low l) w5 (by rw [low_length]; exact hq.c) (by rw [low_length]; exact Nat.le_refl _) (low_dig l) (by rw [low_length]; omega)
  rw [low_length] at hnn
  have HNn := Lib.hid hnn
  clear hq hb5 hnn HL HC4
  go_wp2_with fail
  refine HNn.out.mono ?_
  rintro e w6 ⟨A6, c6, rfl, hc6, hC6, hb6⟩
  have HB6 := Lib.hid (below_then HB5.out HB5.out.size hb6)
  have HE := Lib.hid (Be.equal8 A4 A6 _ c4 c6 (strip (low l).reverse) w6 (Kd.C_below HC5.out hb6) hC6)
  clear hc6 hC6 hb6 HNn HC5
  go_wp2_with fail
  refine HE.out.mono ?_
  rintro e w7 ⟨rfl, hd7⟩
  have HB7 := Lib.hid (below_then HB6.out HB6.out.size hd7.below)
  clear hd7 HE
  have HL8 := Lib.hid (show Calls Try.prog 24 #[.slice A l.length c, .bool b] w7 fun e w' => ∃ A', e = .returned (.slice A' (8 * l.length) (8 * l.length)) ∧ Below w7.heap.size w7 w' from by
    cases b
    · refine (impl_le A l.length c l w7 (Kd.C_below HR.out HB7.out) HD.out (by omega)).mono ?_
      rintro e w' ⟨rfl, _, hb⟩
      exact ⟨_, rfl, hb⟩
    · refine (impl_be A l.length c l w7 (Kd.C_below HR.out HB7.out) HD.out (by omega)).mono ?_
      rintro e w' ⟨rfl, _, hb⟩
      exact ⟨_, rfl, hb⟩)
  go_wp2_with fail
  refine HL8.out.mono ?_
  rintro e w8 ⟨A8, rfl, hb8⟩
  have HB8 := Lib.hid (below_then HB7.out HB7.out.size hb8)
  clear hb8 HL8
  go_wp2_with fail
  go_ret
  exact ⟨rfl, HB8.out⟩
end Go.Proofs.Ythckboojmljeiaa.Bb
