/- Walk: impl.Store. The law FnExactStore. -/
import Derived.Test.YthckboojmljeiaaBs
namespace Go.Proofs.Ythckboojmljeiaa.St
set_option linter.unusedVariables false
set_option linter.unusedSimpArgs false
open Go.RowKit Go.Proofs.YthckboojmljeiaaW.PrintWords Go.Proofs.YthckboojmljeiaaW.PrintLast Go.Proofs.YthckboojmljeiaaW.PrintMore Go.Proofs.Ythckboojmljeiaa.Pl Go.Proofs.Ythckboojmljeiaa.Dg Go.Proofs.Ythckboojmljeiaa.Mem Go.Proofs.Ythckboojmljeiaa.Na Go.Proofs.Ythckboojmljeiaa.Nb Go.Proofs.Ythckboojmljeiaa.Be Go.Proofs.Ythckboojmljeiaa.Ow Go.Proofs.Ythckboojmljeiaa.By Go.Proofs.Ythckboojmljeiaa.Sp Go.Proofs.Ythckboojmljeiaa.Nu Go.Proofs.Ythckboojmljeiaa.In Go.Proofs.Ythckboojmljeiaa.Bl Go.Proofs.Ythckboojmljeiaa.Bn Go.Proofs.Ythckboojmljeiaa.Bs

/-- The number of an argument. -/
def ofZ (n : List Int) (b : Bool) : Int := if b then - lv 256 n.reverse else lv 256 n.reverse
theorem ofZ_abs (n : List Int) (b : Bool) (hd : Dig 256 n) : (((ofZ n b).natAbs : Nat) : Int) = lv 256 n.reverse := by
  have h := (lv_range (B := 256) (by omega) hd.reverse).1
  unfold ofZ
  cases b
  · simp; omega
  · simp; omega
theorem bytes_n (n : List Int) (b : Bool) (hd : Dig 256 n) : strip (low (dg (ofZ n b).natAbs)).reverse = strip n := by
  rw [bytes_of hd.reverse _ (ofZ_abs n b hd).symm, List.reverse_reverse]
theorem strip_nil_iff (n : List Int) (hd : Dig 256 n) : (strip n).length = 0 ↔ lv 256 n.reverse = 0 := by
  constructor
  · intro h
    rw [← strip_lv, List.length_eq_zero_iff.1 h]
    rfl
  · intro h
    have := strip_len 0 n hd (by rw [h]; rfl)
    rw [this]
    rfl
theorem stLe_eq (buf n : List Int) (b : Bool) (hd : Dig 256 n) : stLe buf (ofZ n b) = storeL buf n b := by
  unfold stLe storeL
  rw [bytes_n n b hd]
  have hi := strip_nil_iff n hd
  have h0 := (lv_range (B := 256) (by omega) hd.reverse).1
  have e : (0 ≤ ofZ n b) ↔ ¬ (b = true ∧ 0 < (strip n).length) := by
    unfold ofZ
    cases b
    · simp; exact h0
    · simp only [if_true, true_and]
      omega
  by_cases h1 : (strip n).length ≤ buf.length
  · by_cases h2 : b = true ∧ 0 < (strip n).length
    · rw [if_neg (fun h => (e.1 h.2) h2), if_pos (.inr h2)]
    · rw [if_pos ⟨h1, e.2 h2⟩, if_neg (by rintro (h | h); omega; exact h2 h)]
  · rw [if_neg (fun h => h1 h.1), if_pos (.inl (by omega))]
theorem ofZ_len (n : List Int) (b : Bool) (hd : Dig 256 n) : (dg (ofZ n b).natAbs).length ≤ n.length := by
  have h := dg_len (((ofZ n b).natAbs : Nat) : Int) n.reverse (ofZ_abs n b hd) hd.reverse
  rw [List.length_reverse] at h
  exact h

set_option maxRecDepth 100000 in
theorem impl_store (A : Option Addr) (c : Nat) (l : List Int) (A1 : Option Addr) (c1 : Nat) (n : List Int) (b : Bool) (w : World) (hr : Kd.C (Kd.int .u8) w A l.length l) (hc : l.length ≤ c) (hl : l.length ≤ 10000) (hr1 : Kd.C (Kd.int .u8) w A1 n.length n) (hc1 : n.length ≤ c1) (hl1 : n.length ≤ 10000) (hd1 : Dig 256 n) :
    Calls Try.prog 17 #[.slice A l.length c, .slice A1 n.length c1, .bool b] w (Rd8 w (stLe l (ofZ n b))) := by
  obtain ⟨wa, hwa⟩ : ∃ wa, w.alloc (.cells #[] 5) = wa := ⟨_, rfl⟩
  have HBa := Lib.hid (show Below w.heap.size w wa from by rw [← hwa]; exact (Below.refl _ _).alloc (Nat.le_refl _) _)
  have HOa := Lib.hid (show wa.ownsRow w.heap.size 5 1 (.slice (some ⟨w.heap.size, 0, none⟩) 0 0) 0 (encs (Value.int .u8) []) from by rw [← hwa]; exact lit_row w)
  have HR := Lib.hid (Kd.C_below hr HBa.out)
  have HN := Lib.hid (fun (w2 : World) (hb : Below w.heap.size w w2) => impl_of A1 c1 n b w2 (Kd.C_below hr1 hb) hc1 hd1 (by omega))
  have HZ := Lib.hid (ofZ_len n b hd1)
  clear hr hr1 hd1 hc1
  go_enter Try.func17, Try.ntmps17
  go_wp2_with (first | (at_builtin; refine print_append_row_of (w0 := w) (Value.int .u8) (0 : Int) w.heap.size rfl (.tmp 8) (.tmp 9) 22 5 (.int .u8 0) 1 rfl Try.underlying22 Be.infoU8 rfl (by decide) (fun _ => rfl) (.slice (some ⟨w.heap.size, 0, none⟩) 0 0) [] l A l.length c rfl rfl ?aO ?aR ?aB ?aS ?aL ?_; (case aO => exact HOa.out); (case aR => exact Kd.reads_of_C HR.out); (case aB => exact HBa.out); (case aS => exact HBa.out.size); (case aL => simp; omega); intro v1 w3 ho hb hg hat; have HO1 := Lib.hid ho; have HB3 := Lib.hid hb; clear ho hb hg))
  obtain ⟨g, cap, rfl⟩ : ∃ g cap, v1 = .slice (some ⟨g, 0, none⟩) l.length cap := by
    rcases HO1.out.2 with ⟨h, _⟩ | ⟨g, cap, cur, h, _⟩
    · subst h
      rcases hat with h | ⟨b, h, _⟩ <;> cases h
    · exact ⟨g, cap, h⟩
  have HO2 := Lib.hid (show w3.ownsRow w.heap.size 5 1 (.slice (some ⟨g, 0, none⟩) l.length cap) l.length (nums .u8 l) from HO1.out)
  clear hat HO1 hwa
  have hn := HN.out w3 HB3.out
  rw [show (if b = true then -lv 256 n.reverse else lv 256 n.reverse) = ofZ n b from rfl] at hn
  have HN2 := Lib.hid hn
  clear hn HN
  go_wp2_with fail
  refine HN2.out.mono ?_
  rintro e w4 ⟨p, v, rfl, hz, hp, hv, hb⟩
  have HO3 := Lib.hid (pw_own_below HO2.out hb)
  have HS := Lib.hid (store_any (B := w.heap.size) (g := g) (n := l.length) (cap := cap) (xs := l) hz (by have := HZ.out; omega) HO3.out (by omega))
  have HB4 := Lib.hid (below_then HB3.out HB3.out.size hb)
  clear hz hp hv hb
  go_wp2_with fail
  refine HS.out.mono ?_
  rintro e w5 ⟨rfl, h1, h2⟩
  have H1 := Lib.hid h1
  have H2 := Lib.hid (below_of_grown HB4.out h2 HB4.out.size (HO2.out.lt g rfl).1)
  clear h1 h2
  go_wp2_with fail
  go_ret
  have hl2 : (stLe l (ofZ n b)).length = l.length := by
    have := H1.out.1
    simpa [nums] using this
  obtain ⟨A3, c3, h3, h4, h5⟩ := own_reads_of_le (enc := Value.int .u8) (d := (0 : Int)) (xs := stLe l (ofZ n b)) H1.out
  rw [← hl2] at h3 h4 h5
  refine ⟨A3, c3, ?_, h4, Kd.C_of_reads (h1 := fun _ => rfl) h5, H2.out⟩
  rw [← h3]
  rw [hl2]
  rfl

set_option maxRecDepth 100000 in
theorem law (A : Option Addr) (c : Nat) (l : List Int) (A1 : Option Addr) (c1 : Nat) (n : List Int) (b : Bool) (w : World) (hr : Kd.C (Kd.int .u8) w A l.length l) (hc : l.length ≤ c) (hr1 : Kd.C (Kd.int .u8) w A1 n.length n) (hc1 : n.length ≤ c1) (hd1 : Dig 256 n) :
    Calls Try.prog 4 #[.slice A l.length c, .slice A1 n.length c1, .bool b] w fun e w' => e = .returned (.bool true) ∧ Below w.heap.size w w' := by
  have HR := Lib.hid hr
  have HC := Lib.hid hc
  have HR1 := Lib.hid hr1
  have HC1 := Lib.hid hc1
  have HD := Lib.hid hd1
  clear hr hc hr1 hc1 hd1
  go_enter Try.func4, Try.ntmps4
  by_cases h0 : (2147483647 : Int) < (l.length : Int)
  · go_wp2
    go_ret
    exact ⟨rfl, Below.refl _ _⟩
  by_cases h1 : (2147483647 : Int) < (n.length : Int)
  · go_wp2
    go_ret
    exact ⟨rfl, Below.refl _ _⟩
  by_cases h2 : (4096 : Int) < (l.length : Int)
  · go_wp2
    go_ret
    exact ⟨rfl, Below.refl _ _⟩
  by_cases h3 : (4096 : Int) < (n.length : Int)
  · go_wp2
    go_ret
    exact ⟨rfl, Below.refl _ _⟩
  have HI := Lib.hid (impl_store A c l A1 c1 n b w HR.out HC.out (by omega) HR1.out HC1.out (by omega) HD.out)
  rw [stLe_eq l n b HD.out] at HI
  have hl1 : l.length ≤ 4096 := by omega
  have hl2 : n.length ≤ 4096 := by omega
  go_wp2_with fail
  refine HI.out.mono ?_
  rintro e w1 ⟨A2, c2, rfl, hc2, hC2, hb2⟩
  have HS := Lib.hid (store_call A c l A1 c1 n b w1 (Kd.C_below HR.out hb2) HC.out (by omega) (Kd.C_below HR1.out hb2) HC1.out (by omega))
  have HC2 := Lib.hid hC2
  have HB2 := Lib.hid hb2
  clear hc2 hC2 hb2 HI
  go_wp2_with fail
  refine HS.out.mono ?_
  rintro e w3 ⟨A3, c3, rfl, hc3, hC3, hb3⟩
  have HE := Lib.hid (Be.equal8 A2 A3 _ c2 c3 (storeL l n b) w3 (Kd.C_below HC2.out hb3) hC3)
  have HB3 := Lib.hid (below_then HB2.out HB2.out.size hb3)
  clear hC3 hb3 hc3 HS HC2
  go_wp2_with fail
  refine HE.out.mono ?_
  rintro e w4 ⟨rfl, hd4⟩
  have HB4 := Lib.hid (below_then HB3.out HB3.out.size hd4.below)
  clear hd4
  go_wp2
  go_ret
  exact ⟨rfl, HB4.out⟩
end Go.Proofs.Ythckboojmljeiaa.St
