/- Walks: BytesLe2BigInt, impl.Number. The law FnExactNumber. -/
import Derived.Test.YthckboojmljeiaaSb
import Derived.Test.YthckboojmljeiaaSp
import Derived.Test.YthckboojmljeiaaRows
import Derived.Test.YthckboojmljeiaaWSized
import Derived.ProofKit
import Derived.OpenShut
import Derived.ChangeOld
namespace Go.Proofs.Ythckboojmljeiaa.Nu
set_option linter.unusedVariables false
set_option linter.unusedSimpArgs false
open Go.RowKit Go.Proofs.YthckboojmljeiaaW.PrintWords Go.Proofs.YthckboojmljeiaaW.PrintLast Go.Proofs.YthckboojmljeiaaW.PrintMore Go.Proofs.Ythckboojmljeiaa.Pl Go.Proofs.Ythckboojmljeiaa.Dg Go.Proofs.Ythckboojmljeiaa.Mem Go.Proofs.Ythckboojmljeiaa.Na Go.Proofs.Ythckboojmljeiaa.Nb Go.Proofs.Ythckboojmljeiaa.Be Go.Proofs.Ythckboojmljeiaa.Ow Go.Proofs.Ythckboojmljeiaa.By Go.Proofs.Ythckboojmljeiaa.Sb Go.Proofs.Ythckboojmljeiaa.Sp

/-- A new Int that holds z. -/
def NewZ (w : World) (z : Int) (e : Ending) (w' : World) : Prop := ∃ p v, e = .returned (.pointer (some ⟨p, 0, none⟩)) ∧ Iz w' p v z ∧ w.heap.size ≤ p ∧ (∀ g, v.ownBlock = some g → w.heap.size ≤ g) ∧ Below w.heap.size w w'

theorem iz_made (w : World) : Iz (w.alloc (.cells #[.bool false, .slice none 0 0] 64)) w.heap.size (.slice none 0 0) 0 := by
  have := It.made w
  unfold Iz
  rw [show Int.natAbs 0 = 0 from rfl, dg_zero]
  exact this

theorem below_chg {w w1 w2 : World} {S : Nat → Prop} (h : Below w.heap.size w w1) (hc : Chg S w1 w2) (hs : ∀ k, S k → w.heap.size ≤ k) : Below w.heap.size w w2 :=
  ⟨hc.os.trans h.os, hc.tape.trans h.tape, hc.output.trans h.output, Nat.le_trans h.size hc.size, fun k hk => (hc.block k (Nat.lt_of_lt_of_le hk h.size) (fun h1 => by have := hs k h1; omega)).trans (h.block k hk)⟩
theorem new_upd {w w1 w2 : World} {p : Nat} {v : Value} {z : Int} (h : Below w.heap.size w w1) (hp : w.heap.size ≤ p) (hv : ∀ g, v.ownBlock = some g → w.heap.size ≤ g) (hu : Upd w1 p v z w2) : NewZ w z (.returned (.pointer (some ⟨p, 0, none⟩))) w2 := by
  obtain ⟨v', h1, h2, h3⟩ := hu
  refine ⟨p, v', rfl, h1, hp, ?_, below_chg h h2 ?_⟩
  · intro g hg
    rcases h3 with h3 | ⟨b, hb, hl⟩
    · exact hv g (by rw [← h3]; exact hg)
    · rw [hb] at hg
      cases hg
      exact Nat.le_trans h.size hl
  · rintro k (rfl | hk)
    · exact hp
    · exact hv k hk

set_option maxHeartbeats 1000000 in
set_option maxRecDepth 100000 in
theorem num_any (A : Option Addr) (c : Nat) (l : List Int) (w : World) (hr : Kd.C (Kd.int .u8) w A l.length l) (hc : l.length ≤ c) (hd : Dig 256 l) (hl : l.length ≤ 100000) :
    Calls Try.prog 35 #[.slice A l.length c] w (NewZ w (lv 256 l)) := by
  have HR := Lib.hid hr
  have HC := Lib.hid hc
  have HD := Lib.hid hd
  have HI := Lib.hid (iz_made w)
  clear hr hc hd
  by_cases h0 : l = []
  · subst h0
    go_enter Try.func35, Try.ntmps35
    go_wp2_with fail
    go_ret
    exact ⟨_, _, rfl, HI.out, Nat.le_refl _, (fun g h => by cases h), (Below.refl _ _).alloc (Nat.le_refl _) _⟩
  · have h1 : 0 < l.length := List.length_pos_iff.2 h0
    obtain ⟨n, hn⟩ : ∃ n, l.length = n := ⟨_, rfl⟩
    rw [hn] at HR HC h1 hl ⊢
    have HN := Lib.hid hn
    clear hn h0
    have hmk : ∀ w : World, (Instr.makeSlice 22 (.int .i64 (n : Int)) (.int .i64 (n : Int))).run Try.prog w = .ok (.slice (some ⟨w.heap.size, 0, none⟩) n n) (w.alloc (.cells (madeCells #[.int .u8 0] n) 5)) := fun w => by
      have := run_mk8 (n : Int) w (by omega) (by omega)
      rwa [Int.toNat_natCast] at this
    have h2 : (0 : Int) < (n : Int) := by omega
    go_enter Try.func35, Try.ntmps35
    go_wp2_with fail
    obtain ⟨w1, hw1⟩ : ∃ w1, w.alloc (.cells #[.bool false, .slice none 0 0] 64) = w1 := ⟨_, rfl⟩
    have hs1 : w1.heap.size = w.heap.size + 1 := by rw [← hw1]; simp
    have hb1 : Below w.heap.size w w1 := by rw [← hw1]; exact (Below.refl _ _).alloc (Nat.le_refl _) _
    rw [hw1] at HI ⊢
    rw [← hs1]
    have HB1 := Lib.hid hb1
    have HS1 := Lib.hid hs1
    have HI2 := Lib.hid (show It w1 w.heap.size (.slice none 0 0) false [] by have := HI.out; unfold Iz at this; rw [show Int.natAbs 0 = 0 from rfl, dg_zero] at this; exact this)
    have HBt := Lib.hid (show Bt w1 (w1.alloc (.cells (madeCells #[.int .u8 0] n) 5)) w1.heap.size n l 0 from ⟨_, Ow.made w1 .u8 5 n (by unfold maxLen; omega), by simp, (Below.refl _ _).alloc (Nat.le_refl _) _⟩)
    clear hw1 hs1 hb1 HI
    go_loopw [6] (fun t wr => ∃ i : Nat, i ≤ n ∧ t = .int .i64 (i : Int) ∧ Hid (Bt w1 wr w1.heap.size n l i)) (fun t _ => n - (intOf t).toNat)
    case atStart => exact ⟨0, by omega, rfl, HBt.out⟩
    case round =>
      clear HBt
      obtain ⟨i, hi, rfl, HBt⟩ := hrel
      by_cases hlt : i < n
      · have hlow : Below w.heap.size w wr := by obtain ⟨_, _, _, h⟩ := HBt.out; exact below_then HB1.out HB1.out.size h
        obtain ⟨ad, e, hx⟩ := Kd.at_int (Kd.C_below HR.out hlow) (i : Int) (by omega) (by omega)
        subst e
        rw [show rd l (i : Int) = l.getD i 0 from by simp [rd], Int.toNat_natCast] at hx
        obtain ⟨x, hx2⟩ : ∃ x, l.getD i 0 = x := ⟨_, rfl⟩
        rw [hx2] at hx
        have HS := Lib.hid (HBt.out.put (by omega) (by rw [HN.out]; omega) x hx2)
        obtain ⟨⟨u, hcell⟩, hfree⟩ := HBt.out.has (n - i - 1) (by omega)
        rw [show n - i - 1 = n - 1 - i by omega] at HS hcell hfree
        have b1 : (i : Int) < (n : Int) := by omega
        have b2 : (0 : Int) ≤ (n : Int) - 1 - (i : Int) := by omega
        have b2b : (i : Int) ≤ (n : Int) - 1 := by omega
        have b3 : (n : Int) - 1 - (i : Int) < (n : Int) := by omega
        have b4 : ((n : Int) - 1 - (i : Int)).toNat = n - 1 - i := by omega
        clear hx2 hlow
        go_wp2_with fail
        go_roundw
        case rel => exact ⟨i + 1, by omega, by go_num, HS.out⟩
        case measure => simp [intOf]; omega
      · have hin : i = n := by omega
        subst hin
        obtain ⟨hO, hb⟩ := HBt.out.all HN.out
        have hC := hO.c
        have HX := Lib.hid (intSetBytes (p := w.heap.size) (some ⟨w1.heap.size, 0, none⟩) i i l.reverse wr (HI2.out.kept (S := fun _ => False) (Chg.of_below hb) (fun h => h) (fun g h => by cases h)) hC (Nat.le_refl _) HD.out.reverse hl)
        rw [List.reverse_reverse] at HX
        have HB := Lib.hid (below_then HB1.out HB1.out.size hb)
        clear hO hb hC HBt
        go_wp2_with fail
        refine HX.out.mono ?_
        rintro e w2 ⟨rfl, hu⟩
        have HU := Lib.hid hu
        clear hu
        go_wp2_with fail
        go_ret
        exact new_upd HB.out (Nat.le_refl _) (fun g h => by cases h) HU.out

theorem dg_len (z : Int) (l : List Int) (hz : z = lv 256 l) (hd : Dig 256 l) : (dg z.natAbs).length ≤ l.length := by
  subst hz
  have h := lv_range (B := 256) (by omega) hd
  refine dg_len_le ?_
  have h1 : (256 : Int) ^ l.length ≤ (BB : Int) ^ l.length := by
    have : (256 : Nat) ^ l.length ≤ BB ^ l.length := Nat.pow_le_pow_left (by decide) _
    rw [pow_cast, show (256 : Int) = ((256 : Nat) : Int) from rfl, ← Int.natCast_pow]
    exact Int.ofNat_le.2 this
  have h2 : ((BB ^ l.length : Nat) : Int) = (BB : Int) ^ l.length := (pow_cast _).symm
  omega

/-- append([]byte{}, y...): y's bytes in a row of their own. -/
theorem lit_row (w : World) : (w.alloc (.cells #[] 5)).ownsRow w.heap.size 5 1 (.slice (some ⟨w.heap.size, 0, none⟩) 0 0) 0 (encs (Value.int .u8) []) :=
  ⟨rfl, .inr ⟨w.heap.size, 0, #[], rfl, Nat.le_refl _, heap_alloc_new w _, Nat.le_refl _, by unfold maxLen; omega, rfl, rfl⟩⟩

set_option maxRecDepth 100000 in
theorem impl_number (A : Option Addr) (c : Nat) (l : List Int) (w : World) (hr : Kd.C (Kd.int .u8) w A l.length l) (hc : l.length ≤ c) (hd : Dig 256 l) (hl : l.length ≤ 100000) :
    Calls Try.prog 14 #[.slice A l.length c] w (Rd8 w (strip l.reverse)) := by
  obtain ⟨wa, hwa⟩ : ∃ wa, w.alloc (.cells #[] 5) = wa := ⟨_, rfl⟩
  have HBa := Lib.hid (show Below w.heap.size w wa from by rw [← hwa]; exact (Below.refl _ _).alloc (Nat.le_refl _) _)
  have HOa := Lib.hid (show wa.ownsRow w.heap.size 5 1 (.slice (some ⟨w.heap.size, 0, none⟩) 0 0) 0 (encs (Value.int .u8) []) from by rw [← hwa]; exact lit_row w)
  have HN := Lib.hid (num_any A c l wa (Kd.C_below hr HBa.out) hc hd hl)
  have HD := Lib.hid hd
  have HLr := Lib.hid (lv_range (B := 256) (by omega) hd)
  clear hr hc hd
  go_enter Try.func14, Try.ntmps14
  go_wp2_with fail
  clear hwa
  refine HN.out.mono ?_
  rintro e w1 ⟨p, v, rfl, hz, hp, hv, hb⟩
  have HY := Lib.hid (intBytes hz (Nat.le_trans (dg_len _ l rfl HD.out) hl))
  have hbo := bytes_of HD.out (lv 256 l).natAbs (by have := HLr.out; omega)
  have hdl := dg_len _ l rfl HD.out
  have HB := Lib.hid (below_then HBa.out HBa.out.size hb)
  have HOb := Lib.hid (pw_own_below HOa.out hb)
  clear hz hp hv hb
  go_wp2_with fail
  refine HY.out.mono ?_
  rintro e w2 ⟨A', k, c', rfl, h1, h2, h3, h4, h5⟩
  rw [hbo] at h2 h5
  have HR := Lib.hid (h5 _ h3)
  subst h2
  have hk : (strip l.reverse).length ≤ 100000 := by exact Nat.le_trans (strip_length_le _) (by rw [List.length_reverse]; exact hl)
  have HB2 := Lib.hid (below_then HB.out HB.out.size h4)
  have HOc := Lib.hid (pw_own_below HOb.out h4)
  clear h3 h4 h5 hbo hdl
  go_wp2_with (first | (at_builtin; refine print_append_row_of (w0 := w) (Value.int .u8) (0 : Int) w.heap.size rfl (.tmp 3) (.tmp 6) 22 5 (.int .u8 0) 1 rfl Try.underlying22 Be.infoU8 rfl (by decide) (fun _ => rfl) (.slice (some ⟨w.heap.size, 0, none⟩) 0 0) [] (strip l.reverse) A' (strip l.reverse).length c' rfl rfl ?aO ?aR ?aB ?aS ?aL ?_; (case aO => exact HOc.out); (case aR => exact Kd.reads_of_C HR.out); (case aB => exact HB2.out); (case aS => exact HB2.out.size); (case aL => simp; omega); intro v1 w3 ho hb hg hat; have HO1 := Lib.hid ho; have HB3 := Lib.hid hb; clear ho hb hg hat))
  go_ret
  obtain ⟨A3, c3, rfl, h3, h4⟩ := own_reads_of_le (d := (0 : Int)) HO1.out
  exact ⟨A3, c3, rfl, h3, Kd.C_of_reads (h1 := fun _ => rfl) h4, HB3.out⟩

theorem dig_of_wf8 {l : List Int} (h : ∀ x ∈ l, (Lit.int .u8 x).wf = true) : Dig 256 l := fun x hx => by
  have := Go.bounds_u8 (h x hx)
  omega

set_option maxRecDepth 100000 in
theorem law (A : Option Addr) (c : Nat) (l : List Int) (w : World) (hr : Kd.C (Kd.int .u8) w A l.length l) (hc : l.length ≤ c) (hd : Dig 256 l) :
    Calls Try.prog 3 #[.slice A l.length c] w fun e w' => e = .returned (.bool true) ∧ Below w.heap.size w w' := by
  by_cases h0 : (l.length : Int) > 2147483647
  · clear hr hc hd
    go_enter Try.func3, Try.ntmps3
    go_wp2
    go_ret
    exact ⟨rfl, Below.refl _ _⟩
  · by_cases h1 : (l.length : Int) > 4096
    · clear hr hc hd
      go_enter Try.func3, Try.ntmps3
      go_wp2
      go_ret
      exact ⟨rfl, Below.refl _ _⟩
    · have HR := Lib.hid hr
      have HC := Lib.hid hc
      have HD := Lib.hid hd
      have hl : l.length ≤ 4096 := by omega
      have HN := Lib.hid (impl_number A c l w hr hc hd (by omega))
      clear hr hc hd
      go_enter Try.func3, Try.ntmps3
      go_wp2_with fail
      refine HN.out.mono ?_
      rintro e w1 ⟨A1, c1, rfl, hc1, hC1, hb1⟩
      have HT := Lib.hid (turned_call A c l w1 (Kd.C_below HR.out hb1) HC.out (by omega))
      have HC1 := Lib.hid hC1
      have HB1 := Lib.hid hb1
      clear hC1 hb1 hc1
      go_wp2_with fail
      refine HT.out.mono ?_
      rintro e w2 ⟨A2, c2, rfl, hc2, hC2, hb2⟩
      have HS := Lib.hid (short_call A2 c2 l.reverse w2 hC2 hc2 (by rw [List.length_reverse]; omega))
      rw [List.length_reverse] at HS
      have HC1b := Lib.hid (Kd.C_below HC1.out hb2)
      have HB2 := Lib.hid (below_then HB1.out HB1.out.size hb2)
      clear hC2 hb2 hc2 HT HC1
      go_wp2_with fail
      refine HS.out.mono ?_
      rintro e w3 ⟨A3, c3, rfl, hc3, hC3, hb3⟩
      have HE := Lib.hid (Be.equal8 A1 A3 _ c1 c3 (strip l.reverse) w3 (Kd.C_below HC1b.out hb3) hC3)
      have HB3 := Lib.hid (below_then HB2.out HB2.out.size hb3)
      clear hC3 hb3 hc3 HS HC1b
      go_wp2_with fail
      refine HE.out.mono ?_
      rintro e w4 ⟨rfl, hd4⟩
      have HB4 := Lib.hid (below_then HB3.out HB3.out.size hd4.below)
      clear hd4
      go_wp2
      go_ret
      exact ⟨rfl, HB4.out⟩
end Go.Proofs.Ythckboojmljeiaa.Nu
