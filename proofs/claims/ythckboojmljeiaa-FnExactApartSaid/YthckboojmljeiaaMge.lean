/- Walks: BytesLe2BigInt, impl.Number. The law FnExactNumber; Walks: Int.Set, Int.Neg; impl.of; Walk: BigInt2BytesLe; Walk: impl.Store. The law FnExactStore; Two Ints that were made anew and lie apart; Three Ints that were made anew and lie apart; a row of words beside them. -/
import Derived.Test.YthckboojmljeiaaMgd
import Derived.Test.YthckboojmljeiaaRows
import Derived.Test.YthckboojmljeiaaWSized
import Derived.ProofKit
import Derived.OpenShut
import Derived.ChangeOld
import Derived.Test.YthckboojmljeiaaMgb
import Derived.Deep.RegionLaw
import Derived.Test.YthckboojmljeiaaMgj
namespace Go.Proofs.Ythckboojmljeiaa.Nu
set_option linter.unusedVariables false
set_option linter.unusedSimpArgs false
open Go.RowKit Go.Proofs.YthckboojmljeiaaW.PrintWords Go.Proofs.YthckboojmljeiaaW.PrintLast Go.Proofs.YthckboojmljeiaaW.PrintMore Go.Proofs.Ythckboojmljeiaa.Pl Go.Proofs.Ythckboojmljeiaa.Dg Go.Proofs.Ythckboojmljeiaa.Mem Go.Proofs.Ythckboojmljeiaa.Na Go.Proofs.Ythckboojmljeiaa.Nb Go.Proofs.Ythckboojmljeiaa.Be Go.Proofs.Ythckboojmljeiaa.Ow Go.Proofs.Ythckboojmljeiaa.By Go.Proofs.Ythckboojmljeiaa.Sb Go.Proofs.Ythckboojmljeiaa.Sp

/-- A new Int that holds z. -/
def NewZ (w : World) (z : Int) (e : Ending) (w' : World) : Prop := ∃ p v, e = .returned (.pointer (some ⟨p, 0, none⟩)) ∧ Iz w' p v z ∧ w.heap.size ≤ p ∧ (∀ g, v.ownBlock = some g → w.heap.size ≤ g) ∧ Below w.heap.size w w'

theorem iz_made (w : World) : Iz (w.alloc (.cells #[.bool false, .slice none 0 0] 64)) w.heap.size (.slice none 0 0) 0 := by
  have := It.made w
  unfold Iz
  rw [show Int.natAbs 0 = 0 from rfl, dg_zero]
  exact this

theorem below_chg {w w1 w2 : World} {S : Nat → Prop} (h : Below w.heap.size w w1) (hc : Chg S w1 w2) (hs : ∀ k, S k → w.heap.size ≤ k) : Below w.heap.size w w2 :=
  ⟨hc.os.trans h.os, hc.tape.trans h.tape, hc.output.trans h.output, Nat.le_trans h.size hc.size, fun k hk => (hc.block k (Nat.lt_of_lt_of_le hk h.size) (fun h1 => by have := hs k h1; omega)).trans (h.block k hk)⟩
theorem new_upd {w w1 w2 : World} {p : Nat} {v : Value} {z : Int} (h : Below w.heap.size w w1) (hp : w.heap.size ≤ p) (hv : ∀ g, v.ownBlock = some g → w.heap.size ≤ g) (hu : Upd w1 p v z w2) : NewZ w z (.returned (.pointer (some ⟨p, 0, none⟩))) w2 := by
  obtain ⟨v', h1, h2, h3⟩ := hu
  refine ⟨p, v', rfl, h1, hp, ?_, below_chg h h2 ?_⟩
  · intro g hg
    rcases h3 with h3 | ⟨b, hb, hl⟩
    · exact hv g (by rw [← h3]; exact hg)
    · rw [hb] at hg
      cases hg
      exact Nat.le_trans h.size hl
  · rintro k (rfl | hk)
    · exact hp
    · exact hv k hk

set_option maxHeartbeats 1000000 in
set_option maxRecDepth 100000 in
theorem num_any (A : Option Addr) (c : Nat) (l : List Int) (w : World) (hr : Kd.C (Kd.int .u8) w A l.length l) (hc : l.length ≤ c) (hd : Dig 256 l) (hl : l.length ≤ 100000) :
    Calls Try.prog 35 #[.slice A l.length c] w (NewZ w (lv 256 l)) := by
  have HR := Lib.hid hr
  have HC := Lib.hid hc
  have HD := Lib.hid hd
  have HI := Lib.hid (iz_made w)
  clear hr hc hd
  by_cases h0 : l = []
  · subst h0
    go_enter Try.func35, Try.ntmps35
    go_wp2_with fail
    go_ret
    exact ⟨_, _, rfl, HI.out, Nat.le_refl _, (fun g h => by cases h), (Below.refl _ _).alloc (Nat.le_refl _) _⟩
  · have h1 : 0 < l.length := List.length_pos_iff.2 h0
    obtain ⟨n, hn⟩ : ∃ n, l.length = n := ⟨_, rfl⟩
    rw [hn] at HR HC h1 hl ⊢
    have HN := Lib.hid hn
    clear hn h0
    have hmk : ∀ w : World, (Instr.makeSlice 22 (.int .i64 (n : Int)) (.int .i64 (n : Int))).run Try.prog w = .ok (.slice (some ⟨w.heap.size, 0, none⟩) n n) (w.alloc (.cells (madeCells #[.int .u8 0] n) 5)) := fun w => by
      have := run_mk8 (n : Int) w (by omega) (by omega)
      rwa [Int.toNat_natCast] at this
    have h2 : (0 : Int) < (n : Int) := by omega
    go_enter Try.func35, Try.ntmps35
    go_wp2_with fail
    obtain ⟨w1, hw1⟩ : ∃ w1, w.alloc (.cells #[.bool false, .slice none 0 0] 64) = w1 := ⟨_, rfl⟩
    have hs1 : w1.heap.size = w.heap.size + 1 := by rw [← hw1]; simp
    have hb1 : Below w.heap.size w w1 := by rw [← hw1]; exact (Below.refl _ _).alloc (Nat.le_refl _) _
    rw [hw1] at HI ⊢
    rw [← hs1]
    have HB1 := Lib.hid hb1
    have HS1 := Lib.hid hs1
    have HI2 := Lib.hid (show It w1 w.heap.size (.slice none 0 0) false [] by have := HI.out; unfold Iz at this; rw [show Int.natAbs 0 = 0 from rfl, dg_zero] at this; exact this)
    have HBt := Lib.hid (show Bt w1 (w1.alloc (.cells (madeCells #[.int .u8 0] n) 5)) w1.heap.size n l 0 from ⟨_, Ow.made w1 .u8 5 n (by unfold maxLen; omega), by simp, (Below.refl _ _).alloc (Nat.le_refl _) _⟩)
    clear hw1 hs1 hb1 HI
    go_loopw [6] (fun t wr => ∃ i : Nat, i ≤ n ∧ t = .int .i64 (i : Int) ∧ Hid (Bt w1 wr w1.heap.size n l i)) (fun t _ => n - (intOf t).toNat)
    case atStart => exact ⟨0, by omega, rfl, HBt.out⟩
    case round =>
      clear HBt
      obtain ⟨i, hi, rfl, HBt⟩ := hrel
      by_cases hlt : i < n
      · have hlow : Below w.heap.size w wr := by obtain ⟨_, _, _, h⟩ := HBt.out; exact below_then HB1.out HB1.out.size h
        obtain ⟨ad, e, hx⟩ := Kd.at_int (Kd.C_below HR.out hlow) (i : Int) (by omega) (by omega)
        subst e
        rw [show rd l (i : Int) = l.getD i 0 from by simp [rd], Int.toNat_natCast] at hx
        obtain ⟨x, hx2⟩ : ∃ x, l.getD i 0 = x := ⟨_, rfl⟩
        rw [hx2] at hx
        have HS := Lib.hid (HBt.out.put (by omega) (by rw [HN.out]; omega) x hx2)
        obtain ⟨⟨u, hcell⟩, hfree⟩ := HBt.out.has (n - i - 1) (by omega)
        rw [show n - i - 1 = n - 1 - i by omega] at HS hcell hfree
        have b1 : (i : Int) < (n : Int) := by omega
        have b2 : (0 : Int) ≤ (n : Int) - 1 - (i : Int) := by omega
        have b2b : (i : Int) ≤ (n : Int) - 1 := by omega
        have b3 : (n : Int) - 1 - (i : Int) < (n : Int) := by omega
        have b4 : ((n : Int) - 1 - (i : Int)).toNat = n - 1 - i := by omega
        clear hx2 hlow
        go_wp2_with fail
        go_roundw
        case rel => exact ⟨i + 1, by omega, by go_num, HS.out⟩
        case measure => simp [intOf]; omega
      · have hin : i = n := by omega
        subst hin
        obtain ⟨hO, hb⟩ := HBt.out.all HN.out
        have hC := hO.c
        have HX := Lib.hid (intSetBytes (p := w.heap.size) (some ⟨w1.heap.size, 0, none⟩) i i l.reverse wr (HI2.out.kept (S := fun _ => False) (Chg.of_below hb) (fun h => h) (fun g h => by cases h)) hC (Nat.le_refl _) HD.out.reverse hl)
        rw [List.reverse_reverse] at HX
        have HB := Lib.hid (below_then HB1.out HB1.out.size hb)
        clear hO hb hC HBt
        go_wp2_with fail
        refine HX.out.mono ?_
        rintro e w2 ⟨rfl, hu⟩
        have HU := Lib.hid hu
        clear hu
        go_wp2_with fail
        go_ret
        exact new_upd HB.out (Nat.le_refl _) (fun g h => by cases h) HU.out

theorem dg_len (z : Int) (l : List Int) (hz : z = lv 256 l) (hd : Dig 256 l) : (dg z.natAbs).length ≤ l.length := by
  subst hz
  have h := lv_range (B := 256) (by omega) hd
  refine dg_len_le ?_
  have h1 : (256 : Int) ^ l.length ≤ (BB : Int) ^ l.length := by
    have : (256 : Nat) ^ l.length ≤ BB ^ l.length := Nat.pow_le_pow_left (by decide) _
    rw [pow_cast, show (256 : Int) = ((256 : Nat) : Int) from rfl, ← Int.natCast_pow]
    exact Int.ofNat_le.2 this
  have h2 : ((BB ^ l.length : Nat) : Int) = (BB : Int) ^ l.length := (pow_cast _).symm
  omega

/-- append([]byte{}, y...): y's bytes in a row of their own. -/
theorem lit_row (w : World) : (w.alloc (.cells #[] 5)).ownsRow w.heap.size 5 1 (.slice (some ⟨w.heap.size, 0, none⟩) 0 0) 0 (encs (Value.int .u8) []) :=
  ⟨rfl, .inr ⟨w.heap.size, 0, #[], rfl, Nat.le_refl _, heap_alloc_new w _, Nat.le_refl _, by unfold maxLen; omega, rfl, rfl⟩⟩

set_option maxRecDepth 100000 in
theorem impl_number (A : Option Addr) (c : Nat) (l : List Int) (w : World) (hr : Kd.C (Kd.int .u8) w A l.length l) (hc : l.length ≤ c) (hd : Dig 256 l) (hl : l.length ≤ 100000) :
    Calls Try.prog 14 #[.slice A l.length c] w (Rd8 w (strip l.reverse)) := by
  obtain ⟨wa, hwa⟩ : ∃ wa, w.alloc (.cells #[] 5) = wa := ⟨_, rfl⟩
  have HBa := Lib.hid (show Below w.heap.size w wa from by rw [← hwa]; exact (Below.refl _ _).alloc (Nat.le_refl _) _)
  have HOa := Lib.hid (show wa.ownsRow w.heap.size 5 1 (.slice (some ⟨w.heap.size, 0, none⟩) 0 0) 0 (encs (Value.int .u8) []) from by rw [← hwa]; exact lit_row w)
  have HN := Lib.hid (num_any A c l wa (Kd.C_below hr HBa.out) hc hd hl)
  have HD := Lib.hid hd
  have HLr := Lib.hid (lv_range (B := 256) (by omega) hd)
  clear hr hc hd
  go_enter Try.func14, Try.ntmps14
  go_wp2_with fail
  clear hwa
  refine HN.out.mono ?_
  rintro e w1 ⟨p, v, rfl, hz, hp, hv, hb⟩
  have HY := Lib.hid (intBytes hz (Nat.le_trans (dg_len _ l rfl HD.out) hl))
  have hbo := bytes_of HD.out (lv 256 l).natAbs (by have := HLr.out; omega)
  have hdl := dg_len _ l rfl HD.out
  have HB := Lib.hid (below_then HBa.out HBa.out.size hb)
  have HOb := Lib.hid (pw_own_below HOa.out hb)
  clear hz hp hv hb
  go_wp2_with fail
  refine HY.out.mono ?_
  rintro e w2 ⟨A', k, c', rfl, h1, h2, h3, h4, h5⟩
  rw [hbo] at h2 h5
  have HR := Lib.hid (h5 _ h3)
  subst h2
  have hk : (strip l.reverse).length ≤ 100000 := by exact Nat.le_trans (strip_length_le _) (by rw [List.length_reverse]; exact hl)
  have HB2 := Lib.hid (below_then HB.out HB.out.size h4)
  have HOc := Lib.hid (pw_own_below HOb.out h4)
  clear h3 h4 h5 hbo hdl
  go_wp2_with (first | (at_builtin; refine print_append_row_of (w0 := w) (Value.int .u8) (0 : Int) w.heap.size rfl (.tmp 3) (.tmp 6) 22 5 (.int .u8 0) 1 rfl Try.underlying22 Be.infoU8 rfl (by decide) (fun _ => rfl) (.slice (some ⟨w.heap.size, 0, none⟩) 0 0) [] (strip l.reverse) A' (strip l.reverse).length c' rfl rfl ?aO ?aR ?aB ?aS ?aL ?_; (case aO => exact HOc.out); (case aR => exact Kd.reads_of_C HR.out); (case aB => exact HB2.out); (case aS => exact HB2.out.size); (case aL => simp; omega); intro v1 w3 ho hb hg hat; have HO1 := Lib.hid ho; have HB3 := Lib.hid hb; clear ho hb hg hat))
  go_ret
  obtain ⟨A3, c3, rfl, h3, h4⟩ := own_reads_of_le (d := (0 : Int)) HO1.out
  exact ⟨A3, c3, rfl, h3, Kd.C_of_reads (h1 := fun _ => rfl) h4, HB3.out⟩

theorem dig_of_wf8 {l : List Int} (h : ∀ x ∈ l, (Lit.int .u8 x).wf = true) : Dig 256 l := fun x hx => by
  have := Go.bounds_u8 (h x hx)
  omega

set_option maxRecDepth 100000 in
theorem law (A : Option Addr) (c : Nat) (l : List Int) (w : World) (hr : Kd.C (Kd.int .u8) w A l.length l) (hc : l.length ≤ c) (hd : Dig 256 l) :
    Calls Try.prog 3 #[.slice A l.length c] w fun e w' => e = .returned (.bool true) ∧ Below w.heap.size w w' := by
  by_cases h0 : (l.length : Int) > 2147483647
  · clear hr hc hd
    go_enter Try.func3, Try.ntmps3
    go_wp2
    go_ret
    exact ⟨rfl, Below.refl _ _⟩
  · by_cases h1 : (l.length : Int) > 4096
    · clear hr hc hd
      go_enter Try.func3, Try.ntmps3
      go_wp2
      go_ret
      exact ⟨rfl, Below.refl _ _⟩
    · have HR := Lib.hid hr
      have HC := Lib.hid hc
      have HD := Lib.hid hd
      have hl : l.length ≤ 4096 := by omega
      have HN := Lib.hid (impl_number A c l w hr hc hd (by omega))
      clear hr hc hd
      go_enter Try.func3, Try.ntmps3
      go_wp2_with fail
      refine HN.out.mono ?_
      rintro e w1 ⟨A1, c1, rfl, hc1, hC1, hb1⟩
      have HT := Lib.hid (turned_call A c l w1 (Kd.C_below HR.out hb1) HC.out (by omega))
      have HC1 := Lib.hid hC1
      have HB1 := Lib.hid hb1
      clear hC1 hb1 hc1
      go_wp2_with fail
      refine HT.out.mono ?_
      rintro e w2 ⟨A2, c2, rfl, hc2, hC2, hb2⟩
      have HS := Lib.hid (short_call A2 c2 l.reverse w2 hC2 hc2 (by rw [List.length_reverse]; omega))
      rw [List.length_reverse] at HS
      have HC1b := Lib.hid (Kd.C_below HC1.out hb2)
      have HB2 := Lib.hid (below_then HB1.out HB1.out.size hb2)
      clear hC2 hb2 hc2 HT HC1
      go_wp2_with fail
      refine HS.out.mono ?_
      rintro e w3 ⟨A3, c3, rfl, hc3, hC3, hb3⟩
      have HE := Lib.hid (Be.equal8 A1 A3 _ c1 c3 (strip l.reverse) w3 (Kd.C_below HC1b.out hb3) hC3)
      have HB3 := Lib.hid (below_then HB2.out HB2.out.size hb3)
      clear hC3 hb3 hc3 HS HC1b
      go_wp2_with fail
      refine HE.out.mono ?_
      rintro e w4 ⟨rfl, hd4⟩
      have HB4 := Lib.hid (below_then HB3.out HB3.out.size hd4.below)
      clear hd4
      go_wp2
      go_ret
      exact ⟨rfl, HB4.out⟩
end Go.Proofs.Ythckboojmljeiaa.Nu
namespace Go.Proofs.Ythckboojmljeiaa.In
set_option linter.unusedVariables false
set_option linter.unusedSimpArgs false
open Go.RowKit Go.Proofs.YthckboojmljeiaaW.PrintWords Go.Proofs.Ythckboojmljeiaa.Pl Go.Proofs.Ythckboojmljeiaa.Dg Go.Proofs.Ythckboojmljeiaa.Mem Go.Proofs.Ythckboojmljeiaa.Na Go.Proofs.Ythckboojmljeiaa.Nb Go.Proofs.Ythckboojmljeiaa.Nu

theorem size64 : (Try.prog.info? 64).map (fun i => i.size) = some 2 := by kernel_rfl
theorem neqI_same (a : Addr) (w : World) : (binOp .neq 47 (.pointer (some a)) (.pointer (some a))).run Try.prog w = .ok (.bool false) w := by
  obtain ⟨i, hi, _⟩ := Option.map_eq_some_iff.1 size64
  exact Lib.run_neq_ptr_same w a Try.underlying47 hi
theorem neqI_other {w : World} {p q : Nat} {v u : Value} {a b : Bool} {l l' : List Int} (hne : p ≠ q) (h : It w p v a l) (h' : It w q u b l') : (binOp .neq 47 (.pointer (some ⟨p, 0, none⟩)) (.pointer (some ⟨q, 0, none⟩))).run Try.prog w = .ok (.bool true) w := by
  obtain ⟨i, hi, hs⟩ := Option.map_eq_some_iff.1 size64
  exact Vv.run_neq_ptr_other w Try.underlying47 hi (by rw [hs]; decide) (by simp [hne]) h.1 h'.1

theorem cell_far {w1 : World} {p q o : Nat} {x : Value} (h : w1.cell? ⟨q, o, none⟩ = some x) (hne : p ≠ q) (u : Value) : (w1.setCell ⟨p, 1, none⟩ u).cell? ⟨q, o, none⟩ = some x := by
  rw [World.cell?_of_block (w := w1) (Below.heap_setCell w1 ⟨p, 1, none⟩ _ q (fun e => hne e.symm))]
  exact h
theorem upd_drew {w w' : World} {p : Nat} {v : Value} {z : Int} (h : Upd w.drew p v z w') : Upd w p v z w' := by
  obtain ⟨v', h1, h2, h3⟩ := h
  exact ⟨v', h1, ⟨h2.os, h2.tape, h2.output, h2.size, h2.block⟩, h3⟩
theorem intSet_self (p : Nat) (w : World) : Calls Try.prog 59 #[.pointer (some ⟨p, 0, none⟩), .pointer (some ⟨p, 0, none⟩)] w fun e w' => e = .returned (.pointer (some ⟨p, 0, none⟩)) ∧ w = w' := by
  have hne := neqI_same ⟨p, 0, none⟩ w
  go_enter Try.func59, Try.ntmps59
  go_wp2
  go_ret
  exact ⟨rfl, rfl⟩

/-- Another Int is kept. -/
theorem iz_kept {w w' : World} {p q : Nat} {v u : Value} {z x : Int} (hq : Iz w q u x) (hc : Chg (OwnI p v) w w') (hne : q ≠ p) (hv : v.ownBlock ≠ some q) (ha : Ap v u) (hup : u.ownBlock ≠ some p) : Iz w' q u x :=
  It.kept hq hc (by rintro (h | h); exact hne h; exact hv h) (fun g hg => by rintro (h | h); exact hup (by rw [hg, h]); exact ha g h hg)

set_option maxRecDepth 100000 in
theorem intSet {w : World} {p q : Nat} {v u : Value} {z x : Int} (hp : Iz w p v z) (hq : Iz w q u x) (ha : Ap v u) (hne : p ≠ q) (hn : (dg x.natAbs).length ≤ 900000) :
    Calls Try.prog 59 #[.pointer (some ⟨p, 0, none⟩), .pointer (some ⟨q, 0, none⟩)] w fun e w' => e = .returned (.pointer (some ⟨p, 0, none⟩)) ∧ Upd w p v x w' := by
  have HS := Lib.hid (set_any (w := w.drew) hp.2 hq.2 ha hn)
  have HI := Lib.hid hp
  have HQ := Lib.hid hq
  have hpq := neqI_other hne hp hq
  have h1 := hp.abs1
  have hq0 := hq.neg0
  have hq1 := hq.abs1
  have hvq : v.ownBlock ≠ some q := hq.ne_nat hp.2
  have HVQ := Lib.hid hvq
  have HA := Lib.hid ha
  have HN := Lib.hid hn
  obtain ⟨s, hs⟩ : ∃ s, decide (x < 0) = s := ⟨_, rfl⟩
  rw [hs] at hq0
  have HSg := Lib.hid hs
  obtain ⟨A, c, rfl, _⟩ := hp.2.slice
  obtain ⟨B, d, rfl, _⟩ := hq.2.slice
  clear hp hq ha hn hvq hs
  go_enter Try.func59, Try.ntmps59
  go_wp2_with fail
  go_region_law (first | (go_simp; go_at_call 76; refine HS.out.mono ?_; rintro e w1 ⟨v', rfl, h2, h3, h4⟩; obtain ⟨A', cc, rfl, _, _⟩ := h2.slice; obtain ⟨c0, c1, f0, f1⟩ := head_cell (head_kept HI.out.drew h3); have cq0 := h3.cell (show w.drew.cell? ⟨q, 0, none⟩ = some (.bool s) from hq0) HVQ.out; have cq1 := h3.cell (show w.drew.cell? ⟨q, 1, none⟩ = some (.slice B (dg x.natAbs).length d) from hq1) HVQ.out; have cq1s := cell_far cq1 hne (.slice A' (dg x.natAbs).length cc); have cq0s := cell_far cq0 hne (.slice A' (dg x.natAbs).length cc); have HU := Lib.hid (upd_of (z := x) HI.out.drew h2 h3 h4 rfl); clear h2 h3 h4))
  all_goals
    rw [HSg.out] at HU
    go_wp2
    go_ret
    exact ⟨rfl, upd_drew HU.out⟩

theorem neg_upd {w : World} {p : Nat} {v : Value} {z : Int} (h : Iz w p v z) : Upd w p v (-z) (w.setCell ⟨p, 0, none⟩ (.bool (decide (-z < 0)))) := by
  refine ⟨v, ?_, (Chg.refl _ _).set p 0 _ (.inl (.inl rfl)), Fr.refl _ _⟩
  unfold Iz
  rw [Int.natAbs_neg]
  exact It.sign h _
/-- Neg of itself. -/
theorem intNeg {w : World} {p : Nat} {v : Value} {z : Int} (h : Iz w p v z) : Calls Try.prog 52 #[.pointer (some ⟨p, 0, none⟩), .pointer (some ⟨p, 0, none⟩)] w fun e w' => e = .returned (.pointer (some ⟨p, 0, none⟩)) ∧ Upd w p v (-z) w' := by
  have HU := Lib.hid (neg_upd h)
  have HS := Lib.hid (intSet_self p w)
  have h0 := h.neg0
  have h1 := h.abs1
  have hf := h.free 0
  obtain ⟨A, c, rfl, hlc, _⟩ := h.2.slice
  by_cases hz : z = 0
  · subst hz
    have hl : (dg (Int.natAbs 0)).length = 0 := by rw [show Int.natAbs 0 = 0 from rfl, dg_zero]; rfl
    rw [hl] at h1
    rw [show decide ((0 : Int) < 0) = false from rfl] at h0
    rw [show decide (-(0 : Int) < 0) = false from rfl] at HU
    clear h hlc hl
    go_enter Try.func52, Try.ntmps52
    go_wp2_with fail
    refine HS.out.mono ?_
    rintro e w1 ⟨rfl, rfl⟩
    go_wp2_with fail
    go_ret
    exact ⟨rfl, HU.out⟩
  · have hl := dg_len_pos (n := z.natAbs) (by omega)
    obtain ⟨n, hn⟩ : ∃ n, (dg z.natAbs).length = n := ⟨_, rfl⟩
    rw [hn] at h1 hl hlc HU ⊢
    have hb3 : (0 : Int) < (n : Int) := by omega
    by_cases hs : z < 0
    · rw [decide_eq_true hs] at h0
      rw [show decide (-z < 0) = false from decide_eq_false (by omega)] at HU
      clear h hn hs hz
      go_enter Try.func52, Try.ntmps52
      go_wp2_with fail
      refine HS.out.mono ?_
      rintro e w1 ⟨rfl, rfl⟩
      go_wp2_with fail
      go_ret
      exact ⟨rfl, HU.out⟩
    · rw [decide_eq_false hs] at h0
      rw [show decide (-z < 0) = true from decide_eq_true (by omega)] at HU
      clear h hn hs hz
      go_enter Try.func52, Try.ntmps52
      go_wp2_with fail
      refine HS.out.mono ?_
      rintro e w1 ⟨rfl, rfl⟩
      go_wp2_with fail
      go_ret
      exact ⟨rfl, HU.out⟩

/-- Two steps on one Int. -/
theorem upd_trans {w w1 w2 : World} {p : Nat} {v v1 : Value} {z : Int} (hc : Chg (OwnI p v) w w1) (hf : Fr w v v1) (h : Upd w1 p v1 z w2) : Upd w p v z w2 := by
  obtain ⟨v', h1, h2, h3⟩ := h
  refine ⟨v', h1, hc.trans h2 ?_, ?_⟩
  · rintro k hk (h | h)
    · exact .inl h
    · rcases hf with hf | ⟨b, hb, hl⟩
      · exact .inr (hf ▸ h)
      · rw [hb] at h
        cases h
        omega
  · rcases h3 with h3 | ⟨b, hb, hl⟩
    · rcases hf with hf | ⟨b, hb, hl⟩
      · exact .inl (h3.trans hf)
      · exact .inr ⟨b, h3.trans hb, hl⟩
    · exact .inr ⟨b, hb, Nat.le_trans hc.size hl⟩

/-- impl.of. -/
theorem impl_of (A : Option Addr) (c : Nat) (l : List Int) (b : Bool) (w : World) (hr : Kd.C (Kd.int .u8) w A l.length l) (hc : l.length ≤ c) (hd : Dig 256 l) (hl : l.length ≤ 100000) :
    Calls Try.prog 38 #[.slice A l.length c, .bool b] w (NewZ w (if b then - lv 256 l.reverse else lv 256 l.reverse)) := by
  obtain ⟨w1, hw1⟩ : ∃ w1, w.alloc (.cells #[.bool false, .slice none 0 0] 64) = w1 := ⟨_, rfl⟩
  have hb1 : Below w.heap.size w w1 := by rw [← hw1]; exact (Below.refl _ _).alloc (Nat.le_refl _) _
  have hi : It w1 w.heap.size (.slice none 0 0) false [] := by rw [← hw1]; exact It.made w
  have HX := Lib.hid (Sb.intSetBytes (p := w.heap.size) A l.length c l w1 hi (Kd.C_below hr hb1) hc hd hl)
  have HB1 := Lib.hid hb1
  clear hb1 hi hr hc hd
  cases b
  · go_enter Try.func38, Try.ntmps38
    go_wp2_with fail
    refine HX.out.mono ?_
    rintro e w2 ⟨rfl, hu⟩
    have HU := Lib.hid hu
    clear hu hw1
    go_wp2_with fail
    go_ret
    exact new_upd HB1.out (Nat.le_refl _) (fun g h => by cases h) HU.out
  · go_enter Try.func38, Try.ntmps38
    go_wp2_with fail
    refine HX.out.mono ?_
    rintro e w2 ⟨rfl, v', h1, h2, h3⟩
    have HN := Lib.hid (intNeg h1)
    have H2 := Lib.hid h2
    have H3 := Lib.hid h3
    clear h1 h2 h3 hw1
    go_wp2_with fail
    refine HN.out.mono ?_
    rintro e w3 ⟨rfl, hu⟩
    have HU := Lib.hid (upd_trans H2.out H3.out hu)
    clear hu
    go_wp2_with fail
    go_ret
    exact new_upd HB1.out (Nat.le_refl _) (fun g h => by cases h) HU.out
end Go.Proofs.Ythckboojmljeiaa.In
namespace Go.Proofs.Ythckboojmljeiaa.Bs
set_option linter.unusedVariables false
set_option linter.unusedSimpArgs false
open Go.RowKit Go.Proofs.YthckboojmljeiaaW.PrintWords Go.Proofs.YthckboojmljeiaaW.PrintLast Go.Proofs.YthckboojmljeiaaW.PrintMore Go.Proofs.Ythckboojmljeiaa.Pl Go.Proofs.Ythckboojmljeiaa.Dg Go.Proofs.Ythckboojmljeiaa.Mem Go.Proofs.Ythckboojmljeiaa.Na Go.Proofs.Ythckboojmljeiaa.Nb Go.Proofs.Ythckboojmljeiaa.Be Go.Proofs.Ythckboojmljeiaa.Ow Go.Proofs.Ythckboojmljeiaa.By Go.Proofs.Ythckboojmljeiaa.Sp Go.Proofs.Ythckboojmljeiaa.Nu Go.Proofs.Ythckboojmljeiaa.In Go.Proofs.Ythckboojmljeiaa.Bl Go.Proofs.Ythckboojmljeiaa.Bn

theorem strip_head {l : List Int} (h : strip l ≠ []) : (strip l).getD 0 0 ≠ 0 := by
  induction l with
  | nil => exact absurd rfl h
  | cons x r ih =>
    unfold strip at h ⊢
    rw [List.dropWhile_cons] at h ⊢
    by_cases hx : x = 0
    · subst hx
      exact ih h
    · rw [if_neg (by simpa using hx)]
      simpa using hx
theorem strip_dig {B : Int} {l : List Int} (h : Dig B l) : Dig B (strip l) := fun x hx => h x ((List.dropWhile_sublist _).subset hx)
theorem strip_lv (B : Int) (l : List Int) : lv B (strip l).reverse = lv B l.reverse := by
  induction l with
  | nil => rfl
  | cons x r ih =>
    unfold strip at ih ⊢
    rw [List.dropWhile_cons]
    by_cases hx : x = 0
    · subst hx
      rw [if_pos (by rfl), ih, List.reverse_cons, lv_snoc]
      omega
    · rw [if_neg (by simpa using hx)]
/-- How many bytes a number has. -/
theorem strip_len (n : Nat) (l : List Int) (hd : Dig 256 l) (h : lv 256 l.reverse = (n : Int)) : (strip l).length = (bln n + 7) / 8 := by
  rw [← strip_lv] at h
  have hsd := strip_dig hd
  have hh := @strip_head l
  obtain ⟨s, hs⟩ : ∃ s, strip l = s := ⟨_, rfl⟩
  rw [hs] at h hsd hh ⊢
  cases s with
  | nil =>
    have : n = 0 := by
      have h0 : lv 256 ([] : List Int).reverse = 0 := rfl
      omega
    subst this
    rfl
  | cons x r =>
    have hx := hh (by simp)
    simp only [List.getD_cons_zero] at hx
    obtain ⟨⟨x0, x1⟩, hr⟩ := hsd.cons
    have r1 := lv_range (B := 256) (by omega) hr.reverse
    rw [List.reverse_cons, lv_snoc] at h
    rw [List.length_reverse] at h r1
    have hp : (256 : Int) ^ r.length = ((2 ^ (8 * r.length) : Nat) : Int) := by rw [pow256]; simp
    rw [hp] at h r1
    obtain ⟨P, hP⟩ : ∃ P, 2 ^ (8 * r.length) = P := ⟨_, rfl⟩
    have hP2 : 2 ^ (8 * (r.length + 1)) = P * 256 := by rw [show 8 * (r.length + 1) = 8 * r.length + 8 from by omega, Nat.pow_add, hP]
    rw [hP] at h r1
    have hPp : 0 < P := by rw [← hP]; exact Nat.two_pow_pos _
    obtain ⟨a, rfl⟩ := Int.eq_ofNat_of_zero_le x0
    obtain ⟨b, hb⟩ := Int.eq_ofNat_of_zero_le r1.1
    rw [hb] at h r1
    have ha1 : a ≤ 255 := by omega
    have ha0 : 1 ≤ a := by omega
    have hn : n = b + P * a := by exact_mod_cast h.symm
    have hbP : b < P := by exact_mod_cast r1.2
    have e1 : P * a ≤ P * 255 := Nat.mul_le_mul_left _ ha1
    have e2 : P * 1 ≤ P * a := Nat.mul_le_mul_left _ ha0
    have u1 : bln n ≤ 8 * (r.length + 1) := bln_le.2 (by rw [hP2]; omega)
    have u2 : ¬ bln n ≤ 8 * r.length := by rw [bln_le, hP]; omega
    simp only [List.length_cons]
    omega

/-- i bytes of R are laid. -/
def Lr (w wr : World) (B g n cap : Nat) (R : List Int) (i : Nat) : Prop := ∃ cur, wr.ownsRow B 5 1 (.slice (some ⟨g, 0, none⟩) n cap) n (nums .u8 cur) ∧ cur.take i = R.take i ∧ w.grownBy wr (some g)
theorem Lr.put {w wr : World} {B g n cap i : Nat} {R : List Int} (h : Lr w wr B g n cap R i) (hi : i < n) (hR : R.length = n) (x : Int) (hx : R.getD i 0 = x) : Lr w (wr.setCell ⟨g, i, none⟩ (.int .u8 x)) B g n cap R (i + 1) := by
  obtain ⟨cur, h1, h2, h3⟩ := h
  have hl : cur.length = n := by have := h1.1; simpa [nums] using this
  have hs := h1.stored i (.int .u8 x)
  refine ⟨cur.set i x, by rw [nums, List.map_set]; exact hs.1, ?_, grownBy_trans h3 hs.2⟩
  rw [take_succ_getD _ i (by rw [List.length_set]; omega), List.take_set, List.set_eq_of_length_le (by rw [List.length_take]; omega), h2, take_succ_getD R i (by omega), List.getD_eq_getElem?_getD, List.getElem?_set_self (by omega), hx]
  rfl
theorem Lr.has {w wr : World} {B g n cap i : Nat} {R : List Int} (h : Lr w wr B g n cap R i) (j : Nat) (hj : j < n) : (∃ u, wr.cell? ⟨g, j, none⟩ = some (.int .u8 u)) ∧ wr.frozen? ⟨g, j, none⟩ = false := by
  obtain ⟨cur, h1, h2, h3⟩ := h
  have hl : cur.length = n := by have := h1.1; simpa [nums] using this
  refine ⟨⟨cur.getD j 0, ?_⟩, h1.frozenAt j⟩
  rw [h1.cellAt j (by omega), nums, List.getElem?_map, List.getD_eq_getElem?_getD, List.getElem?_eq_getElem (by omega)]
  rfl
theorem Lr.all {w wr : World} {B g n cap : Nat} {R : List Int} (h : Lr w wr B g n cap R n) (hR : R.length = n) : wr.ownsRow B 5 1 (.slice (some ⟨g, 0, none⟩) n cap) n (nums .u8 R) ∧ w.grownBy wr (some g) := by
  obtain ⟨cur, h1, h2, h3⟩ := h
  have hl : cur.length = n := by have := h1.1; simpa [nums] using this
  rw [List.take_of_length_le (by omega), List.take_of_length_le (by omega)] at h2
  subst h2
  exact ⟨h1, h3⟩

/-- What BigInt2BytesLe leaves in a buffer. -/
def stLe (xs : List Int) (z : Int) : List Int :=
  if (strip (low (dg z.natAbs)).reverse).length ≤ xs.length ∧ 0 ≤ z then (strip (low (dg z.natAbs)).reverse).reverse ++ List.replicate (xs.length - (strip (low (dg z.natAbs)).reverse).length) 0 else xs

set_option maxHeartbeats 1000000 in
set_option maxRecDepth 100000 in
theorem store_any {w : World} {p : Nat} {v : Value} {z : Int} {B g n cap : Nat} {xs : List Int} (h : Iz w p v z) (hz : (dg z.natAbs).length ≤ 100000) (hO : w.ownsRow B 5 1 (.slice (some ⟨g, 0, none⟩) n cap) n (nums .u8 xs)) (hn : n ≤ 100000) :
    Calls Try.prog 37 #[.slice (some ⟨g, 0, none⟩) n cap, .pointer (some ⟨p, 0, none⟩)] w fun e w' => e = .returned (.tuple #[]) ∧ w'.ownsRow B 5 1 (.slice (some ⟨g, 0, none⟩) n cap) n (nums .u8 (stLe xs z)) ∧ w.grownBy w' (some g) := by
  have hxl : xs.length = n := by have := hO.1; simpa [nums] using this
  have hlow := low_lv _ (dg_dig z.natAbs)
  rw [lv_dg] at hlow
  have hsl := strip_len z.natAbs (low (dg z.natAbs)).reverse (low_dig _).reverse (by rw [List.reverse_reverse]; exact hlow)
  have HL := Lib.hid (intBitLen h)
  have HS := Lib.hid (intSign h)
  have HY := Lib.hid (intBytes h hz)
  have HO := Lib.hid hO
  have hbl : bln z.natAbs ≤ 64 * (dg z.natAbs).length := bln_le.2 (by have := dg_lt z.natAbs; rw [BB_pow, ← Nat.pow_mul] at this; exact this)
  unfold stLe
  rw [hxl]
  have HX := Lib.hid hxl
  obtain ⟨L, hL⟩ : ∃ L, dg z.natAbs = L := ⟨_, rfl⟩
  rw [hL] at hsl HY hz hbl ⊢
  obtain ⟨b, hb⟩ : ∃ b, bln z.natAbs = b := ⟨_, rfl⟩
  rw [hb] at hsl HL hbl
  obtain ⟨y, hy⟩ : ∃ y, strip (low L).reverse = y := ⟨_, rfl⟩
  rw [hy] at hsl ⊢
  have HYY := Lib.hid hy
  obtain ⟨k, hk⟩ : ∃ k, y.length = k := ⟨_, rfl⟩
  rw [hk] at hsl ⊢
  have HK := Lib.hid hk
  have hkb : ((b : Int) + 7) / 8 = (k : Int) := by omega
  have hb7 : b ≤ 6400000 := by omega
  clear h hO hlow hL hb hy hk hxl
  by_cases hkn : k ≤ n
  · by_cases hz0 : 0 ≤ z
    · rw [if_pos ⟨hkn, hz0⟩]
      have hsg : (0 : Int) ≤ z.sign := Int.sign_nonneg_iff.2 hz0
      obtain ⟨R, hR⟩ : ∃ R, y.reverse ++ List.replicate (n - k) 0 = R := ⟨_, rfl⟩
      have hRl : R.length = n := by rw [← hR]; have := HK.out; simp; omega
      have hR1 : ∀ i, i < k → R.getD i 0 = y.getD (k - 1 - i) 0 := fun i hi => by
        rw [← hR, List.getD_eq_getElem?_getD, List.getElem?_append_left (by rw [List.length_reverse, HK.out]; exact hi), ← List.getD_eq_getElem?_getD, getD_reverse y i (by rw [HK.out]; exact hi), HK.out]
      have hR2 : ∀ i, k ≤ i → R.getD i 0 = 0 := fun i hi => by
        rw [← hR, List.getD_eq_getElem?_getD, List.getElem?_append_right (by rw [List.length_reverse, HK.out]; exact hi), List.getElem?_replicate]
        split <;> rfl
      rw [hR]
      have HR := Lib.hid hR
      have HRl := Lib.hid hRl
      have HR1 := Lib.hid hR1
      have HR2 := Lib.hid hR2
      clear hR hRl hR1 hR2 hsl hz
      have hkn2 : (k : Int) ≤ (n : Int) := by omega
      go_enter Try.func37, Try.ntmps37
      go_wp2_with fail
      refine HL.out.mono ?_
      rintro e w1 ⟨rfl, rfl⟩
      go_wp2_with fail
      refine HS.out.mono ?_
      rintro e w1 ⟨rfl, rfl⟩
      go_wp2_with fail
      refine HY.out.mono ?_
      rintro e w1 ⟨A', k', c', rfl, h1, h2, h3, h4, h5⟩
      rw [HYY.out] at h2 h5
      rw [HK.out] at h2
      subst h2
      have hg0 := HO.out
      have hgl : g < w.heap.size := (hg0.lt g rfl).2
      have HY5 := Lib.hid h5
      have HOw := Lib.hid h3
      have HB1 := Lib.hid h4
      have HL0 := Lib.hid (show Lr w w1 B g n cap R 0 from ⟨xs, pw_own_below hg0 h4, rfl, grown_of_below h4 _⟩)
      have HGL := Lib.hid hgl
      have HOk := Lib.hid (show ∀ wr, w.grownBy wr (some g) → True from fun _ _ => trivial)
      clear h1 h3 h4 h5 hg0 hgl HL HS HY
      have hne : w.heap.size ≠ g := by have := HGL.out; omega
      go_wp2_with fail
      go_loopw [7] (fun t wr => ∃ i : Nat, i ≤ k' ∧ t = .int .i64 (i : Int) ∧ Hid (Lr w wr B g n cap R i ∧ Ow .u8 5 w.heap.size w.heap.size (8 * L.length) (low L).reverse wr)) (fun t _ => k' - (intOf t).toNat)
      case atStart => exact ⟨0, by omega, rfl, HL0.out, HOw.out⟩
      case round =>
        clear HL0 HOw
        obtain ⟨i, hi, rfl, HI⟩ := hrel
        by_cases hlt : i < k'
        · obtain ⟨ad, e, hx⟩ := Kd.at_int (HY5.out wr HI.out.2) ((k' : Int) - 1 - (i : Int)) (by omega) (by omega)
          subst e
          have ht : ((k' : Int) - 1 - (i : Int)).toNat = k' - 1 - i := by omega
          rw [show rd y ((k' : Int) - 1 - (i : Int)) = y.getD (k' - 1 - i) 0 from by unfold rd; rw [ht], ht] at hx
          obtain ⟨x, hx2⟩ : ∃ x, y.getD (k' - 1 - i) 0 = x := ⟨_, rfl⟩
          rw [hx2] at hx
          have HP := Lib.hid (HI.out.1.put (by omega) HRl.out x (by rw [HR1.out i hlt]; exact hx2))
          obtain ⟨⟨u, hcell⟩, hfree⟩ := HI.out.1.has i (by omega)
          have HOn := Lib.hid (HI.out.2.kept (row := some g) (show wr.grownBy (wr.setCell ⟨g, i, none⟩ (.int .u8 x)) (some g) from by obtain ⟨cur, q1, _, _⟩ := HI.out.1; exact (q1.stored i _).2) (by intro e; injection e with e; exact hne e))
          have b1 : (i : Int) < (k' : Int) := by omega
          have b1n : (i : Int) < (n : Int) := by omega
          have b2 : (0 : Int) ≤ (k' : Int) - 1 - (i : Int) := by omega
          have b2b : (i : Int) ≤ (k' : Int) - 1 := by omega
          have b3 : (k' : Int) - 1 - (i : Int) < (k' : Int) := by omega
          clear hx2
          go_wp2_with fail
          go_roundw
          case rel => exact ⟨i + 1, by omega, by go_num, HP.out, HOn.out⟩
          case measure => simp [intOf]; omega
        · have hik : i = k' := by omega
          subst hik
          have HI1 := Lib.hid HI.out.1
          clear HI
          go_wp2_with fail
          go_loopw [8] (fun t w2 => ∃ j : Nat, i ≤ j ∧ j ≤ n ∧ t = .int .i64 (j : Int) ∧ Hid (Lr w w2 B g n cap R j)) (fun t _ => n - (intOf t).toNat)
          case atStart => exact ⟨i, by omega, by omega, rfl, HI1.out⟩
          case round =>
            clear HI1
            obtain ⟨j, hij, hjn, rfl, HI⟩ := hrel
            by_cases hlt2 : j < n
            · have HP := Lib.hid (HI.out.put hlt2 HRl.out 0 (HR2.out j hij))
              obtain ⟨⟨u, hcell⟩, hfree⟩ := HI.out.has j hlt2
              have b1 : (j : Int) < (n : Int) := by omega
              go_wp2_with fail
              go_roundw
              case rel => exact ⟨j + 1, by omega, by omega, by go_num, HP.out⟩
              case measure => simp [intOf]; omega
            · have hjn2 : j = n := by omega
              subst hjn2
              go_wp2_with fail
              go_end0
              exact ⟨rfl, HI.out.all HRl.out⟩
    · rw [if_neg (fun h => hz0 h.2)]
      have hsg : z.sign < 0 := by rw [Int.sign_eq_neg_one_of_neg (by omega)]; decide
      have hsg2 : ¬ (0 : Int) ≤ z.sign := by omega
      have hkn2 : (k : Int) ≤ (n : Int) := by omega
      clear hsl hz
      go_enter Try.func37, Try.ntmps37
      go_wp2_with fail
      refine HL.out.mono ?_
      rintro e w1 ⟨rfl, rfl⟩
      go_wp2_with fail
      refine HS.out.mono ?_
      rintro e w1 ⟨rfl, rfl⟩
      go_wp2_with fail
      go_end0
      exact ⟨rfl, HO.out, grownBy_refl _ _⟩
  · rw [if_neg (fun h => hkn h.1)]
    have hkn2 : ¬ (k : Int) ≤ (n : Int) := by omega
    clear hsl hz
    go_enter Try.func37, Try.ntmps37
    go_wp2_with fail
    refine HL.out.mono ?_
    rintro e w1 ⟨rfl, rfl⟩
    go_wp2_with fail
    go_end0
    exact ⟨rfl, HO.out, grownBy_refl _ _⟩
end Go.Proofs.Ythckboojmljeiaa.Bs
namespace Go.Proofs.Ythckboojmljeiaa.St
set_option linter.unusedVariables false
set_option linter.unusedSimpArgs false
open Go.RowKit Go.Proofs.YthckboojmljeiaaW.PrintWords Go.Proofs.YthckboojmljeiaaW.PrintLast Go.Proofs.YthckboojmljeiaaW.PrintMore Go.Proofs.Ythckboojmljeiaa.Pl Go.Proofs.Ythckboojmljeiaa.Dg Go.Proofs.Ythckboojmljeiaa.Mem Go.Proofs.Ythckboojmljeiaa.Na Go.Proofs.Ythckboojmljeiaa.Nb Go.Proofs.Ythckboojmljeiaa.Be Go.Proofs.Ythckboojmljeiaa.Ow Go.Proofs.Ythckboojmljeiaa.By Go.Proofs.Ythckboojmljeiaa.Sp Go.Proofs.Ythckboojmljeiaa.Nu Go.Proofs.Ythckboojmljeiaa.In Go.Proofs.Ythckboojmljeiaa.Bl Go.Proofs.Ythckboojmljeiaa.Bn Go.Proofs.Ythckboojmljeiaa.Bs

/-- The number of an argument. -/
def ofZ (n : List Int) (b : Bool) : Int := if b then - lv 256 n.reverse else lv 256 n.reverse
theorem ofZ_abs (n : List Int) (b : Bool) (hd : Dig 256 n) : (((ofZ n b).natAbs : Nat) : Int) = lv 256 n.reverse := by
  have h := (lv_range (B := 256) (by omega) hd.reverse).1
  unfold ofZ
  cases b
  · simp; omega
  · simp; omega
theorem bytes_n (n : List Int) (b : Bool) (hd : Dig 256 n) : strip (low (dg (ofZ n b).natAbs)).reverse = strip n := by
  rw [bytes_of hd.reverse _ (ofZ_abs n b hd).symm, List.reverse_reverse]
theorem strip_nil_iff (n : List Int) (hd : Dig 256 n) : (strip n).length = 0 ↔ lv 256 n.reverse = 0 := by
  constructor
  · intro h
    rw [← strip_lv, List.length_eq_zero_iff.1 h]
    rfl
  · intro h
    have := strip_len 0 n hd (by rw [h]; rfl)
    rw [this]
    rfl
theorem stLe_eq (buf n : List Int) (b : Bool) (hd : Dig 256 n) : stLe buf (ofZ n b) = storeL buf n b := by
  unfold stLe storeL
  rw [bytes_n n b hd]
  have hi := strip_nil_iff n hd
  have h0 := (lv_range (B := 256) (by omega) hd.reverse).1
  have e : (0 ≤ ofZ n b) ↔ ¬ (b = true ∧ 0 < (strip n).length) := by
    unfold ofZ
    cases b
    · simp; exact h0
    · simp only [if_true, true_and]
      omega
  by_cases h1 : (strip n).length ≤ buf.length
  · by_cases h2 : b = true ∧ 0 < (strip n).length
    · rw [if_neg (fun h => (e.1 h.2) h2), if_pos (.inr h2)]
    · rw [if_pos ⟨h1, e.2 h2⟩, if_neg (by rintro (h | h); omega; exact h2 h)]
  · rw [if_neg (fun h => h1 h.1), if_pos (.inl (by omega))]
theorem ofZ_len (n : List Int) (b : Bool) (hd : Dig 256 n) : (dg (ofZ n b).natAbs).length ≤ n.length := by
  have h := dg_len (((ofZ n b).natAbs : Nat) : Int) n.reverse (ofZ_abs n b hd) hd.reverse
  rw [List.length_reverse] at h
  exact h

set_option maxRecDepth 100000 in
theorem impl_store (A : Option Addr) (c : Nat) (l : List Int) (A1 : Option Addr) (c1 : Nat) (n : List Int) (b : Bool) (w : World) (hr : Kd.C (Kd.int .u8) w A l.length l) (hc : l.length ≤ c) (hl : l.length ≤ 10000) (hr1 : Kd.C (Kd.int .u8) w A1 n.length n) (hc1 : n.length ≤ c1) (hl1 : n.length ≤ 10000) (hd1 : Dig 256 n) :
    Calls Try.prog 17 #[.slice A l.length c, .slice A1 n.length c1, .bool b] w (Rd8 w (stLe l (ofZ n b))) := by
  obtain ⟨wa, hwa⟩ : ∃ wa, w.alloc (.cells #[] 5) = wa := ⟨_, rfl⟩
  have HBa := Lib.hid (show Below w.heap.size w wa from by rw [← hwa]; exact (Below.refl _ _).alloc (Nat.le_refl _) _)
  have HOa := Lib.hid (show wa.ownsRow w.heap.size 5 1 (.slice (some ⟨w.heap.size, 0, none⟩) 0 0) 0 (encs (Value.int .u8) []) from by rw [← hwa]; exact lit_row w)
  have HR := Lib.hid (Kd.C_below hr HBa.out)
  have HN := Lib.hid (fun (w2 : World) (hb : Below w.heap.size w w2) => impl_of A1 c1 n b w2 (Kd.C_below hr1 hb) hc1 hd1 (by omega))
  have HZ := Lib.hid (ofZ_len n b hd1)
  clear hr hr1 hd1 hc1
  go_enter Try.func17, Try.ntmps17
  go_wp2_with (first | (at_builtin; refine print_append_row_of (w0 := w) (Value.int .u8) (0 : Int) w.heap.size rfl (.tmp 8) (.tmp 9) 22 5 (.int .u8 0) 1 rfl Try.underlying22 Be.infoU8 rfl (by decide) (fun _ => rfl) (.slice (some ⟨w.heap.size, 0, none⟩) 0 0) [] l A l.length c rfl rfl ?aO ?aR ?aB ?aS ?aL ?_; (case aO => exact HOa.out); (case aR => exact Kd.reads_of_C HR.out); (case aB => exact HBa.out); (case aS => exact HBa.out.size); (case aL => simp; omega); intro v1 w3 ho hb hg hat; have HO1 := Lib.hid ho; have HB3 := Lib.hid hb; clear ho hb hg))
  obtain ⟨g, cap, rfl⟩ : ∃ g cap, v1 = .slice (some ⟨g, 0, none⟩) l.length cap := by
    rcases HO1.out.2 with ⟨h, _⟩ | ⟨g, cap, cur, h, _⟩
    · subst h
      rcases hat with h | ⟨b, h, _⟩ <;> cases h
    · exact ⟨g, cap, h⟩
  have HO2 := Lib.hid (show w3.ownsRow w.heap.size 5 1 (.slice (some ⟨g, 0, none⟩) l.length cap) l.length (nums .u8 l) from HO1.out)
  clear hat HO1 hwa
  have hn := HN.out w3 HB3.out
  rw [show (if b = true then -lv 256 n.reverse else lv 256 n.reverse) = ofZ n b from rfl] at hn
  have HN2 := Lib.hid hn
  clear hn HN
  go_wp2_with fail
  refine HN2.out.mono ?_
  rintro e w4 ⟨p, v, rfl, hz, hp, hv, hb⟩
  have HO3 := Lib.hid (pw_own_below HO2.out hb)
  have HS := Lib.hid (store_any (B := w.heap.size) (g := g) (n := l.length) (cap := cap) (xs := l) hz (by have := HZ.out; omega) HO3.out (by omega))
  have HB4 := Lib.hid (below_then HB3.out HB3.out.size hb)
  clear hz hp hv hb
  go_wp2_with fail
  refine HS.out.mono ?_
  rintro e w5 ⟨rfl, h1, h2⟩
  have H1 := Lib.hid h1
  have H2 := Lib.hid (below_of_grown HB4.out h2 HB4.out.size (HO2.out.lt g rfl).1)
  clear h1 h2
  go_wp2_with fail
  go_ret
  have hl2 : (stLe l (ofZ n b)).length = l.length := by
    have := H1.out.1
    simpa [nums] using this
  obtain ⟨A3, c3, h3, h4, h5⟩ := own_reads_of_le (enc := Value.int .u8) (d := (0 : Int)) (xs := stLe l (ofZ n b)) H1.out
  rw [← hl2] at h3 h4 h5
  refine ⟨A3, c3, ?_, h4, Kd.C_of_reads (h1 := fun _ => rfl) h5, H2.out⟩
  rw [← h3]
  rw [hl2]
  rfl

set_option maxRecDepth 100000 in
theorem law (A : Option Addr) (c : Nat) (l : List Int) (A1 : Option Addr) (c1 : Nat) (n : List Int) (b : Bool) (w : World) (hr : Kd.C (Kd.int .u8) w A l.length l) (hc : l.length ≤ c) (hr1 : Kd.C (Kd.int .u8) w A1 n.length n) (hc1 : n.length ≤ c1) (hd1 : Dig 256 n) :
    Calls Try.prog 4 #[.slice A l.length c, .slice A1 n.length c1, .bool b] w fun e w' => e = .returned (.bool true) ∧ Below w.heap.size w w' := by
  have HR := Lib.hid hr
  have HC := Lib.hid hc
  have HR1 := Lib.hid hr1
  have HC1 := Lib.hid hc1
  have HD := Lib.hid hd1
  clear hr hc hr1 hc1 hd1
  go_enter Try.func4, Try.ntmps4
  by_cases h0 : (2147483647 : Int) < (l.length : Int)
  · go_wp2
    go_ret
    exact ⟨rfl, Below.refl _ _⟩
  by_cases h1 : (2147483647 : Int) < (n.length : Int)
  · go_wp2
    go_ret
    exact ⟨rfl, Below.refl _ _⟩
  by_cases h2 : (4096 : Int) < (l.length : Int)
  · go_wp2
    go_ret
    exact ⟨rfl, Below.refl _ _⟩
  by_cases h3 : (4096 : Int) < (n.length : Int)
  · go_wp2
    go_ret
    exact ⟨rfl, Below.refl _ _⟩
  have HI := Lib.hid (impl_store A c l A1 c1 n b w HR.out HC.out (by omega) HR1.out HC1.out (by omega) HD.out)
  rw [stLe_eq l n b HD.out] at HI
  have hl1 : l.length ≤ 4096 := by omega
  have hl2 : n.length ≤ 4096 := by omega
  go_wp2_with fail
  refine HI.out.mono ?_
  rintro e w1 ⟨A2, c2, rfl, hc2, hC2, hb2⟩
  have HS := Lib.hid (store_call A c l A1 c1 n b w1 (Kd.C_below HR.out hb2) HC.out (by omega) (Kd.C_below HR1.out hb2) HC1.out (by omega))
  have HC2 := Lib.hid hC2
  have HB2 := Lib.hid hb2
  clear hc2 hC2 hb2 HI
  go_wp2_with fail
  refine HS.out.mono ?_
  rintro e w3 ⟨A3, c3, rfl, hc3, hC3, hb3⟩
  have HE := Lib.hid (Be.equal8 A2 A3 _ c2 c3 (storeL l n b) w3 (Kd.C_below HC2.out hb3) hC3)
  have HB3 := Lib.hid (below_then HB2.out HB2.out.size hb3)
  clear hC3 hb3 hc3 HS HC2
  go_wp2_with fail
  refine HE.out.mono ?_
  rintro e w4 ⟨rfl, hd4⟩
  have HB4 := Lib.hid (below_then HB3.out HB3.out.size hd4.below)
  clear hd4
  go_wp2
  go_ret
  exact ⟨rfl, HB4.out⟩
end Go.Proofs.Ythckboojmljeiaa.St
namespace Go.Proofs.Ythckboojmljeiaa.Tw
set_option linter.unusedVariables false
set_option linter.unusedSimpArgs false
open Go.RowKit Go.Proofs.YthckboojmljeiaaW.PrintWords Go.Proofs.Ythckboojmljeiaa.Pl Go.Proofs.Ythckboojmljeiaa.Dg Go.Proofs.Ythckboojmljeiaa.Mem Go.Proofs.Ythckboojmljeiaa.Na Go.Proofs.Ythckboojmljeiaa.Nb Go.Proofs.Ythckboojmljeiaa.Nu Go.Proofs.Ythckboojmljeiaa.In

structure Two (w wr : World) (p q : Nat) (v u : Value) (z y : Int) : Prop where
  iz : Iz wr p v z
  iq : Iz wr q u y
  ap : Ap v u
  ne : p ≠ q
  below : Below w.heap.size w wr
  np : w.heap.size ≤ p
  nq : w.heap.size ≤ q
  nv : ∀ g, v.ownBlock = some g → w.heap.size ≤ g
  nu : ∀ g, u.ownBlock = some g → w.heap.size ≤ g
variable {w wr w2 : World} {p q : Nat} {v u : Value} {z y x : Int}
theorem Two.swap (h : Two w wr p q v u z y) : Two w wr q p u v y z := ⟨h.iq, h.iz, h.ap.symm, fun e => h.ne e.symm, h.below, h.nq, h.np, h.nu, h.nv⟩
theorem Two.updP (h : Two w wr p q v u z y) (hu : Upd wr p v x w2) : ∃ v', Two w w2 p q v' u x y := by
  obtain ⟨v', h1, h2, h3⟩ := hu
  have hlu : ∀ g, u.ownBlock = some g → g < wr.heap.size := fun g hg => Nt.lt h.iq.2 g hg
  refine ⟨v', h1, iz_kept (z := z) h.iq h2 (fun e => h.ne e.symm) (h.iq.ne_nat h.iz.2) h.ap (h.iz.ne_nat h.iq.2), h.ap.fr h3 hlu, h.ne, below_chg h.below h2 ?_, h.np, h.nq, ?_, h.nu⟩
  · rintro k (rfl | hk)
    · exact h.np
    · exact h.nv k hk
  · intro g hg
    rcases h3 with h3 | ⟨b, hb, hl⟩
    · exact h.nv g (by rw [← h3]; exact hg)
    · rw [hb] at hg
      cases hg
      exact Nat.le_trans h.below.size hl
theorem Two.updQ (h : Two w wr p q v u z y) (hu : Upd wr q u x w2) : ∃ u', Two w w2 p q v u' z x := by
  obtain ⟨u', h1⟩ := h.swap.updP hu
  exact ⟨u', h1.swap⟩
theorem Two.drewN (h : Two w wr p q v u z y) (k : Nat) : Two w (wr.drewN k) p q v u z y := ⟨h.iz, h.iq, h.ap, h.ne, pw_below_drewN h.below k, h.np, h.nq, h.nv, h.nu⟩
/-- Two new Ints. -/
theorem Two.made (w : World) : Two w ((w.alloc (.cells #[.bool false, .slice none 0 0] 64)).alloc (.cells #[.bool false, .slice none 0 0] 64)) w.heap.size (w.heap.size + 1) (.slice none 0 0) (.slice none 0 0) 0 0 := by
  have h1 := iz_made w
  have h2 := iz_made (w.alloc (.cells #[.bool false, .slice none 0 0] 64))
  have hs : (w.alloc (.cells #[.bool false, .slice none 0 0] 64)).heap.size = w.heap.size + 1 := by simp
  rw [hs] at h2
  refine ⟨?_, h2, Ap.nil _, by omega, ?_, Nat.le_refl _, by omega, (fun g h => by cases h), (fun g h => by cases h)⟩
  · exact It.kept h1 (S := fun _ => False) ((Chg.refl _ _).alloc _) (fun h => h) (fun g h => by cases h)
  · exact ((Below.refl _ _).alloc (Nat.le_refl _) _).alloc (by simp) _
end Go.Proofs.Ythckboojmljeiaa.Tw
namespace Go.Proofs.Ythckboojmljeiaa.Tr
set_option linter.unusedVariables false
set_option linter.unusedSimpArgs false
open Go.RowKit Go.Proofs.YthckboojmljeiaaW.PrintWords Go.Proofs.YthckboojmljeiaaW.PrintLast Go.Proofs.YthckboojmljeiaaW.PrintMore Go.Proofs.Ythckboojmljeiaa.Pl Go.Proofs.Ythckboojmljeiaa.Dg Go.Proofs.Ythckboojmljeiaa.Mem Go.Proofs.Ythckboojmljeiaa.Na Go.Proofs.Ythckboojmljeiaa.Nb Go.Proofs.Ythckboojmljeiaa.Nu Go.Proofs.Ythckboojmljeiaa.In Go.Proofs.Ythckboojmljeiaa.Tw Go.Proofs.Ythckboojmljeiaa.Be Go.Proofs.Ythckboojmljeiaa.Ow

/-- From N on. -/
abbrev From (N : Nat) : Nat → Prop := fun k => N ≤ k
structure Pr (N : Nat) (w : World) (p q : Nat) (v u : Value) (z y : Int) : Prop where
  iz : Iz w p v z
  iq : Iz w q u y
  ap : Ap v u
  ne : p ≠ q
  np : N ≤ p
  nq : N ≤ q
  nv : ∀ g, v.ownBlock = some g → N ≤ g
  nu : ∀ g, u.ownBlock = some g → N ≤ g
variable {N : Nat} {w w1 w2 : World} {p q r : Nat} {v u t : Value} {z y x : Int}
theorem Pr.swap (h : Pr N w p q v u z y) : Pr N w q p u v y z := ⟨h.iq, h.iz, h.ap.symm, fun e => h.ne e.symm, h.nq, h.np, h.nu, h.nv⟩
theorem Pr.of_two (h : Two w1 w p q v u z y) : Pr w1.heap.size w p q v u z y := ⟨h.iz, h.iq, h.ap, h.ne, h.np, h.nq, h.nv, h.nu⟩
theorem Pr.lower {M : Nat} (h : Pr N w p q v u z y) (hm : M ≤ N) : Pr M w p q v u z y := ⟨h.iz, h.iq, h.ap, h.ne, Nat.le_trans hm h.np, Nat.le_trans hm h.nq, fun g hg => Nat.le_trans hm (h.nv g hg), fun g hg => Nat.le_trans hm (h.nu g hg)⟩
theorem Pr.drewN (h : Pr N w p q v u z y) (k : Nat) : Pr N (w.drewN k) p q v u z y := ⟨h.iz, h.iq, h.ap, h.ne, h.np, h.nq, h.nv, h.nu⟩
/-- What lies below N turns. -/
theorem Pr.kept {S : Nat → Prop} (h : Pr N w p q v u z y) (hc : Chg S w w1) (hs : ∀ k, S k → k < N) : Pr N w1 p q v u z y :=
  ⟨It.kept h.iz hc (fun e => by have := hs _ e; have := h.np; omega) (fun g hg e => by have := hs _ e; have := h.nv g hg; omega),
   It.kept h.iq hc (fun e => by have := hs _ e; have := h.nq; omega) (fun g hg e => by have := hs _ e; have := h.nu g hg; omega), h.ap, h.ne, h.np, h.nq, h.nv, h.nu⟩
theorem Pr.put (h : Pr N w p q v u z y) (g o : Nat) (s : Value) (hg : g < N) : Pr N (w.setCell ⟨g, o, none⟩ s) p q v u z y :=
  h.kept (S := fun k => k = g) ((Chg.refl _ _).set g o s (.inl rfl)) (fun k e => by have e : k = g := e; omega)
theorem Pr.below (h : Pr N w p q v u z y) (hb : Below w.heap.size w w1) : Pr N w1 p q v u z y :=
  h.kept (S := fun _ => False) (Chg.of_below hb) (fun k e => e.elim)
theorem Pr.upd1 {v' : Value} (h : Pr N w p q v u z y) (hN : N ≤ w.heap.size) (i1 : Iz w1 p v' x) (i2 : Chg (OwnI p v) w w1) (i3 : Fr w v v') : Pr N w1 p q v' u x y := by
  have hlu : ∀ g, u.ownBlock = some g → g < w.heap.size := fun g hg => Nt.lt h.iq.2 g hg
  refine ⟨i1, iz_kept (z := z) h.iq i2 (fun e => h.ne e.symm) (h.iq.ne_nat h.iz.2) h.ap (h.iz.ne_nat h.iq.2), h.ap.fr i3 hlu, h.ne, h.np, h.nq, ?_, h.nu⟩
  intro g hg
  rcases i3 with i3 | ⟨b, hb, hl⟩
  · exact h.nv g (by rw [← i3]; exact hg)
  · rw [hb] at hg
    cases hg
    omega
theorem Pr.updP (h : Pr N w p q v u z y) (hN : N ≤ w.heap.size) (hu : Upd w p v x w1) : ∃ v', Pr N w1 p q v' u x y := by
  obtain ⟨v', i1, i2, i3⟩ := hu
  exact ⟨v', h.upd1 hN i1 i2 i3⟩
theorem Pr.updQ (h : Pr N w p q v u z y) (hN : N ≤ w.heap.size) (hu : Upd w q u x w1) : ∃ u', Pr N w1 p q v u' z x := by
  obtain ⟨u', h1⟩ := h.swap.updP hN hu
  exact ⟨u', h1.swap⟩
theorem Pr.chgP (h : Pr N w p q v u z y) (hu : Upd w p v x w1) : Chg (From N) w w1 := by
  obtain ⟨v', i1, i2, i3⟩ := hu
  refine i2.mono ?_
  rintro k _ (e | e)
  · rw [e]; exact h.np
  · exact h.nv k e

structure Tri (N : Nat) (w : World) (p q r : Nat) (v u t : Value) (z y x : Int) : Prop where
  pq : Pr N w p q v u z y
  pr : Pr N w p r v t z x
  qr : Pr N w q r u t y x
theorem Tri.rot (h : Tri N w p q r v u t z y x) : Tri N w q r p u t v y x z := ⟨h.qr, h.pq.swap, h.pr.swap⟩
theorem Tri.put (h : Tri N w p q r v u t z y x) (g o : Nat) (s : Value) (hg : g < N) : Tri N (w.setCell ⟨g, o, none⟩ s) p q r v u t z y x := ⟨h.pq.put g o s hg, h.pr.put g o s hg, h.qr.put g o s hg⟩
theorem Tri.below (h : Tri N w p q r v u t z y x) (hb : Below w.heap.size w w1) : Tri N w1 p q r v u t z y x := ⟨h.pq.below hb, h.pr.below hb, h.qr.below hb⟩
theorem Tri.updP {a : Int} (h : Tri N w p q r v u t z y x) (hN : N ≤ w.heap.size) (hu : Upd w p v a w1) : ∃ v', Tri N w1 p q r v' u t a y x := by
  obtain ⟨v', i1, i2, i3⟩ := hu
  refine ⟨v', h.pq.upd1 hN i1 i2 i3, h.pr.upd1 hN i1 i2 i3, ?_⟩
  have a1 := h.pq.upd1 hN i1 i2 i3
  have a2 := h.pr.upd1 hN i1 i2 i3
  exact ⟨a1.iq, a2.iq, h.qr.ap, h.qr.ne, h.qr.np, h.qr.nq, h.qr.nv, h.qr.nu⟩
theorem Tri.updQ {a : Int} (h : Tri N w p q r v u t z y x) (hN : N ≤ w.heap.size) (hu : Upd w q u a w1) : ∃ u', Tri N w1 p q r v u' t z a x := by
  obtain ⟨u', h1⟩ := h.rot.updP hN hu
  exact ⟨u', h1.rot.rot⟩
theorem Tri.updR {a : Int} (h : Tri N w p q r v u t z y x) (hN : N ≤ w.heap.size) (hu : Upd w r t a w1) : ∃ t', Tri N w1 p q r v u t' z y a := by
  obtain ⟨t', h1⟩ := h.rot.rot.updP hN hu
  exact ⟨t', h1.rot⟩
/-- A third one is made. -/
theorem Tri.made (h : Pr N w p q v u z y) (hN : N ≤ w.heap.size) (i1 : Iz w1 r t x) (i2 : w.heap.size ≤ r) (i3 : ∀ g, t.ownBlock = some g → w.heap.size ≤ g) (i4 : Below w.heap.size w w1) : Tri N w1 p q r v u t z y x := by
  have h1 := h.below i4
  have lp : p < w.heap.size := h.iz.lt
  have lq : q < w.heap.size := h.iq.lt
  refine ⟨h1, ⟨h1.iz, i1, ?_, by omega, h.np, by omega, h.nv, ?_⟩, ⟨h1.iq, i1, ?_, by omega, h.nq, by omega, h.nu, ?_⟩⟩
  · intro g hg hg2
    have := Nt.lt h.iz.2 g hg
    have := i3 g hg2
    omega
  · intro g hg
    have := i3 g hg
    omega
  · intro g hg hg2
    have := Nt.lt h.iq.2 g hg
    have := i3 g hg2
    omega
  · intro g hg
    have := i3 g hg
    omega

/-! ### A row of numbers beside -/
theorem own_chg {k : IntKind} {e : TypeId} {S : Nat → Prop} {B g n cap : Nat} {xs : List Int} (h : w.ownsRow B e 1 (.slice (some ⟨g, 0, none⟩) n cap) n (nums k xs)) (hc : Chg S w w1) (hg : ¬ S g) : w1.ownsRow B e 1 (.slice (some ⟨g, 0, none⟩) n cap) n (nums k xs) := by
  refine ⟨h.1, ?_⟩
  have hlt := (h.lt g rfl).2
  rcases h.2 with ⟨h0, _⟩ | ⟨g', cap', cur, h1, h2, h3, h4⟩
  · cases h0
  · refine .inr ⟨g', cap', cur, h1, h2, ?_, h4⟩
    simp only [Value.slice.injEq, Option.some.injEq, Addr.mk.injEq, and_true] at h1
    obtain ⟨rfl, _, _⟩ := h1
    exact (hc.block g hlt hg).trans h3
theorem grown_chg {S : Nat → Prop} {row : Option Nat} (h : w.grownBy w1 row) (hc : Chg S w1 w2) (hs : ∀ k, S k → w.heap.size ≤ k ∨ some k = row) : w.grownBy w2 row :=
  ⟨hc.os.trans h.os, hc.tape.trans h.tape, hc.output.trans h.output, Nat.le_trans h.size hc.size, fun k hk hr => (hc.block k (Nat.lt_of_lt_of_le hk h.size) (fun e => by
    rcases hs k e with e | e
    · omega
    · exact hr e)).trans (h.block k hk hr)⟩
/-- i numbers of R are laid. -/
def Lr (k : IntKind) (e : TypeId) (w wr : World) (B g n cap : Nat) (R : List Int) (i : Nat) : Prop := ∃ cur, wr.ownsRow B e 1 (.slice (some ⟨g, 0, none⟩) n cap) n (nums k cur) ∧ cur.take i = R.take i ∧ w.grownBy wr (some g)
variable {k : IntKind} {e : TypeId} {B g n cap i : Nat} {R : List Int} {wr : World}
theorem Lr.put (h : Lr k e w wr B g n cap R i) (hi : i < n) (hR : R.length = n) (x : Int) (hx : R.getD i 0 = x) : Lr k e w (wr.setCell ⟨g, i, none⟩ (.int k x)) B g n cap R (i + 1) := by
  obtain ⟨cur, h1, h2, h3⟩ := h
  have hl : cur.length = n := by have := h1.1; simpa [nums] using this
  have hs := h1.stored i (.int k x)
  refine ⟨cur.set i x, by rw [nums, List.map_set]; exact hs.1, ?_, grownBy_trans h3 hs.2⟩
  rw [take_succ_getD _ i (by rw [List.length_set]; omega), List.take_set, List.set_eq_of_length_le (by rw [List.length_take]; omega), h2, take_succ_getD R i (by omega), List.getD_eq_getElem?_getD, List.getElem?_set_self (by omega), hx]
  rfl
theorem Lr.has (h : Lr k e w wr B g n cap R i) (j : Nat) (hj : j < n) : (∃ u, wr.cell? ⟨g, j, none⟩ = some (.int k u)) ∧ wr.frozen? ⟨g, j, none⟩ = false := by
  obtain ⟨cur, h1, h2, h3⟩ := h
  have hl : cur.length = n := by have := h1.1; simpa [nums] using this
  refine ⟨⟨cur.getD j 0, ?_⟩, h1.frozenAt j⟩
  rw [h1.cellAt j (by omega), nums, List.getElem?_map, List.getD_eq_getElem?_getD, List.getElem?_eq_getElem (by omega)]
  rfl
theorem Lr.all (h : Lr k e w wr B g n cap R n) (hR : R.length = n) : wr.ownsRow B e 1 (.slice (some ⟨g, 0, none⟩) n cap) n (nums k R) ∧ w.grownBy wr (some g) := by
  obtain ⟨cur, h1, h2, h3⟩ := h
  have hl : cur.length = n := by have := h1.1; simpa [nums] using this
  rw [List.take_of_length_le (by omega), List.take_of_length_le (by omega)] at h2
  subst h2
  exact ⟨h1, h3⟩
theorem Lr.chg {S : Nat → Prop} (h : Lr k e w wr B g n cap R i) (hc : Chg S wr w2) (hs : ∀ k, S k → w.heap.size ≤ k) (hg : g < w.heap.size) : Lr k e w w2 B g n cap R i := by
  obtain ⟨cur, h1, h2, h3⟩ := h
  exact ⟨cur, own_chg h1 hc (fun e => by have := hs g e; omega), h2, grown_chg h3 hc (fun k e => .inl (hs k e))⟩
theorem Lr.size (h : Lr k e w wr B g n cap R i) : w.heap.size ≤ wr.heap.size := by
  obtain ⟨cur, h1, h2, h3⟩ := h
  exact h3.size
end Go.Proofs.Ythckboojmljeiaa.Tr
