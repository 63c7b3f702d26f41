/- Walks: getBig64, BytesBe2Uint64Le: the words of bytes, the highest first. -/
import Derived.Test.YthckboojmljeiaaProg
import Derived.Test.YthckboojmljeiaaPl
import Derived.Test.YthckboojmljeiaaWMore
import Derived.Test.YthckboojmljeiaaWNEv
import Derived.WalkKit
import Derived.WalkSpells
import Derived.Below
import Derived.KernelRfl
import Derived.IntWalk
import Derived.Outline
import Derived.BigQuiet
import Derived.BigRegion
import Derived.LoopTactic
import Derived.Lib.Hide
import Derived.StillTailTactics
namespace Go.Proofs.Ythckboojmljeiaa.Be
set_option linter.unusedVariables false
set_option linter.unusedSimpArgs false
open Go.RowKit Go.Proofs.YthckboojmljeiaaW.PrintWords Go.Proofs.YthckboojmljeiaaW.PrintLast Go.Proofs.YthckboojmljeiaaW.PrintMore Go.Proofs.Ythckboojmljeiaa.Pl

theorem infoU8 : (Try.prog.info? 5).map (fun i => (i.zero, i.size, i.bytes)) = some (some (.int .u8 0), 1, 1) := by kernel_rfl
theorem infoU64 : (Try.prog.info? 33).map (fun i => (i.zero, i.size, i.bytes)) = some (some (.int .u64 0), 1, 8) := by kernel_rfl

theorem big_step (b : List Int) (hd : Dig 256 b) (i : Nat) (hi : i < 8) (hb : i < b.length) (x : Int) (hx : b.getD i 0 = x) :
    Go.bits .or .u64 (IntKind.u64.wrap (lv 256 (b.take i).reverse * 256)) (IntKind.u64.wrap x) = lv 256 (b.take (i + 1)).reverse := by
  have hr := lv_range (B := 256) (by omega) (l := (b.take i).reverse) (hd.take _).reverse
  rw [List.length_reverse, List.length_take, Nat.min_eq_left (by omega)] at hr
  have hp := pow256_le i 7 (by omega)
  have h256 : (256 : Int) ^ 7 = 72057594037927936 := by decide
  have hx2 := hd.get hb
  rw [hx] at hx2
  rw [or_shift _ _ hr.1 (by omega) hx2.1 hx2.2, take_succ_getD b i hb, List.reverse_append, hx]
  rfl

set_option maxHeartbeats 400000 in
theorem getBig (A : Option Addr) (n c : Nat) (l : List Int) (w : World) (hr : Kd.C (Kd.int .u8) w A n l) (h8 : 8 ≤ n) (hd : Dig 256 l) :
    Calls Try.prog 56 #[.slice A n c] w fun e w' => e = .returned (.int .u64 (lv 256 (l.take 8).reverse)) ∧ w = w' := by
  have hl := Lib.hid hr.1
  have HR := Lib.hid hr
  clear hr
  have HD := Lib.hid hd
  clear hd
  go_enter Try.func56, Try.ntmps56
  go_wp2
  go_loop [3, 4] (fun v t => ∃ i : Nat, i ≤ 8 ∧ t = .int .i64 (i : Int) ∧ v = .int .u64 (lv 256 (l.take i).reverse)) (fun _ t => 8 - (intOf t).toNat)
  case atStart => exact ⟨0, by omega, rfl, rfl⟩
  case round =>
    obtain ⟨i, hi, rfl, rfl⟩ := hrel
    by_cases hlt : i < 8
    · obtain ⟨ad, e, hx⟩ := Kd.at_int HR.out (i : Int) (by omega) (by omega)
      cases e
      rw [show rd l (i : Int) = l.getD i 0 from by simp [rd], Int.toNat_natCast] at hx
      obtain ⟨x, hx2⟩ : ∃ x, l.getD i 0 = x := ⟨_, rfl⟩
      obtain ⟨s, hs⟩ : ∃ s, lv 256 (l.take i).reverse = s := ⟨_, rfl⟩
      have hst := big_step l HD.out i hlt (by rw [hl.out]; omega) x hx2
      rw [hx2] at hx
      rw [hs] at hst ⊢
      have HS := Lib.hid hst
      clear hst
      have Hx2 := Lib.hid hx2
      clear hx2
      have Hs := Lib.hid hs
      clear hs
      have b1 : (i : Int) < (n : Int) := by omega
      go_wp2
      go_round
      case rel => exact ⟨i + 1, by omega, by go_num, by rw [← HS.out]⟩
      case measure => simp [intOf]; omega
    · have : i = 8 := by omega
      subst this
      go_wp2
      go_ret
      exact ⟨rfl, rfl⟩

/-- A make of words. -/
theorem run_mk (l : Int) (w : World) (h0 : 0 ≤ l) (hc : l ≤ 1000000000) :
    (Instr.makeSlice 29 (.int .i64 l) (.int .i64 l)).run Try.prog w = .ok (.slice (some ⟨w.heap.size, 0, none⟩) l.toNat l.toNat) (w.alloc (.cells (madeCells #[.int .u64 0] l.toNat) 33)) := by
  obtain ⟨i, hi, hz, hs, hb⟩ := info_parts infoU64
  have := run_make (P := Try.prog) w 29 33 i (.int .u64 0) Try.underlying29 hi hz .i64 .i64 l l h0 (by omega) (by rw [hb]; omega) (by omega)
  rw [hs, Nat.mul_one] at this
  exact this

def Q (w : World) (m : Nat) (xs : List Int) (wr : World) : Prop := wr.ownsRow w.heap.size 33 1 (.slice (some ⟨w.heap.size, 0, none⟩) m m) m (xs.map (Value.int .u64)) ∧ Below w.heap.size w wr
theorem Q.start (w : World) (m : Nat) (hm : m ≤ maxLen) : Q w m (List.replicate m 0) (w.alloc (.cells (madeCells #[.int .u64 0] m) 33)) := by
  have := World.ownsRow_lit (e := 33) (base := w.heap.size) (size := 1) w (madeCells #[.int .u64 0] m) m (Nat.le_refl _) hm (by simp [madeCells])
  rw [toList_madeCells_one] at this
  exact ⟨by simpa using this, (Below.refl _ _).alloc (Nat.le_refl _) _⟩
theorem Q.put {w wr : World} {m : Nat} {xs : List Int} (h : Q w m xs wr) (i : Nat) (x : Int) : Q w m (xs.set i x) (wr.setCell ⟨w.heap.size, i, none⟩ (.int .u64 x)) :=
  ⟨by rw [List.map_set]; exact (h.1.stored i (.int .u64 x)).1, h.2.setCell (Nat.le_refl _) _⟩
theorem Q.cell {w wr : World} {m : Nat} {xs : List Int} (h : Q w m xs wr) (i : Nat) (hi : i < m) : wr.cell? ⟨w.heap.size, i, none⟩ = some (.int .u64 (xs.getD i 0)) := by
  have hl : xs.length = m := by have := h.1.1; simpa using this
  rw [h.1.cellAt i (by omega), List.getElem?_map, List.getD_eq_getElem?_getD, List.getElem?_eq_getElem (by omega)]
  rfl
theorem Q.free {w wr : World} {m : Nat} {xs : List Int} (h : Q w m xs wr) (i : Nat) : wr.frozen? ⟨w.heap.size, i, none⟩ = false := h.1.frozenAt i

theorem Q.drew {w wr : World} {m : Nat} {xs : List Int} (h : Q w m xs wr) : Q w m xs wr.drew := ⟨h.1, h.2.drew⟩
theorem laid {w wr : World} (l : List Int) (hd : Dig 256 l) (m j : Nat) (o x : Int) (hj : j < l.length % 8) (hm : l.length ≤ 8 * m) (hx : l.reverse.getD (8 * (l.length / 8) + j) 0 = x)
    (ho : (wds m (l.reverse.take (8 * (l.length / 8) + j))).getD (l.length / 8) 0 = o) (h : Q w m (wds m (l.reverse.take (8 * (l.length / 8) + j))) wr) :
    Q w m (wds m (l.reverse.take (8 * (l.length / 8) + (j + 1)))) (wr.setCell ⟨w.heap.size, l.length / 8, none⟩ (.int .u64 (Go.bits .or .u64 o (IntKind.u64.wrap (IntKind.u64.wrap x * 2 ^ (8 * j)))))).drew := by
  have hlr : l.reverse.length = l.length := List.length_reverse
  have hq : (8 * (l.length / 8) + j) / 8 = l.length / 8 := by omega
  have hr : (8 * (l.length / 8) + j) % 8 = j := by omega
  have hw := wds_old_lt m l.reverse hd.reverse (8 * (l.length / 8) + j) (by omega) (by omega)
  rw [hq, hr, ho] at hw
  have hb := hd.reverse.get (i := 8 * (l.length / 8) + j) (by omega)
  rw [hx] at hb
  have hs := wds_step m l.reverse (8 * (l.length / 8) + j) (by omega) (by omega)
  rw [hq, hr, hx, ho] at hs
  rw [wu64_in hb.1 (by omega), or_byte o x j (by omega) hw.1 hw.2 hb.1 hb.2, ← Nat.add_assoc, hs]
  exact (h.put _ _).drew

set_option maxHeartbeats 800000 in
set_option maxRecDepth 100000 in
theorem be_any (A : Option Addr) (c : Nat) (l : List Int) (w : World) (hr : Kd.C (Kd.int .u8) w A l.length l) (hc : l.length ≤ c) (hd : Dig 256 l) (hl : l.length ≤ 100000) :
    Calls Try.prog 40 #[.slice A l.length c] w fun e w' => e = .returned (.slice (some ⟨w.heap.size, 0, none⟩) ((l.length + 7) / 8) ((l.length + 7) / 8)) ∧ Q w ((l.length + 7) / 8) (wds ((l.length + 7) / 8) l.reverse) w' := by
  have HR := Lib.hid hr
  clear hr
  have HD := Lib.hid hd
  clear hd
  obtain ⟨m, hm⟩ : ∃ m, (l.length + 7) / 8 = m := ⟨_, rfl⟩
  have hmk : ∀ w : World, (Instr.makeSlice 29 (.int .i64 (((l.length : Int) + 7) / 8)) (.int .i64 (((l.length : Int) + 7) / 8))).run Try.prog w = .ok (.slice (some ⟨w.heap.size, 0, none⟩) m m) (w.alloc (.cells (madeCells #[.int .u64 0] m) 33)) := fun w => by
    have := run_mk (((l.length : Int) + 7) / 8) w (by omega) (by omega)
    rwa [show (((l.length : Int) + 7) / 8).toNat = m from by omega] at this
  have Q0 := Lib.hid (Q.start w m (by unfold maxLen; omega))
  have hm1 : l.length ≤ 8 * m := by omega
  rw [hm]
  have HM := Lib.hid hm
  clear hm
  go_enter Try.func40, Try.ntmps40
  go_wp2
  go_loopw [6] (fun t wr => ∃ i : Nat, i ≤ l.length / 8 ∧ t = .int .i64 (i : Int) ∧ Hid (Q w m (wds m (l.reverse.take (8 * i))) wr)) (fun t _ => l.length / 8 - (intOf t).toNat)
  case atStart => exact ⟨0, by omega, rfl, by rw [Nat.mul_zero, List.take_zero, wds_nil]; exact Q0.out⟩
  case round =>
    obtain ⟨i, hi, rfl, HQ⟩ := hrel
    by_cases hlt : i < l.length / 8
    · obtain ⟨i0, hi0, _, hsz0, _⟩ := info_parts infoU8
      obtain ⟨A', hcut, hA', hC'⟩ := print_drop_of (P := Try.prog) (Value.int .u8) 0 22 5 .i64 Try.underlying22 hi0 hsz0 A c l ((l.length : Int) - 8 * ((i : Int) + 1)) (by omega) (by omega) hc
      have ht : ((l.length : Int) - 8 * ((i : Int) + 1)).toNat = l.length - (8 * i + 8) := by omega
      rw [ht] at hcut hA' hC'
      have HR1 := Lib.hid (hA' _ (Kd.reads_of_C HR.out))
      have HW := Lib.hid (wds_word m l.reverse i (by omega))
      have HC := Lib.hid (chunk_rev l i (by omega))
      have hcell := HQ.out.cell i (by omega)
      have hfree := HQ.out.free i
      clear hA' hC' hi0 hsz0
      have b1 : (i : Int) < (m : Int) := by omega
      go_wp2_with (first | (go_at_call 56; refine (getBig A' _ _ (l.drop (l.length - (8 * i + 8))) _ ?s1 ?s2 ?s3).mono ?_; (case s1 => rw [← List.length_drop]; exact Kd.C_below (Kd.C_of_reads (h1 := fun _ => rfl) HR1.out) HQ.out.2); (case s2 => omega); (case s3 => exact HD.out.drop _); rw [HC.out]; rintro e w' ⟨rfl, rfl⟩))
      go_roundw
      case rel => exact ⟨i + 1, by omega, by go_num, by rw [HW.out]; exact HQ.out.put _ _⟩
      case measure => simp [intOf]; omega
    · have hie : i = l.length / 8 := by omega
      have HI := Lib.hid hie
      clear hie
      go_wp2
      go_loopw [8] (fun t wr => ∃ j : Nat, j ≤ l.length % 8 ∧ t = .int .i64 (j : Int) ∧ Hid (Q w m (wds m (l.reverse.take (8 * (l.length / 8) + j))) wr)) (fun t _ => l.length % 8 - (intOf t).toNat)
      case atStart => exact ⟨0, by omega, rfl, by rw [← HI.out]; exact HQ.out⟩
      case round =>
        clear HQ HI
        obtain ⟨j, hj, rfl, HQ⟩ := hrel
        by_cases hlt2 : j < l.length % 8
        · have hcell := HQ.out.cell (l.length / 8) (by omega)
          have hfree := HQ.out.free (l.length / 8)
          obtain ⟨ad, e, hx⟩ := Kd.at_int (Kd.C_below HR.out HQ.out.2) ((l.length : Int) - 1 - 8 * ((l.length : Int) / 8) - (j : Int)) (by omega) (by omega)
          cases e
          have ht : ((l.length : Int) - 1 - 8 * ((l.length : Int) / 8) - (j : Int)).toNat = l.length - 1 - (8 * (l.length / 8) + j) := by omega
          rw [show rd l ((l.length : Int) - 1 - 8 * ((l.length : Int) / 8) - (j : Int)) = l.reverse.getD (8 * (l.length / 8) + j) 0 from by unfold rd; rw [ht, getD_reverse l _ (by omega)]] at hx
          rw [ht] at hx
          obtain ⟨x, hx2⟩ : ∃ x, l.reverse.getD (8 * (l.length / 8) + j) 0 = x := ⟨_, rfl⟩
          obtain ⟨o, ho⟩ : ∃ o, (wds m (l.reverse.take (8 * (l.length / 8) + j))).getD (l.length / 8) 0 = o := ⟨_, rfl⟩
          rw [hx2] at hx
          rw [ho] at hcell
          have Hx := Lib.hid hx2
          have Ho := Lib.hid ho
          clear hx2 ho
          have c1 : (0 : Int) ≤ (l.length : Int) / 8 := by omega
          have c2 : (l.length : Int) / 8 < (m : Int) := by omega
          have c3 : ((l.length : Int) / 8).toNat = l.length / 8 := by omega
          have c4 : (0 : Int) ≤ (l.length : Int) - 1 - 8 * ((l.length : Int) / 8) - (j : Int) := by omega
          have c4b : (j : Int) ≤ (l.length : Int) - 1 - 8 * ((l.length : Int) / 8) := by omega
          have c5 : (l.length : Int) - 1 - 8 * ((l.length : Int) / 8) - (j : Int) < (l.length : Int) := by omega
          have c6 : (j : Int) < (l.length : Int) % 8 := by omega
          have c7 : (j : Int) < 8 := by omega
          have w1 : IntKind.i64.wrap ((l.length : Int) - 1) = (l.length : Int) - 1 := IntWalk.i64_in _ (by omega)
          have w2 : IntKind.i64.wrap (8 * ((l.length : Int) / 8)) = 8 * ((l.length : Int) / 8) := IntWalk.i64_in _ (by omega)
          have w3 : IntKind.i64.wrap ((l.length : Int) - 1 - 8 * ((l.length : Int) / 8)) = (l.length : Int) - 1 - 8 * ((l.length : Int) / 8) := IntWalk.i64_in _ (by omega)
          have w4 : IntKind.i64.wrap ((l.length : Int) - 1 - 8 * ((l.length : Int) / 8) - (j : Int)) = (l.length : Int) - 1 - 8 * ((l.length : Int) / 8) - (j : Int) := IntWalk.i64_in _ (by omega)
          have w5 : IntKind.i64.wrap (8 * (j : Int)) = 8 * (j : Int) := IntWalk.i64_in _ (by omega)
          have w6 : IntKind.u64.wrap (8 * (j : Int)) = 8 * (j : Int) := wu64_in (by omega) (by omega)
          go_wp2
          go_still_tail 21, (by kernel_rfl)
          change wpList _ _ _ _ _ wr.drew
          go_wp2
          go_roundw
          case rel => exact ⟨j + 1, by omega, by go_num, laid l HD.out m j o x hlt2 hm1 Hx.out Ho.out HQ.out⟩
          case measure => simp [intOf]; omega
        · go_wp2
          go_ret
          have : 8 * (l.length / 8) + j = l.reverse.length := by rw [List.length_reverse]; omega
          rw [this, List.take_length] at HQ
          exact ⟨rfl, HQ.out⟩
end Go.Proofs.Ythckboojmljeiaa.Be
