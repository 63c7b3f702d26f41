/- Walks: getBig64, BytesBe2Uint64Le: the words of bytes, the highest first; Walk: slices.Equal over two slices of words, of bytes, that hold the same: true; A row of whole numbers that the call made itself; Walks: beUint32, beUint64, bigEndianWord, nat.setBytes, Int.SetBytes; Walks: nat.bytes, Int.Bytes; Plain: bytes without noughts ahead. What the printed reference functions tell: Short, Turned, Store, Bits. -/
import Derived.Test.YthckboojmljeiaaProg
import Derived.Test.YthckboojmljeiaaMga
import Derived.Test.YthckboojmljeiaaWMore
import Derived.Test.YthckboojmljeiaaWNEv
import Derived.WalkKit
import Derived.WalkSpells
import Derived.Below
import Derived.KernelRfl
import Derived.IntWalk
import Derived.Outline
import Derived.BigQuiet
import Derived.BigRegion
import Derived.LoopTactic
import Derived.Lib.Hide
import Derived.StillTailTactics
import Derived.Test.YthckboojmljeiaaMgb
import Derived.Test.YthckboojmljeiaaPFnExactStorex2
namespace Go.Proofs.Ythckboojmljeiaa.Be
set_option linter.unusedVariables false
set_option linter.unusedSimpArgs false
open Go.RowKit Go.Proofs.YthckboojmljeiaaW.PrintWords Go.Proofs.YthckboojmljeiaaW.PrintLast Go.Proofs.YthckboojmljeiaaW.PrintMore Go.Proofs.Ythckboojmljeiaa.Pl

theorem infoU8 : (Try.prog.info? 5).map (fun i => (i.zero, i.size, i.bytes)) = some (some (.int .u8 0), 1, 1) := by kernel_rfl
theorem infoU64 : (Try.prog.info? 33).map (fun i => (i.zero, i.size, i.bytes)) = some (some (.int .u64 0), 1, 8) := by kernel_rfl

theorem big_step (b : List Int) (hd : Dig 256 b) (i : Nat) (hi : i < 8) (hb : i < b.length) (x : Int) (hx : b.getD i 0 = x) :
    Go.bits .or .u64 (IntKind.u64.wrap (lv 256 (b.take i).reverse * 256)) (IntKind.u64.wrap x) = lv 256 (b.take (i + 1)).reverse := by
  have hr := lv_range (B := 256) (by omega) (l := (b.take i).reverse) (hd.take _).reverse
  rw [List.length_reverse, List.length_take, Nat.min_eq_left (by omega)] at hr
  have hp := pow256_le i 7 (by omega)
  have h256 : (256 : Int) ^ 7 = 72057594037927936 := by decide
  have hx2 := hd.get hb
  rw [hx] at hx2
  rw [or_shift _ _ hr.1 (by omega) hx2.1 hx2.2, take_succ_getD b i hb, List.reverse_append, hx]
  rfl

set_option maxHeartbeats 400000 in
theorem getBig (A : Option Addr) (n c : Nat) (l : List Int) (w : World) (hr : Kd.C (Kd.int .u8) w A n l) (h8 : 8 ≤ n) (hd : Dig 256 l) :
    Calls Try.prog 56 #[.slice A n c] w fun e w' => e = .returned (.int .u64 (lv 256 (l.take 8).reverse)) ∧ w = w' := by
  have hl := Lib.hid hr.1
  have HR := Lib.hid hr
  clear hr
  have HD := Lib.hid hd
  clear hd
  go_enter Try.func56, Try.ntmps56
  go_wp2
  go_loop [3, 4] (fun v t => ∃ i : Nat, i ≤ 8 ∧ t = .int .i64 (i : Int) ∧ v = .int .u64 (lv 256 (l.take i).reverse)) (fun _ t => 8 - (intOf t).toNat)
  case atStart => exact ⟨0, by omega, rfl, rfl⟩
  case round =>
    obtain ⟨i, hi, rfl, rfl⟩ := hrel
    by_cases hlt : i < 8
    · obtain ⟨ad, e, hx⟩ := Kd.at_int HR.out (i : Int) (by omega) (by omega)
      cases e
      rw [show rd l (i : Int) = l.getD i 0 from by simp [rd], Int.toNat_natCast] at hx
      obtain ⟨x, hx2⟩ : ∃ x, l.getD i 0 = x := ⟨_, rfl⟩
      obtain ⟨s, hs⟩ : ∃ s, lv 256 (l.take i).reverse = s := ⟨_, rfl⟩
      have hst := big_step l HD.out i hlt (by rw [hl.out]; omega) x hx2
      rw [hx2] at hx
      rw [hs] at hst ⊢
      have HS := Lib.hid hst
      clear hst
      have Hx2 := Lib.hid hx2
      clear hx2
      have Hs := Lib.hid hs
      clear hs
      have b1 : (i : Int) < (n : Int) := by omega
      go_wp2
      go_round
      case rel => exact ⟨i + 1, by omega, by go_num, by rw [← HS.out]⟩
      case measure => simp [intOf]; omega
    · have : i = 8 := by omega
      subst this
      go_wp2
      go_ret
      exact ⟨rfl, rfl⟩

/-- A make of words. -/
theorem run_mk (l : Int) (w : World) (h0 : 0 ≤ l) (hc : l ≤ 1000000000) :
    (Instr.makeSlice 29 (.int .i64 l) (.int .i64 l)).run Try.prog w = .ok (.slice (some ⟨w.heap.size, 0, none⟩) l.toNat l.toNat) (w.alloc (.cells (madeCells #[.int .u64 0] l.toNat) 33)) := by
  obtain ⟨i, hi, hz, hs, hb⟩ := info_parts infoU64
  have := run_make (P := Try.prog) w 29 33 i (.int .u64 0) Try.underlying29 hi hz .i64 .i64 l l h0 (by omega) (by rw [hb]; omega) (by omega)
  rw [hs, Nat.mul_one] at this
  exact this

def Q (w : World) (m : Nat) (xs : List Int) (wr : World) : Prop := wr.ownsRow w.heap.size 33 1 (.slice (some ⟨w.heap.size, 0, none⟩) m m) m (xs.map (Value.int .u64)) ∧ Below w.heap.size w wr
theorem Q.start (w : World) (m : Nat) (hm : m ≤ maxLen) : Q w m (List.replicate m 0) (w.alloc (.cells (madeCells #[.int .u64 0] m) 33)) := by
  have := World.ownsRow_lit (e := 33) (base := w.heap.size) (size := 1) w (madeCells #[.int .u64 0] m) m (Nat.le_refl _) hm (by simp [madeCells])
  rw [toList_madeCells_one] at this
  exact ⟨by simpa using this, (Below.refl _ _).alloc (Nat.le_refl _) _⟩
theorem Q.put {w wr : World} {m : Nat} {xs : List Int} (h : Q w m xs wr) (i : Nat) (x : Int) : Q w m (xs.set i x) (wr.setCell ⟨w.heap.size, i, none⟩ (.int .u64 x)) :=
  ⟨by rw [List.map_set]; exact (h.1.stored i (.int .u64 x)).1, h.2.setCell (Nat.le_refl _) _⟩
theorem Q.cell {w wr : World} {m : Nat} {xs : List Int} (h : Q w m xs wr) (i : Nat) (hi : i < m) : wr.cell? ⟨w.heap.size, i, none⟩ = some (.int .u64 (xs.getD i 0)) := by
  have hl : xs.length = m := by have := h.1.1; simpa using this
  rw [h.1.cellAt i (by omega), List.getElem?_map, List.getD_eq_getElem?_getD, List.getElem?_eq_getElem (by omega)]
  rfl
theorem Q.free {w wr : World} {m : Nat} {xs : List Int} (h : Q w m xs wr) (i : Nat) : wr.frozen? ⟨w.heap.size, i, none⟩ = false := h.1.frozenAt i

theorem Q.drew {w wr : World} {m : Nat} {xs : List Int} (h : Q w m xs wr) : Q w m xs wr.drew := ⟨h.1, h.2.drew⟩
theorem laid {w wr : World} (l : List Int) (hd : Dig 256 l) (m j : Nat) (o x : Int) (hj : j < l.length % 8) (hm : l.length ≤ 8 * m) (hx : l.reverse.getD (8 * (l.length / 8) + j) 0 = x)
    (ho : (wds m (l.reverse.take (8 * (l.length / 8) + j))).getD (l.length / 8) 0 = o) (h : Q w m (wds m (l.reverse.take (8 * (l.length / 8) + j))) wr) :
    Q w m (wds m (l.reverse.take (8 * (l.length / 8) + (j + 1)))) (wr.setCell ⟨w.heap.size, l.length / 8, none⟩ (.int .u64 (Go.bits .or .u64 o (IntKind.u64.wrap (IntKind.u64.wrap x * 2 ^ (8 * j)))))).drew := by
  have hlr : l.reverse.length = l.length := List.length_reverse
  have hq : (8 * (l.length / 8) + j) / 8 = l.length / 8 := by omega
  have hr : (8 * (l.length / 8) + j) % 8 = j := by omega
  have hw := wds_old_lt m l.reverse hd.reverse (8 * (l.length / 8) + j) (by omega) (by omega)
  rw [hq, hr, ho] at hw
  have hb := hd.reverse.get (i := 8 * (l.length / 8) + j) (by omega)
  rw [hx] at hb
  have hs := wds_step m l.reverse (8 * (l.length / 8) + j) (by omega) (by omega)
  rw [hq, hr, hx, ho] at hs
  rw [wu64_in hb.1 (by omega), or_byte o x j (by omega) hw.1 hw.2 hb.1 hb.2, ← Nat.add_assoc, hs]
  exact (h.put _ _).drew

set_option maxHeartbeats 800000 in
set_option maxRecDepth 100000 in
theorem be_any (A : Option Addr) (c : Nat) (l : List Int) (w : World) (hr : Kd.C (Kd.int .u8) w A l.length l) (hc : l.length ≤ c) (hd : Dig 256 l) (hl : l.length ≤ 100000) :
    Calls Try.prog 40 #[.slice A l.length c] w fun e w' => e = .returned (.slice (some ⟨w.heap.size, 0, none⟩) ((l.length + 7) / 8) ((l.length + 7) / 8)) ∧ Q w ((l.length + 7) / 8) (wds ((l.length + 7) / 8) l.reverse) w' := by
  have HR := Lib.hid hr
  clear hr
  have HD := Lib.hid hd
  clear hd
  obtain ⟨m, hm⟩ : ∃ m, (l.length + 7) / 8 = m := ⟨_, rfl⟩
  have hmk : ∀ w : World, (Instr.makeSlice 29 (.int .i64 (((l.length : Int) + 7) / 8)) (.int .i64 (((l.length : Int) + 7) / 8))).run Try.prog w = .ok (.slice (some ⟨w.heap.size, 0, none⟩) m m) (w.alloc (.cells (madeCells #[.int .u64 0] m) 33)) := fun w => by
    have := run_mk (((l.length : Int) + 7) / 8) w (by omega) (by omega)
    rwa [show (((l.length : Int) + 7) / 8).toNat = m from by omega] at this
  have Q0 := Lib.hid (Q.start w m (by unfold maxLen; omega))
  have hm1 : l.length ≤ 8 * m := by omega
  rw [hm]
  have HM := Lib.hid hm
  clear hm
  go_enter Try.func40, Try.ntmps40
  go_wp2
  go_loopw [6] (fun t wr => ∃ i : Nat, i ≤ l.length / 8 ∧ t = .int .i64 (i : Int) ∧ Hid (Q w m (wds m (l.reverse.take (8 * i))) wr)) (fun t _ => l.length / 8 - (intOf t).toNat)
  case atStart => exact ⟨0, by omega, rfl, by rw [Nat.mul_zero, List.take_zero, wds_nil]; exact Q0.out⟩
  case round =>
    obtain ⟨i, hi, rfl, HQ⟩ := hrel
    by_cases hlt : i < l.length / 8
    · obtain ⟨i0, hi0, _, hsz0, _⟩ := info_parts infoU8
      obtain ⟨A', hcut, hA', hC'⟩ := print_drop_of (P := Try.prog) (Value.int .u8) 0 22 5 .i64 Try.underlying22 hi0 hsz0 A c l ((l.length : Int) - 8 * ((i : Int) + 1)) (by omega) (by omega) hc
      have ht : ((l.length : Int) - 8 * ((i : Int) + 1)).toNat = l.length - (8 * i + 8) := by omega
      rw [ht] at hcut hA' hC'
      have HR1 := Lib.hid (hA' _ (Kd.reads_of_C HR.out))
      have HW := Lib.hid (wds_word m l.reverse i (by omega))
      have HC := Lib.hid (chunk_rev l i (by omega))
      have hcell := HQ.out.cell i (by omega)
      have hfree := HQ.out.free i
      clear hA' hC' hi0 hsz0
      have b1 : (i : Int) < (m : Int) := by omega
      go_wp2_with (first | (go_at_call 56; refine (getBig A' _ _ (l.drop (l.length - (8 * i + 8))) _ ?s1 ?s2 ?s3).mono ?_; (case s1 => rw [← List.length_drop]; exact Kd.C_below (Kd.C_of_reads (h1 := fun _ => rfl) HR1.out) HQ.out.2); (case s2 => omega); (case s3 => exact HD.out.drop _); rw [HC.out]; rintro e w' ⟨rfl, rfl⟩))
      go_roundw
      case rel => exact ⟨i + 1, by omega, by go_num, by rw [HW.out]; exact HQ.out.put _ _⟩
      case measure => simp [intOf]; omega
    · have hie : i = l.length / 8 := by omega
      have HI := Lib.hid hie
      clear hie
      go_wp2
      go_loopw [8] (fun t wr => ∃ j : Nat, j ≤ l.length % 8 ∧ t = .int .i64 (j : Int) ∧ Hid (Q w m (wds m (l.reverse.take (8 * (l.length / 8) + j))) wr)) (fun t _ => l.length % 8 - (intOf t).toNat)
      case atStart => exact ⟨0, by omega, rfl, by rw [← HI.out]; exact HQ.out⟩
      case round =>
        clear HQ HI
        obtain ⟨j, hj, rfl, HQ⟩ := hrel
        by_cases hlt2 : j < l.length % 8
        · have hcell := HQ.out.cell (l.length / 8) (by omega)
          have hfree := HQ.out.free (l.length / 8)
          obtain ⟨ad, e, hx⟩ := Kd.at_int (Kd.C_below HR.out HQ.out.2) ((l.length : Int) - 1 - 8 * ((l.length : Int) / 8) - (j : Int)) (by omega) (by omega)
          cases e
          have ht : ((l.length : Int) - 1 - 8 * ((l.length : Int) / 8) - (j : Int)).toNat = l.length - 1 - (8 * (l.length / 8) + j) := by omega
          rw [show rd l ((l.length : Int) - 1 - 8 * ((l.length : Int) / 8) - (j : Int)) = l.reverse.getD (8 * (l.length / 8) + j) 0 from by unfold rd; rw [ht, getD_reverse l _ (by omega)]] at hx
          rw [ht] at hx
          obtain ⟨x, hx2⟩ : ∃ x, l.reverse.getD (8 * (l.length / 8) + j) 0 = x := ⟨_, rfl⟩
          obtain ⟨o, ho⟩ : ∃ o, (wds m (l.reverse.take (8 * (l.length / 8) + j))).getD (l.length / 8) 0 = o := ⟨_, rfl⟩
          rw [hx2] at hx
          rw [ho] at hcell
          have Hx := Lib.hid hx2
          have Ho := Lib.hid ho
          clear hx2 ho
          have c1 : (0 : Int) ≤ (l.length : Int) / 8 := by omega
          have c2 : (l.length : Int) / 8 < (m : Int) := by omega
          have c3 : ((l.length : Int) / 8).toNat = l.length / 8 := by omega
          have c4 : (0 : Int) ≤ (l.length : Int) - 1 - 8 * ((l.length : Int) / 8) - (j : Int) := by omega
          have c4b : (j : Int) ≤ (l.length : Int) - 1 - 8 * ((l.length : Int) / 8) := by omega
          have c5 : (l.length : Int) - 1 - 8 * ((l.length : Int) / 8) - (j : Int) < (l.length : Int) := by omega
          have c6 : (j : Int) < (l.length : Int) % 8 := by omega
          have c7 : (j : Int) < 8 := by omega
          have w1 : IntKind.i64.wrap ((l.length : Int) - 1) = (l.length : Int) - 1 := IntWalk.i64_in _ (by omega)
          have w2 : IntKind.i64.wrap (8 * ((l.length : Int) / 8)) = 8 * ((l.length : Int) / 8) := IntWalk.i64_in _ (by omega)
          have w3 : IntKind.i64.wrap ((l.length : Int) - 1 - 8 * ((l.length : Int) / 8)) = (l.length : Int) - 1 - 8 * ((l.length : Int) / 8) := IntWalk.i64_in _ (by omega)
          have w4 : IntKind.i64.wrap ((l.length : Int) - 1 - 8 * ((l.length : Int) / 8) - (j : Int)) = (l.length : Int) - 1 - 8 * ((l.length : Int) / 8) - (j : Int) := IntWalk.i64_in _ (by omega)
          have w5 : IntKind.i64.wrap (8 * (j : Int)) = 8 * (j : Int) := IntWalk.i64_in _ (by omega)
          have w6 : IntKind.u64.wrap (8 * (j : Int)) = 8 * (j : Int) := wu64_in (by omega) (by omega)
          go_wp2
          go_still_tail 21, (by kernel_rfl)
          change wpList _ _ _ _ _ wr.drew
          go_wp2
          go_roundw
          case rel => exact ⟨j + 1, by omega, by go_num, laid l HD.out m j o x hlt2 hm1 Hx.out Ho.out HQ.out⟩
          case measure => simp [intOf]; omega
        · go_wp2
          go_ret
          have : 8 * (l.length / 8) + j = l.reverse.length := by rw [List.length_reverse]; omega
          rw [this, List.take_length] at HQ
          exact ⟨rfl, HQ.out⟩
end Go.Proofs.Ythckboojmljeiaa.Be
namespace Go.Proofs.Ythckboojmljeiaa.Be
set_option linter.unusedVariables false
set_option linter.unusedSimpArgs false
open Go.RowKit Go.Proofs.YthckboojmljeiaaW.PrintWords Go.Proofs.YthckboojmljeiaaW.PrintLast Go.Proofs.YthckboojmljeiaaW.PrintMore Go.Proofs.Ythckboojmljeiaa.Pl

def Drn (w w' : World) : Prop := ∃ q, w' = w.drewN q
theorem Drn.refl (w : World) : Drn w w := ⟨0, rfl⟩
theorem Drn.step {w w' : World} (h : Drn w w') (n : Nat) : Drn w (w'.drewN n) := by
  obtain ⟨m, rfl⟩ := h
  exact ⟨m + n, World.drewN_drewN ..⟩
theorem Drn.below {w w' : World} (h : Drn w w') : Below w.heap.size w w' := by
  obtain ⟨m, rfl⟩ := h
  exact pw_below_drewN (Below.refl _ _) m

set_option maxHeartbeats 400000 in
theorem equal (A B : Option Addr) (n c c' : Nat) (l : List Int) (w : World) (hA : Kd.C (Kd.int .u64) w A n l) (hB : Kd.C (Kd.int .u64) w B n l) :
    Calls Try.prog 22 #[.slice A n c, .slice B n c'] w fun e w' => e = .returned (.bool true) ∧ Drn w w' := by
  have HA := Lib.hid hA
  have HB := Lib.hid hB
  have hn : (n : Int) ≤ 9223372036854775807 := by have := hA.2.1; omega
  clear hA hB
  go_enter Try.func22, Try.ntmps22
  go_wp2
  go_loopw [13] (fun t wr => ∃ i : Nat, i ≤ n ∧ t = .int .i64 (i : Int) ∧ Drn w wr) (fun t _ => n - (intOf t).toNat)
  case atStart => exact ⟨0, by omega, rfl, Drn.refl _⟩
  case round =>
    obtain ⟨i, hi, rfl, q, rfl⟩ := hrel
    by_cases hlt : i < n
    · obtain ⟨ad, e, hx⟩ := Kd.at_int HA.out (i : Int) (by omega) (by omega)
      obtain ⟨bd, e', hy⟩ := Kd.at_int HB.out (i : Int) (by omega) (by omega)
      cases e
      cases e'
      rw [Int.toNat_natCast] at hx hy
      obtain ⟨x, hx2⟩ : ∃ x, rd l (i : Int) = x := ⟨_, rfl⟩
      rw [hx2] at hx hy
      clear hx2
      have b1 : (i : Int) < (n : Int) := by omega
      go_wp2
      go_quiet (fail)
      go_wp2
      go_roundw
      case rel => exact ⟨i + 1, by omega, by go_num, ⟨_, rfl⟩⟩
      case measure => simp [intOf]; omega
    · go_wp2
      go_ret
      exact ⟨rfl, ⟨_, rfl⟩⟩
set_option maxHeartbeats 400000 in
theorem equal8 (A B : Option Addr) (n c c' : Nat) (l : List Int) (w : World) (hA : Kd.C (Kd.int .u8) w A n l) (hB : Kd.C (Kd.int .u8) w B n l) :
    Calls Try.prog 13 #[.slice A n c, .slice B n c'] w fun e w' => e = .returned (.bool true) ∧ Drn w w' := by
  have HA := Lib.hid hA
  have HB := Lib.hid hB
  have hn : (n : Int) ≤ 9223372036854775807 := by have := hA.2.1; omega
  clear hA hB
  go_enter Try.func13, Try.ntmps13
  go_wp2
  go_loopw [13] (fun t wr => ∃ i : Nat, i ≤ n ∧ t = .int .i64 (i : Int) ∧ Drn w wr) (fun t _ => n - (intOf t).toNat)
  case atStart => exact ⟨0, by omega, rfl, Drn.refl _⟩
  case round =>
    obtain ⟨i, hi, rfl, q, rfl⟩ := hrel
    by_cases hlt : i < n
    · obtain ⟨ad, e, hx⟩ := Kd.at_int HA.out (i : Int) (by omega) (by omega)
      obtain ⟨bd, e', hy⟩ := Kd.at_int HB.out (i : Int) (by omega) (by omega)
      cases e
      cases e'
      rw [Int.toNat_natCast] at hx hy
      obtain ⟨x, hx2⟩ : ∃ x, rd l (i : Int) = x := ⟨_, rfl⟩
      rw [hx2] at hx hy
      clear hx2
      have b1 : (i : Int) < (n : Int) := by omega
      go_wp2
      go_quiet (fail)
      go_wp2
      go_roundw
      case rel => exact ⟨i + 1, by omega, by go_num, ⟨_, rfl⟩⟩
      case measure => simp [intOf]; omega
    · go_wp2
      go_ret
      exact ⟨rfl, ⟨_, rfl⟩⟩
end Go.Proofs.Ythckboojmljeiaa.Be
namespace Go.Proofs.Ythckboojmljeiaa.Ow
set_option linter.unusedVariables false
set_option linter.unusedSimpArgs false
open Go.RowKit Go.Proofs.YthckboojmljeiaaW.PrintWords Go.Proofs.YthckboojmljeiaaW.PrintLast Go.Proofs.YthckboojmljeiaaW.PrintMore Go.Proofs.Ythckboojmljeiaa.Pl

/-- Block g holds the row xs, whole. -/
def Ow (k : IntKind) (e : TypeId) (B g m : Nat) (xs : List Int) (w : World) : Prop := w.ownsRow B e 1 (.slice (some ⟨g, 0, none⟩) m m) m (xs.map (Value.int k))
variable {k : IntKind} {e : TypeId} {B g m : Nat} {xs : List Int} {w w' : World}
theorem Ow.len (h : Ow k e B g m xs w) : xs.length = m := by have := h.1; simpa using this
theorem Ow.base (h : Ow k e B g m xs w) : B ≤ g ∧ g < w.heap.size := h.lt g rfl
theorem Ow.put (h : Ow k e B g m xs w) (i : Nat) (x : Int) : Ow k e B g m (xs.set i x) (w.setCell ⟨g, i, none⟩ (.int k x)) := by
  unfold Ow; rw [List.map_set]; exact (h.stored i (.int k x)).1
theorem Ow.cell (h : Ow k e B g m xs w) (i : Nat) (hi : i < m) : w.cell? ⟨g, i, none⟩ = some (.int k (xs.getD i 0)) := by
  have hl := h.len
  rw [h.cellAt i (by omega), List.getElem?_map, List.getD_eq_getElem?_getD, List.getElem?_eq_getElem (by omega)]
  rfl
theorem Ow.has (h : Ow k e B g m xs w) (i : Nat) (hi : i < m) : ∃ v, w.cell? ⟨g, i, none⟩ = some (.int k v) := ⟨_, h.cell i hi⟩
theorem Ow.free (h : Ow k e B g m xs w) (i : Nat) : w.frozen? ⟨g, i, none⟩ = false := h.frozenAt i
theorem Ow.drew (h : Ow k e B g m xs w) : Ow k e B g m xs w.drew := h
theorem Ow.drewN (h : Ow k e B g m xs w) (n : Nat) : Ow k e B g m xs (w.drewN n) := h
theorem Ow.kept (h : Ow k e B g m xs w) {row : Option Nat} (hg : w.grownBy w' row) (hr : some g ≠ row) : Ow k e B g m xs w' := World.ownsRow.kept h hg (.inr hr)
theorem Ow.below (h : Ow k e B g m xs w) (hb : Below w.heap.size w w') : Ow k e B g m xs w' := h.kept (grown_of_below hb none) (by simp)
theorem Ow.made (w : World) (k : IntKind) (e : TypeId) (m : Nat) (hm : m ≤ maxLen) : Ow k e w.heap.size w.heap.size m (List.replicate m 0) (w.alloc (.cells (madeCells #[.int k 0] m) e)) := by
  have := World.ownsRow_lit (e := e) (base := w.heap.size) (size := 1) w (madeCells #[.int k 0] m) m (Nat.le_refl _) hm (by simp [madeCells])
  rw [toList_madeCells_one] at this
  unfold Ow
  rw [List.map_replicate]
  exact this
theorem Ow.le (h : Ow k e B g m xs w) : m ≤ 9223372036854775807 := by
  rcases h.2 with ⟨h0, _⟩ | ⟨g, cap, cur, _, _, _, h1, h2, _⟩
  · cases h0
  · unfold maxLen at h2; omega
theorem Ow.c (h : Ow k e B g m xs w) : Kd.C (Kd.int k) w (Option.some ⟨g, 0, none⟩) m xs := by
  refine Kd.C_of_reads (h1 := fun _ => rfl) (d := (0 : Int)) ?_
  refine ⟨h.len, h.le, fun _ => ⟨_, rfl, fun j hj => ?_⟩⟩
  rw [add_plain]
  exact h.cell j hj
theorem grownBy_trans {w w1 w2 : World} {row : Option Nat} (h : w.grownBy w1 row) (h2 : w1.grownBy w2 row) : w.grownBy w2 row :=
  ⟨h2.os.trans h.os, h2.tape.trans h.tape, h2.output.trans h.output, Nat.le_trans h.size h2.size, fun k hk hr => (h2.block k (Nat.lt_of_lt_of_le hk h.size) hr).trans (h.block k hk hr)⟩
theorem grownBy_refl (w : World) (row : Option Nat) : w.grownBy w row := ⟨rfl, rfl, rfl, Nat.le_refl _, fun _ _ _ => rfl⟩
theorem Ow.grown (h : Ow k e B g m xs w) (i : Nat) (u : Value) : w.grownBy (w.setCell ⟨g, i, none⟩ u) (Option.some g) := (h.stored i u).2
theorem below_of_grown {B : Nat} {w w1 w2 : World} (h : Below B w w1) (hg : w1.grownBy w2 (Option.some g)) (hB : B ≤ w1.heap.size) (hr : B ≤ g) : Below B w w2 := h.grown hg hB (fun k hk => by cases hk; exact hr)

theorem run_mk8 (l : Int) (w : World) (h0 : 0 ≤ l) (hc : l ≤ 1000000000) :
    (Instr.makeSlice 22 (.int .i64 l) (.int .i64 l)).run Try.prog w = .ok (.slice (Option.some ⟨w.heap.size, 0, none⟩) l.toNat l.toNat) (w.alloc (.cells (madeCells #[.int .u8 0] l.toNat) 5)) := by
  obtain ⟨i, hi, hz, hs, hb⟩ := info_parts Be.infoU8
  have := run_make (P := Try.prog) w 22 5 i (.int .u8 0) Try.underlying22 hi hz .i64 .i64 l l h0 (by omega) (by rw [hb]; omega) (by omega)
  rw [hs, Nat.mul_one] at this
  exact this

set_option maxHeartbeats 400000 in
theorem putLittle (g o m n c : Nat) (v : Int) (xs : List Int) (w : World) (B : Nat) (hw : Ow .u8 5 B g m xs w) (h8 : 8 ≤ n) (ho : o + 8 ≤ m) (hv : 0 ≤ v ∧ v < 18446744073709551616) :
    Calls Try.prog 58 #[.slice (some ⟨g, o, none⟩) n c, .int .u64 v] w fun e w' => e = .returned (.tuple #[]) ∧ Ow .u8 5 B g m (lay xs o 8 (le8 v)) w' ∧ w.grownBy w' (some g) := by
  have HO := Lib.hid hw
  clear hw
  go_enter Try.func58, Try.ntmps58
  go_wp2
  go_loopw [4] (fun t wr => ∃ i : Nat, i ≤ 8 ∧ t = .int .i64 (i : Int) ∧ Hid (Ow .u8 5 B g m (lay xs o i (le8 v)) wr) ∧ Hid (w.grownBy wr (some g))) (fun t _ => 8 - (intOf t).toNat)
  case atStart => exact ⟨0, by omega, rfl, by rw [lay_zero]; exact HO.out, grownBy_refl _ _⟩
  case round =>
    obtain ⟨i, hi, rfl, HQ, HG⟩ := hrel
    by_cases hlt : i < 8
    · obtain ⟨u, hcell⟩ := HQ.out.has (o + i) (by omega)
      have hfree := HQ.out.free (o + i)
      have b1 : (i : Int) < (n : Int) := by omega
      go_wp2
      go_roundw
      case rel =>
        have h1 := HQ.out.put (o + i) ((le8 v).getD i 0)
        rw [lay_succ xs o i (le8 v) (by rw [le8_length]; exact hlt) (by rw [HO.out.len]; omega), le8_get v i hlt] at h1
        exact ⟨i + 1, by omega, by go_num, h1, grownBy_trans HG.out (HQ.out.grown _ _)⟩
      case measure => simp [intOf]; omega
    · have h8 : i = 8 := by omega
      subst h8
      go_wp2
      go_end0
      exact ⟨rfl, HQ.out, HG.out⟩

theorem le8_rev (v : Int) (i : Nat) (hi : i < 8) : (le8 v).reverse.getD i 0 = v / 2 ^ (56 - 8 * i) % 256 := by
  rw [getD_reverse _ i (by rw [le8_length]; exact hi), le8_length, le8_get v _ (by omega), show 8 * (8 - 1 - i) = 56 - 8 * i from by omega]

set_option maxHeartbeats 400000 in
theorem putBig (g o m n c : Nat) (v : Int) (xs : List Int) (w : World) (B : Nat) (hw : Ow .u8 5 B g m xs w) (h8 : 8 ≤ n) (ho : o + 8 ≤ m) (hv : 0 ≤ v ∧ v < 18446744073709551616) :
    Calls Try.prog 57 #[.slice (some ⟨g, o, none⟩) n c, .int .u64 v] w fun e w' => e = .returned (.tuple #[]) ∧ Ow .u8 5 B g m (lay xs o 8 (le8 v).reverse) w' ∧ w.grownBy w' (some g) := by
  have HO := Lib.hid hw
  clear hw
  go_enter Try.func57, Try.ntmps57
  go_wp2
  go_loopw [4] (fun t wr => ∃ i : Nat, i ≤ 8 ∧ t = .int .i64 (i : Int) ∧ Hid (Ow .u8 5 B g m (lay xs o i (le8 v).reverse) wr) ∧ Hid (w.grownBy wr (some g))) (fun t _ => 8 - (intOf t).toNat)
  case atStart => exact ⟨0, by omega, rfl, by rw [lay_zero]; exact HO.out, grownBy_refl _ _⟩
  case round =>
    obtain ⟨i, hi, rfl, HQ, HG⟩ := hrel
    by_cases hlt : i < 8
    · obtain ⟨u, hcell⟩ := HQ.out.has (o + i) (by omega)
      have hfree := HQ.out.free (o + i)
      have b1 : (i : Int) < (n : Int) := by omega
      have b2 : ((56 : Int) - 8 * (i : Int)).toNat = 56 - 8 * i := by omega
      go_wp2
      go_roundw
      case rel =>
        trace_state
        have h1 := HQ.out.put (o + i) ((le8 v).reverse.getD i 0)
        rw [lay_succ xs o i (le8 v).reverse (by rw [List.length_reverse, le8_length]; exact hlt) (by rw [HO.out.len]; omega), le8_rev v i hlt] at h1
        exact ⟨i + 1, by omega, by go_num, h1, grownBy_trans HG.out (HQ.out.grown _ _)⟩
      case measure => simp [intOf]; omega
    · have h8 : i = 8 := by omega
      subst h8
      go_wp2
      go_end0
      exact ⟨rfl, HQ.out, HG.out⟩
end Go.Proofs.Ythckboojmljeiaa.Ow
namespace Go.Proofs.Ythckboojmljeiaa.Sb
set_option linter.unusedVariables false
set_option linter.unusedSimpArgs false
open Go.RowKit Go.Proofs.YthckboojmljeiaaW.PrintWords Go.Proofs.YthckboojmljeiaaW.PrintLast Go.Proofs.YthckboojmljeiaaW.PrintMore Go.Proofs.Ythckboojmljeiaa.Pl Go.Proofs.Ythckboojmljeiaa.Dg Go.Proofs.Ythckboojmljeiaa.Mem Go.Proofs.Ythckboojmljeiaa.Na Go.Proofs.Ythckboojmljeiaa.Nb Go.Proofs.Ythckboojmljeiaa.Be

theorem wu32 (n : Int) : IntKind.u32.wrap n = n % 4294967296 := by simp [IntKind.wrap, IntKind.bits, IntKind.signed]
theorem wu32_in {n : Int} (h0 : 0 ≤ n) (h1 : n < 4294967296) : IntKind.u32.wrap n = n := by rw [wu32]; omega
theorem wraps_u32 (n : Int) (h₀ : 0 ≤ n) (h₁ : n < 2 ^ 32) : IntKind.u32.wrap n = n := wu32_in h₀ h₁
theorem u32_or_add (i : Nat) (x y : Int) (hx : 0 ≤ x) (hx' : x < 2 ^ 32) (hi : x % 2 ^ i = 0) (hy : 0 ≤ y) (hy' : y < 2 ^ i) (hy1 : y < 2 ^ 32) : bits .or .u32 x y = x + y :=
  bits_join .u32 32 (by decide) wraps_u32 i x y hx hi hx' hy hy' hy1
theorem u32_or_comm (x y : Int) (hx : 0 ≤ x) (hx' : x < 2 ^ 32) (hy : 0 ≤ y) (hy' : y < 2 ^ 32) : bits .or .u32 x y = bits .or .u32 y x := by
  obtain ⟨a, rfl⟩ := Int.eq_ofNat_of_zero_le hx
  obtain ⟨b, rfl⟩ := Int.eq_ofNat_of_zero_le hy
  have ha : a < 2 ^ 32 := by exact_mod_cast hx'
  have hb : b < 2 ^ 32 := by exact_mod_cast hy'
  rw [(bits_nat .u32 32 (by decide) wraps_u32 a b ha hb).2, (bits_nat .u32 32 (by decide) wraps_u32 b a hb ha).2, Nat.or_comm]
/-- y | x where x lies above y. -/
theorem u32_or_up (i : Nat) (x y : Int) (hx : 0 ≤ x) (hx' : x < 2 ^ 32) (hi : x % 2 ^ i = 0) (hy : 0 ≤ y) (hy' : y < 2 ^ i) (hy1 : y < 2 ^ 32) : bits .or .u32 y x = y + x := by
  rw [u32_or_comm y x hy hy1 hx hx', u32_or_add i x y hx hx' hi hy hy' hy1]; omega

theorem be32_num (a b c d : Int) (ha : 0 ≤ a ∧ a < 256) (hb : 0 ≤ b ∧ b < 256) (hc : 0 ≤ c ∧ c < 256) (hd : 0 ≤ d ∧ d < 256) :
    bits .or .u32 (bits .or .u32 (bits .or .u32 (IntKind.u32.wrap d) (IntKind.u32.wrap (IntKind.u32.wrap c * 256))) (IntKind.u32.wrap (IntKind.u32.wrap b * 65536))) (IntKind.u32.wrap (IntKind.u32.wrap a * 16777216)) = d + 256 * (c + 256 * (b + 256 * a)) := by
  rw [wu32_in ha.1 (by omega), wu32_in hb.1 (by omega), wu32_in hc.1 (by omega), wu32_in hd.1 (by omega), wu32_in (n := c * 256) (by omega) (by omega), wu32_in (n := b * 65536) (by omega) (by omega), wu32_in (n := a * 16777216) (by omega) (by omega)]
  rw [u32_or_up 8 (c * 256) d (by omega) (by omega) (by omega) hd.1 (by omega) (by omega)]
  rw [u32_or_up 16 (b * 65536) _ (by omega) (by omega) (by omega) (by omega) (by omega) (by omega)]
  rw [u32_or_up 24 (a * 16777216) _ (by omega) (by omega) (by omega) (by omega) (by omega) (by omega)]
  omega
theorem take4 (l : List Int) (h : 4 ≤ l.length) : lv 256 (l.take 4).reverse = l.getD 3 0 + 256 * (l.getD 2 0 + 256 * (l.getD 1 0 + 256 * l.getD 0 0)) := by
  match l, h with
  | a :: b :: c :: d :: r, _ => simp [lv]

set_option maxHeartbeats 400000 in
theorem be32 (A : Option Addr) (n c : Nat) (l : List Int) (w : World) (hr : Kd.C (Kd.int .u8) w A n l) (h4 : 4 ≤ n) (hd : Dig 256 l) :
    Calls Try.prog 98 #[.slice A n c] w fun e w' => e = .returned (.int .u32 (lv 256 (l.take 4).reverse)) ∧ Drn w w' := by
  have hl := hr.1
  have g0 := hd.get (i := 0) (by omega)
  have g1 := hd.get (i := 1) (by omega)
  have g2 := hd.get (i := 2) (by omega)
  have g3 := hd.get (i := 3) (by omega)
  obtain ⟨ad, e, h0⟩ := Kd.at_int hr ((0 : Nat) : Int) (by omega) (by omega)
  obtain ⟨ad1, e1, h1⟩ := Kd.at_int hr ((1 : Nat) : Int) (by omega) (by omega)
  obtain ⟨ad2, e2, h2⟩ := Kd.at_int hr ((2 : Nat) : Int) (by omega) (by omega)
  obtain ⟨ad3, e3, h3⟩ := Kd.at_int hr ((3 : Nat) : Int) (by omega) (by omega)
  subst e
  cases e1
  cases e2
  cases e3
  unfold rd at h0 h1 h2 h3
  rw [Int.toNat_natCast] at h0 h1 h2 h3
  rw [show ad.add 0 = ad from rfl] at h0
  rw [show ad.add 1 = { block := ad.block, off := ad.off + 1 } from rfl] at h1
  rw [show ad.add 2 = { block := ad.block, off := ad.off + 2 } from rfl] at h2
  rw [show ad.add 3 = { block := ad.block, off := ad.off + 3 } from rfl] at h3
  have e4 := take4 l (by omega)
  obtain ⟨a, ha⟩ : ∃ a, l.getD 0 0 = a := ⟨_, rfl⟩
  obtain ⟨b, hb⟩ : ∃ a, l.getD 1 0 = a := ⟨_, rfl⟩
  obtain ⟨cc, hc⟩ : ∃ a, l.getD 2 0 = a := ⟨_, rfl⟩
  obtain ⟨d, hd⟩ : ∃ a, l.getD 3 0 = a := ⟨_, rfl⟩
  rw [ha] at h0 g0
  rw [hb] at h1 g1
  rw [hc] at h2 g2
  rw [hd] at h3 g3
  rw [ha, hb, hc, hd] at e4
  rw [e4, ← be32_num a b cc d g0 g1 g2 g3]
  clear hr ha hb hc hd e4 g0 g1 g2 g3
  have b1 : (3 : Int) < (n : Int) := by omega
  have b2 : (2 : Int) < (n : Int) := by omega
  have b3 : (1 : Int) < (n : Int) := by omega
  have b4 : (0 : Int) < (n : Int) := by omega
  go_enter Try.func98, Try.ntmps98
  go_wp2
  go_quiet (fail)
  go_wp2
  go_ret
  refine ⟨?_, nq, rfl⟩
  simp only [wu32]
  rfl

theorem take8 (l : List Int) (h : 8 ≤ l.length) : lv 256 (l.take 8).reverse = lv 256 ((l.drop 4).take 4).reverse + 4294967296 * lv 256 (l.take 4).reverse := by
  match l, h with
  | a :: b :: c :: d :: e :: f :: g :: h :: r, _ => simp [lv]; omega

set_option maxHeartbeats 400000 in
set_option maxRecDepth 100000 in
theorem be64 (A : Option Addr) (n c : Nat) (l : List Int) (w : World) (hr : Kd.C (Kd.int .u8) w A n l) (hnc : n ≤ c) (h8 : 8 ≤ n) (hd : Dig 256 l) :
    Calls Try.prog 97 #[.slice A n c] w fun e w' => e = .returned (.int .u64 (lv 256 (l.take 8).reverse)) ∧ Drn w w' := by
  have hl := hr.1
  obtain ⟨i0, hi0, _, hsz0, _⟩ := info_parts infoU8
  subst hl
  obtain ⟨A', hcut, hA', hC'⟩ := print_drop_of (P := Try.prog) (Value.int .u8) 0 22 5 .i64 Try.underlying22 hi0 hsz0 A c l 4 (by omega) (by omega) hnc
  have H0 := Lib.hid (fun q => Calls.quiet_of (n := q) (w := w) (be32 A l.length c l (w.drewN q) hr (by omega) hd))
  have H1 := Lib.hid (fun q => Calls.quiet_of (n := q) (w := w) (be32 A' (l.drop (Int.toNat 4)).length (c - Int.toNat 4) (l.drop 4) (w.drewN q) (Kd.C_of_reads (h1 := fun _ => rfl) (hA' _ (Kd.reads_of_C hr))) (by rw [List.length_drop]; omega) (hd.drop 4)))
  have e8 := take8 l (by omega)
  obtain ⟨ad, ea, hcell⟩ := Kd.at_int hr ((7 : Nat) : Int) (by omega) (by omega)
  unfold rd at hcell
  rw [Int.toNat_natCast] at hcell
  obtain ⟨b7, hb7⟩ : ∃ x, l.getD 7 0 = x := ⟨_, rfl⟩
  rw [hb7] at hcell
  subst ea
  rw [show ad.add 7 = { block := ad.block, off := ad.off + 7 } from rfl] at hcell
  clear hb7
  have r1 := lv_range (B := 256) (by omega) ((hd.take 4).reverse)
  have r2 := lv_range (B := 256) (by omega) (((hd.drop 4).take 4).reverse)
  rw [List.length_reverse, List.length_take, Nat.min_eq_left (by omega)] at r1
  rw [List.length_reverse, List.length_take, List.length_drop, Nat.min_eq_left (by omega)] at r2
  rw [show (256 : Int) ^ 4 = 4294967296 from by decide] at r1 r2
  rw [e8]
  clear e8
  obtain ⟨x, hx⟩ : ∃ x, lv 256 (l.take 4).reverse = x := ⟨_, rfl⟩
  obtain ⟨y, hy⟩ : ∃ x, lv 256 ((l.drop 4).take 4).reverse = x := ⟨_, rfl⟩
  rw [hx] at H0 r1 ⊢
  rw [hy] at H1 r2 ⊢
  obtain ⟨n2, hn2⟩ : ∃ n, (l.drop (Int.toNat 4)).length = n := ⟨_, rfl⟩
  obtain ⟨c2, hc2⟩ : ∃ n, c - Int.toNat 4 = n := ⟨_, rfl⟩
  rw [hn2, hc2] at H1 hcut
  have e : bits .or .u64 (IntKind.u64.wrap (IntKind.u64.wrap x * 4294967296)) (IntKind.u64.wrap y) = y + 4294967296 * x := by
    rw [wu64_in r1.1 (by omega), wu64_in r2.1 (by omega), wu64_in (n := x * 4294967296) (by omega) (by omega), u64_or_add 32 _ _ (by omega) (by omega) (by omega) r2.1 (by omega) (by omega)]
    omega
  rw [← e]
  clear hr hd hA' hC' hx hy e r1 r2 hi0 hsz0 hn2 hc2
  have b1 : (7 : Int) < (l.length : Int) := by omega
  have b2 : (4 : Int) ≤ (l.length : Int) := by omega
  obtain ⟨n, hn⟩ : ∃ n, l.length = n := ⟨_, rfl⟩
  rw [hn] at hcut H0 b1 b2 hnc h8 ⊢
  clear hn
  go_enter Try.func97, Try.ntmps97
  go_wp2_with fail
  go_quiet (first | (go_at_call 98; first | with_reducible exact H0.out _ | with_reducible exact H1.out _))
  go_wp2
  go_ret
  exact ⟨rfl, nq, rfl⟩

theorem word_any (A : Option Addr) (n c : Nat) (l : List Int) (w : World) (hr : Kd.C (Kd.int .u8) w A n l) (hnc : n ≤ c) (h8 : 8 ≤ n) (hd : Dig 256 l) :
    Calls Try.prog 85 #[.slice A n c] w fun e w' => e = .returned (.int .u64 (lv 256 (l.take 8).reverse)) ∧ Drn w w' := by
  have H0 := Lib.hid (be64 A n c l w hr hnc h8 hd)
  obtain ⟨x, hx⟩ : ∃ x, lv 256 (l.take 8).reverse = x := ⟨_, rfl⟩
  have r := lv_range (B := 256) (by omega) ((hd.take 8).reverse)
  rw [List.length_reverse, List.length_take, Nat.min_eq_left (by rw [hr.1]; exact h8), show (256 : Int) ^ 8 = 18446744073709551616 from by decide] at r
  rw [hx] at H0 r ⊢
  have e : IntKind.u64.wrap x = x := wu64_in r.1 r.2
  clear hr hnc h8 hd hx r
  go_enter Try.func85, Try.ntmps85
  go_wp2_with (first | (go_at_call 97; refine H0.out.mono ?_; rintro e1 w1 ⟨rfl, hq⟩))
  go_ret
  exact ⟨rfl, hq⟩

/-! ### Bytes as words -/
theorem wds_cons (m : Nat) (l : List Int) : wds (m + 1) l = lv 256 (l.take 8) :: wds m (l.drop 8) := by
  refine List.ext_getElem (by simp [wds]) fun i h1 h2 => ?_
  cases i with
  | zero => simp [wds]
  | succ i => simp [wds, List.drop_drop]; congr 3; omega
theorem lv_split (B : Int) (l : List Int) (k : Nat) : lv B l = lv B (l.take k) + B ^ (l.take k).length * lv B (l.drop k) := by
  rw [← lv_append, List.take_append_drop]
theorem wds_dig (m : Nat) (l : List Int) (hd : Dig 256 l) : DW (wds m l) := by
  intro x hx
  unfold wds at hx
  obtain ⟨j, _, rfl⟩ := List.mem_map.1 hx
  have r := lv_range (B := 256) (by omega) ((hd.drop (8 * j)).take 8)
  have h2 : (256 : Int) ^ ((l.drop (8 * j)).take 8).length ≤ 256 ^ 8 := pow256_le _ _ (by rw [List.length_take]; omega)
  have h3 : (256 : Int) ^ 8 = (BB : Int) := by decide
  omega
theorem wds_lv (m : Nat) (l : List Int) (hm : l.length ≤ 8 * m) : lv (BB : Int) (wds m l) = lv 256 l := by
  induction m generalizing l with
  | zero =>
    have : l = [] := List.length_eq_zero_iff.1 (by omega)
    subst this
    rfl
  | succ m ih =>
    rw [wds_cons, lv_split 256 l 8]
    simp only [lv]
    rw [ih (l.drop 8) (by rw [List.length_drop]; omega)]
    by_cases h : 8 ≤ l.length
    · rw [List.length_take, Nat.min_eq_left h]
      rfl
    · rw [show l.drop 8 = [] from List.drop_of_length_le (by omega)]
      simp [lv]

theorem dig_any (x : Int) : (0 ≤ x ∧ x < 256) → IntKind.u64.wrap x = x := fun h => wu64_in h.1 (by omega)

/-- The walk's state behind k words. -/
def St (w wr : World) (g m : Nat) (len : Nat) (L : List Int) (k : Nat) : Prop := ∃ cur, Rw wr g cur ∧ cur.length = len ∧ cur.take k = (wds m L).take k ∧ Below w.heap.size w wr
theorem St.put {w wr : World} {g m len : Nat} {L : List Int} {k : Nat} (h : St w wr g m len L k) (hk : k < m) (hm : m ≤ len) (hg : w.heap.size ≤ g) : St w (wr.setCell ⟨g, k, none⟩ (.int .u64 (lv 256 ((L.drop (8 * k)).take 8)))) g m len L (k + 1) := by
  obtain ⟨cur, h1, h2, h3, h4⟩ := h
  refine ⟨_, h1.put k _, by rw [List.length_set]; exact h2, ?_, h4.setCell hg _⟩
  rw [take_succ_getD _ k (by rw [List.length_set]; omega), List.take_set, List.set_eq_of_length_le (by rw [List.length_take]; omega), h3, take_succ_getD _ k (by rw [wds_length]; exact hk), List.getD_eq_getElem?_getD, List.getElem?_set_self (by omega), wds_get _ _ _ hk]
  rfl
theorem St.has {w wr : World} {g m len : Nat} {L : List Int} {k : Nat} (h : St w wr g m len L k) (i : Nat) (hi : i < len) : (∃ u, wr.cell? ⟨g, i, none⟩ = some (.int .u64 u)) ∧ wr.frozen? ⟨g, i, none⟩ = false := by
  obtain ⟨cur, h1, h2, h3, h4⟩ := h
  exact ⟨h1.has i (by omega), h1.free i⟩
theorem St.drewN {w wr : World} {g m len : Nat} {L : List Int} {k : Nat} (h : St w wr g m len L k) (q : Nat) : St w (wr.drewN q) g m len L k := by
  obtain ⟨cur, h1, h2, h3, h4⟩ := h
  exact ⟨cur, h1.drewN q, h2, h3, pw_below_drewN h4 q⟩

theorem St.norm {w wr : World} {g m len : Nat} {L : List Int} (h : St w wr g m len L m) (hm : m ≤ len) (hl : len ≤ 1000000) (hd : DW (wds m L)) (hv : lv (BB : Int) (wds m L) = lv 256 L) (hf : ∀ v' : Value, v'.ownBlock = some g → Fr w (.slice none 0 0) v') :
    Calls Try.prog 86 #[.slice (some ⟨g, 0, none⟩) m len] wr fun e w' => ∃ v', e = .returned v' ∧ Nt w' v' (dg (lv 256 L).toNat) ∧ Below w.heap.size w w' ∧ Fr w (.slice none 0 0) v' := by
  obtain ⟨cur, h1, h2, h3, h4⟩ := h
  have e : cur.take m = wds m L := by rw [h3]; exact List.take_of_length_le (by rw [wds_length]; omega)
  have := norm_dg g m cur wr h1 (by omega) (by omega) (by rw [e]; exact hd)
  rw [e, hv, h2] at this
  refine this.mono ?_
  rintro e w' ⟨v', rfl, h5, h6, rfl⟩
  exact ⟨v', rfl, h5, h4, hf v' h6⟩

theorem setBytes_zero (A : Option Addr) (c : Nat) (w : World) : Calls Try.prog 69 #[.slice none 0 0, .slice A 0 c] w fun e w' => e = .returned (.slice none 0 0) ∧ w = w' := by
  have HM := Lib.hid (make_room none 0 0 0 w (by omega) (by omega))
  have HN : ∀ w : World, Calls Try.prog 86 #[.slice none 0 0] w fun e w' => e = .returned (.slice none 0 0) ∧ w = w' := by
    intro w
    go_enter Try.func86, Try.ntmps86
    go_wp2_with fail
    refine wp_loop_rounds 1 ?_
    rw [rounds_succ]
    go_wp2_with fail
    go_ret
    exact ⟨rfl, rfl⟩
  go_enter Try.func69, Try.ntmps69
  go_wp2_with fail
  refine HM.out.mono ?_
  rintro e w1 ⟨rfl, rfl⟩
  go_wp2_with fail
  refine wp_loop_rounds 1 ?_
  rw [rounds_succ]
  go_wp2_with fail
  refine (HN _).mono ?_
  rintro e w1 ⟨rfl, rfl⟩
  go_wp2_with fail
  go_ret
  exact ⟨rfl, rfl⟩

set_option maxHeartbeats 1000000 in
set_option maxRecDepth 100000 in
theorem setBytes_pos (A : Option Addr) (n c : Nat) (l : List Int) (w : World) (hr : Kd.C (Kd.int .u8) w A n l) (hnc : n ≤ c) (hd : Dig 256 l) (h0 : 0 < n) (hl : n ≤ 100000) :
    Calls Try.prog 69 #[.slice none 0 0, .slice A n c] w fun e w' => ∃ v', e = .returned v' ∧ Nt w' v' (dg (lv 256 l.reverse).toNat) ∧ Below w.heap.size w w' ∧ Fr w (.slice none 0 0) v' := by
  obtain rfl := hr.1
  obtain ⟨m, hm⟩ : ∃ m, (l.length + 7) / 8 = m := ⟨_, rfl⟩
  have HM := Lib.hid (make_any (w := w) (v := .slice none 0 0) (l := []) (.inl ⟨rfl, rfl⟩) m (by omega) (by omega))
  rw [show ((m : Nat) : Int) = ((l.length : Int) + 8 - 1) / 8 from by omega] at HM
  have HR := Lib.hid hr
  have HD := Lib.hid hd
  have HL := Lib.hid hl
  have hm1 : l.length ≤ 8 * m := by omega
  have hm2 : 8 * m ≤ l.length + 7 := by omega
  have HV := Lib.hid (wds_lv m l.reverse (by rw [List.length_reverse]; omega))
  have HW := Lib.hid (wds_dig m l.reverse hd.reverse)
  clear hr hd hm
  have w0 : IntKind.i64.wrap ((l.length : Int) + 7) = (l.length : Int) + 7 := IntWalk.i64_in _ (by omega)
  have w00 : IntKind.i64.wrap ((l.length : Int) + 8) = (l.length : Int) + 8 := IntWalk.i64_in _ (by omega)
  go_enter Try.func69, Try.ntmps69
  go_wp2_with fail
  refine HM.out.mono ?_
  rintro e w1 ⟨g, cur, rfl, hr, h1, h2, hk⟩
  have HK := Lib.hid (fun (v' : Value) (hv : v'.ownBlock = some g) => hk.fr hv)
  have hg : w.heap.size ≤ g := by rcases hk with ⟨_, h⟩ | ⟨h, _⟩; cases h; omega
  have hB : Below w.heap.size w w1 := Chg.toBelow hk.chg (fun k h => by cases h) (Nat.le_refl _)
  have HS := Lib.hid (show St w w1 g m cur.length l.reverse 0 from ⟨cur, hr, rfl, rfl, hB⟩)
  have HC2 := Lib.hid h2
  have HG := Lib.hid hg
  clear hr hk hg hB h2
  obtain ⟨len, hlen⟩ : ∃ n, cur.length = n := ⟨_, rfl⟩
  rw [hlen] at HS HC2 h1 ⊢
  clear hlen
  go_wp2_with fail
  go_loopw [5, 6] (fun t u wr => ∃ i : Nat, 8 * i ≤ l.length ∧ t = .int .i64 ((l.length : Int) - 8 * (i : Int)) ∧ u = .int .i64 (i : Int) ∧ Hid (St w wr g m len l.reverse i)) (fun t _ _ => (intOf t).toNat)
  case atStart => exact ⟨0, by omega, by simp, rfl, HS.out⟩
  case round =>
    clear HS
    obtain ⟨i, hi, rfl, rfl, HS⟩ := hrel
    by_cases hlt : 8 * i + 8 ≤ l.length
    · obtain ⟨i0, hi0, _, hsz0, _⟩ := info_parts infoU8
      have w1e : IntKind.i64.wrap ((l.length : Int) - 8 * (i : Int) - 8) = (l.length : Int) - 8 * (i : Int) - 8 := IntWalk.i64_in _ (by omega)
      obtain ⟨A', hcut, hA', hC'⟩ := print_mid_of (P := Try.prog) (Value.int .u8) 0 22 5 .i64 .i64 Try.underlying22 hi0 hsz0 A c l ((l.length : Int) - 8 * (i : Int) - 8) ((l.length : Int) - 8 * (i : Int)) (by omega) (by omega) (by omega) hnc
      have ht : ((l.length : Int) - 8 * (i : Int) - 8).toNat = l.length - (8 * i + 8) := by omega
      have ht2 : ((l.length : Int) - 8 * (i : Int)).toNat = l.length - 8 * i := by omega
      rw [ht, ht2] at hcut hA' hC'
      have hll : ((l.take (l.length - 8 * i)).drop (l.length - (8 * i + 8))).length = 8 := by rw [List.length_drop, List.length_take]; omega
      have hch := chunk_rev l i hlt
      rw [show (l.drop (l.length - (8 * i + 8))).take 8 = (l.take (l.length - 8 * i)).drop (l.length - (8 * i + 8)) from by rw [List.drop_take]; congr 1; omega] at hch
      obtain ⟨b, hb⟩ : ∃ b, (l.take (l.length - 8 * i)).drop (l.length - (8 * i + 8)) = b := ⟨_, rfl⟩
      have hbd : Dig 256 b := by rw [← hb]; exact (HD.out.take _).drop _
      rw [hb] at hch hll hcut hA' hC'
      obtain ⟨c2, hc2⟩ : ∃ n, c - (l.length - (8 * i + 8)) = n := ⟨_, rfl⟩
      rw [hc2, hll] at hcut hC'
      rw [hll] at hA'
      have hst : Below w.heap.size w wr := by obtain ⟨_, _, _, _, h⟩ := HS.out; exact h
      have HCall := Lib.hid (word_any A' 8 c2 b wr (Kd.C_of_reads (h1 := fun _ => rfl) (hA' _ (Kd.reads_of_C (Kd.C_below HR.out hst)))) hC' (by omega) hbd)
      rw [List.take_of_length_le (show b.length ≤ 8 by omega), hch] at HCall
      obtain ⟨⟨u, hcell⟩, hfree⟩ := HS.out.has i (by omega)
      have b1 : (8 : Int) ≤ (l.length : Int) - 8 * (i : Int) := by omega
      have b2 : (i : Int) < (m : Int) := by omega
      have b3 : (0 : Int) ≤ (i : Int) := by omega
      clear hA' hC' hi0 hsz0 hb hbd hch hll hst hc2 ht ht2
      go_wp2_with fail
      refine HCall.out.mono ?_
      rintro e w2 ⟨rfl, q, rfl⟩
      have HS2 := Lib.hid ((HS.out.drewN q).put (by omega) h1 HG.out)
      rw [← World.cell?_drewN (n := q)] at hcell
      rw [← World.frozen?_drewN (n := q)] at hfree
      clear HS HCall
      go_wp2_with fail
      go_roundw
      case rel => exact ⟨i + 1, by omega, by go_num, by go_num, HS2.out⟩
      case measure => simp [intOf]; omega
    · by_cases hz : 8 * i < l.length
      · obtain ⟨r, hr⟩ : ∃ r, l.length - 8 * i = r := ⟨_, rfl⟩
        have HI := Lib.hid (show l.length = 8 * i + r by omega)
        have hr1 : r ≤ 7 := by omega
        have hr0 : 0 < r := by omega
        rw [show ((l.length : Int) - 8 * (i : Int)) = (r : Int) from by omega]
        have b1 : (0 : Int) < (r : Int) := by omega
        have b2 : ¬ (8 : Int) ≤ (r : Int) := by omega
        have b3 : (r : Int) < 8 := by omega
        have hst : Below w.heap.size w wr := by obtain ⟨_, _, _, _, h⟩ := HS.out; exact h
        have HB := Lib.hid hst
        clear hlt hz hst hr
        go_wp2_with fail
        go_loopw [5, 7, 8] (fun t d s w2 => ∃ j q : Nat, j ≤ r ∧ t = .int .i64 ((r : Int) - (j : Int)) ∧ d = .int .u64 (lv 256 ((l.reverse.drop (8 * i)).take j)) ∧ s = .int .u64 (8 * (j : Int)) ∧ w2 = wr.drewN q) (fun t _ _ _ => (intOf t).toNat)
        case atStart => exact ⟨0, 0, by omega, by simp, rfl, rfl, rfl⟩
        case round =>
          obtain ⟨j, q, hj, rfl, rfl, rfl, rfl⟩ := hrel
          by_cases hjr : j < r
          · obtain ⟨ad, e, hx⟩ := Kd.at_int (Kd.C_drewN (Kd.C_below HR.out HB.out) q) ((r : Int) - (j : Int) - 1) (by omega) (by have := HI.out; omega)
            subst e
            have ht : ((r : Int) - (j : Int) - 1).toNat = r - j - 1 := by omega
            rw [show rd l ((r : Int) - (j : Int) - 1) = (l.reverse.drop (8 * i)).getD j 0 from by
              unfold rd
              rw [ht, List.getD_eq_getElem?_getD, List.getD_eq_getElem?_getD, List.getElem?_drop, ← List.getD_eq_getElem?_getD, ← List.getD_eq_getElem?_getD, getD_reverse l (8 * i + j) (by have := HI.out; omega)]
              congr 1
              have := HI.out
              omega, ht] at hx
            have hxr := (HD.out.reverse.drop (8 * i)).get (i := j) (by rw [List.length_drop, List.length_reverse]; have := HI.out; omega)
            have hor := lv_range (B := 256) (by omega) ((HD.out.reverse.drop (8 * i)).take j)
            have hln : ((l.reverse.drop (8 * i)).take j).length = j := by rw [List.length_take, List.length_drop, List.length_reverse]; have := HI.out; omega
            rw [hln] at hor
            have hsn := take_succ_getD (l.reverse.drop (8 * i)) j (by rw [List.length_drop, List.length_reverse]; have := HI.out; omega)
            have hlv := congrArg (lv 256) hsn
            rw [lv_snoc, hln] at hlv
            obtain ⟨x, hx2⟩ : ∃ x, (l.reverse.drop (8 * i)).getD j 0 = x := ⟨_, rfl⟩
            obtain ⟨o, ho⟩ : ∃ o, lv 256 ((l.reverse.drop (8 * i)).take j) = o := ⟨_, rfl⟩
            rw [hx2] at hx hxr hlv
            rw [ho] at hor hlv ⊢
            have hnew := or_byte o x j (by omega) hor.1 hor.2 hxr.1 hxr.2
            rw [← hlv] at hnew
            have wx := dig_any x hxr
            have HN := Lib.hid hnew
            have hj7 : (j : Int) < 8 := by omega
            have b4 : (0 : Int) < (r : Int) - (j : Int) := by omega
            have b4b : (j : Int) < (r : Int) := by omega
            have b5 : (0 : Int) ≤ (r : Int) - (j : Int) - 1 := by omega
            have b6 : (r : Int) - (j : Int) - 1 < (l.length : Int) := by have := HI.out; omega
            have b7 : (j : Int) + 1 ≤ (r : Int) := by omega
            have b8 : (1 : Int) ≤ (r : Int) - (j : Int) := by omega
            have w1e : IntKind.i64.wrap ((r : Int) - (j : Int) - 1) = (r : Int) - (j : Int) - 1 := IntWalk.i64_in _ (by omega)
            clear hxr hor hln hsn hlv hx2 ho hnew
            go_wp2_with fail
            go_roundw
            case rel => exact ⟨j + 1, q, by omega, by go_num, by rw [HN.out], by go_num, rfl⟩
            case measure => simp [intOf]; omega
          · have hjj : j = r := by omega
            subst hjj
            have hm3 : m = i + 1 := by have := HI.out; omega
            have HM3 := Lib.hid hm3
            obtain ⟨⟨u, hcell⟩, hfree⟩ := HS.out.has i (by omega)
            rw [← World.cell?_drewN (n := q)] at hcell
            rw [← World.frozen?_drewN (n := q)] at hfree
            have HS2 := Lib.hid ((HS.out.drewN q).put (by omega) h1 HG.out)
            have hch : (l.reverse.drop (8 * i)).take 8 = (l.reverse.drop (8 * i)).take j := by
              have := HI.out
              rw [List.take_of_length_le (by rw [List.length_drop, List.length_reverse]; omega), List.take_of_length_le (by rw [List.length_drop, List.length_reverse]; omega)]
            rw [hch] at HS2
            obtain ⟨o, ho⟩ : ∃ o, lv 256 ((l.reverse.drop (8 * i)).take j) = o := ⟨_, rfl⟩
            rw [ho] at HS2 ⊢
            have b4 : (0 : Int) ≤ (m : Int) - 1 := by omega
            have b4b : (1 : Int) ≤ (m : Int) := by omega
            have b5 : (m : Int) - 1 < (m : Int) := by omega
            have b6 : ((m : Int) - 1).toNat = i := by omega
            have w1e : IntKind.i64.wrap ((m : Int) - 1) = (m : Int) - 1 := IntWalk.i64_in _ (by omega)
            have hfin : Calls Try.prog 86 #[.slice (some ⟨g, 0, none⟩) m len] ((wr.drewN q).setCell ⟨g, i, none⟩ (.int .u64 o)) fun e w' => ∃ v', e = .returned v' ∧ Nt w' v' (dg (lv 256 l.reverse).toNat) ∧ Below w.heap.size w w' ∧ Fr w (.slice none 0 0) v' := by
              rw [← HM3.out] at HS2
              exact St.norm HS2.out h1 HC2.out HW.out HV.out HK.out
            have HF := Lib.hid hfin
            clear hfin HS2 HS hch ho hm3
            go_wp2_with fail
            refine HF.out.mono ?_
            rintro e w3 ⟨v', rfl, h5, h6, h7⟩
            have H5 := Lib.hid h5
            have H6 := Lib.hid h6
            have H7 := Lib.hid h7
            clear h5 h6 h7 HF
            go_wp2_with fail
            go_ret
            exact ⟨_, rfl, H5.out, H6.out, H7.out⟩
      · have hm3 : m = i := by omega
        subst hm3
        have HF := Lib.hid (St.norm HS.out h1 HC2.out HW.out HV.out HK.out)
        rw [show (l.length : Int) - 8 * (m : Int) = 0 from by omega]
        clear hlt hz
        go_wp2_with fail
        refine HF.out.mono ?_
        rintro e w3 ⟨v', rfl, h5, h6, h7⟩
        have H5 := Lib.hid h5
        have H6 := Lib.hid h6
        have H7 := Lib.hid h7
        clear h5 h6 h7 HF
        go_wp2_with fail
        go_ret
        exact ⟨_, rfl, H5.out, H6.out, H7.out⟩

/-- nat.setBytes of a new number. -/
theorem setBytes_any (A : Option Addr) (n c : Nat) (l : List Int) (w : World) (hr : Kd.C (Kd.int .u8) w A n l) (hnc : n ≤ c) (hd : Dig 256 l) (hl : n ≤ 100000) :
    Calls Try.prog 69 #[.slice none 0 0, .slice A n c] w fun e w' => ∃ v', e = .returned v' ∧ Nt w' v' (dg (lv 256 l.reverse).toNat) ∧ Below w.heap.size w w' ∧ Fr w (.slice none 0 0) v' := by
  by_cases h0 : n = 0
  · subst h0
    have : l = [] := List.length_eq_zero_iff.1 hr.1
    subst this
    refine (setBytes_zero A c w).mono ?_
    rintro e w' ⟨rfl, rfl⟩
    exact ⟨_, rfl, .inl ⟨rfl, by rw [show (lv 256 ([] : List Int).reverse).toNat = 0 from rfl, dg_zero]⟩, Below.refl _ _, Fr.refl _ _⟩
  · exact setBytes_pos A n c l w hr hnc hd (by omega) hl

/-- Int.SetBytes of a new number. -/
theorem intSetBytes {p : Nat} (A : Option Addr) (n c : Nat) (l : List Int) (w : World) (h : It w p (.slice none 0 0) false []) (hr : Kd.C (Kd.int .u8) w A n l) (hnc : n ≤ c) (hd : Dig 256 l) (hl : n ≤ 100000) :
    Calls Try.prog 48 #[.pointer (some ⟨p, 0, none⟩), .slice A n c] w fun e w' => e = .returned (.pointer (some ⟨p, 0, none⟩)) ∧ Upd w p (.slice none 0 0) (lv 256 l.reverse) w' := by
  have H := Lib.hid (setBytes_any A n c l w hr hnc hd hl)
  have HI := Lib.hid h
  have h1 := h.abs1
  have hv := (lv_range (B := 256) (by omega) hd.reverse).1
  obtain ⟨x, hx⟩ : ∃ x, lv 256 l.reverse = x := ⟨_, rfl⟩
  rw [hx] at H hv ⊢
  clear h hr hd hx hnc hl
  go_enter Try.func48, Try.ntmps48
  go_wp2_with fail
  refine H.out.mono ?_
  rintro e w1 ⟨v', rfl, h2, h3, h4⟩
  obtain ⟨A', cc, rfl, _, _⟩ := h2.slice
  have hc : Chg (Own (.slice none 0 0)) w w1 := Chg.of_below h3
  obtain ⟨c0, c1, f0, f1⟩ := head_cell (head_kept HI.out hc)
  have HU := Lib.hid (upd_of (z := x) HI.out h2 hc h4 (by congr 1; omega))
  rw [show decide (x < 0) = false from decide_eq_false (by omega)] at HU
  clear h2 h3 h4 hc hv
  go_wp2
  go_ret
  exact ⟨rfl, HU.out⟩
end Go.Proofs.Ythckboojmljeiaa.Sb
namespace Go.Proofs.Ythckboojmljeiaa.By
set_option linter.unusedVariables false
set_option linter.unusedSimpArgs false
open Go.RowKit Go.Proofs.YthckboojmljeiaaW.PrintWords Go.Proofs.YthckboojmljeiaaW.PrintLast Go.Proofs.YthckboojmljeiaaW.PrintMore Go.Proofs.Ythckboojmljeiaa.Pl Go.Proofs.Ythckboojmljeiaa.Dg Go.Proofs.Ythckboojmljeiaa.Mem Go.Proofs.Ythckboojmljeiaa.Na Go.Proofs.Ythckboojmljeiaa.Nb Go.Proofs.Ythckboojmljeiaa.Be Go.Proofs.Ythckboojmljeiaa.Ow

theorem low_getD (l : List Int) (k j : Nat) (hk : k < l.length) (hj : j < 8) : (low l).getD (8 * k + j) 0 = l.getD k 0 / 2 ^ (8 * j) % 256 := by
  induction l generalizing k with
  | nil => simp at hk
  | cons v r ih =>
    simp only [low]
    cases k with
    | zero =>
      rw [List.getD_eq_getElem?_getD, List.getElem?_append_left (by rw [le8_length]; omega), ← List.getD_eq_getElem?_getD, Nat.mul_zero, Nat.zero_add, le8_get _ _ hj]
      rfl
    | succ k =>
      rw [List.getD_eq_getElem?_getD, List.getElem?_append_right (by rw [le8_length]; omega), le8_length, show 8 * (k + 1) + j - 8 = 8 * k + j from by omega, ← List.getD_eq_getElem?_getD, ih k (by simpa using hk)]
      rfl

/-- k bytes are laid, the lowest last. -/
def Bt (w wr : World) (g m : Nat) (L : List Int) (k : Nat) : Prop := ∃ cur, Ow .u8 5 w.heap.size g m cur wr ∧ cur.drop (m - k) = (L.take k).reverse ∧ Below w.heap.size w wr
theorem Bt.put {w wr : World} {g m k : Nat} {L : List Int} (h : Bt w wr g m L k) (hk : k < m) (hL : k < L.length) (x : Int) (hx : L.getD k 0 = x) : Bt w (wr.setCell ⟨g, m - k - 1, none⟩ (.int .u8 x)) g m L (k + 1) := by
  obtain ⟨cur, h1, h2, h3⟩ := h
  refine ⟨_, h1.put (m - k - 1) x, ?_, h3.setCell h1.base.1 _⟩
  have hl := h1.len
  rw [take_succ_getD L k hL, List.reverse_append, hx, ← h2, drop_getD _ (m - (k + 1)) (by rw [List.length_set]; omega), show m - (k + 1) = m - k - 1 from by omega, List.getD_eq_getElem?_getD, List.getElem?_set_self (by omega)]
  rw [show m - k - 1 + 1 = m - k from by omega, List.drop_set_of_lt (by omega)]
  rfl
theorem Bt.has {w wr : World} {g m k : Nat} {L : List Int} (h : Bt w wr g m L k) (i : Nat) (hi : i < m) : (∃ u, wr.cell? ⟨g, i, none⟩ = some (.int .u8 u)) ∧ wr.frozen? ⟨g, i, none⟩ = false := by
  obtain ⟨cur, h1, h2, h3⟩ := h
  exact ⟨h1.has i hi, h1.free i⟩
theorem Bt.drewN {w wr : World} {g m k : Nat} {L : List Int} (h : Bt w wr g m L k) (q : Nat) : Bt w (wr.drewN q) g m L k := by
  obtain ⟨cur, h1, h2, h3⟩ := h
  exact ⟨cur, h1.drewN q, h2, pw_below_drewN h3 q⟩
theorem Bt.all {w wr : World} {g m : Nat} {L : List Int} (h : Bt w wr g m L m) (hL : L.length = m) : Ow .u8 5 w.heap.size g m L.reverse wr ∧ Below w.heap.size w wr := by
  obtain ⟨cur, h1, h2, h3⟩ := h
  rw [Nat.sub_self, List.drop_zero, List.take_of_length_le (by omega)] at h2
  subst h2
  exact ⟨h1, h3⟩

theorem Bt.back {w wr : World} {g m : Nat} {L : List Int} (h : Ow .u8 5 w.heap.size g m L.reverse wr ∧ Below w.heap.size w wr) : Bt w wr g m L m :=
  ⟨_, h.1, by have := h.1.len; rw [List.length_reverse] at this; rw [Nat.sub_self, List.drop_zero, List.take_of_length_le (by omega)], h.2⟩
theorem byte_step (v : Int) (j : Nat) : v / 2 ^ (8 * j) / 256 = v / 2 ^ (8 * (j + 1)) := by
  rw [show 8 * (j + 1) = 8 * j + 8 from by omega, Int.pow_add, Int.ediv_ediv_of_nonneg]
  · rfl
  · exact Int.pow_nonneg (by omega)

/-- Without noughts ahead. -/
def strip (l : List Int) : List Int := l.dropWhile (fun x => x == 0)

set_option maxHeartbeats 1000000 in
set_option maxRecDepth 100000 in
theorem bytes_any (w0 w : World) (g n m : Nat) (A : Option Addr) (c : Nat) (l : List Int) (hA : Kd.C (Kd.int .u64) w0 A n l) (hd : DW l) (hn : n ≤ 100000) (hm : m = 8 * n) (h : Bt w0 w g m (low l) 0) :
    Calls Try.prog 49 #[.slice A n c, .slice (some ⟨g, 0, none⟩) m m] w fun e w' => ∃ i : Nat, e = .returned (.int .i64 (i : Int)) ∧ Bt w0 w' g m (low l) m ∧ i ≤ m ∧ (low l).reverse.drop i = strip (low l).reverse := by
  have hl := hA.1
  have HMN := Lib.hid hm
  have hm1 : m ≤ 8 * n := by omega
  have hm2 : 8 * n ≤ m := by omega
  clear hm
  have HA := Lib.hid hA
  have HD := Lib.hid hd
  have HB := Lib.hid h
  have HL := Lib.hid hl
  have HLL := Lib.hid (low_length l)
  clear hA hd h hl
  go_enter Try.func49, Try.ntmps49
  go_wp2_with fail
  go_loopw [4, 12] (fun t u wr => ∃ k : Nat, k ≤ n ∧ t = .int .i64 ((m : Int) - 8 * (k : Int)) ∧ u = .int .i64 (k : Int) ∧ Hid (Bt w0 wr g m (low l) (8 * k))) (fun _ u _ => n - (intOf u).toNat)
  case atStart => exact ⟨0, by omega, by simp, rfl, HB.out⟩
  case round =>
    clear HB
    obtain ⟨k, hk, rfl, rfl, HB⟩ := hrel
    have hlow : Below w0.heap.size w0 wr := by obtain ⟨_, _, _, h⟩ := HB.out; exact h
    by_cases hlt : k < n
    · obtain ⟨ad, e, hx⟩ := Kd.at_int (Kd.C_below HA.out hlow) (k : Int) (by omega) (by omega)
      subst e
      rw [show rd l (k : Int) = l.getD k 0 from by simp [rd], Int.toNat_natCast] at hx
      obtain ⟨x, hx2⟩ : ∃ x, l.getD k 0 = x := ⟨_, rfl⟩
      have hxr := HD.out.get (i := k) (by rw [HL.out]; exact hlt)
      rw [hx2] at hx hxr
      have Hx := Lib.hid hx2
      have Hxr := Lib.hid hxr
      have b1 : (k : Int) < (n : Int) := by omega
      clear hlow hx2 hxr
      go_wp2_with fail
      go_loopw [4, 6, 7] (fun t d u wr => ∃ j : Nat, j ≤ 8 ∧ t = .int .i64 ((m : Int) - 8 * (k : Int) - (j : Int)) ∧ d = .int .u64 (x / 2 ^ (8 * j)) ∧ u = .int .i64 (j : Int) ∧ Hid (Bt w0 wr g m (low l) (8 * k + j))) (fun _ _ u _ => 8 - (intOf u).toNat)
      case atStart => exact ⟨0, by omega, by simp, by simp, rfl, HB.out⟩
      case round =>
        clear HB
        obtain ⟨j, hj, rfl, rfl, rfl, HB⟩ := hrel
        by_cases hj8 : j < 8
        · have hstep := byte_step x j
          obtain ⟨y, hy⟩ : ∃ y, x / 2 ^ (8 * j) = y := ⟨_, rfl⟩
          have hlo := low_getD l k j (by rw [HL.out]; exact hlt) hj8
          rw [Hx.out, hy] at hlo
          rw [hy] at hstep ⊢
          have hyr : IntKind.u8.wrap y = y % 256 := by simp [IntKind.wrap, IntKind.bits, IntKind.signed]
          have HS := Lib.hid (HB.out.put (by omega) (by rw [HLL.out, HL.out]; omega) (y % 256) hlo)
          obtain ⟨⟨u, hcell⟩, hfree⟩ := HB.out.has (m - (8 * k + j) - 1) (by omega)
          have HST := Lib.hid hstep
          have c1 : (0 : Int) ≤ (m : Int) - 8 * (k : Int) - (j : Int) - 1 := by omega
          have c1b : (1 : Int) ≤ (m : Int) - 8 * (k : Int) - (j : Int) := by omega
          have c2 : (m : Int) - 8 * (k : Int) - (j : Int) - 1 < (m : Int) := by omega
          have c3 : ((m : Int) - 8 * (k : Int) - (j : Int) - 1).toNat = m - (8 * k + j) - 1 := by omega
          have c4 : (j : Int) < 8 := by omega
          have w1e : IntKind.i64.wrap ((m : Int) - 8 * (k : Int) - (j : Int) - 1) = (m : Int) - 8 * (k : Int) - (j : Int) - 1 := IntWalk.i64_in _ (by omega)
          clear hlo hy hstep
          go_wp2_with fail
          go_roundw
          case rel => exact ⟨j + 1, by omega, by go_num, by rw [← HST.out], by go_num, HS.out⟩
          case measure => simp [intOf]; omega
        · have : j = 8 := by omega
          subst this
          have c4 : ¬ ((8 : Nat) : Int) < 8 := by omega
          go_wp2_with fail
          refine ⟨⟨k + 1, by omega, by congr 1; omega, by go_num, HB.out⟩, ?_⟩
          simp [intOf]; omega
    · have hkn : k = n := by omega
      have e0 : (m : Int) - 8 * (k : Int) = 0 := by omega
      have hkm : 8 * k = m := by omega
      rw [e0]
      rw [hkm] at HB
      have b1 : ¬ (k : Int) < (n : Int) := by omega
      have HO := Lib.hid (HB.out.all (by rw [HLL.out, HL.out]; have := HMN.out; omega))
      have HRL := Lib.hid (show (low l).reverse.length = m by rw [List.length_reverse, HLL.out, HL.out]; have := HMN.out; omega)
      clear hkn e0 hlow
      go_wp2_with fail
      go_loopw [4] (fun t w2 => ∃ i : Nat, i ≤ m ∧ t = .int .i64 (i : Int) ∧ w2 = wr ∧ Hid (strip ((low l).reverse.drop i) = strip (low l).reverse)) (fun t _ => m - (intOf t).toNat)
      case atStart => exact ⟨0, by omega, rfl, rfl, rfl⟩
      case round =>
        obtain ⟨i, hi, rfl, rfl, HSt⟩ := hrel
        by_cases him : i < m
        · have hcell := HO.out.1.cell i him
          obtain ⟨y, hy⟩ : ∃ y, (low l).reverse.getD i 0 = y := ⟨_, rfl⟩
          rw [hy] at hcell
          have c1 : (i : Int) < (m : Int) := by omega
          have c2 : (0 : Int) ≤ (i : Int) := by omega
          have hdr := drop_getD (low l).reverse i (by rw [HRL.out]; exact him)
          rw [hy] at hdr
          by_cases hy0 : y = 0
          · subst hy0
            have HN := Lib.hid (show strip ((low l).reverse.drop (i + 1)) = strip (low l).reverse by
              rw [← HSt.out, hdr]; rfl)
            clear hdr hy HSt
            go_wp2_with fail
            go_roundw
            case rel => exact ⟨i + 1, by omega, by go_num, trivial, HN.out⟩
            case measure => simp [intOf]; omega
          · have hyb : (y == 0) = false := by rw [beq_eq_false_iff_ne]; exact hy0
            have HN := Lib.hid (show (low l).reverse.drop i = strip (low l).reverse by
              rw [← HSt.out, hdr]; unfold strip; rw [List.dropWhile_cons, if_neg (by rw [hyb]; decide)])
            clear hdr hy HSt hy0
            go_wp2_with fail
            go_ret
            exact ⟨i, rfl, Bt.back HO.out, hi, HN.out⟩
        · have c1 : ¬ (i : Int) < (m : Int) := by omega
          have c1b : decide ((i : Int) < (m : Int)) = false := decide_eq_false c1
          have HN := Lib.hid (show (low l).reverse.drop i = strip (low l).reverse by
              rw [← HSt.out, List.drop_of_length_le (by rw [HRL.out]; omega)]; rfl)
          clear HSt
          go_wp2_with fail
          go_ret
          exact ⟨i, rfl, Bt.back HO.out, hi, HN.out⟩

/-- What Int.Bytes leaves: the bytes of n, the highest first, none of nought ahead. -/
def BytesOut (w : World) (l : List Int) (e : Ending) (w' : World) : Prop := ∃ A' k c, e = .returned (.slice A' k c) ∧ k ≤ c ∧ k = (strip (low l).reverse).length ∧ Ow .u8 5 w.heap.size w.heap.size (8 * l.length) (low l).reverse w' ∧ Below w.heap.size w w' ∧ (∀ w2, Ow .u8 5 w.heap.size w.heap.size (8 * l.length) (low l).reverse w2 → Kd.C (Kd.int .u8) w2 A' k (strip (low l).reverse))
set_option maxRecDepth 100000 in
/-- Int.Bytes of a number: its bytes in a new buffer, the highest first, none of nought ahead. -/
theorem intBytes {w : World} {p : Nat} {v : Value} {z : Int} (h : Iz w p v z) (hn : (dg z.natAbs).length ≤ 100000) :
    Calls Try.prog 36 #[.pointer (some ⟨p, 0, none⟩)] w (BytesOut w (dg z.natAbs)) := by
  obtain ⟨A, c, hv, hlc, hC⟩ := h.2.c
  have h1 := h.abs1
  subst hv
  have hd := dg_dig z.natAbs
  obtain ⟨l, hl⟩ : ∃ l, dg z.natAbs = l := ⟨_, rfl⟩
  rw [hl] at hC hn h1 hlc hd ⊢
  obtain ⟨n, hn2⟩ : ∃ n, l.length = n := ⟨_, rfl⟩
  unfold BytesOut
  rw [hn2] at hC hn h1 hlc ⊢
  obtain ⟨m, hm⟩ : ∃ m, 8 * n = m := ⟨_, rfl⟩
  rw [hm]
  have hmk : ∀ w : World, (Instr.makeSlice 22 (.int .i64 ((n : Int) * 8)) (.int .i64 ((n : Int) * 8))).run Try.prog w = .ok (.slice (some ⟨w.heap.size, 0, none⟩) m m) (w.alloc (.cells (madeCells #[.int .u8 0] m) 5)) := fun w => by
    have := run_mk8 ((n : Int) * 8) w (by omega) (by omega)
    rwa [show ((n : Int) * 8).toNat = m from by omega] at this
  have hB : Below w.heap.size w (w.alloc (.cells (madeCells #[.int .u8 0] m) 5)) := (Below.refl _ _).alloc (Nat.le_refl _) _
  have hO := Ow.made w .u8 5 m (by unfold maxLen; omega)
  have hBt : Bt w (w.alloc (.cells (madeCells #[.int .u8 0] m) 5)) w.heap.size m (low l) 0 := ⟨_, hO, by simp, hB⟩
  have HY := Lib.hid (bytes_any w _ w.heap.size n m A c l hC hd hn hm.symm hBt)
  have hcell := Chg.cell (S := fun _ => False) (Chg.of_below hB) h1 (fun h => h)
  have HLen := Lib.hid (show (low l).reverse.length = m by rw [List.length_reverse, low_length, hn2, hm])
  have hm9 : m ≤ 9000000 := by omega
  clear h hl hC hd hm hB hO hBt hn2
  go_enter Try.func36, Try.ntmps36
  go_wp2_with fail
  refine HY.out.mono ?_
  rintro e w1 ⟨i, rfl, hb, hi, hs⟩
  obtain ⟨i0, hi0, _, hsz0, _⟩ := info_parts infoU8
  obtain ⟨L, hL⟩ : ∃ L, (low l).reverse = L := ⟨_, rfl⟩
  have hall := hb.all (by have := HLen.out; rw [List.length_reverse] at this; exact this)
  rw [hL] at hall hs HLen
  have HL2 := Lib.hid hL
  obtain ⟨A', hcut, hA', hC'⟩ := print_drop_of (P := Try.prog) (Value.int .u8) 0 22 5 .i64 Try.underlying22 hi0 hsz0 (some ⟨w.heap.size, 0, none⟩) m L (i : Int) (by omega) (by rw [HLen.out]; omega) (by rw [HLen.out]; exact Nat.le_refl _)
  rw [Int.toNat_natCast, hs, HLen.out] at hcut
  rw [Int.toNat_natCast, hs] at hA' hC'
  have HH := Lib.hid hall
  have HR := Lib.hid (show ∀ w2, Ow .u8 5 w.heap.size w.heap.size m L w2 → Kd.C (Kd.int .u8) w2 A' (strip L).length (strip L) from fun w2 h2 => Kd.C_of_reads (h1 := fun _ => rfl) (hA' w2 (Kd.reads_of_C (by rw [HLen.out]; exact h2.c))))
  obtain ⟨k, hk⟩ : ∃ k, (strip L).length = k := ⟨_, rfl⟩
  rw [hk] at hcut hC' HR
  have HK := Lib.hid hk
  have HC := Lib.hid hC'
  clear hA' hC' hall hs hb hi0 hsz0 hk hL
  go_wp2_with fail
  go_ret
  rw [HL2.out]
  exact ⟨A', k, _, rfl, HC.out, HK.out.symm, HH.out.1, HH.out.2, HR.out⟩
end Go.Proofs.Ythckboojmljeiaa.By
namespace Go.Proofs.Ythckboojmljeiaa.Sp
set_option linter.unusedVariables false
set_option linter.unusedSimpArgs false
open Go.RowKit Go.Proofs.YthckboojmljeiaaW.PrintWords Go.Proofs.YthckboojmljeiaaW.PrintLast Go.Proofs.YthckboojmljeiaaW.PrintMore Go.Proofs.Ythckboojmljeiaa.Pl Go.Proofs.Ythckboojmljeiaa.Dg Go.Proofs.Ythckboojmljeiaa.By Go.Proofs.Ythckboojmljeiaa.PFnExactStore

/-! ### Digits of one number -/
theorem lv_inj {B : Int} (hB : 0 < B) {a b : List Int} (ha : Dig B a) (hb : Dig B b) (hl : a.length = b.length) (h : lv B a = lv B b) : a = b := by
  induction a generalizing b with
  | nil => exact (List.length_eq_zero_iff.1 hl.symm).symm
  | cons x a ih =>
    cases b with
    | nil => cases hl
    | cons y b =>
      obtain ⟨⟨x0, x1⟩, ha'⟩ := ha.cons
      obtain ⟨⟨y0, y1⟩, hb'⟩ := hb.cons
      simp only [lv] at h
      have e1 : (x + B * lv B a) % B = x := by rw [Int.add_mul_emod_self_left, Int.emod_eq_of_lt x0 x1]
      have e2 : (y + B * lv B b) % B = y := by rw [Int.add_mul_emod_self_left, Int.emod_eq_of_lt y0 y1]
      have e : x = y := by rw [← e1, ← e2, h]
      subst e
      have : B * lv B a = B * lv B b := by omega
      have := Int.eq_of_mul_eq_mul_left (by omega) this
      rw [ih ha' hb' (by simpa using hl) this]
theorem strip_zeros (k : Nat) (l : List Int) : strip (List.replicate k 0 ++ l) = strip l := by
  induction k with
  | zero => rfl
  | succ k ih => rw [List.replicate_succ, List.cons_append]; exact ih
theorem pad (l : List Int) (k : Nat) : strip (l ++ List.replicate k 0).reverse = strip l.reverse := by
  rw [List.reverse_append, List.reverse_replicate, strip_zeros]
theorem strip_eq {B : Int} (hB : 0 < B) {a b : List Int} (ha : Dig B a) (hb : Dig B b) (h : lv B a = lv B b) : strip a.reverse = strip b.reverse := by
  rw [← pad a b.length, ← pad b a.length]
  congr 2
  refine lv_inj hB (ha.append (Dig.replicate hB _)) (hb.append (Dig.replicate hB _)) (by simp; omega) ?_
  rw [lv_append, lv_append, lv_zeros, lv_zeros, h]
  simp

theorem le8_lv (v : Int) (h0 : 0 ≤ v) (h1 : v < 18446744073709551616) : lv 256 (le8 v) = v := by
  simp only [le8, show List.range 8 = [0, 1, 2, 3, 4, 5, 6, 7] from rfl, List.map_cons, List.map_nil, lv]
  rw [show (2 : Int) ^ (8 * 0) = 1 from by decide, show (2 : Int) ^ (8 * 1) = 256 from by decide, show (2 : Int) ^ (8 * 2) = 65536 from by decide, show (2 : Int) ^ (8 * 3) = 16777216 from by decide, show (2 : Int) ^ (8 * 4) = 4294967296 from by decide, show (2 : Int) ^ (8 * 5) = 1099511627776 from by decide, show (2 : Int) ^ (8 * 6) = 281474976710656 from by decide, show (2 : Int) ^ (8 * 7) = 72057594037927936 from by decide]
  omega
theorem low_lv (l : List Int) (hd : DW l) : lv 256 (low l) = lv (BB : Int) l := by
  induction l with
  | nil => rfl
  | cons v r ih =>
    obtain ⟨⟨h0, h1⟩, h2⟩ := hd.cons
    simp only [low, lv]
    rw [lv_append, le8_length, le8_lv v h0 h1, ih h2]
    rfl
/-- The bytes of a number, the highest first, are those of any of its digits. -/
theorem bytes_of {l : List Int} (hd : Dig 256 l) (n : Nat) (hn : lv 256 l = (n : Int)) : strip (low (dg n)).reverse = strip l.reverse := by
  refine strip_eq (by omega) (low_dig _) hd ?_
  rw [low_lv _ (dg_dig n), lv_dg, hn]

/-! ### The printed reference functions -/
theorem strip_length_le (l : List Int) : (strip l).length ≤ l.length := by
  unfold strip
  exact (List.dropWhile_sublist _).length_le
theorem short_l0 (l : List Int) (hl : l.length ≤ 100000) : ∀ k, l.length < k → spec_Short.l0 k l = some (strip l) := by
  induction l with
  | nil =>
    intro k hk
    obtain ⟨k, rfl⟩ : ∃ m, k = m + 1 := ⟨k - 1, by omega⟩
    simp [spec_Short.l0, strip]
  | cons x r ih =>
    intro k hk
    obtain ⟨k, rfl⟩ : ∃ m, k = m + 1 := ⟨k - 1, by omega⟩
    simp only [spec_Short.l0]
    simp only [List.length_cons] at hl hk
    rw [if_pos (by simp only [List.length_cons]; omega), if_pos (by simp only [List.length_cons]; omega), show rd (x :: r) 0 = x from by simp [rd]]
    by_cases h : x = 0
    · subst h
      rw [if_pos rfl, if_pos (by simp only [List.length_cons]; omega), List.drop_one, List.tail_cons, ih (by omega) k (by omega)]
      rfl
    · rw [if_neg h]
      simp only [Option.bind_some]
      rw [if_pos (by simp; omega)]
      unfold strip
      rw [List.dropWhile_cons, if_neg (by simpa using h)]
      rfl
theorem short_eq (l : List Int) (hl : l.length ≤ 100000) (k : Nat) (hk : l.length < k) : spec_Short.f k l = some (strip l) := short_l0 l hl k hk
theorem turned_l0 (l : List Int) (hl : l.length ≤ 100000) : ∀ (i k : Nat) (acc : List Int), i ≤ l.length → acc.length + i ≤ 100000 → i < k →
    spec_Turned.l0 k l acc ((i : Int) - 1) = some (acc ++ (l.take i).reverse) := by
  intro i
  induction i with
  | zero =>
    intro k acc _ _ hk
    obtain ⟨k, rfl⟩ : ∃ m, k = m + 1 := ⟨k - 1, by omega⟩
    simp only [spec_Turned.l0]
    rw [if_neg (by omega)]
    simp
  | succ i ih =>
    intro k acc h1 h2 hk
    obtain ⟨k, rfl⟩ : ∃ m, k = m + 1 := ⟨k - 1, by omega⟩
    simp only [spec_Turned.l0]
    rw [show ((i + 1 : Nat) : Int) - 1 = (i : Int) from by omega, if_pos (by omega), if_pos (by omega), if_pos (by omega), if_pos (by omega), w64 (by omega) (by omega), show rd l (i : Int) = l.getD i 0 from by simp [rd]]
    rw [ih k _ (by omega) (by simp; omega) (by omega), take_succ_getD l i (by omega)]
    simp
theorem turned_eq (l : List Int) (hl : l.length ≤ 100000) (k : Nat) (hk : l.length < k) : spec_Turned.f k l = some l.reverse := by
  unfold spec_Turned.f
  rw [w64 (by omega) (by omega), turned_l0 l hl l.length _ [] (by omega) (by simpa using hl) (by omega)]
  simp

/-- What Store answers. -/
def storeL (buf n : List Int) (minus : Bool) : List Int :=
  if buf.length < (strip n).length ∨ (minus = true ∧ 0 < (strip n).length) then buf else (strip n).reverse ++ List.replicate (buf.length - (strip n).length) 0
theorem store_eq (buf n : List Int) (minus : Bool) (hb : buf.length ≤ 10000) (hn : n.length ≤ 10000) (k : Nat) (hk : n.length < k) : spec_Store.f k buf n minus = some (storeL buf n minus) := by
  have h1 := strip_length_le n
  unfold spec_Store.f storeL
  rw [short_eq n (by omega) k hk]
  simp only [Option.bind_some]
  rw [turned_eq _ (by omega) k (by omega)]
  simp only [Option.bind_some, List.length_reverse, List.length_nil, List.nil_append]
  by_cases h : buf.length < (strip n).length
  · rw [if_pos (by omega), if_pos (by omega), if_pos (.inl h)]
  · rw [if_neg (by omega), w64 (by omega) (by omega)]
    have e : ((buf.length : Int) - ((strip n).length : Int)).toNat = buf.length - (strip n).length := by omega
    rw [e]
    by_cases hm : minus = true
    · rw [if_pos hm]
      by_cases h0 : 0 < (strip n).length
      · rw [if_pos (by omega), if_pos (by omega), if_pos (.inr ⟨hm, h0⟩)]
      · rw [if_neg (by omega), if_pos (by omega), if_pos (by omega), if_neg (by rintro (h3 | h3); exact h h3; exact h0 h3.2)]
    · rw [if_neg hm, if_pos (by omega), if_pos (by omega), if_neg (by rintro (h3 | h3); exact h h3; exact hm h3.1)]

/-! ### Their calls -/
/-- A slice of bytes comes back, made anew, that reads l. -/
def Rd8 (w : World) (l : List Int) (e : Ending) (w' : World) : Prop := ∃ A c, e = .returned (.slice A l.length c) ∧ l.length ≤ c ∧ Kd.C (Kd.int .u8) w' A l.length l ∧ Below w.heap.size w w'
theorem short_call (A : Option Addr) (c : Nat) (l : List Int) (w : World) (hr : Kd.C (Kd.int .u8) w A l.length l) (hc : l.length ≤ c) (hl : l.length ≤ 100000) :
    Calls Try.prog 15 #[.slice A l.length c] w (Rd8 w (strip l)) := by
  refine (spec_Short.calls (l.length + 1) (fun _ => True) A c l (strip l) w (Kd.V_mk hc (Kd.F_mono (Kd.C_F (Kd.heap_int .u8) hr) (fun _ _ => trivial))) (short_eq l hl _ (by omega))).mono ?_
  rintro e w' ⟨v, rfl, h1, h2⟩
  obtain ⟨A2, c2, rfl, h3, h4⟩ := Kd.R_reads h1
  exact ⟨A2, c2, rfl, h3, h4, h2⟩
theorem turned_call (A : Option Addr) (c : Nat) (l : List Int) (w : World) (hr : Kd.C (Kd.int .u8) w A l.length l) (hc : l.length ≤ c) (hl : l.length ≤ 100000) :
    Calls Try.prog 16 #[.slice A l.length c] w (Rd8 w l.reverse) := by
  refine (spec_Turned.calls (l.length + 1) A c l l.reverse w hr hc (turned_eq l hl _ (by omega))).mono ?_
  rintro e w' ⟨v, rfl, h1, h2⟩
  obtain ⟨A2, c2, rfl, h3, h4⟩ := Kd.R_reads h1
  exact ⟨A2, c2, rfl, h3, h4, h2⟩
theorem store_call (A : Option Addr) (c : Nat) (l : List Int) (A1 : Option Addr) (c1 : Nat) (n : List Int) (b : Bool) (w : World) (hr : Kd.C (Kd.int .u8) w A l.length l) (hc : l.length ≤ c) (hl : l.length ≤ 10000) (hr1 : Kd.C (Kd.int .u8) w A1 n.length n) (hc1 : n.length ≤ c1) (hl1 : n.length ≤ 10000) :
    Calls Try.prog 18 #[.slice A l.length c, .slice A1 n.length c1, .bool b] w (Rd8 w (storeL l n b)) := by
  refine (spec_Store.calls (n.length + 1) A c l A1 c1 n b (storeL l n b) w hr hc hr1 hc1 (store_eq l n b hl hl1 _ (by omega))).mono ?_
  rintro e w' ⟨v, rfl, h1, h2⟩
  obtain ⟨A2, c2, rfl, h3, h4⟩ := Kd.R_reads h1
  exact ⟨A2, c2, rfl, h3, h4, h2⟩
end Go.Proofs.Ythckboojmljeiaa.Sp
