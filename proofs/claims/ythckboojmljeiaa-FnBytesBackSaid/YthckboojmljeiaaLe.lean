/- Walks: Uint64Le2BytesLe, Uint64Le2BytesBe, impl.Bytes: words as bytes. -/
import Derived.Test.YthckboojmljeiaaOw
import Derived.Test.YthckboojmljeiaaEq
namespace Go.Proofs.Ythckboojmljeiaa.Ow
set_option linter.unusedVariables false
set_option linter.unusedSimpArgs false
open Go.RowKit Go.Proofs.YthckboojmljeiaaW.PrintWords Go.Proofs.YthckboojmljeiaaW.PrintLast Go.Proofs.YthckboojmljeiaaW.PrintMore Go.Proofs.Ythckboojmljeiaa.Pl

theorem lay_le (l : List Int) (n i : Nat) (hn : l.length = n) (hi : i < n) :
    lay (low (l.take i) ++ List.replicate (8 * n - 8 * i) 0) (8 * i) 8 (le8 (l.getD i 0)) = low (l.take (i + 1)) ++ List.replicate (8 * n - 8 * (i + 1)) 0 := by
  have h1 : (low (l.take i)).length = 8 * i := by rw [low_length, List.length_take]; omega
  have e1 : (low (l.take i)).drop (8 * i + 8) = [] := List.drop_of_length_le (by omega)
  have e2 : (le8 (l.getD i 0)).take 8 = le8 (l.getD i 0) := List.take_of_length_le (by rw [le8_length]; omega)
  unfold lay
  rw [List.take_left' h1, List.drop_append, e1, e2, h1, low_snoc l i (by omega), List.drop_replicate, show 8 * n - 8 * i - (8 * i + 8 - 8 * i) = 8 * n - 8 * (i + 1) from by omega]
  simp
theorem lay_be (l : List Int) (n i : Nat) (hn : l.length = n) (hi : i < n) :
    lay ((low (l.drop (n - i))).reverse ++ List.replicate (8 * n - 8 * i) 0) (8 * i) 8 (le8 (l.getD (n - 1 - i) 0)).reverse = (low (l.drop (n - (i + 1)))).reverse ++ List.replicate (8 * n - 8 * (i + 1)) 0 := by
  have h1 : (low (l.drop (n - i))).reverse.length = 8 * i := by rw [List.length_reverse, low_length, List.length_drop]; omega
  have e1 : (low (l.drop (n - i))).reverse.drop (8 * i + 8) = [] := List.drop_of_length_le (by omega)
  have e2 : (le8 (l.getD (n - 1 - i) 0)).reverse.take 8 = (le8 (l.getD (n - 1 - i) 0)).reverse := List.take_of_length_le (by rw [List.length_reverse, le8_length]; omega)
  unfold lay
  rw [List.take_left' h1, List.drop_append, e1, e2, h1, List.drop_replicate, show 8 * n - 8 * i - (8 * i + 8 - 8 * i) = 8 * n - 8 * (i + 1) from by omega, show n - (i + 1) = n - 1 - i from by omega, drop_getD l (n - 1 - i) (by omega), show n - 1 - i + 1 = n - i from by omega]
  simp [low]

set_option maxHeartbeats 400000 in
set_option maxRecDepth 100000 in
theorem bytesLe (A : Option Addr) (n c : Nat) (l : List Int) (w : World) (hr : Kd.C (Kd.int .u64) w A n l) (hd : Dig 18446744073709551616 l) (hl : n ≤ 10000) :
    Calls Try.prog 42 #[.slice A n c] w fun e w' => e = .returned (.slice (some ⟨w.heap.size, 0, none⟩) (8 * n) (8 * n)) ∧ Ow .u8 5 w.heap.size w.heap.size (8 * n) (low l) w' ∧ Below w.heap.size w w' := by
  have hn := Lib.hid hr.1
  have HR := Lib.hid hr
  clear hr
  have HD := Lib.hid hd
  clear hd
  have hmk : ∀ w : World, (Instr.makeSlice 22 (.int .i64 (8 * (n : Int))) (.int .i64 (8 * (n : Int)))).run Try.prog w = .ok (.slice (some ⟨w.heap.size, 0, none⟩) (8 * n) (8 * n)) (w.alloc (.cells (madeCells #[.int .u8 0] (8 * n)) 5)) := fun w => by
    have := run_mk8 (8 * (n : Int)) w (by omega) (by omega)
    rwa [show (8 * (n : Int)).toNat = 8 * n from by omega] at this
  have Q0 := Lib.hid (Ow.made w .u8 5 (8 * n) (by unfold maxLen; omega))
  have B0 := Lib.hid ((Below.refl w.heap.size w).alloc (Nat.le_refl _) (.cells (madeCells #[.int .u8 0] (8 * n)) 5))
  go_enter Try.func42, Try.ntmps42
  go_wp2
  go_loopw [5] (fun t wr => ∃ i : Nat, i ≤ n ∧ t = .int .i64 (i : Int) ∧ Hid (Ow .u8 5 w.heap.size w.heap.size (8 * n) (low (l.take i) ++ List.replicate (8 * n - 8 * i) 0) wr) ∧ Hid (Below w.heap.size w wr)) (fun t _ => n - (intOf t).toNat)
  case atStart => exact ⟨0, by omega, rfl, by simp only [List.take_zero, low, List.nil_append, Nat.mul_zero, Nat.sub_zero]; exact Q0.out, B0.out⟩
  case round =>
    obtain ⟨i, hi, rfl, HQ, HB⟩ := hrel
    by_cases hlt : i < n
    · obtain ⟨ad, e, hx⟩ := Kd.at_int (Kd.C_below HR.out HB.out) (i : Int) (by omega) (by omega)
      cases e
      rw [show rd l (i : Int) = l.getD i 0 from by simp [rd], Int.toNat_natCast] at hx
      have hxr := HD.out.get (i := i) (by rw [hn.out]; exact hlt)
      obtain ⟨x, hx2⟩ : ∃ x, l.getD i 0 = x := ⟨_, rfl⟩
      rw [hx2] at hx hxr
      have Hx := Lib.hid hx2
      have Hxr := Lib.hid hxr
      clear hx2 hxr
      have b1 : (i : Int) < (n : Int) := by omega
      have b2 : (0 : Int) ≤ (i : Int) * 8 := by omega
      have b3 : (i : Int) * 8 < 8 * (n : Int) := by omega
      have b4 : ((i : Int) * 8).toNat = 8 * i := by omega
      have b5 : ¬ 8 * n = 8 * i := by omega
      have b6 : (i : Int) * 8 ≤ 8 * (n : Int) := by omega
      have w1 : IntKind.i64.wrap ((i : Int) * 8) = (i : Int) * 8 := IntWalk.i64_in _ (by omega)
      go_wp2
      go_still_tail 8, (by kernel_rfl)
      change wpList _ _ _ _ _ wr.drew
      go_wp2_with fail
      refine (putLittle w.heap.size (8 * i) (8 * n) _ _ x _ wr.drew w.heap.size HQ.out.drew (by omega) (by omega) Hxr.out).mono ?_
      rintro e w2 ⟨rfl, hq, hg⟩
      rw [← Hx.out, lay_le l n i hn.out hlt] at hq
      have HQ2 := Lib.hid hq
      have HB2 := Lib.hid (below_of_grown HB.out.drew hg HB.out.size (Nat.le_refl _))
      clear hq hg
      go_wp2
      go_roundw
      case rel => exact ⟨i + 1, by omega, by go_num, HQ2.out, HB2.out⟩
      case measure => simp [intOf]; omega
    · go_wp2
      go_ret
      rw [show i = l.length from by rw [hn.out]; omega, List.take_length, show 8 * n - 8 * l.length = 0 from by rw [hn.out]; omega, List.replicate_zero, List.append_nil] at HQ
      exact ⟨rfl, HQ.out, HB.out⟩
set_option maxHeartbeats 400000 in
set_option maxRecDepth 100000 in
theorem bytesBe (A : Option Addr) (n c : Nat) (l : List Int) (w : World) (hr : Kd.C (Kd.int .u64) w A n l) (hd : Dig 18446744073709551616 l) (hl : n ≤ 10000) :
    Calls Try.prog 41 #[.slice A n c] w fun e w' => e = .returned (.slice (some ⟨w.heap.size, 0, none⟩) (8 * n) (8 * n)) ∧ Ow .u8 5 w.heap.size w.heap.size (8 * n) (low l).reverse w' ∧ Below w.heap.size w w' := by
  have hn := Lib.hid hr.1
  have HR := Lib.hid hr
  clear hr
  have HD := Lib.hid hd
  clear hd
  have hmk : ∀ w : World, (Instr.makeSlice 22 (.int .i64 (8 * (n : Int))) (.int .i64 (8 * (n : Int)))).run Try.prog w = .ok (.slice (some ⟨w.heap.size, 0, none⟩) (8 * n) (8 * n)) (w.alloc (.cells (madeCells #[.int .u8 0] (8 * n)) 5)) := fun w => by
    have := run_mk8 (8 * (n : Int)) w (by omega) (by omega)
    rwa [show (8 * (n : Int)).toNat = 8 * n from by omega] at this
  have Q0 := Lib.hid (Ow.made w .u8 5 (8 * n) (by unfold maxLen; omega))
  have B0 := Lib.hid ((Below.refl w.heap.size w).alloc (Nat.le_refl _) (.cells (madeCells #[.int .u8 0] (8 * n)) 5))
  go_enter Try.func41, Try.ntmps41
  go_wp2
  go_loopw [5] (fun t wr => ∃ i : Nat, i ≤ n ∧ t = .int .i64 (i : Int) ∧ Hid (Ow .u8 5 w.heap.size w.heap.size (8 * n) ((low (l.drop (n - i))).reverse ++ List.replicate (8 * n - 8 * i) 0) wr) ∧ Hid (Below w.heap.size w wr)) (fun t _ => n - (intOf t).toNat)
  case atStart => exact ⟨0, by omega, rfl, by rw [Nat.sub_zero, List.drop_of_length_le (by rw [hn.out]; omega)]; exact Q0.out, B0.out⟩
  case round =>
    obtain ⟨i, hi, rfl, HQ, HB⟩ := hrel
    by_cases hlt : i < n
    · obtain ⟨ad, e, hx⟩ := Kd.at_int (Kd.C_below HR.out HB.out) ((n : Int) - 1 - (i : Int)) (by omega) (by omega)
      cases e
      have ht : ((n : Int) - 1 - (i : Int)).toNat = n - 1 - i := by omega
      rw [show rd l ((n : Int) - 1 - (i : Int)) = l.getD (n - 1 - i) 0 from by unfold rd; rw [ht], ht] at hx
      have hxr := HD.out.get (i := n - 1 - i) (by rw [hn.out]; omega)
      obtain ⟨x, hx2⟩ : ∃ x, l.getD (n - 1 - i) 0 = x := ⟨_, rfl⟩
      rw [hx2] at hx hxr
      have Hx := Lib.hid hx2
      have Hxr := Lib.hid hxr
      clear hx2 hxr
      have b1 : (i : Int) < (n : Int) := by omega
      have b2 : (0 : Int) ≤ (i : Int) * 8 := by omega
      have b3 : (i : Int) * 8 < 8 * (n : Int) := by omega
      have b4 : ((i : Int) * 8).toNat = 8 * i := by omega
      have b5 : ¬ 8 * n = 8 * i := by omega
      have b6 : (i : Int) * 8 ≤ 8 * (n : Int) := by omega
      have w1 : IntKind.i64.wrap ((i : Int) * 8) = (i : Int) * 8 := IntWalk.i64_in _ (by omega)
      have w2 : IntKind.i64.wrap ((n : Int) - 1) = (n : Int) - 1 := IntWalk.i64_in _ (by omega)
      have w3 : IntKind.i64.wrap ((n : Int) - 1 - (i : Int)) = (n : Int) - 1 - (i : Int) := IntWalk.i64_in _ (by omega)
      have b7 : (0 : Int) ≤ (n : Int) - 1 - (i : Int) := by omega
      have b8 : (i : Int) ≤ (n : Int) - 1 := by omega
      have b9 : (n : Int) - 1 - (i : Int) < (n : Int) := by omega
      go_wp2
      go_still_tail 11, (by kernel_rfl)
      change wpList _ _ _ _ _ wr.drew
      go_wp2_with fail
      refine (putBig w.heap.size (8 * i) (8 * n) _ _ x _ wr.drew w.heap.size HQ.out.drew (by omega) (by omega) Hxr.out).mono ?_
      rintro e w2 ⟨rfl, hq, hg⟩
      rw [← Hx.out, lay_be l n i hn.out hlt] at hq
      have HQ2 := Lib.hid hq
      have HB2 := Lib.hid (below_of_grown HB.out.drew hg HB.out.size (Nat.le_refl _))
      clear hq hg
      go_wp2
      go_roundw
      case rel => exact ⟨i + 1, by omega, by go_num, HQ2.out, HB2.out⟩
      case measure => simp [intOf]; omega
    · go_wp2
      go_ret
      rw [show n - i = 0 from by omega, List.drop_zero, show 8 * n - 8 * i = 0 from by omega, List.replicate_zero, List.append_nil] at HQ
      exact ⟨rfl, HQ.out, HB.out⟩

theorem impl_le (A : Option Addr) (n c : Nat) (l : List Int) (w : World) (hr : Kd.C (Kd.int .u64) w A n l) (hd : Dig 18446744073709551616 l) (hl : n ≤ 10000) :
    Calls Try.prog 24 #[.slice A n c, .bool false] w fun e w' => e = .returned (.slice (some ⟨w.heap.size, 0, none⟩) (8 * n) (8 * n)) ∧ Ow .u8 5 w.heap.size w.heap.size (8 * n) (low l) w' ∧ Below w.heap.size w w' := by
  have h := Lib.hid (bytesLe A n c l w hr hd hl)
  clear hr hd hl
  go_enter Try.func24, Try.ntmps24
  go_wp2_with (first | (go_at_call 42; refine h.out.mono ?_; rintro e w' ⟨rfl, hq, hb⟩; have HQ := Lib.hid hq; have HB := Lib.hid hb; clear hq hb))
  go_ret
  exact ⟨rfl, HQ.out, HB.out⟩
theorem impl_be (A : Option Addr) (n c : Nat) (l : List Int) (w : World) (hr : Kd.C (Kd.int .u64) w A n l) (hd : Dig 18446744073709551616 l) (hl : n ≤ 10000) :
    Calls Try.prog 24 #[.slice A n c, .bool true] w fun e w' => e = .returned (.slice (some ⟨w.heap.size, 0, none⟩) (8 * n) (8 * n)) ∧ Ow .u8 5 w.heap.size w.heap.size (8 * n) (low l).reverse w' ∧ Below w.heap.size w w' := by
  have h := Lib.hid (bytesBe A n c l w hr hd hl)
  clear hr hd hl
  go_enter Try.func24, Try.ntmps24
  go_wp2_with (first | (go_at_call 41; refine h.out.mono ?_; rintro e w' ⟨rfl, hq, hb⟩; have HQ := Lib.hid hq; have HB := Lib.hid hb; clear hq hb))
  go_ret
  exact ⟨rfl, HQ.out, HB.out⟩
end Go.Proofs.Ythckboojmljeiaa.Ow
