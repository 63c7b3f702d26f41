/- Walk: spec.Words: the words of bytes, the lowest first. -/
import Derived.Test.YtnjpamcjmlmeiaaEq
namespace Go.Proofs.Ytnjpamcjmlmeiaa.Be
open Go.RowKit Go.Proofs.YtnjpamcjmlmeiaaW.PrintWords Go.Proofs.YtnjpamcjmlmeiaaW.PrintLast Go.Proofs.YtnjpamcjmlmeiaaW.PrintMore Go.Proofs.Ytnjpamcjmlmeiaa.Pl

theorem laid2 {w wr : World} (l : List Int) (hd : Dig 256 l) (m i : Nat) (o x : Int) (hi : i < l.length) (hm : l.length ≤ 8 * m) (hx : l.getD i 0 = x)
    (ho : (wds m (l.take i)).getD (i / 8) 0 = o) (h : Q w m (wds m (l.take i)) wr) :
    Q w m (wds m (l.take (i + 1))) (wr.setCell ⟨w.heap.size, i / 8, none⟩ (.int .u64 (Go.bits .or .u64 o (IntKind.u64.wrap (IntKind.u64.wrap x * 2 ^ min (i % 8 * 8) 64))))).drew := by
  have hw := wds_old_lt m l hd i hi (by omega)
  rw [ho] at hw
  have hb := hd.get (i := i) hi
  rw [hx] at hb
  have hs := wds_step m l i hi (by omega)
  rw [hx, ho] at hs
  rw [wu64_in hb.1 (by omega), show min (i % 8 * 8) 64 = 8 * (i % 8) from by omega, or_byte o x (i % 8) (by omega) hw.1 hw.2 hb.1 hb.2, hs]
  exact (h.put _ _).drew

set_option maxHeartbeats 800000 in
theorem words (A : Option Addr) (n c : Nat) (l : List Int) (w : World) (hr : Kd.C (Kd.int .u8) w A n l) (hd : Dig 256 l) (hl : n ≤ 100000) :
    Calls Try.prog 13 #[.slice A n c] w fun e w' => e = .returned (.slice (some ⟨w.heap.size, 0, none⟩) ((n + 7) / 8) ((n + 7) / 8)) ∧ Q w ((n + 7) / 8) (wds ((n + 7) / 8) l) w' := by
  have hn := Lib.hid hr.1
  have HR := Lib.hid hr
  clear hr
  have HD := Lib.hid hd
  clear hd
  obtain ⟨m, hm⟩ : ∃ m, (n + 7) / 8 = m := ⟨_, rfl⟩
  have hmk : ∀ w : World, (Instr.makeSlice 25 (.int .i64 (((n : Int) + 7) / 8)) (.int .i64 (((n : Int) + 7) / 8))).run Try.prog w = .ok (.slice (some ⟨w.heap.size, 0, none⟩) m m) (w.alloc (.cells (madeCells #[.int .u64 0] m) 30)) := fun w => by
    have := run_mk (((n : Int) + 7) / 8) w (by omega) (by omega)
    rwa [show (((n : Int) + 7) / 8).toNat = m from by omega] at this
  have Q0 := Lib.hid (Q.start w m (by unfold maxLen; omega))
  have hm1 : n ≤ 8 * m := by omega
  rw [hm]
  have HM := Lib.hid hm
  clear hm
  go_enter Try.func13, Try.ntmps13
  go_wp2
  go_loopw [4] (fun t wr => ∃ i : Nat, i ≤ n ∧ t = .int .i64 (i : Int) ∧ Hid (Q w m (wds m (l.take i)) wr)) (fun t _ => n - (intOf t).toNat)
  case atStart => exact ⟨0, by omega, rfl, by rw [List.take_zero, wds_nil]; exact Q0.out⟩
  case round =>
    obtain ⟨i, hi, rfl, HQ⟩ := hrel
    by_cases hlt : i < n
    · have hcell := HQ.out.cell (i / 8) (by omega)
      have hfree := HQ.out.free (i / 8)
      obtain ⟨ad, e, hx⟩ := Kd.at_int (Kd.C_below HR.out HQ.out.2) (i : Int) (by omega) (by omega)
      cases e
      rw [show rd l (i : Int) = l.getD i 0 from by simp [rd], Int.toNat_natCast] at hx
      obtain ⟨x, hx2⟩ : ∃ x, l.getD i 0 = x := ⟨_, rfl⟩
      obtain ⟨o, ho⟩ : ∃ o, (wds m (l.take i)).getD (i / 8) 0 = o := ⟨_, rfl⟩
      rw [hx2] at hx
      rw [ho] at hcell
      have Hx := Lib.hid hx2
      have Ho := Lib.hid ho
      clear hx2 ho
      have c1 : (0 : Int) ≤ (i : Int) / 8 := by omega
      have c2 : (i : Int) / 8 < (m : Int) := by omega
      have c3 : ((i : Int) / 8).toNat = i / 8 := by omega
      have c5 : (i : Int) < (n : Int) := by omega
      have c6 : (0 : Int) ≤ (i : Int) % 8 * 8 := by omega
      have c7 : (i : Int) % 8 * 8 < 64 := by omega
      have c8 : ((i : Int) % 8 * 8).toNat = i % 8 * 8 := by omega
      have c9 : (0 : Int) ≤ (i : Int) % 8 := by omega
      have w1 : IntKind.i64.wrap ((i : Int) / 8) = (i : Int) / 8 := IntWalk.i64_in _ (by omega)
      have w5 : IntKind.i64.wrap ((i : Int) % 8 * 8) = (i : Int) % 8 * 8 := IntWalk.i64_in _ (by omega)
      have w6 : IntKind.u64.wrap ((i : Int) % 8 * 8) = (i : Int) % 8 * 8 := wu64_in (by omega) (by omega)
      go_wp2
      go_still_tail 20, (by kernel_rfl)
      change wpList _ _ _ _ _ wr.drew
      go_wp2
      go_roundw
      case rel => exact ⟨i + 1, by omega, by go_num, laid2 l HD.out m i o x (by rw [hn.out]; exact hlt) (by rw [hn.out]; exact hm1) Hx.out Ho.out HQ.out⟩
      case measure => simp [intOf]; omega
    · go_wp2
      go_ret
      rw [show i = l.length from by rw [hn.out]; omega, List.take_length] at HQ
      exact ⟨rfl, HQ.out⟩
end Go.Proofs.Ytnjpamcjmlmeiaa.Be
