/- Walk: slices.Equal over two slices of words, of bytes, that hold the same: true. -/
import Derived.Test.YthckboojmljeiaaBe
namespace Go.Proofs.Ythckboojmljeiaa.Be
set_option linter.unusedVariables false
set_option linter.unusedSimpArgs false
open Go.RowKit Go.Proofs.YthckboojmljeiaaW.PrintWords Go.Proofs.YthckboojmljeiaaW.PrintLast Go.Proofs.YthckboojmljeiaaW.PrintMore Go.Proofs.Ythckboojmljeiaa.Pl

def Drn (w w' : World) : Prop := ∃ q, w' = w.drewN q
theorem Drn.refl (w : World) : Drn w w := ⟨0, rfl⟩
theorem Drn.step {w w' : World} (h : Drn w w') (n : Nat) : Drn w (w'.drewN n) := by
  obtain ⟨m, rfl⟩ := h
  exact ⟨m + n, World.drewN_drewN ..⟩
theorem Drn.below {w w' : World} (h : Drn w w') : Below w.heap.size w w' := by
  obtain ⟨m, rfl⟩ := h
  exact pw_below_drewN (Below.refl _ _) m

set_option maxHeartbeats 400000 in
theorem equal (A B : Option Addr) (n c c' : Nat) (l : List Int) (w : World) (hA : Kd.C (Kd.int .u64) w A n l) (hB : Kd.C (Kd.int .u64) w B n l) :
    Calls Try.prog 22 #[.slice A n c, .slice B n c'] w fun e w' => e = .returned (.bool true) ∧ Drn w w' := by
  have HA := Lib.hid hA
  have HB := Lib.hid hB
  have hn : (n : Int) ≤ 9223372036854775807 := by have := hA.2.1; omega
  clear hA hB
  go_enter Try.func22, Try.ntmps22
  go_wp2
  go_loopw [13] (fun t wr => ∃ i : Nat, i ≤ n ∧ t = .int .i64 (i : Int) ∧ Drn w wr) (fun t _ => n - (intOf t).toNat)
  case atStart => exact ⟨0, by omega, rfl, Drn.refl _⟩
  case round =>
    obtain ⟨i, hi, rfl, q, rfl⟩ := hrel
    by_cases hlt : i < n
    · obtain ⟨ad, e, hx⟩ := Kd.at_int HA.out (i : Int) (by omega) (by omega)
      obtain ⟨bd, e', hy⟩ := Kd.at_int HB.out (i : Int) (by omega) (by omega)
      cases e
      cases e'
      rw [Int.toNat_natCast] at hx hy
      obtain ⟨x, hx2⟩ : ∃ x, rd l (i : Int) = x := ⟨_, rfl⟩
      rw [hx2] at hx hy
      clear hx2
      have b1 : (i : Int) < (n : Int) := by omega
      go_wp2
      go_quiet (fail)
      go_wp2
      go_roundw
      case rel => exact ⟨i + 1, by omega, by go_num, ⟨_, rfl⟩⟩
      case measure => simp [intOf]; omega
    · go_wp2
      go_ret
      exact ⟨rfl, ⟨_, rfl⟩⟩
set_option maxHeartbeats 400000 in
theorem equal8 (A B : Option Addr) (n c c' : Nat) (l : List Int) (w : World) (hA : Kd.C (Kd.int .u8) w A n l) (hB : Kd.C (Kd.int .u8) w B n l) :
    Calls Try.prog 13 #[.slice A n c, .slice B n c'] w fun e w' => e = .returned (.bool true) ∧ Drn w w' := by
  have HA := Lib.hid hA
  have HB := Lib.hid hB
  have hn : (n : Int) ≤ 9223372036854775807 := by have := hA.2.1; omega
  clear hA hB
  go_enter Try.func13, Try.ntmps13
  go_wp2
  go_loopw [13] (fun t wr => ∃ i : Nat, i ≤ n ∧ t = .int .i64 (i : Int) ∧ Drn w wr) (fun t _ => n - (intOf t).toNat)
  case atStart => exact ⟨0, by omega, rfl, Drn.refl _⟩
  case round =>
    obtain ⟨i, hi, rfl, q, rfl⟩ := hrel
    by_cases hlt : i < n
    · obtain ⟨ad, e, hx⟩ := Kd.at_int HA.out (i : Int) (by omega) (by omega)
      obtain ⟨bd, e', hy⟩ := Kd.at_int HB.out (i : Int) (by omega) (by omega)
      cases e
      cases e'
      rw [Int.toNat_natCast] at hx hy
      obtain ⟨x, hx2⟩ : ∃ x, rd l (i : Int) = x := ⟨_, rfl⟩
      rw [hx2] at hx hy
      clear hx2
      have b1 : (i : Int) < (n : Int) := by omega
      go_wp2
      go_quiet (fail)
      go_wp2
      go_roundw
      case rel => exact ⟨i + 1, by omega, by go_num, ⟨_, rfl⟩⟩
      case measure => simp [intOf]; omega
    · go_wp2
      go_ret
      exact ⟨rfl, ⟨_, rfl⟩⟩
end Go.Proofs.Ythckboojmljeiaa.Be
