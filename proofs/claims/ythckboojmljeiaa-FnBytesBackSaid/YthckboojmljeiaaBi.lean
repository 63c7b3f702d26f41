/- Walks: math/bits: Add64, Sub64, Add, Sub, Len64, Len; nat.bitLen. -/
import Derived.Test.YthckboojmljeiaaMem
import Derived.Laws.Externs
namespace Go.Proofs.Ythckboojmljeiaa.Bi
set_option linter.unusedVariables false
set_option linter.unusedSimpArgs false
open Go.RowKit Go.Proofs.YthckboojmljeiaaW.PrintWords Go.Proofs.Ythckboojmljeiaa.Pl Go.Proofs.Ythckboojmljeiaa.Dg Go.Proofs.Ythckboojmljeiaa.Mem

theorem bbI : (BB : Int) = 18446744073709551616 := rfl

/-- A sum's word and carry, a difference's word and borrow. -/
def sumW (x y c : Int) : Int := (x + y + c) % (BB : Int)
def sumC (x y c : Int) : Int := (x + y + c) / (BB : Int)
def difW (x y b : Int) : Int := (x - y - b) % (BB : Int)
def difC (x y b : Int) : Int := if x < y + b then 1 else 0

theorem add64 (x y c : Int) (hx : 0 ≤ x) (hy : 0 ≤ y) (hc0 : 0 ≤ c) (hc : c ≤ 1) (w : World) :
    (callFunc 108 #[.int .u64 x, .int .u64 y, .int .u64 c]).run Try.prog w = .ok (.value (.tuple #[.int .u64 (sumW x y c), .int .u64 (sumC x y c)])) w := by
  rw [run_callFunc_extern Try.func108 (by kernel_rfl) (by kernel_rfl) (by kernel_rfl) (e := add64Entry) (by kernel_rfl), run_add64 x y c hx hy hc0 hc]
  rfl

/-- The model's entry for math/bits.Sub64. -/
def sub64Entry : Array Value → Sem Value := fun args => do
  let (x, y, b) ← Extern.MathBitsCarry.three "Sub64" args
  pure (Extern.MathBitsCarry.pair ((x + Extern.MathBitsCarry.m64 - y - b) % Extern.MathBitsCarry.m64) (if x < y + b then 1 else 0))
theorem run_sub64 {P : Program} (x y b : Nat) (hb : b ≤ 1) (w : World) :
    (sub64Entry #[.int .u64 x, .int .u64 y, .int .u64 b]).run P w =
      .ok (.tuple #[.int .u64 (((x + BB - y - b) % BB : Nat) : Int), .int .u64 ((if x < y + b then 1 else 0 : Nat) : Int)]) w := by
  have : b = 0 ∨ b = 1 := by omega
  rcases this with rfl | rfl <;> rfl
theorem sub64 (x y c : Int) (hx : 0 ≤ x) (hx1 : x < (BB : Int)) (hy : 0 ≤ y) (hy1 : y < (BB : Int)) (hc0 : 0 ≤ c) (hc : c ≤ 1) (w : World) :
    (callFunc 110 #[.int .u64 x, .int .u64 y, .int .u64 c]).run Try.prog w = .ok (.value (.tuple #[.int .u64 (difW x y c), .int .u64 (difC x y c)])) w := by
  obtain ⟨X, rfl⟩ := Int.eq_ofNat_of_zero_le hx
  obtain ⟨Y, rfl⟩ := Int.eq_ofNat_of_zero_le hy
  obtain ⟨C, rfl⟩ := Int.eq_ofNat_of_zero_le hc0
  rw [run_callFunc_extern Try.func110 (by kernel_rfl) (by kernel_rfl) (by kernel_rfl) (e := sub64Entry) (by kernel_rfl), run_sub64 X Y C (by omega)]
  have e1 : (((X + BB - Y - C) % BB : Nat) : Int) = difW X Y C := by
    unfold difW
    rw [bbI] at *
    have hB : BB = 18446744073709551616 := rfl
    rw [hB]
    omega
  have e2 : ((if X < Y + C then 1 else 0 : Nat) : Int) = difC X Y C := by
    unfold difC
    by_cases h : X < Y + C
    · rw [if_pos h, if_pos (by omega)]; rfl
    · rw [if_neg h, if_neg (by omega)]; rfl
  rw [e1, e2]
  rfl

theorem add_any (x y c : Int) (hx : 0 ≤ x) (hy : 0 ≤ y) (hc0 : 0 ≤ c) (hc : c ≤ 1) (w : World) :
    Calls Try.prog 103 #[.int .u64 x, .int .u64 y, .int .u64 c] w fun e w' => e = .returned (.tuple #[.int .u64 (sumW x y c), .int .u64 (sumC x y c)]) ∧ w = w' := by
  have ha := add64 x y c hx hy hc0 hc
  obtain ⟨s, hs⟩ : ∃ s, sumW x y c = s := ⟨_, rfl⟩
  obtain ⟨k, hk⟩ : ∃ s, sumC x y c = s := ⟨_, rfl⟩
  rw [hs, hk] at ha ⊢
  clear hs hk
  go_enter Try.func103, Try.ntmps103
  go_wp2
  go_ret2
  exact ⟨rfl, rfl⟩
theorem sub_any (x y c : Int) (hx : 0 ≤ x) (hx1 : x < (BB : Int)) (hy : 0 ≤ y) (hy1 : y < (BB : Int)) (hc0 : 0 ≤ c) (hc : c ≤ 1) (w : World) :
    Calls Try.prog 105 #[.int .u64 x, .int .u64 y, .int .u64 c] w fun e w' => e = .returned (.tuple #[.int .u64 (difW x y c), .int .u64 (difC x y c)]) ∧ w = w' := by
  have ha := sub64 x y c hx hx1 hy hy1 hc0 hc
  obtain ⟨s, hs⟩ : ∃ s, difW x y c = s := ⟨_, rfl⟩
  obtain ⟨k, hk⟩ : ∃ s, difC x y c = s := ⟨_, rfl⟩
  rw [hs, hk] at ha ⊢
  clear hs hk
  go_enter Try.func105, Try.ntmps105
  go_wp2
  go_ret2
  exact ⟨rfl, rfl⟩

end Go.Proofs.Ythckboojmljeiaa.Bi
