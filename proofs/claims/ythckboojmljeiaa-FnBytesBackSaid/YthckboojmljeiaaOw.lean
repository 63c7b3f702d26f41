/- A row of whole numbers that the call made itself. -/
import Derived.Test.YthckboojmljeiaaBe
namespace Go.Proofs.Ythckboojmljeiaa.Ow
set_option linter.unusedVariables false
set_option linter.unusedSimpArgs false
open Go.RowKit Go.Proofs.YthckboojmljeiaaW.PrintWords Go.Proofs.YthckboojmljeiaaW.PrintLast Go.Proofs.YthckboojmljeiaaW.PrintMore Go.Proofs.Ythckboojmljeiaa.Pl

/-- Block g holds the row xs, whole. -/
def Ow (k : IntKind) (e : TypeId) (B g m : Nat) (xs : List Int) (w : World) : Prop := w.ownsRow B e 1 (.slice (some ⟨g, 0, none⟩) m m) m (xs.map (Value.int k))
variable {k : IntKind} {e : TypeId} {B g m : Nat} {xs : List Int} {w w' : World}
theorem Ow.len (h : Ow k e B g m xs w) : xs.length = m := by have := h.1; simpa using this
theorem Ow.base (h : Ow k e B g m xs w) : B ≤ g ∧ g < w.heap.size := h.lt g rfl
theorem Ow.put (h : Ow k e B g m xs w) (i : Nat) (x : Int) : Ow k e B g m (xs.set i x) (w.setCell ⟨g, i, none⟩ (.int k x)) := by
  unfold Ow; rw [List.map_set]; exact (h.stored i (.int k x)).1
theorem Ow.cell (h : Ow k e B g m xs w) (i : Nat) (hi : i < m) : w.cell? ⟨g, i, none⟩ = some (.int k (xs.getD i 0)) := by
  have hl := h.len
  rw [h.cellAt i (by omega), List.getElem?_map, List.getD_eq_getElem?_getD, List.getElem?_eq_getElem (by omega)]
  rfl
theorem Ow.has (h : Ow k e B g m xs w) (i : Nat) (hi : i < m) : ∃ v, w.cell? ⟨g, i, none⟩ = some (.int k v) := ⟨_, h.cell i hi⟩
theorem Ow.free (h : Ow k e B g m xs w) (i : Nat) : w.frozen? ⟨g, i, none⟩ = false := h.frozenAt i
theorem Ow.drew (h : Ow k e B g m xs w) : Ow k e B g m xs w.drew := h
theorem Ow.drewN (h : Ow k e B g m xs w) (n : Nat) : Ow k e B g m xs (w.drewN n) := h
theorem Ow.kept (h : Ow k e B g m xs w) {row : Option Nat} (hg : w.grownBy w' row) (hr : some g ≠ row) : Ow k e B g m xs w' := World.ownsRow.kept h hg (.inr hr)
theorem Ow.below (h : Ow k e B g m xs w) (hb : Below w.heap.size w w') : Ow k e B g m xs w' := h.kept (grown_of_below hb none) (by simp)
theorem Ow.made (w : World) (k : IntKind) (e : TypeId) (m : Nat) (hm : m ≤ maxLen) : Ow k e w.heap.size w.heap.size m (List.replicate m 0) (w.alloc (.cells (madeCells #[.int k 0] m) e)) := by
  have := World.ownsRow_lit (e := e) (base := w.heap.size) (size := 1) w (madeCells #[.int k 0] m) m (Nat.le_refl _) hm (by simp [madeCells])
  rw [toList_madeCells_one] at this
  unfold Ow
  rw [List.map_replicate]
  exact this
theorem Ow.le (h : Ow k e B g m xs w) : m ≤ 9223372036854775807 := by
  rcases h.2 with ⟨h0, _⟩ | ⟨g, cap, cur, _, _, _, h1, h2, _⟩
  · cases h0
  · unfold maxLen at h2; omega
theorem Ow.c (h : Ow k e B g m xs w) : Kd.C (Kd.int k) w (Option.some ⟨g, 0, none⟩) m xs := by
  refine Kd.C_of_reads (h1 := fun _ => rfl) (d := (0 : Int)) ?_
  refine ⟨h.len, h.le, fun _ => ⟨_, rfl, fun j hj => ?_⟩⟩
  rw [add_plain]
  exact h.cell j hj
theorem grownBy_trans {w w1 w2 : World} {row : Option Nat} (h : w.grownBy w1 row) (h2 : w1.grownBy w2 row) : w.grownBy w2 row :=
  ⟨h2.os.trans h.os, h2.tape.trans h.tape, h2.output.trans h.output, Nat.le_trans h.size h2.size, fun k hk hr => (h2.block k (Nat.lt_of_lt_of_le hk h.size) hr).trans (h.block k hk hr)⟩
theorem grownBy_refl (w : World) (row : Option Nat) : w.grownBy w row := ⟨rfl, rfl, rfl, Nat.le_refl _, fun _ _ _ => rfl⟩
theorem Ow.grown (h : Ow k e B g m xs w) (i : Nat) (u : Value) : w.grownBy (w.setCell ⟨g, i, none⟩ u) (Option.some g) := (h.stored i u).2
theorem below_of_grown {B : Nat} {w w1 w2 : World} (h : Below B w w1) (hg : w1.grownBy w2 (Option.some g)) (hB : B ≤ w1.heap.size) (hr : B ≤ g) : Below B w w2 := h.grown hg hB (fun k hk => by cases hk; exact hr)

theorem run_mk8 (l : Int) (w : World) (h0 : 0 ≤ l) (hc : l ≤ 1000000000) :
    (Instr.makeSlice 22 (.int .i64 l) (.int .i64 l)).run Try.prog w = .ok (.slice (Option.some ⟨w.heap.size, 0, none⟩) l.toNat l.toNat) (w.alloc (.cells (madeCells #[.int .u8 0] l.toNat) 5)) := by
  obtain ⟨i, hi, hz, hs, hb⟩ := info_parts Be.infoU8
  have := run_make (P := Try.prog) w 22 5 i (.int .u8 0) Try.underlying22 hi hz .i64 .i64 l l h0 (by omega) (by rw [hb]; omega) (by omega)
  rw [hs, Nat.mul_one] at this
  exact this

set_option maxHeartbeats 400000 in
theorem putLittle (g o m n c : Nat) (v : Int) (xs : List Int) (w : World) (B : Nat) (hw : Ow .u8 5 B g m xs w) (h8 : 8 ≤ n) (ho : o + 8 ≤ m) (hv : 0 ≤ v ∧ v < 18446744073709551616) :
    Calls Try.prog 58 #[.slice (some ⟨g, o, none⟩) n c, .int .u64 v] w fun e w' => e = .returned (.tuple #[]) ∧ Ow .u8 5 B g m (lay xs o 8 (le8 v)) w' ∧ w.grownBy w' (some g) := by
  have HO := Lib.hid hw
  clear hw
  go_enter Try.func58, Try.ntmps58
  go_wp2
  go_loopw [4] (fun t wr => ∃ i : Nat, i ≤ 8 ∧ t = .int .i64 (i : Int) ∧ Hid (Ow .u8 5 B g m (lay xs o i (le8 v)) wr) ∧ Hid (w.grownBy wr (some g))) (fun t _ => 8 - (intOf t).toNat)
  case atStart => exact ⟨0, by omega, rfl, by rw [lay_zero]; exact HO.out, grownBy_refl _ _⟩
  case round =>
    obtain ⟨i, hi, rfl, HQ, HG⟩ := hrel
    by_cases hlt : i < 8
    · obtain ⟨u, hcell⟩ := HQ.out.has (o + i) (by omega)
      have hfree := HQ.out.free (o + i)
      have b1 : (i : Int) < (n : Int) := by omega
      go_wp2
      go_roundw
      case rel =>
        have h1 := HQ.out.put (o + i) ((le8 v).getD i 0)
        rw [lay_succ xs o i (le8 v) (by rw [le8_length]; exact hlt) (by rw [HO.out.len]; omega), le8_get v i hlt] at h1
        exact ⟨i + 1, by omega, by go_num, h1, grownBy_trans HG.out (HQ.out.grown _ _)⟩
      case measure => simp [intOf]; omega
    · have h8 : i = 8 := by omega
      subst h8
      go_wp2
      go_end0
      exact ⟨rfl, HQ.out, HG.out⟩

theorem le8_rev (v : Int) (i : Nat) (hi : i < 8) : (le8 v).reverse.getD i 0 = v / 2 ^ (56 - 8 * i) % 256 := by
  rw [getD_reverse _ i (by rw [le8_length]; exact hi), le8_length, le8_get v _ (by omega), show 8 * (8 - 1 - i) = 56 - 8 * i from by omega]

set_option maxHeartbeats 400000 in
theorem putBig (g o m n c : Nat) (v : Int) (xs : List Int) (w : World) (B : Nat) (hw : Ow .u8 5 B g m xs w) (h8 : 8 ≤ n) (ho : o + 8 ≤ m) (hv : 0 ≤ v ∧ v < 18446744073709551616) :
    Calls Try.prog 57 #[.slice (some ⟨g, o, none⟩) n c, .int .u64 v] w fun e w' => e = .returned (.tuple #[]) ∧ Ow .u8 5 B g m (lay xs o 8 (le8 v).reverse) w' ∧ w.grownBy w' (some g) := by
  have HO := Lib.hid hw
  clear hw
  go_enter Try.func57, Try.ntmps57
  go_wp2
  go_loopw [4] (fun t wr => ∃ i : Nat, i ≤ 8 ∧ t = .int .i64 (i : Int) ∧ Hid (Ow .u8 5 B g m (lay xs o i (le8 v).reverse) wr) ∧ Hid (w.grownBy wr (some g))) (fun t _ => 8 - (intOf t).toNat)
  case atStart => exact ⟨0, by omega, rfl, by rw [lay_zero]; exact HO.out, grownBy_refl _ _⟩
  case round =>
    obtain ⟨i, hi, rfl, HQ, HG⟩ := hrel
    by_cases hlt : i < 8
    · obtain ⟨u, hcell⟩ := HQ.out.has (o + i) (by omega)
      have hfree := HQ.out.free (o + i)
      have b1 : (i : Int) < (n : Int) := by omega
      have b2 : ((56 : Int) - 8 * (i : Int)).toNat = 56 - 8 * i := by omega
      go_wp2
      go_roundw
      case rel =>
        trace_state
        have h1 := HQ.out.put (o + i) ((le8 v).reverse.getD i 0)
        rw [lay_succ xs o i (le8 v).reverse (by rw [List.length_reverse, le8_length]; exact hlt) (by rw [HO.out.len]; omega), le8_rev v i hlt] at h1
        exact ⟨i + 1, by omega, by go_num, h1, grownBy_trans HG.out (HQ.out.grown _ _)⟩
      case measure => simp [intOf]; omega
    · have h8 : i = 8 := by omega
      subst h8
      go_wp2
      go_end0
      exact ⟨rfl, HQ.out, HG.out⟩
end Go.Proofs.Ythckboojmljeiaa.Ow
