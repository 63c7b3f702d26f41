/- Walks: nat.make, nat.norm, nat.setWord, nat.setUint64, nat.set. -/
import Derived.Test.YthckboojmljeiaaMem
namespace Go.Proofs.Ythckboojmljeiaa.Na
set_option linter.unusedVariables false
set_option linter.unusedSimpArgs false
open Go.RowKit Go.Proofs.YthckboojmljeiaaW.PrintWords Go.Proofs.Ythckboojmljeiaa.Pl Go.Proofs.Ythckboojmljeiaa.Dg Go.Proofs.Ythckboojmljeiaa.Mem

theorem info74 : (Try.prog.info? 74).map (fun i => (i.zero, i.size, i.bytes)) = some (some (.int .u64 0), 1, 8) := by kernel_rfl
/-- A make of words. -/
theorem run_mk (l c : Int) (w : World) (h0 : 0 ≤ l) (hlc : l ≤ c) (hc : c ≤ 1000000000) :
    (Instr.makeSlice 62 (.int .i64 l) (.int .i64 c)).run Try.prog w = .ok (.slice (some ⟨w.heap.size, 0, none⟩) l.toNat c.toNat) (w.alloc (.cells (madeCells #[.int .u64 0] c.toNat) 74)) := by
  obtain ⟨i, hi, hz, hs, hb⟩ := info_parts info74
  have := run_make (P := Try.prog) w 62 74 i (.int .u64 0) Try.underlying62 hi hz .i64 .i64 l c h0 hlc (by rw [hb]; omega) (by omega)
  rw [hs, Nat.mul_one] at this
  exact this
theorem make_room (A : Option Addr) (m cap : Nat) (n : Int) (w : World) (h0 : 0 ≤ n) (h : n ≤ cap) :
    Calls Try.prog 84 #[.slice A m cap, .int .i64 n] w fun e w' => e = .returned (.slice A n.toNat cap) ∧ w = w' := by
  go_enter Try.func84, Try.ntmps84
  go_wp2
  go_ret
  exact ⟨rfl, rfl⟩
theorem make_one (A : Option Addr) (m cap : Nat) (w : World) (h : (cap : Int) < 1) :
    Calls Try.prog 84 #[.slice A m cap, .int .i64 1] w fun e w' => e = .returned (.slice (some ⟨w.heap.size, 0, none⟩) 1 1) ∧ w.alloc (.cells (madeCells #[.int .u64 0] 1) 74) = w' := by
  have hmk := fun w => run_mk 1 1 w (by omega) (by omega) (by omega)
  go_enter Try.func84, Try.ntmps84
  go_wp2
  go_ret
  exact ⟨rfl, rfl⟩
theorem make_more (A : Option Addr) (m cap : Nat) (n : Int) (w : World) (h : (cap : Int) < n) (h1 : 1 < n) (hn : n ≤ 100000000) :
    Calls Try.prog 84 #[.slice A m cap, .int .i64 n] w fun e w' => e = .returned (.slice (some ⟨w.heap.size, 0, none⟩) n.toNat (n + 4).toNat) ∧ w.alloc (.cells (madeCells #[.int .u64 0] (n + 4).toNat) 74) = w' := by
  have hmk := fun w => run_mk n (n + 4) w (by omega) (by omega) (by omega)
  have h2 : (n == 1) = false := by rw [beq_eq_false_iff_ne]; omega
  go_enter Try.func84, Try.ntmps84
  go_wp2
  go_ret
  exact ⟨rfl, rfl⟩

/-- What make leaves: the old row where it has room, else a new one. -/
def Mk (w : World) (v : Value) (w' : World) (g : Nat) (cur : List Int) : Prop :=
  (w = w' ∧ v.ownBlock = some g) ∨ (w.heap.size = g ∧ ∃ c, cur = List.replicate c 0 ∧ w.alloc (.cells (madeCells #[.int .u64 0] c) 74) = w')
/-- The blocks of a value. -/
abbrev Own (v : Value) : Nat → Prop := fun k => v.ownBlock = some k
theorem Mk.chg {w w' : World} {v : Value} {g : Nat} {cur : List Int} (h : Mk w v w' g cur) : Chg (Own v) w w' := by
  rcases h with ⟨rfl, _⟩ | ⟨_, c, _, rfl⟩
  · exact Chg.refl _ _
  · exact (Chg.refl _ _).alloc _
theorem Mk.ok {w w' : World} {v : Value} {g : Nat} {cur : List Int} (h : Mk w v w' g cur) : Own v g ∨ w.heap.size ≤ g := by
  rcases h with ⟨_, h⟩ | ⟨h, _⟩
  · exact .inl h
  · exact .inr (by omega)
theorem Mk.fr {w w' : World} {v v' : Value} {g : Nat} {cur : List Int} (h : Mk w v w' g cur) (hv : v'.ownBlock = some g) : Fr w v v' := by
  rcases h with ⟨_, h⟩ | ⟨h, _⟩
  · exact .inl (hv.trans h.symm)
  · exact .inr ⟨g, hv, by omega⟩
theorem Mk.ap {w w' : World} {v u : Value} {g : Nat} {cur : List Int} (h : Mk w v w' g cur) (ha : Ap v u) (hu : ∀ k, u.ownBlock = some k → k < w.heap.size) : u.ownBlock ≠ some g := by
  intro e
  rcases h with ⟨_, h⟩ | ⟨h, _⟩
  · exact ha g h e
  · have := hu g e
    omega
theorem make_any {w : World} {v : Value} {l : List Int} (hv : Nt w v l) (n : Nat) (h0 : 0 < n) (hn : n ≤ 900000) :
    Calls Try.prog 84 #[v, .int .i64 (n : Int)] w fun e w' => ∃ g cur, e = .returned (.slice (some ⟨g, 0, none⟩) n cur.length) ∧ Rw w' g cur ∧ n ≤ cur.length ∧ cur.length ≤ 1000000 ∧ Mk w v w' g cur := by
  obtain ⟨A, cap, hA, hlc, hc⟩ := hv.slice
  by_cases hr : (n : Int) ≤ cap
  · rw [hA]
    refine (make_room A l.length cap (n : Int) w (by omega) hr).mono ?_
    rintro e w' ⟨rfl, rfl⟩
    rcases hv with ⟨rfl, rfl⟩ | ⟨g, cur, rfl, h1, h2, h3, h4⟩
    · simp only [Value.slice.injEq] at hA
      omega
    · simp only [Value.slice.injEq] at hA
      obtain ⟨rfl, _, rfl⟩ := hA
      exact ⟨g, cur, rfl, h1, by omega, h4, .inl ⟨rfl, rfl⟩⟩
  · rw [hA]
    by_cases h1 : n = 1
    · subst h1
      refine (make_one A l.length cap w (by omega)).mono ?_
      rintro e w' ⟨rfl, rfl⟩
      exact ⟨w.heap.size, List.replicate 1 0, rfl, Rw.made w 1, by simp, by simp, .inr ⟨rfl, 1, rfl, rfl⟩⟩
    · refine (make_more A l.length cap (n : Int) w (by omega) (by omega) (by omega)).mono ?_
      rintro e w' ⟨rfl, rfl⟩
      have e1 : ((n : Int) + 4).toNat = n + 4 := by omega
      rw [e1]
      exact ⟨w.heap.size, List.replicate (n + 4) 0, by simp, Rw.made w _, by simp, by simp; omega, .inr ⟨rfl, _, rfl, rfl⟩⟩

set_option maxHeartbeats 400000 in
theorem norm_any (g cap : Nat) (l : List Int) (w : World) (hl : l.length ≤ cap) (hn : (cap : Int) ≤ 1000000000)
    (hc : ∀ j, j < l.length → w.cell? ⟨g, j, none⟩ = some (.int .u64 (l.getD j 0))) :
    Calls Try.prog 86 #[.slice (some ⟨g, 0, none⟩) l.length cap] w fun e w' => ∃ i, e = .returned (.slice (some ⟨g, 0, none⟩) i cap) ∧ i ≤ l.length ∧ (∀ j, i ≤ j → l.getD j 0 = 0) ∧ (i = 0 ∨ l.getD (i - 1) 0 ≠ 0) ∧ w = w' := by
  have hC := Lib.hid hc
  clear hc
  go_enter Try.func86, Try.ntmps86
  go_wp2
  go_loop [3] (fun t => ∃ i : Nat, t = .int .i64 (i : Int) ∧ i ≤ l.length ∧ (∀ j, i ≤ j → l.getD j 0 = 0)) (fun t => (intOf t).toNat)
  case atStart => exact ⟨l.length, rfl, Nat.le_refl _, fun j hj => by rw [List.getD_eq_getElem?_getD, List.getElem?_eq_none hj]; rfl⟩
  case round =>
    obtain ⟨i, rfl, hi, hz⟩ := hrel
    have HZ := Lib.hid hz
    clear hz
    by_cases h0 : 0 < i
    · have hcell := hC.out (i - 1) (by omega)
      obtain ⟨x, hx⟩ : ∃ x, l.getD (i - 1) 0 = x := ⟨_, rfl⟩
      rw [hx] at hcell
      have HX := Lib.hid hx
      clear hx
      by_cases hz1 : x = 0
      · subst hz1
        go_wp2
        go_round
        case rel => exact ⟨i - 1, by congr 1; omega, by omega, fun j hj => (by by_cases e : j = i - 1; (· rw [e]; exact HX.out); exact HZ.out j (by omega))⟩
        case measure => simp [intOf]; omega
      · have hb : (x == 0) = false := by simpa using hz1
        have H1 := Lib.hid hz1
        clear hz1
        go_wp2
        go_ret
        exact ⟨i, rfl, hi, HZ.out, .inr (by rw [← List.getD_eq_getElem?_getD, HX.out]; exact H1.out), rfl⟩
    · go_wp2
      go_ret
      exact ⟨i, rfl, hi, HZ.out, .inl (by omega), rfl⟩

/-- What norm leaves: the digits of the number. -/
theorem norm_dg (g n : Nat) (cur : List Int) (w : World) (h : Rw w g cur) (hn : n ≤ cur.length) (hc : cur.length ≤ 1000000) (hd : DW (cur.take n)) :
    Calls Try.prog 86 #[.slice (some ⟨g, 0, none⟩) n cur.length] w fun e w' => ∃ v, e = .returned v ∧ Nt w v (dg (lv (BB : Int) (cur.take n)).toNat) ∧ v.ownBlock = some g ∧ w = w' := by
  have hl : (cur.take n).length = n := by rw [List.length_take]; omega
  have := norm_any g cur.length (cur.take n) w (by omega) (by omega) (fun j hj => by
    rw [h.cell j (by omega), List.getD_eq_getElem?_getD, List.getD_eq_getElem?_getD, List.getElem?_take, if_pos (by omega)])
  rw [hl] at this
  refine this.mono ?_
  rintro e w' ⟨i, rfl, hi, hz, h0, rfl⟩
  have ht := take_norm hd i (by omega) hz h0
  have hil : (dg (lv (BB : Int) (cur.take n)).toNat).length = i := by rw [← ht, List.length_take, hl]; omega
  refine ⟨_, rfl, .inr ⟨g, cur, by rw [hil], h, by omega, ?_, hc⟩, rfl, rfl⟩
  rw [hil, ← ht, List.take_take, Nat.min_eq_left (by omega)]
end Go.Proofs.Ythckboojmljeiaa.Na
