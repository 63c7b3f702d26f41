/- Walks: nat.cmp by its printed text; Int.Sub of a number not below 0, and one of at most one word that does not take it below 0. -/
import Derived.Test.YthckboojmljeiaaMgf
import Derived.Test.YthckboojmljeiaaMgb
import Derived.Test.YthckboojmljeiaaPFnExactNumberWordsx2
namespace Go.Proofs.Ythckboojmljeiaa.Is
set_option linter.unusedVariables false
set_option linter.unusedSimpArgs false
set_option maxRecDepth 100000
open Go.RowKit Go.Proofs.YthckboojmljeiaaW.PrintWords Go.Proofs.YthckboojmljeiaaW.PrintLast Go.Proofs.YthckboojmljeiaaW.PrintMore Go.Proofs.Ythckboojmljeiaa.Pl Go.Proofs.Ythckboojmljeiaa.Dg Go.Proofs.Ythckboojmljeiaa.Mem Go.Proofs.Ythckboojmljeiaa.Na Go.Proofs.Ythckboojmljeiaa.Nb Go.Proofs.Ythckboojmljeiaa.Nu Go.Proofs.Ythckboojmljeiaa.In Go.Proofs.Ythckboojmljeiaa.Sm Go.Proofs.Ythckboojmljeiaa.Sd Go.Proofs.Ythckboojmljeiaa.Ia Go.Proofs.Ythckboojmljeiaa.PFnExactNumberWords

theorem cmp_l0 (k : Nat) (x y r : Int) : bigall_nat_cmp.l0 (k + 1) [x] [y] r 0 = bigall_nat_cmp.j2 k [x] [y] r 0 := by
  unfold bigall_nat_cmp.l0
  exact if_neg (by decide)
theorem cmp_j2 (k : Nat) (x y r : Int) (h : y ≤ x) : bigall_nat_cmp.j2 (k + 1) [x] [y] r 0 = if x > y then some 1 else some r := by
  have e1 : rd [x] 0 = x := rfl
  have e2 : rd [y] 0 = y := rfl
  have h2 : ¬ x < y := by omega
  simp [bigall_nat_cmp.j2, e1, e2, h2]
theorem cmp_one (x y : Int) (h : y ≤ x) : bigall_nat_cmp.f 5 [x] [y] = some (if x > y then 1 else 0) := by
  have e0 : wrap64 0 = 0 := w64 (by omega) (by omega)
  have e3 : bigall_nat_cmp.f 5 [x] [y] = bigall_nat_cmp.l0 4 [x] [y] 0 0 := by
    simp [bigall_nat_cmp.f, bigall_nat_cmp.j0, e0]
  rw [e3, cmp_l0, cmp_j2 _ _ _ _ h]
  split <;> rfl
theorem cmp_val (X Y : Nat) (hY : Y < BB) (hYX : Y ≤ X) : ∃ r, bigall_nat_cmp.f 5 (dg X) (dg Y) = some r ∧ 0 ≤ r := by
  unfold bigall_nat_cmp.f
  by_cases h0 : Y = 0
  · subst h0
    rw [dg_zero]
    by_cases hX : X = 0
    · subst hX
      rw [dg_zero]
      exact ⟨0, by simp [bigall_nat_cmp.j0], by omega⟩
    · have hl := dg_len_pos (n := X) (by omega)
      refine ⟨1, ?_, by omega⟩
      rw [if_neg (by simp only [List.length_nil, List.length_cons]; omega)]
      simp only [bigall_nat_cmp.j0]
      rw [if_pos trivial, if_neg (by simp only [List.length_nil, List.length_cons]; omega), if_pos (by simp only [List.length_nil, List.length_cons]; omega)]
  · rw [dg_one (n := Y) (by omega) hY]
    have hl := dg_len_pos (n := X) (by omega)
    by_cases h1 : (dg X).length = 1
    · have hXB : X < BB := by have := dg_lt X; rw [h1, Nat.pow_one] at this; exact this
      rw [dg_one (n := X) (by omega) hXB]
      refine ⟨if (X : Int) > (Y : Int) then 1 else 0, ?_, by split <;> omega⟩
      exact cmp_one (X : Int) (Y : Int) (by omega)
    · refine ⟨1, ?_, by omega⟩
      rw [if_neg (by simp only [List.length_nil, List.length_cons]; omega)]
      simp only [bigall_nat_cmp.j0]
      rw [if_pos trivial, if_neg (by simp only [List.length_nil, List.length_cons]; omega), if_pos (by simp only [List.length_nil, List.length_cons]; omega)]
theorem cmp_call {w : World} {v u : Value} {X Y : Nat} (h : Nt w v (dg X)) (hu : Nt w u (dg Y)) (hY : Y < BB) (hYX : Y ≤ X) :
    ∃ r, 0 ≤ r ∧ ∀ k n : Nat, Calls Try.prog 74 #[v, u] (w.drewN (k + n)) fun e w'' => e = .returned (.int .i64 r) ∧ ∃ m, w'' = w.drewN (k + m) := by
  obtain ⟨r, hr, hr0⟩ := cmp_val X Y hY hYX
  obtain ⟨A, c, rfl, hlc, hC⟩ := h.c
  obtain ⟨B, d, rfl, hld, hD⟩ := hu.c
  refine ⟨r, hr0, fun k n => ?_⟩
  refine (bigall_nat_cmp.calls 5 A c (dg X) B d (dg Y) r (w.drewN (k + n)) hC hlc hD hld hr).mono ?_
  rintro e w' ⟨rfl, m, rfl⟩
  exact ⟨rfl, n + m, by rw [World.drewN_drewN, Nat.add_assoc]⟩

theorem upd_same {w wd w' : World} {p : Nat} {v : Value} {z : Int} (hh : wd.heap = w.heap) (h1 : wd.os = w.os) (h2 : wd.tape = w.tape) (h3 : wd.output = w.output) (h : Upd wd p v z w') : Upd w p v z w' := by
  obtain ⟨v', i1, i2, i3⟩ := h
  refine ⟨v', i1, ⟨i2.os.trans h1, i2.tape.trans h2, i2.output.trans h3, by rw [← hh]; exact i2.size, by rw [← hh]; exact i2.block⟩, ?_⟩
  unfold Fr at i3 ⊢
  rw [← hh]
  exact i3

set_option maxRecDepth 100000 in
set_option maxHeartbeats 2000000 in
theorem intSub_neg {w : World} {p q : Nat} {v u : Value} {X Y : Nat} (h : Iz w p v (X : Int)) (hq : Iz w q u (-(Y : Int))) (ha : Ap v u) (hY0 : 0 < Y) (hY : Y < BB) (hl : (dg X).length ≤ 800000) :
    Calls Try.prog 63 #[.pointer (some ⟨p, 0, none⟩), .pointer (some ⟨p, 0, none⟩), .pointer (some ⟨q, 0, none⟩)] w fun e w' => e = .returned (.pointer (some ⟨p, 0, none⟩)) ∧ Upd w p v ((X + Y : Nat) : Int) w' := by
  have HI := Lib.hid h
  have HQ := Lib.hid hq
  have h0 := h.neg0
  have h1 := h.abs1
  have hq0 := hq.neg0
  have hq1 := hq.abs1
  have h2 : Nt w v (dg X) := h.2
  have hq2 : Nt w u (dg Y) := by have := hq.2; rwa [Int.natAbs_neg, Int.natAbs_natCast] at this
  have HS := Lib.hid (fun k => add_any (w := (w.drewN k).drew) h2 hq2 ha hY hl)
  rw [show decide ((X : Int) < 0) = false from decide_eq_false (by omega)] at h0
  rw [show decide (-(Y : Int) < 0) = true from decide_eq_true (by omega)] at hq0
  obtain ⟨A, c, rfl, _⟩ := h2.slice
  obtain ⟨B, d, rfl, _⟩ := hq2.slice
  clear h h2 hq hq2 ha hY hY0
  go_enter Try.func63, Try.ntmps63
  go_wp2_with fail
  go_quiet (fail)
  go_wp2_with fail
  go_region_law (first | (go_simp; go_at_call 73; refine (HS.out nq).mono ?_; rintro e w1 ⟨v', rfl, h2, h3, h4⟩; obtain ⟨A', cc, rfl, _, _⟩ := h2.slice; have hi : It (w.drewN nq).drew p (.slice A (dg X).length c) (decide ((X : Int) < 0)) (dg X) := HI.out; obtain ⟨c0, c1, f0, f1⟩ := head_cell (head_kept hi h3); have HU := Lib.hid (upd_pos hi h2 h3 h4); rw [show decide ((X : Int) < 0) = false from decide_eq_false (by omega)] at c0; clear h2 h3 h4 hi))
  all_goals
    by_cases hz : (0 : Int) < ((dg (X + Y)).length : Int)
    · go_wp2_with fail
      go_ret
      refine ⟨rfl, ?_⟩
      have hU := upd_dd HU.out
      first
        | exact hU
        | (rw [Int.natAbs_natCast]; exact hU)
        | (rw [Int.natCast_add] at hU; exact hU)
    · go_wp2_with fail
      go_ret
      refine ⟨rfl, ?_⟩
      have hU := upd_dd HU.out
      first
        | exact hU
        | (rw [Int.natAbs_natCast]; exact hU)
        | (rw [Int.natCast_add] at hU; exact hU)

set_option maxRecDepth 100000 in
set_option maxHeartbeats 2000000 in
theorem intSub_pos {w : World} {p q : Nat} {v u : Value} {X Y : Nat} (h : Iz w p v (X : Int)) (hq : Iz w q u (Y : Int)) (ha : Ap v u) (hY : Y < BB) (hYX : Y ≤ X) :
    Calls Try.prog 63 #[.pointer (some ⟨p, 0, none⟩), .pointer (some ⟨p, 0, none⟩), .pointer (some ⟨q, 0, none⟩)] w fun e w' => e = .returned (.pointer (some ⟨p, 0, none⟩)) ∧ Upd w p v ((X - Y : Nat) : Int) w' := by
  have HI := Lib.hid h
  have HQ := Lib.hid hq
  have h0 := h.neg0
  have h1 := h.abs1
  have hq0 := hq.neg0
  have hq1 := hq.abs1
  have h2 : Nt w v (dg X) := h.2
  have hq2 : Nt w u (dg Y) := hq.2
  have HS := Lib.hid (fun k => sub_any (w := (w.drewN k).drew) h2 hq2 ha hY hYX)
  obtain ⟨r, hr0, hcmp⟩ := cmp_call h2 hq2 hY hYX
  have HC := Lib.hid hcmp
  rw [show decide ((X : Int) < 0) = false from decide_eq_false (by omega)] at h0
  rw [show decide ((Y : Int) < 0) = false from decide_eq_false (by omega)] at hq0
  obtain ⟨A, c, rfl, _⟩ := h2.slice
  obtain ⟨B, d, rfl, _⟩ := hq2.slice
  obtain ⟨Z, hZ⟩ : ∃ Z, X - Y = Z := ⟨_, rfl⟩
  rw [hZ] at HS ⊢
  clear h h2 hq hq2 ha hY hYX hcmp hZ
  go_enter Try.func63, Try.ntmps63
  go_wp2_with fail
  go_quiet (fail)
  go_wp2_with fail
  go_quiet (first | (go_at_call 74; with_reducible exact HC.out _ _))
  go_wp2_with fail
  go_region_law (first | (go_simp; go_at_call 75; refine (HS.out _).mono ?_; rintro e w1 ⟨v', rfl, h2, h3, h4⟩; obtain ⟨A', cc, rfl, _, _⟩ := h2.slice; obtain ⟨c0, c1, f0, f1⟩ := head_cell (head_kept (p := p) (neg := decide ((X : Int) < 0)) (l := dg X) (by exact HI.out) h3); have HU := Lib.hid (upd_pos (p := p) (neg := decide ((X : Int) < 0)) (l := dg X) (by exact HI.out) h2 h3 h4); rw [show decide ((X : Int) < 0) = false from decide_eq_false (by omega)] at c0; clear h2 h3 h4))
  all_goals
    by_cases hz : (0 : Int) < ((dg Z).length : Int)
    · go_wp2_with fail
      go_ret
      exact ⟨rfl, upd_dd HU.out⟩
    · go_wp2_with fail
      go_ret
      exact ⟨rfl, upd_dd HU.out⟩
end Go.Proofs.Ythckboojmljeiaa.Is
