/- Walks: Int.Lsh by 64, Int.Add of numbers not below 0. -/
import Derived.Test.YthckboojmljeiaaIn
import Derived.Test.YthckboojmljeiaaLs
import Derived.Deep.RegionLaw
import Derived.BigQuiet
import Derived.Deep.QuietTactic
namespace Go.Proofs.Ythckboojmljeiaa.Ia
set_option linter.unusedVariables false
set_option linter.unusedSimpArgs false
open Go.RowKit Go.Proofs.YthckboojmljeiaaW.PrintWords Go.Proofs.Ythckboojmljeiaa.Pl Go.Proofs.Ythckboojmljeiaa.Dg Go.Proofs.Ythckboojmljeiaa.Mem Go.Proofs.Ythckboojmljeiaa.Na Go.Proofs.Ythckboojmljeiaa.Nb Go.Proofs.Ythckboojmljeiaa.Nu Go.Proofs.Ythckboojmljeiaa.In Go.Proofs.Ythckboojmljeiaa.Ls Go.Proofs.Ythckboojmljeiaa.Sm

theorem upd_pos {w w1 : World} {p : Nat} {neg : Bool} {v v' : Value} {l : List Int} {Z : Nat} (h : It w p v neg l) (h1 : Nt w1 v' (dg Z)) (hc : Chg (Own v) w w1) (hf : Fr w v v') :
    Upd w p v (Z : Int) ((w1.setCell ⟨p, 1, none⟩ v').setCell ⟨p, 0, none⟩ (.bool false)) := by
  have := upd_of (z := (Z : Int)) h h1 hc hf (by rw [Int.natAbs_natCast])
  rwa [show decide ((Z : Int) < 0) = false from decide_eq_false (by omega)] at this

theorem upd_dd {w w' : World} {p : Nat} {v : Value} {z : Int} {k : Nat} (h : Upd (w.drewN k).drew p v z w') : Upd w p v z w' := by
  obtain ⟨v', h1, h2, h3⟩ := h
  exact ⟨v', h1, ⟨h2.os, h2.tape, h2.output, h2.size, h2.block⟩, h3⟩
set_option maxRecDepth 100000 in
theorem intLsh {w : World} {p : Nat} {v : Value} {X : Nat} (h : Iz w p v (X : Int)) (hl : (dg X).length ≤ 800000) :
    Calls Try.prog 54 #[.pointer (some ⟨p, 0, none⟩), .pointer (some ⟨p, 0, none⟩), .int .u64 64] w fun e w' => e = .returned (.pointer (some ⟨p, 0, none⟩)) ∧ Upd w p v ((X * BB : Nat) : Int) w' := by
  have HI := Lib.hid h
  have h0 := h.neg0
  have h1 := h.abs1
  have h2 : Nt w.drew v (dg X) := h.2
  have HS := Lib.hid (lsh_any h2 hl)
  rw [show decide ((X : Int) < 0) = false from decide_eq_false (by omega)] at h0
  obtain ⟨A, c, rfl, _⟩ := h.2.slice
  rw [Int.natAbs_natCast] at h1 HI HS
  clear h h2
  go_enter Try.func54, Try.ntmps54
  go_wp2_with fail
  go_region_law (first | (go_simp; go_at_call 72; refine HS.out.mono ?_; rintro e w1 ⟨v', rfl, h2, h3, h4⟩; obtain ⟨A', cc, rfl, _, _⟩ := h2.slice; obtain ⟨c0, c1, f0, f1⟩ := head_cell (head_kept HI.out.drew h3); have HU := Lib.hid (upd_pos HI.out.drew h2 h3 h4); rw [show decide ((X : Int) < 0) = false from decide_eq_false (by omega)] at c0; clear h2 h3 h4))
  all_goals
    go_wp2
    go_ret
    exact ⟨rfl, upd_drew HU.out⟩

set_option maxRecDepth 100000 in
set_option maxHeartbeats 2000000 in
theorem intAdd {w : World} {p q : Nat} {v u : Value} {X Y : Nat} (h : Iz w p v (X : Int)) (hq : Iz w q u (Y : Int)) (ha : Ap v u) (hY : Y < BB) (hl : (dg X).length ≤ 800000) :
    Calls Try.prog 55 #[.pointer (some ⟨p, 0, none⟩), .pointer (some ⟨p, 0, none⟩), .pointer (some ⟨q, 0, none⟩)] w fun e w' => e = .returned (.pointer (some ⟨p, 0, none⟩)) ∧ Upd w p v ((X + Y : Nat) : Int) w' := by
  have HI := Lib.hid h
  have HQ := Lib.hid hq
  have h0 := h.neg0
  have h1 := h.abs1
  have hq0 := hq.neg0
  have hq1 := hq.abs1
  have h2 : Nt w v (dg X) := h.2
  have hq2 : Nt w u (dg Y) := hq.2
  have HS := Lib.hid (fun k => add_any (w := (w.drewN k).drew) h2 hq2 ha hY hl)
  rw [show decide ((X : Int) < 0) = false from decide_eq_false (by omega)] at h0
  rw [show decide ((Y : Int) < 0) = false from decide_eq_false (by omega)] at hq0
  obtain ⟨A, c, rfl, _⟩ := h.2.slice
  obtain ⟨B, d, rfl, _⟩ := hq.2.slice
  rw [Int.natAbs_natCast] at h1 HI HS
  rw [Int.natAbs_natCast] at hq1 HQ HS
  clear h h2 hq hq2 ha hY
  go_enter Try.func55, Try.ntmps55
  go_wp2_with fail
  go_quiet (fail)
  go_wp2_with fail
  go_region_law (first | (go_simp; go_at_call 73; refine (HS.out nq).mono ?_; rintro e w1 ⟨v', rfl, h2, h3, h4⟩; obtain ⟨A', cc, rfl, _, _⟩ := h2.slice; have hi : It (w.drewN nq).drew p (.slice A (dg X).length c) (decide ((X : Int) < 0)) (dg X) := HI.out; obtain ⟨c0, c1, f0, f1⟩ := head_cell (head_kept hi h3); have HU := Lib.hid (upd_pos hi h2 h3 h4); rw [show decide ((X : Int) < 0) = false from decide_eq_false (by omega)] at c0; clear h2 h3 h4 hi))
  all_goals
    by_cases hz : (0 : Int) < ((dg (X + Y)).length : Int)
    · go_wp2_with fail
      go_ret
      refine ⟨rfl, ?_⟩
      have hU := upd_dd HU.out
      first
        | exact hU
        | (rw [Int.natAbs_natCast]; exact hU)
        | (rw [Int.natCast_add] at hU; exact hU)
    · go_wp2_with fail
      go_ret
      refine ⟨rfl, ?_⟩
      have hU := upd_dd HU.out
      first
        | exact hU
        | (rw [Int.natAbs_natCast]; exact hU)
        | (rw [Int.natCast_add] at hU; exact hU)
end Go.Proofs.Ythckboojmljeiaa.Ia
