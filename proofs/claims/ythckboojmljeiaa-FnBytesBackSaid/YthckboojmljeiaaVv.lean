/- Walks: addVV, subVV at one word; addVW, subVW; rshVU. -/
import Derived.Test.YthckboojmljeiaaNa
import Derived.Test.YthckboojmljeiaaBi
import Derived.Lib.Builder
namespace Go.Proofs.Ythckboojmljeiaa.Vv
set_option linter.unusedVariables false
set_option linter.unusedSimpArgs false
open Go.RowKit Go.Proofs.YthckboojmljeiaaW.PrintWords Go.Proofs.Ythckboojmljeiaa.Pl Go.Proofs.Ythckboojmljeiaa.Dg Go.Proofs.Ythckboojmljeiaa.Mem Go.Proofs.Ythckboojmljeiaa.Na Go.Proofs.Ythckboojmljeiaa.Bi

theorem neq_same (a : Addr) (w : World) : (binOp .neq 99 (.pointer (some a)) (.pointer (some a))).run Try.prog w = .ok (.bool false) w := by
  obtain ⟨i, hi, _⟩ := info_parts info74
  exact Lib.run_neq_ptr_same w a Try.underlying99 hi
theorem run_neq_ptr_other {P : Program} (w : World) {tp te : TypeId} {j : TypeInfo} {a b : Addr} {ca cb : Array Value} {ta tb : TypeId} (hp : P.underlying tp = some (.pointer te)) (hte : P.info? te = some j) (hsz : j.size ≠ 0)
    (hne : a ≠ b) (ha : w.heap[a.block]? = some (.cells ca ta (0, 0))) (hb : w.heap[b.block]? = some (.cells cb tb (0, 0))) :
    (binOp .neq tp (.pointer (some a)) (.pointer (some b))).run P w = .ok (.bool true) w := by
  have h : ∀ d : Nat, (Op.equalIn (d + 1) tp (.pointer (some a)) (.pointer (some b))).run P w = .ok false w := fun d => by
    simp [Op.equalIn, run_underlying hp, sizeOf, typeInfo, hte, hsz, run_sameAddr_other w hne ha hb]
  simp only [binOp]
  simp [Op.equal, Op.maxDepth, h 9999]
theorem neq_other {w : World} {g g' o o' : Nat} {cur cur' : List Int} (hne : g ≠ g') (h : Rw w g cur) (h' : Rw w g' cur') : (binOp .neq 99 (.pointer (some ⟨g, o, none⟩)) (.pointer (some ⟨g', o', none⟩))).run Try.prog w = .ok (.bool true) w := by
  obtain ⟨i, hi, _, hs, _⟩ := info_parts info74
  exact run_neq_ptr_other w Try.underlying99 hi (by rw [hs]; decide) (by simp [hne]) h h'

set_option maxHeartbeats 400000 in
theorem addVVg (gz gx gy cz cx cy : Nat) (x y u : Int) (w : World) (hx : w.cell? ⟨gx, 0, none⟩ = some (.int .u64 x)) (hy : w.cell? ⟨gy, 0, none⟩ = some (.int .u64 y)) (hz : w.cell? ⟨gz, 0, none⟩ = some (.int .u64 u)) (hf : w.frozen? ⟨gz, 0, none⟩ = false)
    (hx0 : 0 ≤ x) (hy0 : 0 ≤ y) :
    Calls Try.prog 102 #[.slice (some ⟨gz, 0, none⟩) 1 cz, .slice (some ⟨gx, 0, none⟩) 1 cx, .slice (some ⟨gy, 0, none⟩) 1 cy] w fun e w' =>
      e = .returned (.int .u64 (sumC x y 0)) ∧ ∃ q, w' = (w.setCell ⟨gz, 0, none⟩ (.int .u64 (sumW x y 0))).drewN q := by
  have H := Lib.hid (fun w => add_any x y 0 hx0 hy0 (by omega) (by omega) w)
  obtain ⟨s, hs⟩ : ∃ s, sumW x y 0 = s := ⟨_, rfl⟩
  obtain ⟨k, hk⟩ : ∃ s, sumC x y 0 = s := ⟨_, rfl⟩
  rw [hs, hk] at H ⊢
  clear hs hk
  have HQ := Lib.hid (fun n => ((H.out (w.drewN n)).mono (fun e w' h => ⟨h.1, h.2.symm⟩) : Calls Try.prog 103 #[.int .u64 x, .int .u64 y, .int .u64 0] (w.drewN n) fun e w' => e = .returned (.tuple #[.int .u64 s, .int .u64 k]) ∧ w' = w.drewN n))
  clear H
  go_enter Try.func102, Try.ntmps102
  go_wp2_with fail
  refine wp_loop_rounds 2 ?_
  rw [rounds_succ]
  go_wp2_with fail
  go_quiet ((go_at_call 103; exact Calls.quiet_of_same (HQ.out _)))
  go_wp2_with fail
  rw [rounds_succ]
  go_wp2_with fail
  go_ret
  exact ⟨rfl, _, rfl⟩
set_option maxHeartbeats 400000 in
theorem subVVg (gz gx gy cz cx cy : Nat) (x y u : Int) (w : World) (hx : w.cell? ⟨gx, 0, none⟩ = some (.int .u64 x)) (hy : w.cell? ⟨gy, 0, none⟩ = some (.int .u64 y)) (hz : w.cell? ⟨gz, 0, none⟩ = some (.int .u64 u)) (hf : w.frozen? ⟨gz, 0, none⟩ = false)
    (hx0 : 0 ≤ x) (hx1 : x < (BB : Int)) (hy0 : 0 ≤ y) (hy1 : y < (BB : Int)) :
    Calls Try.prog 104 #[.slice (some ⟨gz, 0, none⟩) 1 cz, .slice (some ⟨gx, 0, none⟩) 1 cx, .slice (some ⟨gy, 0, none⟩) 1 cy] w fun e w' =>
      e = .returned (.int .u64 (difC x y 0)) ∧ ∃ q, w' = (w.setCell ⟨gz, 0, none⟩ (.int .u64 (difW x y 0))).drewN q := by
  have H := Lib.hid (fun w => sub_any x y 0 hx0 hx1 hy0 hy1 (by omega) (by omega) w)
  obtain ⟨s, hs⟩ : ∃ s, difW x y 0 = s := ⟨_, rfl⟩
  obtain ⟨k, hk⟩ : ∃ s, difC x y 0 = s := ⟨_, rfl⟩
  rw [hs, hk] at H ⊢
  clear hs hk hx1 hy1
  have HQ := Lib.hid (fun n => ((H.out (w.drewN n)).mono (fun e w' h => ⟨h.1, h.2.symm⟩) : Calls Try.prog 105 #[.int .u64 x, .int .u64 y, .int .u64 0] (w.drewN n) fun e w' => e = .returned (.tuple #[.int .u64 s, .int .u64 k]) ∧ w' = w.drewN n))
  clear H
  go_enter Try.func104, Try.ntmps104
  go_wp2_with fail
  refine wp_loop_rounds 2 ?_
  rw [rounds_succ]
  go_wp2_with fail
  go_quiet ((go_at_call 105; exact Calls.quiet_of_same (HQ.out _)))
  go_wp2_with fail
  rw [rounds_succ]
  go_wp2_with fail
  go_ret
  exact ⟨rfl, _, rfl⟩
theorem addVV (gz gx gy cz cx cy : Nat) (x y u : Int) (w : World) (hx : w.cell? ⟨gx, 0, none⟩ = some (.int .u64 x)) (hy : w.cell? ⟨gy, 0, none⟩ = some (.int .u64 y)) (hz : w.cell? ⟨gz, 0, none⟩ = some (.int .u64 u)) (hf : w.frozen? ⟨gz, 0, none⟩ = false)
    (hx0 : 0 ≤ x) (hy0 : 0 ≤ y) :
    Calls Try.prog 92 #[.slice (some ⟨gz, 0, none⟩) 1 cz, .slice (some ⟨gx, 0, none⟩) 1 cx, .slice (some ⟨gy, 0, none⟩) 1 cy] w fun e w' =>
      e = .returned (.int .u64 (sumC x y 0)) ∧ ∃ q, w' = (w.setCell ⟨gz, 0, none⟩ (.int .u64 (sumW x y 0))).drewN q := by
  have H := Lib.hid (addVVg gz gx gy cz cx cy x y u w hx hy hz hf hx0 hy0)
  obtain ⟨s, hs⟩ : ∃ s, sumW x y 0 = s := ⟨_, rfl⟩
  obtain ⟨k, hk⟩ : ∃ s, sumC x y 0 = s := ⟨_, rfl⟩
  rw [hs, hk] at H ⊢
  clear hs hk hx hy hz hf
  go_enter Try.func92, Try.ntmps92
  go_wp2_with fail
  refine H.out.mono ?_
  rintro e w1 ⟨rfl, hq⟩
  have HQ := Lib.hid hq
  clear hq
  go_wp2
  go_ret
  exact ⟨rfl, HQ.out⟩

theorem subVV (gz gx gy cz cx cy : Nat) (x y u : Int) (w : World) (hx : w.cell? ⟨gx, 0, none⟩ = some (.int .u64 x)) (hy : w.cell? ⟨gy, 0, none⟩ = some (.int .u64 y)) (hz : w.cell? ⟨gz, 0, none⟩ = some (.int .u64 u)) (hf : w.frozen? ⟨gz, 0, none⟩ = false)
    (hx0 : 0 ≤ x) (hx1 : x < (BB : Int)) (hy0 : 0 ≤ y) (hy1 : y < (BB : Int)) :
    Calls Try.prog 94 #[.slice (some ⟨gz, 0, none⟩) 1 cz, .slice (some ⟨gx, 0, none⟩) 1 cx, .slice (some ⟨gy, 0, none⟩) 1 cy] w fun e w' =>
      e = .returned (.int .u64 (difC x y 0)) ∧ ∃ q, w' = (w.setCell ⟨gz, 0, none⟩ (.int .u64 (difW x y 0))).drewN q := by
  have H := Lib.hid (subVVg gz gx gy cz cx cy x y u w hx hy hz hf hx0 hx1 hy0 hy1)
  obtain ⟨s, hs⟩ : ∃ s, difW x y 0 = s := ⟨_, rfl⟩
  obtain ⟨k, hk⟩ : ∃ s, difC x y 0 = s := ⟨_, rfl⟩
  rw [hs, hk] at H ⊢
  clear hs hk hx hy hz hf
  go_enter Try.func94, Try.ntmps94
  go_wp2_with fail
  refine H.out.mono ?_
  rintro e w1 ⟨rfl, hq⟩
  have HQ := Lib.hid hq
  clear hq
  go_wp2
  go_ret
  exact ⟨rfl, HQ.out⟩

end Go.Proofs.Ythckboojmljeiaa.Vv
