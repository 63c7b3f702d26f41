/- Out of the kit's print for FnApart, what it says of the reference's Sparse. -/
import Derived.Test.YthckboojmljeiaaPFnApartx0
namespace Go.Proofs.Ythckboojmljeiaa.PFnApart
open Go.RowKit Go.Proofs.YthckboojmljeiaaW.PrintWords Go.Proofs.YthckboojmljeiaaW.PrintLast Go.Proofs.YthckboojmljeiaaW.PrintMore
attribute [local go_sem] max2_int min2_int max_two min_two max_three min_three max_four min_four   -- for this text's walks alone
set_option linter.unusedVariables false
set_option linter.unusedSimpArgs false

/-! ### spec_Sparse: function 26 -/
def spec_Sparse.l0 : Nat → List Int → Int → Int → Int → Option (Bool)
  | 0, _, _, _, _ => none
  | k + 1, x0, x1, x5, x6 => if x6 < (x0.length : Int) then (if 0 ≤ x6 then (if (wrap64 (rd x0 x6)) = 0 then (spec_Sparse.l0 k x0 x1 x5 (wrap64 (x6 + 1))) else (if (Int.tmod (wrap64 (rd x0 x6)) 2) = 0 then (some false) else (if 0 ≤ (IntKind.u64.wrap (wrap64 (x1 - 1))) then (if (wrap64 (rd x0 x6)) ≥ (shl .i64 1 (IntKind.u64.wrap (wrap64 (x1 - 1)))) then (some false) else (if (wrap64 (-(wrap64 (rd x0 x6)))) ≥ (shl .i64 1 (IntKind.u64.wrap (wrap64 (x1 - 1)))) then (some false) else (if (wrap64 (x6 - x5)) < x1 then (some false) else (spec_Sparse.l0 k x0 x1 x6 (wrap64 (x6 + 1)))))) else (none)))) else (none)) else (some true)
def spec_Sparse.f (k : Nat) (l0 : List Int) (a1 : Int) : Option (Bool) := spec_Sparse.l0 k l0 a1 (wrap64 (-a1)) 0
theorem spec_Sparse.mono_l : ∀ k, (∀ y0 y1 y2 y3, LeO (spec_Sparse.l0 k y0 y1 y2 y3) (spec_Sparse.l0 (k + 1) y0 y1 y2 y3))
  | 0 => fun _ _ _ _ r h => by simp [spec_Sparse.l0] at h
  | k + 1 => by
    have ih0 := spec_Sparse.mono_l k
    · intro y0 y1 y2 y3
      unfold spec_Sparse.l0
      repeat' first
      | (with_reducible exact ih0 _ _ _ _)
      | (with_reducible exact LeO.refl _)
      | (with_reducible exact LeO.none _)
      | (with_reducible refine LeO.ite ?_ ?_)
      | (with_reducible refine LeO.bind ?_ (fun _ => ?_))
      | exact ih0 _ _ _ _
      | exact LeO.none _
      | refine LeO.ite ?_ ?_
      | refine LeO.bind ?_ (fun _ => ?_)
theorem spec_Sparse.mono : ∀ a0 a1 k, LeO (spec_Sparse.f k a0 a1) (spec_Sparse.f (k + 1) a0 a1) := by
  intro a0 a1 k
  have ih0 := spec_Sparse.mono_l k
  unfold spec_Sparse.f
  repeat' first
      | (with_reducible exact ih0 _ _ _ _)
      | (with_reducible exact LeO.refl _)
      | (with_reducible exact LeO.none _)
      | (with_reducible refine LeO.ite ?_ ?_)
      | (with_reducible refine LeO.bind ?_ (fun _ => ?_))
      | exact ih0 _ _ _ _
      | exact LeO.none _
      | refine LeO.ite ?_ ?_
      | refine LeO.bind ?_ (fun _ => ?_)
set_option maxHeartbeats 8000000 in
set_option maxRecDepth 100000 in
theorem spec_Sparse.calls (k : Nat) (A0 : Option Addr) (c0 : Nat) (l0 : List Int) (a1 : Int) (r : Bool) (w : World) (hr0 : Kd.C (Kd.int .i32) w A0 l0.length l0) (hc0 : l0.length ≤ c0) (h : spec_Sparse.f k l0 a1 = some r) :
    Calls Try.prog 26 #[.slice A0 l0.length c0, .int .i64 a1] w fun e w' => e = .returned (.bool r) ∧ Drawn0 w w' := by
  have HR0 := Aside0.mk hr0
  have HC0 := Aside0.mk hc0
  clear hr0 hc0
  have H : (spec_Sparse.l0 k l0 a1 (wrap64 (-a1)) 0) = some r := h
  clear h
  have H' := Aside0.mk H
  clear H
  go_enter Try.func26, Try.ntmps26
  go_wp2
  go_loopg [5, 6] k (fun kq v5 v6 w' => ∃ (x5_1 : Int) (x6_1 : Int), v5 = .int .i64 x5_1 ∧ v6 = .int .i64 x6_1 ∧ Aside0 (spec_Sparse.l0 kq l0 a1 x5_1 x6_1 = some r) ∧ Aside0 (kq ≤ k) ∧ Drawn0 w w')
  case atStart => exact ⟨(wrap64 (-a1)), (0), (by first | rfl | (simp; done) | (simp [*]; done)), (by first | rfl | (simp; done) | (simp [*]; done)), H', ⟨Nat.le_refl _⟩, by repeat (first | exact Drawn0.refl _ | apply Drawn0.step)⟩
  case round =>
    clear H'
    try clear c2
    try clear p2
    obtain ⟨x5_1, x6_1, rfl, rfl, HA, HK1, ⟨m1, rfl⟩⟩ := hrel
    cases gk with
    | zero => exact absurd HA.out (by simp [spec_Sparse.l0])
    | succ k1 =>
      have H := HA.out
      clear HA
      simp only [spec_Sparse.l0] at H
      by_cases c3 : x6_1 < (l0.length : Int)
      · rw [if_pos c3] at H
        have c3b0 : decide (x6_1 < (l0.length : Int)) = true := decide_eq_true c3
        clear c3
        by_cases c4 : 0 ≤ x6_1
        · rw [if_pos c4] at H
          have c4b0 : decide (0 ≤ x6_1) = true := decide_eq_true c4
          clear c4
          by_cases c5 : (wrap64 (rd l0 x6_1)) = 0
          · rw [if_pos c5] at H
            have c5b0 : ((wrap64 (rd l0 x6_1)) == 0) = true := beq_iff_eq.mpr c5
            have c5b1 : ((wrap64 (rd l0 x6_1)) != 0) = false := bne_eq_false_iff_eq.mpr c5
            clear c5
            have H' := Aside0.mk H
            clear H
            have p145 : 0 ≤ (x6_1 : Int) := of_decide_eq_true (by first | (with_reducible assumption) | assumption)
            have q145 : x6_1 < (l0.length : Int) := of_decide_eq_true (by first | (with_reducible assumption) | assumption)
            obtain ⟨ad145, e145, hx145_0⟩ := Kd.at_int HR0.out x6_1 p145 q145
            cases e145
            replace p145 := eq_true p145
            replace q145 := eq_true q145
            go_wp2
            go_roundg k1
            case measure => have := HK1.out; omega
            case rel => exact ⟨(x5_1), (wrap64 (x6_1 + 1)), (by first | rfl | (simp; done) | (simp [*]; done)), (by first | rfl | (simp; done) | (simp [*]; done)), H', ⟨by have := HK1.out; omega⟩, by repeat (first | exact Drawn0.refl _ | apply Drawn0.step)⟩
          · rw [if_neg c5] at H
            have c5b0 : ((wrap64 (rd l0 x6_1)) == 0) = false := beq_eq_false_iff_ne.mpr c5
            have c5b1 : ((wrap64 (rd l0 x6_1)) != 0) = true := bne_iff_ne.mpr c5
            by_cases c6 : (Int.tmod (wrap64 (rd l0 x6_1)) 2) = 0
            · rw [if_pos c6] at H
              have c6b0 : ((Int.tmod (wrap64 (rd l0 x6_1)) 2) == 0) = true := beq_iff_eq.mpr c6
              have c6b1 : ((Int.tmod (wrap64 (rd l0 x6_1)) 2) != 0) = false := bne_eq_false_iff_eq.mpr c6
              clear c6
              obtain rfl := Option.some.inj H
              have p145 : 0 ≤ (x6_1 : Int) := of_decide_eq_true (by first | (with_reducible assumption) | assumption)
              have q145 : x6_1 < (l0.length : Int) := of_decide_eq_true (by first | (with_reducible assumption) | assumption)
              obtain ⟨ad145, e145, hx145_0⟩ := Kd.at_int HR0.out x6_1 p145 q145
              cases e145
              replace p145 := eq_true p145
              replace q145 := eq_true q145
              go_wp2
              go_ret
              exact ⟨by first | rfl | (simp; done) | (simp [*]; done), by repeat (first | exact Drawn0.refl _ | apply Drawn0.step)⟩
            · rw [if_neg c6] at H
              have c6b0 : ((Int.tmod (wrap64 (rd l0 x6_1)) 2) == 0) = false := beq_eq_false_iff_ne.mpr c6
              have c6b1 : ((Int.tmod (wrap64 (rd l0 x6_1)) 2) != 0) = true := bne_iff_ne.mpr c6
              obtain ⟨ji7, hji7⟩ : ∃ j_ : Int, (IntKind.u64.wrap (wrap64 (a1 - 1))) = j_ := ⟨_, rfl⟩
              replace H : (if 0 ≤ (ji7) then (if (wrap64 (rd l0 x6_1)) ≥ (shl .i64 1 (ji7)) then (some false) else (if (wrap64 (-(wrap64 (rd l0 x6_1)))) ≥ (shl .i64 1 (ji7)) then (some false) else (if (wrap64 (x6_1 - x5_1)) < a1 then (some false) else (spec_Sparse.l0 k1 l0 a1 x6_1 (wrap64 (x6_1 + 1)))))) else (none)) = some r := by first | (rw [hji7] at H; exact H) | (simp only [hji7] at H ⊢; exact H)
              by_cases c8 : 0 ≤ (ji7)
              · rw [if_pos c8] at H
                have c8b0 := eq_true c8
                have c8b1 : decide (0 ≤ (ji7)) = true := decide_eq_true c8
                clear c8
                obtain ⟨ji9, hji9⟩ : ∃ j_ : Int, (shl .i64 1 (ji7)) = j_ := ⟨_, rfl⟩
                replace H : (if (wrap64 (rd l0 x6_1)) ≥ (ji9) then (some false) else (if (wrap64 (-(wrap64 (rd l0 x6_1)))) ≥ (ji9) then (some false) else (if (wrap64 (x6_1 - x5_1)) < a1 then (some false) else (spec_Sparse.l0 k1 l0 a1 x6_1 (wrap64 (x6_1 + 1)))))) = some r := by first | (rw [hji9] at H; exact H) | (simp only [hji9] at H ⊢; exact H)
                have hji9_ : (IntKind.i64.wrap (1 * 2 ^ min (ji7).toNat 64)) = ji9 := hji9
                have hji9z : (ji7) ≤ 64 → (IntKind.i64.wrap (1 * 2 ^ (ji7).toNat)) = ji9 := shl_small hji9
                have hji9u : (IntKind.i64.wrap (2 ^ min (ji7).toNat 64)) = ji9 := by have h_ := hji9_; rw [Int.one_mul] at h_; exact h_
                have hji9v : (ji7) ≤ 64 → (IntKind.i64.wrap (2 ^ (ji7).toNat)) = ji9 := fun hle_ => by have h_ := hji9z hle_; rw [Int.one_mul] at h_; exact h_
                have hji9y : (wrap64 (1 * 2 ^ min (ji7).toNat 64)) = ji9 := (i64_w _).symm.trans hji9_
                have hji9x : (ji7) ≤ 64 → (wrap64 (1 * 2 ^ (ji7).toNat)) = ji9 := fun h_ => (i64_w _).symm.trans (hji9z h_)
                by_cases c10 : (wrap64 (rd l0 x6_1)) ≥ (ji9)
                · rw [if_pos c10] at H
                  have c10b0 : decide ((ji9) ≤ (wrap64 (rd l0 x6_1))) = true := decide_eq_true c10
                  clear c10
                  obtain rfl := Option.some.inj H
                  have p145 : 0 ≤ (x6_1 : Int) := of_decide_eq_true (by first | (with_reducible assumption) | assumption)
                  have q145 : x6_1 < (l0.length : Int) := of_decide_eq_true (by first | (with_reducible assumption) | assumption)
                  obtain ⟨ad145, e145, hx145_0⟩ := Kd.at_int HR0.out x6_1 p145 q145
                  cases e145
                  replace p145 := eq_true p145
                  replace q145 := eq_true q145
                  go_wp2
                  go_ret
                  exact ⟨by first | rfl | (simp; done) | (simp only [← hji7, ← hji9] <;> (first | rfl | simp)) | (simp [*]; done), by repeat (first | exact Drawn0.refl _ | apply Drawn0.step)⟩
                · rw [if_neg c10] at H
                  have c10b0 : decide ((ji9) ≤ (wrap64 (rd l0 x6_1))) = false := decide_eq_false c10
                  clear c10
                  by_cases c13 : (wrap64 (-(wrap64 (rd l0 x6_1)))) ≥ (ji9)
                  · rw [if_pos c13] at H
                    have c13b0 : decide ((ji9) ≤ (wrap64 (-(wrap64 (rd l0 x6_1))))) = true := decide_eq_true c13
                    clear c13
                    obtain rfl := Option.some.inj H
                    have p145 : 0 ≤ (x6_1 : Int) := of_decide_eq_true (by first | (with_reducible assumption) | assumption)
                    have q145 : x6_1 < (l0.length : Int) := of_decide_eq_true (by first | (with_reducible assumption) | assumption)
                    obtain ⟨ad145, e145, hx145_0⟩ := Kd.at_int HR0.out x6_1 p145 q145
                    cases e145
                    replace p145 := eq_true p145
                    replace q145 := eq_true q145
                    go_wp2
                    go_ret
                    exact ⟨by first | rfl | (simp; done) | (simp only [← hji7, ← hji9] <;> (first | rfl | simp)) | (simp [*]; done), by repeat (first | exact Drawn0.refl _ | apply Drawn0.step)⟩
                  · rw [if_neg c13] at H
                    have c13b0 : decide ((ji9) ≤ (wrap64 (-(wrap64 (rd l0 x6_1))))) = false := decide_eq_false c13
                    clear c13
                    by_cases c14 : (wrap64 (x6_1 - x5_1)) < a1
                    · rw [if_pos c14] at H
                      have c14b0 : decide ((wrap64 (x6_1 - x5_1)) < a1) = true := decide_eq_true c14
                      clear c14
                      obtain rfl := Option.some.inj H
                      have p145 : 0 ≤ (x6_1 : Int) := of_decide_eq_true (by first | (with_reducible assumption) | assumption)
                      have q145 : x6_1 < (l0.length : Int) := of_decide_eq_true (by first | (with_reducible assumption) | assumption)
                      obtain ⟨ad145, e145, hx145_0⟩ := Kd.at_int HR0.out x6_1 p145 q145
                      cases e145
                      replace p145 := eq_true p145
                      replace q145 := eq_true q145
                      go_wp2
                      go_ret
                      exact ⟨by first | rfl | (simp; done) | (simp only [← hji7, ← hji9] <;> (first | rfl | simp)) | (simp [*]; done), by repeat (first | exact Drawn0.refl _ | apply Drawn0.step)⟩
                    · rw [if_neg c14] at H
                      have c14b0 : decide ((wrap64 (x6_1 - x5_1)) < a1) = false := decide_eq_false c14
                      clear c14
                      have H' := Aside0.mk H
                      clear H
                      have p145 : 0 ≤ (x6_1 : Int) := of_decide_eq_true (by first | (with_reducible assumption) | assumption)
                      have q145 : x6_1 < (l0.length : Int) := of_decide_eq_true (by first | (with_reducible assumption) | assumption)
                      obtain ⟨ad145, e145, hx145_0⟩ := Kd.at_int HR0.out x6_1 p145 q145
                      cases e145
                      replace p145 := eq_true p145
                      replace q145 := eq_true q145
                      go_wp2
                      go_roundg k1
                      case measure => have := HK1.out; omega
                      case rel => exact ⟨(x6_1), (wrap64 (x6_1 + 1)), (by first | rfl | (simp; done) | (simp [*]; done)), (by first | rfl | (simp; done) | (simp [*]; done)), H', ⟨by have := HK1.out; omega⟩, by repeat (first | exact Drawn0.refl _ | apply Drawn0.step)⟩
              · rw [if_neg c8] at H
                exact absurd H (by simp)
        · rw [if_neg c4] at H
          exact absurd H (by simp)
      · rw [if_neg c3] at H
        have c3b0 : decide (x6_1 < (l0.length : Int)) = false := decide_eq_false c3
        clear c3
        obtain rfl := Option.some.inj H
        go_wp2
        go_ret
        exact ⟨by first | rfl | (simp; done) | (simp [*]; done), by repeat (first | exact Drawn0.refl _ | apply Drawn0.step)⟩
end Go.Proofs.Ythckboojmljeiaa.PFnApart
