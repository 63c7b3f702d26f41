/- Out of the kit's print for FnSigned, what it says of the reference's OddWithin. -/
import Derived.Test.YthckboojmljeiaaPFnSignedx0
namespace Go.Proofs.Ythckboojmljeiaa.PFnSigned
open Go.RowKit Go.Proofs.YthckboojmljeiaaW.PrintWords Go.Proofs.YthckboojmljeiaaW.PrintLast Go.Proofs.YthckboojmljeiaaW.PrintMore
attribute [local go_sem] max2_int min2_int max_two min_two max_three min_three max_four min_four   -- for this text's walks alone
set_option linter.unusedVariables false
set_option linter.unusedSimpArgs false

/-! ### spec_OddWithin: function 32 -/
def spec_OddWithin.l0 : Nat → List Int → Int → Int → Option (Bool)
  | 0, _, _, _ => none
  | k + 1, x0, x1, x5 => if x5 < (x0.length : Int) then (if 0 ≤ x5 then (if (Int.tmod (wrap64 (rd x0 x5)) 2) = 0 then (some false) else (if 0 ≤ (IntKind.u64.wrap (wrap64 (x1 - 1))) then (if (wrap64 (rd x0 x5)) ≥ (shl .i64 1 (IntKind.u64.wrap (wrap64 (x1 - 1)))) then (some false) else (if (wrap64 (-(wrap64 (rd x0 x5)))) ≥ (shl .i64 1 (IntKind.u64.wrap (wrap64 (x1 - 1)))) then (some false) else (spec_OddWithin.l0 k x0 x1 (wrap64 (x5 + 1))))) else (none))) else (none)) else (some true)
def spec_OddWithin.f (k : Nat) (l0 : List Int) (a1 : Int) : Option (Bool) := spec_OddWithin.l0 k l0 a1 0
theorem spec_OddWithin.mono_l : ∀ k, (∀ y0 y1 y2, LeO (spec_OddWithin.l0 k y0 y1 y2) (spec_OddWithin.l0 (k + 1) y0 y1 y2))
  | 0 => fun _ _ _ r h => by simp [spec_OddWithin.l0] at h
  | k + 1 => by
    have ih0 := spec_OddWithin.mono_l k
    · intro y0 y1 y2
      unfold spec_OddWithin.l0
      repeat' first
      | (with_reducible exact ih0 _ _ _)
      | (with_reducible exact LeO.refl _)
      | (with_reducible exact LeO.none _)
      | (with_reducible refine LeO.ite ?_ ?_)
      | (with_reducible refine LeO.bind ?_ (fun _ => ?_))
      | exact ih0 _ _ _
      | exact LeO.none _
      | refine LeO.ite ?_ ?_
      | refine LeO.bind ?_ (fun _ => ?_)
theorem spec_OddWithin.mono : ∀ a0 a1 k, LeO (spec_OddWithin.f k a0 a1) (spec_OddWithin.f (k + 1) a0 a1) := by
  intro a0 a1 k
  have ih0 := spec_OddWithin.mono_l k
  unfold spec_OddWithin.f
  repeat' first
      | (with_reducible exact ih0 _ _ _)
      | (with_reducible exact LeO.refl _)
      | (with_reducible exact LeO.none _)
      | (with_reducible refine LeO.ite ?_ ?_)
      | (with_reducible refine LeO.bind ?_ (fun _ => ?_))
      | exact ih0 _ _ _
      | exact LeO.none _
      | refine LeO.ite ?_ ?_
      | refine LeO.bind ?_ (fun _ => ?_)
set_option maxHeartbeats 8000000 in
set_option maxRecDepth 100000 in
theorem spec_OddWithin.calls (k : Nat) (A0 : Option Addr) (c0 : Nat) (l0 : List Int) (a1 : Int) (r : Bool) (w : World) (hr0 : Kd.C (Kd.int .i32) w A0 l0.length l0) (hc0 : l0.length ≤ c0) (h : spec_OddWithin.f k l0 a1 = some r) :
    Calls Try.prog 32 #[.slice A0 l0.length c0, .int .i64 a1] w fun e w' => e = .returned (.bool r) ∧ Drawn0 w w' := by
  have HR0 := Aside0.mk hr0
  have HC0 := Aside0.mk hc0
  clear hr0 hc0
  have H : (spec_OddWithin.l0 k l0 a1 0) = some r := h
  clear h
  have H' := Aside0.mk H
  clear H
  go_enter Try.func32, Try.ntmps32
  go_wp2
  go_loopg [5] k (fun kq v5 w' => ∃ (x5_1 : Int), v5 = .int .i64 x5_1 ∧ Aside0 (spec_OddWithin.l0 kq l0 a1 x5_1 = some r) ∧ Aside0 (kq ≤ k) ∧ Drawn0 w w')
  case atStart => exact ⟨(0), (by first | rfl | (simp; done) | (simp [*]; done)), H', ⟨Nat.le_refl _⟩, by repeat (first | exact Drawn0.refl _ | apply Drawn0.step)⟩
  case round =>
    clear H'
    try clear p2
    obtain ⟨x5_1, rfl, HA, HK1, ⟨m1, rfl⟩⟩ := hrel
    cases gk with
    | zero => exact absurd HA.out (by simp [spec_OddWithin.l0])
    | succ k1 =>
      have H := HA.out
      clear HA
      simp only [spec_OddWithin.l0] at H
      by_cases c3 : x5_1 < (l0.length : Int)
      · rw [if_pos c3] at H
        have c3b0 : decide (x5_1 < (l0.length : Int)) = true := decide_eq_true c3
        clear c3
        by_cases c4 : 0 ≤ x5_1
        · rw [if_pos c4] at H
          have c4b0 : decide (0 ≤ x5_1) = true := decide_eq_true c4
          clear c4
          by_cases c5 : (Int.tmod (wrap64 (rd l0 x5_1)) 2) = 0
          · rw [if_pos c5] at H
            have c5b0 : ((Int.tmod (wrap64 (rd l0 x5_1)) 2) == 0) = true := beq_iff_eq.mpr c5
            have c5b1 : ((Int.tmod (wrap64 (rd l0 x5_1)) 2) != 0) = false := bne_eq_false_iff_eq.mpr c5
            clear c5
            obtain rfl := Option.some.inj H
            have p204 : 0 ≤ (x5_1 : Int) := of_decide_eq_true (by first | (with_reducible assumption) | assumption)
            have q204 : x5_1 < (l0.length : Int) := of_decide_eq_true (by first | (with_reducible assumption) | assumption)
            obtain ⟨ad204, e204, hx204_0⟩ := Kd.at_int HR0.out x5_1 p204 q204
            cases e204
            replace p204 := eq_true p204
            replace q204 := eq_true q204
            go_wp2
            go_ret
            exact ⟨by first | rfl | (simp; done) | (simp [*]; done), by repeat (first | exact Drawn0.refl _ | apply Drawn0.step)⟩
          · rw [if_neg c5] at H
            have c5b0 : ((Int.tmod (wrap64 (rd l0 x5_1)) 2) == 0) = false := beq_eq_false_iff_ne.mpr c5
            have c5b1 : ((Int.tmod (wrap64 (rd l0 x5_1)) 2) != 0) = true := bne_iff_ne.mpr c5
            obtain ⟨ji6, hji6⟩ : ∃ j_ : Int, (IntKind.u64.wrap (wrap64 (a1 - 1))) = j_ := ⟨_, rfl⟩
            replace H : (if 0 ≤ (ji6) then (if (wrap64 (rd l0 x5_1)) ≥ (shl .i64 1 (ji6)) then (some false) else (if (wrap64 (-(wrap64 (rd l0 x5_1)))) ≥ (shl .i64 1 (ji6)) then (some false) else (spec_OddWithin.l0 k1 l0 a1 (wrap64 (x5_1 + 1))))) else (none)) = some r := by first | (rw [hji6] at H; exact H) | (simp only [hji6] at H ⊢; exact H)
            by_cases c7 : 0 ≤ (ji6)
            · rw [if_pos c7] at H
              have c7b0 := eq_true c7
              have c7b1 : decide (0 ≤ (ji6)) = true := decide_eq_true c7
              clear c7
              obtain ⟨ji8, hji8⟩ : ∃ j_ : Int, (shl .i64 1 (ji6)) = j_ := ⟨_, rfl⟩
              replace H : (if (wrap64 (rd l0 x5_1)) ≥ (ji8) then (some false) else (if (wrap64 (-(wrap64 (rd l0 x5_1)))) ≥ (ji8) then (some false) else (spec_OddWithin.l0 k1 l0 a1 (wrap64 (x5_1 + 1))))) = some r := by first | (rw [hji8] at H; exact H) | (simp only [hji8] at H ⊢; exact H)
              have hji8_ : (IntKind.i64.wrap (1 * 2 ^ min (ji6).toNat 64)) = ji8 := hji8
              have hji8z : (ji6) ≤ 64 → (IntKind.i64.wrap (1 * 2 ^ (ji6).toNat)) = ji8 := shl_small hji8
              have hji8u : (IntKind.i64.wrap (2 ^ min (ji6).toNat 64)) = ji8 := by have h_ := hji8_; rw [Int.one_mul] at h_; exact h_
              have hji8v : (ji6) ≤ 64 → (IntKind.i64.wrap (2 ^ (ji6).toNat)) = ji8 := fun hle_ => by have h_ := hji8z hle_; rw [Int.one_mul] at h_; exact h_
              have hji8y : (wrap64 (1 * 2 ^ min (ji6).toNat 64)) = ji8 := (i64_w _).symm.trans hji8_
              have hji8x : (ji6) ≤ 64 → (wrap64 (1 * 2 ^ (ji6).toNat)) = ji8 := fun h_ => (i64_w _).symm.trans (hji8z h_)
              by_cases c9 : (wrap64 (rd l0 x5_1)) ≥ (ji8)
              · rw [if_pos c9] at H
                have c9b0 : decide ((ji8) ≤ (wrap64 (rd l0 x5_1))) = true := decide_eq_true c9
                clear c9
                obtain rfl := Option.some.inj H
                have p204 : 0 ≤ (x5_1 : Int) := of_decide_eq_true (by first | (with_reducible assumption) | assumption)
                have q204 : x5_1 < (l0.length : Int) := of_decide_eq_true (by first | (with_reducible assumption) | assumption)
                obtain ⟨ad204, e204, hx204_0⟩ := Kd.at_int HR0.out x5_1 p204 q204
                cases e204
                replace p204 := eq_true p204
                replace q204 := eq_true q204
                go_wp2
                go_ret
                exact ⟨by first | rfl | (simp; done) | (simp only [← hji6, ← hji8] <;> (first | rfl | simp)) | (simp [*]; done), by repeat (first | exact Drawn0.refl _ | apply Drawn0.step)⟩
              · rw [if_neg c9] at H
                have c9b0 : decide ((ji8) ≤ (wrap64 (rd l0 x5_1))) = false := decide_eq_false c9
                clear c9
                by_cases c12 : (wrap64 (-(wrap64 (rd l0 x5_1)))) ≥ (ji8)
                · rw [if_pos c12] at H
                  have c12b0 : decide ((ji8) ≤ (wrap64 (-(wrap64 (rd l0 x5_1))))) = true := decide_eq_true c12
                  clear c12
                  obtain rfl := Option.some.inj H
                  have p204 : 0 ≤ (x5_1 : Int) := of_decide_eq_true (by first | (with_reducible assumption) | assumption)
                  have q204 : x5_1 < (l0.length : Int) := of_decide_eq_true (by first | (with_reducible assumption) | assumption)
                  obtain ⟨ad204, e204, hx204_0⟩ := Kd.at_int HR0.out x5_1 p204 q204
                  cases e204
                  replace p204 := eq_true p204
                  replace q204 := eq_true q204
                  go_wp2
                  go_ret
                  exact ⟨by first | rfl | (simp; done) | (simp only [← hji6, ← hji8] <;> (first | rfl | simp)) | (simp [*]; done), by repeat (first | exact Drawn0.refl _ | apply Drawn0.step)⟩
                · rw [if_neg c12] at H
                  have c12b0 : decide ((ji8) ≤ (wrap64 (-(wrap64 (rd l0 x5_1))))) = false := decide_eq_false c12
                  clear c12
                  have H' := Aside0.mk H
                  clear H
                  have p204 : 0 ≤ (x5_1 : Int) := of_decide_eq_true (by first | (with_reducible assumption) | assumption)
                  have q204 : x5_1 < (l0.length : Int) := of_decide_eq_true (by first | (with_reducible assumption) | assumption)
                  obtain ⟨ad204, e204, hx204_0⟩ := Kd.at_int HR0.out x5_1 p204 q204
                  cases e204
                  replace p204 := eq_true p204
                  replace q204 := eq_true q204
                  go_wp2
                  go_roundg k1
                  case measure => have := HK1.out; omega
                  case rel => exact ⟨(wrap64 (x5_1 + 1)), (by first | rfl | (simp; done) | (simp [*]; done)), H', ⟨by have := HK1.out; omega⟩, by repeat (first | exact Drawn0.refl _ | apply Drawn0.step)⟩
            · rw [if_neg c7] at H
              exact absurd H (by simp)
        · rw [if_neg c4] at H
          exact absurd H (by simp)
      · rw [if_neg c3] at H
        have c3b0 : decide (x5_1 < (l0.length : Int)) = false := decide_eq_false c3
        clear c3
        obtain rfl := Option.some.inj H
        go_wp2
        go_ret
        exact ⟨by first | rfl | (simp; done) | (simp [*]; done), by repeat (first | exact Drawn0.refl _ | apply Drawn0.step)⟩
end Go.Proofs.Ythckboojmljeiaa.PFnSigned
