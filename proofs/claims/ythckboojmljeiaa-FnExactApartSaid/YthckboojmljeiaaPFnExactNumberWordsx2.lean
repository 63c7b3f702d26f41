-- PRINTED BY print.sh 35421559b90ae4d0a3588c463048766b98c2df88dd9212a6774a882060cdf62d: not written by this session
import Derived.Test.YthckboojmljeiaaPFnExactNumberWordsx0
namespace Go.Proofs.Ythckboojmljeiaa.PFnExactNumberWords
open Go.RowKit Go.Proofs.YthckboojmljeiaaW.PrintWords Go.Proofs.YthckboojmljeiaaW.PrintLast Go.Proofs.YthckboojmljeiaaW.PrintMore
attribute [local go_sem] max2_int min2_int max_two min_two max_three min_three max_four min_four   -- for this text's walks alone
set_option linter.unusedVariables false
set_option linter.unusedSimpArgs false

/-! ### bigall_nat_cmp: function 74 -/
mutual
def bigall_nat_cmp.j0 : Nat → List Int → List Int → Int → Int → Int → Bool → Option (Int)
  | 0, _, _, _, _, _, _ => none
  | k + 1, x0, x1, x4, x5, x6, x18 => if x18 = true then (if x5 < x6 then (some (-1)) else (if x5 > x6 then (some 1) else (some x4))) else (bigall_nat_cmp.l0 k x0 x1 x4 (wrap64 (x5 - 1)))
def bigall_nat_cmp.j2 : Nat → List Int → List Int → Int → Int → Option (Int)
  | 0, _, _, _, _ => none
  | k + 1, x0, x1, x4, x7 => if 0 ≤ x7 then (if x7 < (x0.length : Int) then (if x7 < (x1.length : Int) then (if (rd x0 x7) < (rd x1 x7) then (some (-1)) else (if (rd x0 x7) > (rd x1 x7) then (some 1) else (some x4))) else (none)) else (none)) else (none)
def bigall_nat_cmp.l0 : Nat → List Int → List Int → Int → Int → Option (Int)
  | 0, _, _, _, _ => none
  | k + 1, x0, x1, x4, x7 => if x7 > 0 then (if 0 ≤ x7 then (if x7 < (x0.length : Int) then (if x7 < (x1.length : Int) then (if (rd x0 x7) = (rd x1 x7) then (bigall_nat_cmp.l0 k x0 x1 x4 (wrap64 (x7 - 1))) else (bigall_nat_cmp.j2 k x0 x1 x4 x7)) else (none)) else (none)) else (none)) else (bigall_nat_cmp.j2 k x0 x1 x4 x7)
end
def bigall_nat_cmp.f (k : Nat) (l0 : List Int) (l1 : List Int) : Option (Int) := if (l0.length : Int) = (l1.length : Int) then (bigall_nat_cmp.j0 k l0 l1 0 (l0.length : Int) (l1.length : Int) ((l0.length : Int) == 0)) else (bigall_nat_cmp.j0 k l0 l1 0 (l0.length : Int) (l1.length : Int) true)
theorem bigall_nat_cmp.mono_l : ∀ k, (∀ y0 y1 y2 y3 y4 y5, LeO (bigall_nat_cmp.j0 k y0 y1 y2 y3 y4 y5) (bigall_nat_cmp.j0 (k + 1) y0 y1 y2 y3 y4 y5)) ∧ (∀ y0 y1 y2 y3, LeO (bigall_nat_cmp.j2 k y0 y1 y2 y3) (bigall_nat_cmp.j2 (k + 1) y0 y1 y2 y3)) ∧ (∀ y0 y1 y2 y3, LeO (bigall_nat_cmp.l0 k y0 y1 y2 y3) (bigall_nat_cmp.l0 (k + 1) y0 y1 y2 y3))
  | 0 => ⟨fun _ _ _ _ _ _ r h => by simp [bigall_nat_cmp.j0] at h, fun _ _ _ _ r h => by simp [bigall_nat_cmp.j2] at h, fun _ _ _ _ r h => by simp [bigall_nat_cmp.l0] at h⟩
  | k + 1 => by
    obtain ⟨ih0, ih1, ih2⟩ := bigall_nat_cmp.mono_l k
    refine ⟨?_, ?_, ?_⟩
    · intro y0 y1 y2 y3 y4 y5
      unfold bigall_nat_cmp.j0
      repeat' first
      | (with_reducible exact ih0 _ _ _ _ _ _)
      | (with_reducible exact ih1 _ _ _ _)
      | (with_reducible exact ih2 _ _ _ _)
      | (with_reducible exact LeO.refl _)
      | (with_reducible exact LeO.none _)
      | (with_reducible refine LeO.ite ?_ ?_)
      | (with_reducible refine LeO.bind ?_ (fun _ => ?_))
      | exact ih0 _ _ _ _ _ _
      | exact ih1 _ _ _ _
      | exact ih2 _ _ _ _
      | exact LeO.none _
      | refine LeO.ite ?_ ?_
      | refine LeO.bind ?_ (fun _ => ?_)
    · intro y0 y1 y2 y3
      unfold bigall_nat_cmp.j2
      repeat' first
      | (with_reducible exact ih0 _ _ _ _ _ _)
      | (with_reducible exact ih1 _ _ _ _)
      | (with_reducible exact ih2 _ _ _ _)
      | (with_reducible exact LeO.refl _)
      | (with_reducible exact LeO.none _)
      | (with_reducible refine LeO.ite ?_ ?_)
      | (with_reducible refine LeO.bind ?_ (fun _ => ?_))
      | exact ih0 _ _ _ _ _ _
      | exact ih1 _ _ _ _
      | exact ih2 _ _ _ _
      | exact LeO.none _
      | refine LeO.ite ?_ ?_
      | refine LeO.bind ?_ (fun _ => ?_)
    · intro y0 y1 y2 y3
      unfold bigall_nat_cmp.l0
      repeat' first
      | (with_reducible exact ih0 _ _ _ _ _ _)
      | (with_reducible exact ih1 _ _ _ _)
      | (with_reducible exact ih2 _ _ _ _)
      | (with_reducible exact LeO.refl _)
      | (with_reducible exact LeO.none _)
      | (with_reducible refine LeO.ite ?_ ?_)
      | (with_reducible refine LeO.bind ?_ (fun _ => ?_))
      | exact ih0 _ _ _ _ _ _
      | exact ih1 _ _ _ _
      | exact ih2 _ _ _ _
      | exact LeO.none _
      | refine LeO.ite ?_ ?_
      | refine LeO.bind ?_ (fun _ => ?_)
theorem bigall_nat_cmp.mono : ∀ a0 a1 k, LeO (bigall_nat_cmp.f k a0 a1) (bigall_nat_cmp.f (k + 1) a0 a1) := by
  intro a0 a1 k
  obtain ⟨ih0, ih1, ih2⟩ := bigall_nat_cmp.mono_l k
  unfold bigall_nat_cmp.f
  repeat' first
      | (with_reducible exact ih0 _ _ _ _ _ _)
      | (with_reducible exact ih1 _ _ _ _)
      | (with_reducible exact ih2 _ _ _ _)
      | (with_reducible exact LeO.refl _)
      | (with_reducible exact LeO.none _)
      | (with_reducible refine LeO.ite ?_ ?_)
      | (with_reducible refine LeO.bind ?_ (fun _ => ?_))
      | exact ih0 _ _ _ _ _ _
      | exact ih1 _ _ _ _
      | exact ih2 _ _ _ _
      | exact LeO.none _
      | refine LeO.ite ?_ ?_
      | refine LeO.bind ?_ (fun _ => ?_)
set_option maxHeartbeats 8000000 in
set_option maxRecDepth 100000 in
theorem bigall_nat_cmp.calls (k : Nat) (A0 : Option Addr) (c0 : Nat) (l0 : List Int) (A1 : Option Addr) (c1 : Nat) (l1 : List Int) (r : Int) (w : World) (hr0 : Kd.C (Kd.int .u64) w A0 l0.length l0) (hc0 : l0.length ≤ c0) (hr1 : Kd.C (Kd.int .u64) w A1 l1.length l1) (hc1 : l1.length ≤ c1) (h : bigall_nat_cmp.f k l0 l1 = some r) :
    Calls Try.prog 74 #[.slice A0 l0.length c0, .slice A1 l1.length c1] w fun e w' => e = .returned (.int .i64 r) ∧ Drawn0 w w' := by
  have HR0 := Aside0.mk hr0
  have HC0 := Aside0.mk hc0
  clear hr0 hc0
  have HR1 := Aside0.mk hr1
  have HC1 := Aside0.mk hc1
  clear hr1 hc1
  have H : (if (l0.length : Int) = (l1.length : Int) then (bigall_nat_cmp.j0 k l0 l1 0 (l0.length : Int) (l1.length : Int) ((l0.length : Int) == 0)) else (bigall_nat_cmp.j0 k l0 l1 0 (l0.length : Int) (l1.length : Int) true)) = some r := h
  clear h
  have HC3 := Aside0.mk H
  clear H
  go_enter Try.func74, Try.ntmps74
  go_upto_region 3 with (fail)
  repeat (go_quiet (fail); go_upto_region 3 with (fail))
  go_cut [18] (fun v18 wc => ∃ (kq : Nat) (x18_2 : Bool), v18 = .bool x18_2 ∧ Aside0 (bigall_nat_cmp.j0 kq l0 l1 0 (l0.length : Int) (l1.length : Int) x18_2 = some r) ∧ Aside0 (kq ≤ k) ∧ Drawn0 w wc)
  case first =>
    have H := HC3.out
    clear HC3
    by_cases c4 : (l0.length : Int) = (l1.length : Int)
    · rw [if_pos c4] at H
      have c4b0 : ((l0.length : Int) == (l1.length : Int)) = true := beq_iff_eq.mpr c4
      have c4b1 : ((l0.length : Int) != (l1.length : Int)) = false := bne_eq_false_iff_eq.mpr c4
      have c4b2 : (l0.length == l1.length) = true := by first | simpa using c4 | (simp at c4 ⊢; omega)
      clear c4
      (first | rw [c4b0] | (simp only [i64_w, i32_w]; rw [c4b0]) | skip)
      have H' := Aside0.mk H
      clear H
      go_wp2
      repeat (go_quiet (fail); try go_wp2)
      go_meet
      case rel => exact ⟨_, (((l0.length : Int) == 0)), (by first | rfl | (simp; done) | (simp [*]; done)), H', ⟨by first | omega | exact Nat.le_refl _⟩, by repeat (first | exact Drawn0.refl _ | apply Drawn0.step)⟩
    · rw [if_neg c4] at H
      have c4b0 : ((l0.length : Int) == (l1.length : Int)) = false := beq_eq_false_iff_ne.mpr c4
      have c4b1 : ((l0.length : Int) != (l1.length : Int)) = true := bne_iff_ne.mpr c4
      have c4b2 : (l0.length == l1.length) = false := by first | simpa using c4 | (simp at c4 ⊢; omega)
      (first | rw [c4b0] | (simp only [i64_w, i32_w]; rw [c4b0]) | skip)
      have H' := Aside0.mk H
      clear H
      go_wp2
      repeat (go_quiet (fail); try go_wp2)
      go_meet
      case rel => exact ⟨_, (true), (by first | rfl | (simp; done) | (simp [*]; done)), H', ⟨by first | omega | exact Nat.le_refl _⟩, by repeat (first | exact Drawn0.refl _ | apply Drawn0.step)⟩
  case rest =>
    clear HC3
    try clear c1
    try clear p2
    try clear c4
    try clear c4b0
    try clear c4b1
    try clear c4b2
    obtain ⟨kq, x18_2, rfl, HA, HJ2, ⟨mc2, rfl⟩⟩ := hcut
    cases kq with
    | zero => exact absurd HA.out (by simp [bigall_nat_cmp.j0])
    | succ kj2 =>
      have H := HA.out
      clear HA
      simp only [bigall_nat_cmp.j0] at H
      by_cases c5 : x18_2 = true
      · subst c5
        have H1 : (if (l0.length : Int) < (l1.length : Int) then (some (-1)) else (if (l0.length : Int) > (l1.length : Int) then (some 1) else (some 0))) = some r := by rw [if_pos rfl] at H; exact H
        clear H
        have H := H1
        clear H1
        by_cases c6 : (l0.length : Int) < (l1.length : Int)
        · rw [if_pos c6] at H
          have c6b0 : decide ((l0.length : Int) < (l1.length : Int)) = true := decide_eq_true c6
          have c6b1 : decide (l0.length < l1.length) = true := decide_eq_true (Int.ofNat_lt.mp c6)
          clear c6
          obtain rfl := Option.some.inj H
          go_wp2
          repeat (go_quiet (fail); try go_wp2)
          go_ret
          exact ⟨by first | rfl | (simp; done) | (simp [*]; done), by repeat (first | exact Drawn0.refl _ | apply Drawn0.step)⟩
        · rw [if_neg c6] at H
          have c6b0 : decide ((l0.length : Int) < (l1.length : Int)) = false := decide_eq_false c6
          have c6b1 : decide (l0.length < l1.length) = false := decide_eq_false (fun h => c6 (Int.ofNat_lt.mpr h))
          clear c6
          by_cases c7 : (l0.length : Int) > (l1.length : Int)
          · rw [if_pos c7] at H
            have c7b0 : decide ((l1.length : Int) < (l0.length : Int)) = true := decide_eq_true c7
            have c7b1 : decide (l1.length < l0.length) = true := decide_eq_true (Int.ofNat_lt.mp c7)
            clear c7
            obtain rfl := Option.some.inj H
            go_wp2
            repeat (go_quiet (fail); try go_wp2)
            go_ret
            exact ⟨by first | rfl | (simp; done) | (simp [*]; done), by repeat (first | exact Drawn0.refl _ | apply Drawn0.step)⟩
          · rw [if_neg c7] at H
            have c7b0 : decide ((l1.length : Int) < (l0.length : Int)) = false := decide_eq_false c7
            have c7b1 : decide (l1.length < l0.length) = false := decide_eq_false (fun h => c7 (Int.ofNat_lt.mpr h))
            clear c7
            obtain rfl := Option.some.inj H
            go_wp2
            repeat (go_quiet (fail); try go_wp2)
            go_ret
            exact ⟨by first | rfl | (simp; done) | (simp [*]; done), by repeat (first | exact Drawn0.refl _ | apply Drawn0.step)⟩
      · replace c5 := Bool.eq_false_iff.mpr c5
        subst c5
        have H1 : (bigall_nat_cmp.l0 kj2 l0 l1 0 (wrap64 ((l0.length : Int) - 1))) = some r := by rw [if_neg (show ¬ (false = true) by decide)] at H; exact H
        clear H
        have H := H1
        clear H1
        have HC8 := Aside0.mk H
        clear H
        go_upto_block 1 with (fail)
        repeat (go_quiet (fail); go_upto_block 1 with (fail))
        go_cut [7] (fun v7 wc => ∃ (kq : Nat) (x7_7 : Int), v7 = .int .i64 x7_7 ∧ Aside0 (bigall_nat_cmp.j2 kq l0 l1 0 x7_7 = some r) ∧ Aside0 (kq ≤ kj2) ∧ Drawn0 w wc)
        case first =>
          have H := HC8.out
          clear HC8
          have H' := Aside0.mk H
          clear H
          go_wp2
          repeat (go_quiet (fail); try go_wp2)
          go_loopg [7] kj2 (fun kq v7 w' => ∃ (x7_2 : Int), v7 = .int .i64 x7_2 ∧ Aside0 (bigall_nat_cmp.l0 kq l0 l1 0 x7_2 = some r) ∧ Aside0 (kq ≤ kj2) ∧ Drawn0 w w')
          case atStart => exact ⟨(wrap64 ((l0.length : Int) - 1)), (by first | rfl | (simp; done) | (simp [*]; done)), H', ⟨Nat.le_refl _⟩, by repeat (first | exact Drawn0.refl _ | apply Drawn0.step)⟩
          case round =>
            clear H'
            try clear c1
            try clear c2
            try clear p2
            try clear c4
            try clear c4b0
            try clear c4b1
            try clear c4b2
            try clear c5
            try clear c6
            try clear c6b0
            try clear c6b1
            try clear p6
            try clear c7
            try clear c7b0
            try clear c7b1
            try clear p2
            obtain ⟨x7_2, rfl, HA, HK2, ⟨m2, rfl⟩⟩ := hrel
            cases gk with
            | zero => exact absurd HA.out (by simp [bigall_nat_cmp.l0])
            | succ k2 =>
              have H := HA.out
              clear HA
              simp only [bigall_nat_cmp.l0] at H
              by_cases c9 : x7_2 > 0
              · rw [if_pos c9] at H
                have c9b0 : decide (0 < x7_2) = true := decide_eq_true c9
                clear c9
                (first | rw [c9b0] | (simp only [i64_w, i32_w]; rw [c9b0]) | skip)
                by_cases c10 : 0 ≤ x7_2
                · rw [if_pos c10] at H
                  have c10b0 : decide (0 ≤ x7_2) = true := decide_eq_true c10
                  clear c10
                  by_cases c11 : x7_2 < (l0.length : Int)
                  · rw [if_pos c11] at H
                    have c11b0 : decide (x7_2 < (l0.length : Int)) = true := decide_eq_true c11
                    clear c11
                    by_cases c12 : x7_2 < (l1.length : Int)
                    · rw [if_pos c12] at H
                      have c12b0 : decide (x7_2 < (l1.length : Int)) = true := decide_eq_true c12
                      clear c12
                      by_cases c13 : (rd l0 x7_2) = (rd l1 x7_2)
                      · rw [if_pos c13] at H
                        have c13b0 : ((rd l0 x7_2) == (rd l1 x7_2)) = true := beq_iff_eq.mpr c13
                        have c13b1 : ((rd l0 x7_2) != (rd l1 x7_2)) = false := bne_eq_false_iff_eq.mpr c13
                        clear c13
                        have H' := Aside0.mk H
                        clear H
                        have p149 : 0 ≤ (x7_2 : Int) := of_decide_eq_true (by first | (with_reducible assumption) | assumption)
                        have q149 : x7_2 < (l0.length : Int) := of_decide_eq_true (by first | (with_reducible assumption) | assumption)
                        obtain ⟨ad149, e149, hx149_0⟩ := Kd.at_int HR0.out x7_2 p149 q149
                        cases e149
                        replace p149 := eq_true p149
                        replace q149 := eq_true q149
                        have p150 : 0 ≤ (x7_2 : Int) := of_decide_eq_true (by first | (with_reducible assumption) | assumption)
                        have q150 : x7_2 < (l1.length : Int) := of_decide_eq_true (by first | (with_reducible assumption) | assumption)
                        obtain ⟨ad150, e150, hx150_0⟩ := Kd.at_int HR1.out x7_2 p150 q150
                        cases e150
                        replace p150 := eq_true p150
                        replace q150 := eq_true q150
                        go_wp2
                        repeat (go_quiet (fail); try go_wp2)
                        go_roundg k2
                        case measure => have := HJ2.out; have := HK2.out; omega
                        case rel => exact ⟨(wrap64 (x7_2 - 1)), (by first | rfl | (simp; done) | (simp [*]; done)), H', ⟨by have := HJ2.out; have := HK2.out; omega⟩, by repeat (first | exact Drawn0.refl _ | apply Drawn0.step)⟩
                      · rw [if_neg c13] at H
                        have c13b0 : ((rd l0 x7_2) == (rd l1 x7_2)) = false := beq_eq_false_iff_ne.mpr c13
                        have c13b1 : ((rd l0 x7_2) != (rd l1 x7_2)) = true := bne_iff_ne.mpr c13
                        have H' := Aside0.mk H
                        clear H
                        have p149 : 0 ≤ (x7_2 : Int) := of_decide_eq_true (by first | (with_reducible assumption) | assumption)
                        have q149 : x7_2 < (l0.length : Int) := of_decide_eq_true (by first | (with_reducible assumption) | assumption)
                        obtain ⟨ad149, e149, hx149_0⟩ := Kd.at_int HR0.out x7_2 p149 q149
                        cases e149
                        replace p149 := eq_true p149
                        replace q149 := eq_true q149
                        have p150 : 0 ≤ (x7_2 : Int) := of_decide_eq_true (by first | (with_reducible assumption) | assumption)
                        have q150 : x7_2 < (l1.length : Int) := of_decide_eq_true (by first | (with_reducible assumption) | assumption)
                        obtain ⟨ad150, e150, hx150_0⟩ := Kd.at_int HR1.out x7_2 p150 q150
                        cases e150
                        replace p150 := eq_true p150
                        replace q150 := eq_true q150
                        go_wp2
                        repeat (go_quiet (fail); try go_wp2)
                        go_meet
                        case rel => exact ⟨_, (x7_2), (by first | rfl | (simp; done) | (simp [*]; done)), H', ⟨by have := HJ2.out; have := HK2.out; first | omega | exact Nat.le_refl _⟩, by repeat (first | exact Drawn0.refl _ | apply Drawn0.step)⟩
                    · rw [if_neg c12] at H
                      exact absurd H (by simp)
                  · rw [if_neg c11] at H
                    exact absurd H (by simp)
                · rw [if_neg c10] at H
                  exact absurd H (by simp)
              · rw [if_neg c9] at H
                have c9b0 : decide (0 < x7_2) = false := decide_eq_false c9
                clear c9
                (first | rw [c9b0] | (simp only [i64_w, i32_w]; rw [c9b0]) | skip)
                have H' := Aside0.mk H
                clear H
                go_wp2
                repeat (go_quiet (fail); try go_wp2)
                go_meet
                case rel => exact ⟨_, (x7_2), (by first | rfl | (simp; done) | (simp [*]; done)), H', ⟨by have := HJ2.out; have := HK2.out; first | omega | exact Nat.le_refl _⟩, by repeat (first | exact Drawn0.refl _ | apply Drawn0.step)⟩
        case rest =>
          clear HC8
          try clear c1
          try clear p1
          try clear q1
          try clear hx1
          try clear c2
          try clear p2
          try clear c4
          try clear c4b0
          try clear c4b1
          try clear c4b2
          try clear c5
          try clear c6
          try clear c6b0
          try clear c6b1
          try clear p6
          try clear c7
          try clear c7b0
          try clear c7b1
          try clear c9
          try clear c9b0
          try clear c10
          try clear c10b0
          try clear c11
          try clear c11b0
          try clear c12
          try clear c12b0
          try clear c13
          try clear c13b0
          try clear c13b1
          try clear hx149_0
          try clear hx150_0
          try clear p149
          try clear p150
          try clear p2
          try clear p6
          try clear q149
          try clear q150
          obtain ⟨kq, x7_7, rfl, HA, HJ7, ⟨mc7, rfl⟩⟩ := hcut
          cases kq with
          | zero => exact absurd HA.out (by simp [bigall_nat_cmp.j2])
          | succ kj7 =>
            have H := HA.out
            clear HA
            simp only [bigall_nat_cmp.j2] at H
            by_cases c14 : 0 ≤ x7_7
            · rw [if_pos c14] at H
              have c14b0 : decide (0 ≤ x7_7) = true := decide_eq_true c14
              clear c14
              by_cases c15 : x7_7 < (l0.length : Int)
              · rw [if_pos c15] at H
                have c15b0 : decide (x7_7 < (l0.length : Int)) = true := decide_eq_true c15
                clear c15
                by_cases c16 : x7_7 < (l1.length : Int)
                · rw [if_pos c16] at H
                  have c16b0 : decide (x7_7 < (l1.length : Int)) = true := decide_eq_true c16
                  clear c16
                  by_cases c17 : (rd l0 x7_7) < (rd l1 x7_7)
                  · rw [if_pos c17] at H
                    have c17b0 : decide ((rd l0 x7_7) < (rd l1 x7_7)) = true := decide_eq_true c17
                    clear c17
                    obtain rfl := Option.some.inj H
                    have p151 : 0 ≤ (x7_7 : Int) := of_decide_eq_true (by first | (with_reducible assumption) | assumption)
                    have q151 : x7_7 < (l0.length : Int) := of_decide_eq_true (by first | (with_reducible assumption) | assumption)
                    obtain ⟨ad151, e151, hx151_0⟩ := Kd.at_int HR0.out x7_7 p151 q151
                    cases e151
                    replace p151 := eq_true p151
                    replace q151 := eq_true q151
                    have p152 : 0 ≤ (x7_7 : Int) := of_decide_eq_true (by first | (with_reducible assumption) | assumption)
                    have q152 : x7_7 < (l1.length : Int) := of_decide_eq_true (by first | (with_reducible assumption) | assumption)
                    obtain ⟨ad152, e152, hx152_0⟩ := Kd.at_int HR1.out x7_7 p152 q152
                    cases e152
                    replace p152 := eq_true p152
                    replace q152 := eq_true q152
                    go_wp2
                    repeat (go_quiet (fail); try go_wp2)
                    go_ret
                    exact ⟨by first | rfl | (simp; done) | (simp [*]; done), by repeat (first | exact Drawn0.refl _ | apply Drawn0.step)⟩
                  · rw [if_neg c17] at H
                    have c17b0 : decide ((rd l0 x7_7) < (rd l1 x7_7)) = false := decide_eq_false c17
                    clear c17
                    by_cases c18 : (rd l0 x7_7) > (rd l1 x7_7)
                    · rw [if_pos c18] at H
                      have c18b0 : decide ((rd l1 x7_7) < (rd l0 x7_7)) = true := decide_eq_true c18
                      clear c18
                      obtain rfl := Option.some.inj H
                      have p151 : 0 ≤ (x7_7 : Int) := of_decide_eq_true (by first | (with_reducible assumption) | assumption)
                      have q151 : x7_7 < (l0.length : Int) := of_decide_eq_true (by first | (with_reducible assumption) | assumption)
                      obtain ⟨ad151, e151, hx151_0⟩ := Kd.at_int HR0.out x7_7 p151 q151
                      cases e151
                      replace p151 := eq_true p151
                      replace q151 := eq_true q151
                      have p152 : 0 ≤ (x7_7 : Int) := of_decide_eq_true (by first | (with_reducible assumption) | assumption)
                      have q152 : x7_7 < (l1.length : Int) := of_decide_eq_true (by first | (with_reducible assumption) | assumption)
                      obtain ⟨ad152, e152, hx152_0⟩ := Kd.at_int HR1.out x7_7 p152 q152
                      cases e152
                      replace p152 := eq_true p152
                      replace q152 := eq_true q152
                      have p153 : 0 ≤ (x7_7 : Int) := of_decide_eq_true (by first | (with_reducible assumption) | assumption)
                      have q153 : x7_7 < (l0.length : Int) := of_decide_eq_true (by first | (with_reducible assumption) | assumption)
                      obtain ⟨ad153, e153, hx153_0⟩ := Kd.at_int HR0.out x7_7 p153 q153
                      obtain rfl : ad151 = ad153 := (by injection e153)
                      replace p153 := eq_true p153
                      replace q153 := eq_true q153
                      have p154 : 0 ≤ (x7_7 : Int) := of_decide_eq_true (by first | (with_reducible assumption) | assumption)
                      have q154 : x7_7 < (l1.length : Int) := of_decide_eq_true (by first | (with_reducible assumption) | assumption)
                      obtain ⟨ad154, e154, hx154_0⟩ := Kd.at_int HR1.out x7_7 p154 q154
                      obtain rfl : ad152 = ad154 := (by injection e154)
                      replace p154 := eq_true p154
                      replace q154 := eq_true q154
                      go_wp2
                      repeat (go_quiet (fail); try go_wp2)
                      go_ret
                      exact ⟨by first | rfl | (simp; done) | (simp [*]; done), by repeat (first | exact Drawn0.refl _ | apply Drawn0.step)⟩
                    · rw [if_neg c18] at H
                      have c18b0 : decide ((rd l1 x7_7) < (rd l0 x7_7)) = false := decide_eq_false c18
                      clear c18
                      obtain rfl := Option.some.inj H
                      have p151 : 0 ≤ (x7_7 : Int) := of_decide_eq_true (by first | (with_reducible assumption) | assumption)
                      have q151 : x7_7 < (l0.length : Int) := of_decide_eq_true (by first | (with_reducible assumption) | assumption)
                      obtain ⟨ad151, e151, hx151_0⟩ := Kd.at_int HR0.out x7_7 p151 q151
                      cases e151
                      replace p151 := eq_true p151
                      replace q151 := eq_true q151
                      have p152 : 0 ≤ (x7_7 : Int) := of_decide_eq_true (by first | (with_reducible assumption) | assumption)
                      have q152 : x7_7 < (l1.length : Int) := of_decide_eq_true (by first | (with_reducible assumption) | assumption)
                      obtain ⟨ad152, e152, hx152_0⟩ := Kd.at_int HR1.out x7_7 p152 q152
                      cases e152
                      replace p152 := eq_true p152
                      replace q152 := eq_true q152
                      have p153 : 0 ≤ (x7_7 : Int) := of_decide_eq_true (by first | (with_reducible assumption) | assumption)
                      have q153 : x7_7 < (l0.length : Int) := of_decide_eq_true (by first | (with_reducible assumption) | assumption)
                      obtain ⟨ad153, e153, hx153_0⟩ := Kd.at_int HR0.out x7_7 p153 q153
                      obtain rfl : ad151 = ad153 := (by injection e153)
                      replace p153 := eq_true p153
                      replace q153 := eq_true q153
                      have p154 : 0 ≤ (x7_7 : Int) := of_decide_eq_true (by first | (with_reducible assumption) | assumption)
                      have q154 : x7_7 < (l1.length : Int) := of_decide_eq_true (by first | (with_reducible assumption) | assumption)
                      obtain ⟨ad154, e154, hx154_0⟩ := Kd.at_int HR1.out x7_7 p154 q154
                      obtain rfl : ad152 = ad154 := (by injection e154)
                      replace p154 := eq_true p154
                      replace q154 := eq_true q154
                      go_wp2
                      repeat (go_quiet (fail); try go_wp2)
                      go_ret
                      exact ⟨by first | rfl | (simp; done) | (simp [*]; done), by repeat (first | exact Drawn0.refl _ | apply Drawn0.step)⟩
                · rw [if_neg c16] at H
                  exact absurd H (by simp)
              · rw [if_neg c15] at H
                exact absurd H (by simp)
            · rw [if_neg c14] at H
              exact absurd H (by simp)

-- NOT PRINTED: function 109 (bits_Sub32)

-- NOT PRINTED: function 110 (bits_Sub64)

-- NOT PRINTED: function 105 (bits_Sub)

-- NOT PRINTED: function 104 (bigall_subVV_g)

-- NOT PRINTED: function 94 (bigall_subVV)

-- NOT PRINTED: function 95 (bigall_subVW)

-- NOT PRINTED: function 75 (bigall_nat_sub)

-- NOT PRINTED: function 55 (bigall_Int_Add)

-- NOT PRINTED: function 39 (circlnum_Uint64Le2BigInt)

-- NOT PRINTED: function 20 (impl_NumberWords)

/-! ### spec_Low: function 21 -/
mutual
def spec_Low.l0 : Nat → List Int → List Int → Int → Option (List Int)
  | 0, _, _, _ => none
  | k + 1, x0, x3, x4 => if x4 < (x0.length : Int) then (spec_Low.l1 k x0 x3 x4 0) else (some x3)
def spec_Low.l1 : Nat → List Int → List Int → Int → Int → Option (List Int)
  | 0, _, _, _, _ => none
  | k + 1, x0, x3, x4, x5 => if x5 < 8 then (if 0 ≤ x4 then (if x4 < (x0.length : Int) then (if 0 ≤ (IntKind.u64.wrap (wrap64 (8 * x5))) then (if x3.length < 140737488355328 then (spec_Low.l1 k x0 (x3 ++ [(shr .u64 (rd x0 x4) (IntKind.u64.wrap (wrap64 (8 * x5)))) % 256]) x4 (wrap64 (x5 + 1))) else (none)) else (none)) else (none)) else (none)) else (spec_Low.l0 k x0 x3 (wrap64 (x4 + 1)))
end
def spec_Low.f (k : Nat) (l0 : List Int) : Option (List Int) := spec_Low.l0 k l0 (([] : List Int)) 0
theorem spec_Low.mono_l : ∀ k, (∀ y0 y1 y2, LeO (spec_Low.l0 k y0 y1 y2) (spec_Low.l0 (k + 1) y0 y1 y2)) ∧ (∀ y0 y1 y2 y3, LeO (spec_Low.l1 k y0 y1 y2 y3) (spec_Low.l1 (k + 1) y0 y1 y2 y3))
  | 0 => ⟨fun _ _ _ r h => by simp [spec_Low.l0] at h, fun _ _ _ _ r h => by simp [spec_Low.l1] at h⟩
  | k + 1 => by
    obtain ⟨ih0, ih1⟩ := spec_Low.mono_l k
    refine ⟨?_, ?_⟩
    · intro y0 y1 y2
      unfold spec_Low.l0
      repeat' first
      | (with_reducible exact ih0 _ _ _)
      | (with_reducible exact ih1 _ _ _ _)
      | (with_reducible exact LeO.refl _)
      | (with_reducible exact LeO.none _)
      | (with_reducible refine LeO.ite ?_ ?_)
      | (with_reducible refine LeO.bind ?_ (fun _ => ?_))
      | exact ih0 _ _ _
      | exact ih1 _ _ _ _
      | exact LeO.none _
      | refine LeO.ite ?_ ?_
      | refine LeO.bind ?_ (fun _ => ?_)
    · intro y0 y1 y2 y3
      unfold spec_Low.l1
      repeat' first
      | (with_reducible exact ih0 _ _ _)
      | (with_reducible exact ih1 _ _ _ _)
      | (with_reducible exact LeO.refl _)
      | (with_reducible exact LeO.none _)
      | (with_reducible refine LeO.ite ?_ ?_)
      | (with_reducible refine LeO.bind ?_ (fun _ => ?_))
      | exact ih0 _ _ _
      | exact ih1 _ _ _ _
      | exact LeO.none _
      | refine LeO.ite ?_ ?_
      | refine LeO.bind ?_ (fun _ => ?_)
theorem spec_Low.mono : ∀ a0 k, LeO (spec_Low.f k a0) (spec_Low.f (k + 1) a0) := by
  intro a0 k
  obtain ⟨ih0, ih1⟩ := spec_Low.mono_l k
  unfold spec_Low.f
  repeat' first
      | (with_reducible exact ih0 _ _ _)
      | (with_reducible exact ih1 _ _ _ _)
      | (with_reducible exact LeO.refl _)
      | (with_reducible exact LeO.none _)
      | (with_reducible refine LeO.ite ?_ ?_)
      | (with_reducible refine LeO.bind ?_ (fun _ => ?_))
      | exact ih0 _ _ _
      | exact ih1 _ _ _ _
      | exact LeO.none _
      | refine LeO.ite ?_ ?_
      | refine LeO.bind ?_ (fun _ => ?_)
set_option maxHeartbeats 8000000 in
set_option maxRecDepth 100000 in
theorem spec_Low.calls (k : Nat) (A0 : Option Addr) (c0 : Nat) (l0 : List Int) (r : List Int) (w : World) (hr0 : Kd.C (Kd.int .u64) w A0 l0.length l0) (hc0 : l0.length ≤ c0) (h : spec_Low.f k l0 = some r) :
    Calls Try.prog 21 #[.slice A0 l0.length c0] w fun e w' => ∃ v0_ : Value, e = .returned (v0_) ∧ Kd.R (Kd.int .u8) 5 w' w.heap.size (fun _ => True) v0_ r ∧ Below w.heap.size w w' := by
  have HR0 := Aside0.mk hr0
  have HC0 := Aside0.mk hc0
  clear hr0 hc0
  have HB := Aside0.mk (Below.refl w.heap.size w)
  have H : (spec_Low.l0 k l0 (([] : List Int)) 0) = some r := h
  clear h
  obtain ⟨y161, hy161⟩ : ∃ y_ : List Int, y_ = (([] : List Int)) := ⟨_, rfl⟩
  replace H : (spec_Low.l0 k l0 y161 0) = some r := by first | (rw [hy161]; with_reducible exact H) | (have H2_ := (Option.bind_some _ _).symm.trans H; rw [hy161]; with_reducible exact H2_) | (have H2_ := (Option.bind_some _ _).symm.trans H; with_reducible exact H2_) | with_reducible exact H | (rw [hy161]; exact H) | exact H
  have Ny161 := Aside0.mk hy161
  clear hy161
  have H' := Aside0.mk H
  clear H
  go_enter Try.func21, Try.ntmps21
  go_wp2_with (first | ((with_reducible refine gate_dst (N := 6) rfl ?_); refine Kd.R_lit (Kd.int .u8) _ 5 ?hg (N := 6) ?hd (xs := ([] : List Int)) (inner := []) (ok := fun _ => True) (okp := fun _ => True) ?hr ?hp (fun _ hk => hk) trivial (Below.refl _ _) (Nat.le_refl _) (by simp) ?_; (case hd => rfl); (case hg => rfl); (case hr => first | (go_simp; done) | (go_simp; rfl)); (case hp => exact (Reps.none _ _)); intro v162 w2 ho3 hb hg_ hnew_; clear hg_ hnew_; (first | rw [← Ny161.out] at ho3 | (simp only [Int.reduceToNat] at ho3; rw [← Ny161.out] at ho3)); have n0_ := Aside0.mk (Kd.R_lower ho3 (below_size (by repeat (first | (with_reducible first | exact HB.out | apply below_alloc | apply pw_below_drewN | apply below_drew1) | exact HB.out)))); have n1_ := Aside0.mk (below_step (by repeat (first | (with_reducible first | exact HB.out | apply below_alloc | apply pw_below_drewN | apply below_drew1) | exact HB.out)) hb); clear HB; have HO163 := n0_; have HB := n1_; clear n0_ n1_; clear hb ho3))
  go_loopg [3, 4] k (fun kq v3 v4 w' => ∃ (x3_1 : List Int) (x4_1 : Int), v4 = .int .i64 x4_1 ∧ Aside0 (spec_Low.l0 kq l0 x3_1 x4_1 = some r) ∧ Aside0 (kq ≤ k) ∧ Aside0 (Kd.R (Kd.int .u8) 5 w' w.heap.size (fun _ => True) v3 x3_1) ∧ Aside0 (Below w.heap.size w w'))
  case atStart => exact ⟨(y161), (0), (by first | rfl | (simp; done) | (simp [*]; done)), H', ⟨Nat.le_refl _⟩, ⟨by (with_reducible repeat (first | apply Kd.R_alloc | apply Kd.R_drewN | apply Kd.R_drew)); exact HO163.out⟩, ⟨by repeat (first | (with_reducible first | exact HB.out | apply below_alloc | apply pw_below_drewN | apply below_drew1) | exact HB.out)⟩⟩
  case round =>
    clear H'
    try clear c2
    try clear p2
    obtain ⟨x3_1, x4_1, rfl, HA, HK1, HO_3, HB⟩ := hrel
    cases gk with
    | zero => exact absurd HA.out (by simp [spec_Low.l0])
    | succ k1 =>
      have H := HA.out
      clear HA
      simp only [spec_Low.l0] at H
      by_cases c4 : x4_1 < (l0.length : Int)
      · rw [if_pos c4] at H
        have c4b0 : decide (x4_1 < (l0.length : Int)) = true := decide_eq_true c4
        clear c4
        have H' := Aside0.mk H
        clear H
        go_wp2
        go_loopg [3, 5] k1 (fun kq v3 v5 w' => ∃ (x3_2 : List Int) (x5_2 : Int), v5 = .int .i64 x5_2 ∧ Aside0 (spec_Low.l1 kq l0 x3_2 x4_1 x5_2 = some r) ∧ Aside0 (kq ≤ k1) ∧ Aside0 (Kd.R (Kd.int .u8) 5 w' w.heap.size (fun _ => True) v3 x3_2) ∧ Aside0 (Below w.heap.size w w'))
        case atStart => exact ⟨(x3_1), (0), (by first | rfl | (simp; done) | (simp [*]; done)), H', ⟨Nat.le_refl _⟩, ⟨by (with_reducible repeat (first | apply Kd.R_alloc | apply Kd.R_drewN | apply Kd.R_drew)); exact HO_3.out⟩, ⟨by repeat (first | (with_reducible first | exact HB.out | apply below_alloc | apply pw_below_drewN | apply below_drew1) | exact HB.out)⟩⟩
        case round =>
          clear H'
          try clear c2
          try clear p2
          try clear c4
          try clear c4b0
          try clear p2
          obtain ⟨x3_2, x5_2, rfl, HA, HK2, HO_3, HB⟩ := hrel
          cases gk with
          | zero => exact absurd HA.out (by simp [spec_Low.l1])
          | succ k2 =>
            have H := HA.out
            clear HA
            simp only [spec_Low.l1] at H
            by_cases c5 : x5_2 < 8
            · rw [if_pos c5] at H
              have c5b0 : decide (x5_2 < 8) = true := decide_eq_true c5
              clear c5
              by_cases c6 : 0 ≤ x4_1
              · rw [if_pos c6] at H
                have c6b0 : decide (0 ≤ x4_1) = true := decide_eq_true c6
                clear c6
                by_cases c7 : x4_1 < (l0.length : Int)
                · rw [if_pos c7] at H
                  have c7b0 : decide (x4_1 < (l0.length : Int)) = true := decide_eq_true c7
                  clear c7
                  obtain ⟨ji8, hji8⟩ : ∃ j_ : Int, (IntKind.u64.wrap (wrap64 (8 * x5_2))) = j_ := ⟨_, rfl⟩
                  replace H : (if 0 ≤ (ji8) then (if x3_2.length < 140737488355328 then (spec_Low.l1 k2 l0 (x3_2 ++ [(shr .u64 (rd l0 x4_1) (ji8)) % 256]) x4_1 (wrap64 (x5_2 + 1))) else (none)) else (none)) = some r := by first | (rw [hji8] at H; exact H) | (simp only [hji8] at H ⊢; exact H)
                  by_cases c9 : 0 ≤ (ji8)
                  · rw [if_pos c9] at H
                    have c9b0 := eq_true c9
                    have c9b1 : decide (0 ≤ (ji8)) = true := decide_eq_true c9
                    clear c9
                    obtain ⟨ji10, hji10⟩ : ∃ j_ : Int, (shr .u64 (rd l0 x4_1) (ji8)) = j_ := ⟨_, rfl⟩
                    replace H : (if x3_2.length < 140737488355328 then (spec_Low.l1 k2 l0 (x3_2 ++ [(ji10) % 256]) x4_1 (wrap64 (x5_2 + 1))) else (none)) = some r := by first | (rw [hji10] at H; exact H) | (simp only [hji10] at H ⊢; exact H)
                    have hji10_ : ((rd l0 x4_1) / 2 ^ min (ji8).toNat 64) = ji10 := hji10
                    have hji10z : (ji8) ≤ 64 → ((rd l0 x4_1) / 2 ^ (ji8).toNat) = ji10 := shr_small hji10
                    by_cases c11 : x3_2.length < 140737488355328
                    · rw [if_pos c11] at H
                      have LMc11 := Aside0.mk c11
                      clear c11
                      obtain ⟨y165, hy165⟩ : ∃ y_ : List Int, y_ = (x3_2 ++ [(ji10) % 256]) := ⟨_, rfl⟩
                      replace H : (spec_Low.l1 k2 l0 y165 x4_1 (wrap64 (x5_2 + 1))) = some r := by first | (rw [hy165]; with_reducible exact H) | (have H2_ := (Option.bind_some _ _).symm.trans H; rw [hy165]; with_reducible exact H2_) | (have H2_ := (Option.bind_some _ _).symm.trans H; with_reducible exact H2_) | with_reducible exact H | (rw [hy165]; exact H) | exact H
                      have Ny165 := Aside0.mk hy165
                      clear hy165
                      have H' := Aside0.mk H
                      clear H
                      have p164 : 0 ≤ (x4_1 : Int) := of_decide_eq_true (by first | (with_reducible assumption) | assumption)
                      have q164 : x4_1 < (l0.length : Int) := of_decide_eq_true (by first | (with_reducible assumption) | assumption)
                      obtain ⟨ad164, e164, hx164_0⟩ := Kd.at_int HR0.out x4_1 p164 q164
                      cases e164
                      replace hx164_0 := (HB.out.cell (World.block_lt_of_cell? w _ hx164_0)).trans hx164_0
                      replace p164 := eq_true p164
                      replace q164 := eq_true q164
                      go_wp2_with (first | ((with_reducible refine gate_builtin (b := .append) (xs := #[.tmp 17, .tmp 27]) rfl ?_); at_builtin; refine Kd.R_append (Kd.int .u8) (w0 := w) w.heap.size rfl (.tmp 17) (.tmp 27) 22 5 (.int .u8 0) 1 rfl Try.underlying22 info5 rfl (by decide) (by omega) u3 x3_2 ((ji10) % 256) [.int .u8 ((ji10) % 256)] (fun _ => True) (fun _ => False) rfl rfl ?aP (fun _ hk => hk.elim) ?aF ?aO ?aB ?aS ?aL ?_; (case aP => exact rfl); (case aB => exact (by repeat (first | (with_reducible first | exact HB.out | apply below_alloc | apply pw_below_drewN | apply below_drew1) | exact HB.out))); (case aF => exact (fun _ _ => trivial)); (case aO => exact (by (with_reducible repeat (first | apply Kd.R_alloc | apply Kd.R_drewN | apply Kd.R_drew)); exact HO_3.out)); (case aS => exact (below_size (by repeat (first | (with_reducible first | exact HB.out | apply below_alloc | apply pw_below_drewN | apply below_drew1) | exact HB.out)))); (case aL => have := LMc11.out; omega); intro v166 w12 ho hb hg hat; rw [← Ny165.out] at ho; have n0_ := Aside0.mk (hb); have n1_ := Aside0.mk (ho); clear HB; clear HO_3; have HB := n0_; have HO167 := n1_; clear n0_ n1_; clear ho hb hg hat))
                      go_roundg k2
                      case measure => have := HK1.out; have := HK2.out; omega
                      case rel => exact ⟨(y165), (wrap64 (x5_2 + 1)), (by first | rfl | (simp; done) | (simp [*]; done)), H', ⟨by have := HK1.out; have := HK2.out; omega⟩, ⟨by (with_reducible repeat (first | apply Kd.R_alloc | apply Kd.R_drewN | apply Kd.R_drew)); exact HO167.out⟩, ⟨by repeat (first | (with_reducible first | exact HB.out | apply below_alloc | apply pw_below_drewN | apply below_drew1) | exact HB.out)⟩⟩
                    · rw [if_neg c11] at H
                      exact absurd H (by simp)
                  · rw [if_neg c9] at H
                    exact absurd H (by simp)
                · rw [if_neg c7] at H
                  exact absurd H (by simp)
              · rw [if_neg c6] at H
                exact absurd H (by simp)
            · rw [if_neg c5] at H
              have c5b0 : decide (x5_2 < 8) = false := decide_eq_false c5
              clear c5
              have H' := Aside0.mk H
              clear H
              go_wp2
              go_roundg k2
              case measure => have := HK1.out; have := HK2.out; omega
              case rel => exact ⟨(x3_2), (wrap64 (x4_1 + 1)), (by first | rfl | (simp; done) | (simp [*]; done)), H', ⟨by have := HK1.out; have := HK2.out; omega⟩, ⟨by (with_reducible repeat (first | apply Kd.R_alloc | apply Kd.R_drewN | apply Kd.R_drew)); exact HO_3.out⟩, ⟨by repeat (first | (with_reducible first | exact HB.out | apply below_alloc | apply pw_below_drewN | apply below_drew1) | exact HB.out)⟩⟩
      · rw [if_neg c4] at H
        have c4b0 : decide (x4_1 < (l0.length : Int)) = false := decide_eq_false c4
        clear c4
        obtain rfl := Option.some.inj H
        go_wp2
        go_ret
        exact ⟨_, by first | rfl | (simp [errW_none, errW_some] <;> rfl) | (simp [*, errW_none, errW_some] <;> rfl), by (with_reducible repeat (first | apply Kd.R_alloc | apply Kd.R_drewN | apply Kd.R_drew)); exact HO_3.out, by repeat (first | (with_reducible first | exact HB.out | apply below_alloc | apply pw_below_drewN | apply below_drew1) | exact HB.out)⟩

-- NOT PRINTED: function 6 (laws_FnExactNumberWords)

end Go.Proofs.Ythckboojmljeiaa.PFnExactNumberWords
