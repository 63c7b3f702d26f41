/- Out of the kit's print for FnSigned, what it says of the reference's Makes and IsOdd; the print's rest is left out, because its text of beUint64 falls in Lean. -/
import Derived.Test.YthckboojmljeiaaPFnSignedx0
import Derived.Test.YthckboojmljeiaaPFnSignedx1
namespace Go.Proofs.Ythckboojmljeiaa.PFnSigned
open Go.RowKit Go.Proofs.YthckboojmljeiaaW.PrintWords Go.Proofs.YthckboojmljeiaaW.PrintLast Go.Proofs.YthckboojmljeiaaW.PrintMore
attribute [local go_sem] max2_int min2_int max_two min_two max_three min_three max_four min_four   -- for this text's walks alone
set_option linter.unusedVariables false
set_option linter.unusedSimpArgs false

/-! ### spec_Makes: function 27 -/
mutual
def spec_Makes.l0 : Nat → List Int → Int → List Int → List Int → Int → Option (Bool)
  | 0, _, _, _, _, _ => none
  | k + 1, x0, x1, x2, x7, x8 => if x8 < (x0.length : Int) then (if 0 ≤ x8 then (if 0 ≤ (wrap64 (x8 * x1)) then (if (wrap64 (x8 * x1)) < (x7.length : Int) then (spec_Makes.l0 k x0 x1 x2 (x7.set ((wrap64 (x8 * x1)) : Int).toNat (wrap64 (rd x0 x8))) (wrap64 (x8 + 1))) else (none)) else (none)) else (none)) else ((spec_carried.f k x7).bind fun bt145 => ((spec_Short.f k x2).bind fun t149 => ((spec_Turned.f k t149).bind fun t152 => (spec_Makes.l1 k bt145.1 bt145.2 t152 0))))
def spec_Makes.l1 : Nat → List Int → Bool → List Int → Int → Option (Bool)
  | 0, _, _, _, _ => none
  | k + 1, x9, x10, x11, x12 => if x12 < (x9.length : Int) then (spec_Makes.j2 k x9 x10 x11 x12 true) else (spec_Makes.j2 k x9 x10 x11 x12 (decide (x12 < (wrap64 (8 * (x11.length : Int))))))
def spec_Makes.j2 : Nat → List Int → Bool → List Int → Int → Bool → Option (Bool)
  | 0, _, _, _, _, _ => none
  | k + 1, x9, x10, x11, x12, x55 => if x55 = true then (if x12 < (wrap64 (8 * (x11.length : Int))) then (if 0 ≤ (wrap64 (Int.tdiv x12 8)) then (if (wrap64 (Int.tdiv x12 8)) < (x11.length : Int) then (if 0 ≤ (IntKind.u64.wrap (Int.tmod x12 8)) then (spec_Makes.j3 k x9 x10 x11 x12 (wrap64 (Go.bits .and .u8 (shr .u8 (rd x11 (wrap64 (Int.tdiv x12 8))) (IntKind.u64.wrap (Int.tmod x12 8))) 1))) else (none)) else (none)) else (none)) else (spec_Makes.j3 k x9 x10 x11 x12 0)) else (some x10)
def spec_Makes.j3 : Nat → List Int → Bool → List Int → Int → Int → Option (Bool)
  | 0, _, _, _, _, _ => none
  | k + 1, x9, x10, x11, x12, x13 => if x12 < (x9.length : Int) then (if 0 ≤ x12 then (if x13 = (rd x9 x12) then (spec_Makes.l1 k x9 x10 x11 (wrap64 (x12 + 1))) else (some false)) else (none)) else (if x13 = 0 then (spec_Makes.l1 k x9 x10 x11 (wrap64 (x12 + 1))) else (some false))
end
def spec_Makes.f (k : Nat) (l0 : List Int) (a1 : Int) (l2 : List Int) : Option (Bool) := if 0 ≤ (wrap64 ((wrap64 ((l0.length : Int) * a1)) + 1)) then (if (wrap64 ((wrap64 ((l0.length : Int) * a1)) + 1) : Int).toNat ≤ 35184372088832 then (spec_Makes.l0 k l0 a1 l2 (List.replicate (wrap64 ((wrap64 ((l0.length : Int) * a1)) + 1) : Int).toNat 0) 0) else (none)) else (none)
theorem spec_Makes.mono_l : ∀ k, (∀ y0 y1 y2 y3 y4, LeO (spec_Makes.l0 k y0 y1 y2 y3 y4) (spec_Makes.l0 (k + 1) y0 y1 y2 y3 y4)) ∧ (∀ y0 y1 y2 y3, LeO (spec_Makes.l1 k y0 y1 y2 y3) (spec_Makes.l1 (k + 1) y0 y1 y2 y3)) ∧ (∀ y0 y1 y2 y3 y4, LeO (spec_Makes.j2 k y0 y1 y2 y3 y4) (spec_Makes.j2 (k + 1) y0 y1 y2 y3 y4)) ∧ (∀ y0 y1 y2 y3 y4, LeO (spec_Makes.j3 k y0 y1 y2 y3 y4) (spec_Makes.j3 (k + 1) y0 y1 y2 y3 y4))
  | 0 => ⟨fun _ _ _ _ _ r h => by simp [spec_Makes.l0] at h, fun _ _ _ _ r h => by simp [spec_Makes.l1] at h, fun _ _ _ _ _ r h => by simp [spec_Makes.j2] at h, fun _ _ _ _ _ r h => by simp [spec_Makes.j3] at h⟩
  | k + 1 => by
    obtain ⟨ih0, ih1, ih2, ih3⟩ := spec_Makes.mono_l k
    refine ⟨?_, ?_, ?_, ?_⟩
    · intro y0 y1 y2 y3 y4
      unfold spec_Makes.l0
      repeat' first
      | (with_reducible exact ih0 _ _ _ _ _)
      | (with_reducible exact ih1 _ _ _ _)
      | (with_reducible exact ih2 _ _ _ _ _)
      | (with_reducible exact ih3 _ _ _ _ _)
      | (with_reducible exact spec_Short.mono _ _)
      | (with_reducible exact spec_Turned.mono _ _)
      | (with_reducible exact spec_carried.mono _ _)
      | (with_reducible exact LeO.refl _)
      | (with_reducible exact LeO.none _)
      | (with_reducible refine LeO.ite ?_ ?_)
      | (with_reducible refine LeO.bind ?_ (fun _ => ?_))
      | exact ih0 _ _ _ _ _
      | exact ih1 _ _ _ _
      | exact ih2 _ _ _ _ _
      | exact ih3 _ _ _ _ _
      | exact spec_Short.mono _ _
      | exact spec_Turned.mono _ _
      | exact spec_carried.mono _ _
      | exact LeO.none _
      | refine LeO.ite ?_ ?_
      | refine LeO.bind ?_ (fun _ => ?_)
    · intro y0 y1 y2 y3
      unfold spec_Makes.l1
      repeat' first
      | (with_reducible exact ih0 _ _ _ _ _)
      | (with_reducible exact ih1 _ _ _ _)
      | (with_reducible exact ih2 _ _ _ _ _)
      | (with_reducible exact ih3 _ _ _ _ _)
      | (with_reducible exact spec_Short.mono _ _)
      | (with_reducible exact spec_Turned.mono _ _)
      | (with_reducible exact spec_carried.mono _ _)
      | (with_reducible exact LeO.refl _)
      | (with_reducible exact LeO.none _)
      | (with_reducible refine LeO.ite ?_ ?_)
      | (with_reducible refine LeO.bind ?_ (fun _ => ?_))
      | exact ih0 _ _ _ _ _
      | exact ih1 _ _ _ _
      | exact ih2 _ _ _ _ _
      | exact ih3 _ _ _ _ _
      | exact spec_Short.mono _ _
      | exact spec_Turned.mono _ _
      | exact spec_carried.mono _ _
      | exact LeO.none _
      | refine LeO.ite ?_ ?_
      | refine LeO.bind ?_ (fun _ => ?_)
    · intro y0 y1 y2 y3 y4
      unfold spec_Makes.j2
      repeat' first
      | (with_reducible exact ih0 _ _ _ _ _)
      | (with_reducible exact ih1 _ _ _ _)
      | (with_reducible exact ih2 _ _ _ _ _)
      | (with_reducible exact ih3 _ _ _ _ _)
      | (with_reducible exact spec_Short.mono _ _)
      | (with_reducible exact spec_Turned.mono _ _)
      | (with_reducible exact spec_carried.mono _ _)
      | (with_reducible exact LeO.refl _)
      | (with_reducible exact LeO.none _)
      | (with_reducible refine LeO.ite ?_ ?_)
      | (with_reducible refine LeO.bind ?_ (fun _ => ?_))
      | exact ih0 _ _ _ _ _
      | exact ih1 _ _ _ _
      | exact ih2 _ _ _ _ _
      | exact ih3 _ _ _ _ _
      | exact spec_Short.mono _ _
      | exact spec_Turned.mono _ _
      | exact spec_carried.mono _ _
      | exact LeO.none _
      | refine LeO.ite ?_ ?_
      | refine LeO.bind ?_ (fun _ => ?_)
    · intro y0 y1 y2 y3 y4
      unfold spec_Makes.j3
      repeat' first
      | (with_reducible exact ih0 _ _ _ _ _)
      | (with_reducible exact ih1 _ _ _ _)
      | (with_reducible exact ih2 _ _ _ _ _)
      | (with_reducible exact ih3 _ _ _ _ _)
      | (with_reducible exact spec_Short.mono _ _)
      | (with_reducible exact spec_Turned.mono _ _)
      | (with_reducible exact spec_carried.mono _ _)
      | (with_reducible exact LeO.refl _)
      | (with_reducible exact LeO.none _)
      | (with_reducible refine LeO.ite ?_ ?_)
      | (with_reducible refine LeO.bind ?_ (fun _ => ?_))
      | exact ih0 _ _ _ _ _
      | exact ih1 _ _ _ _
      | exact ih2 _ _ _ _ _
      | exact ih3 _ _ _ _ _
      | exact spec_Short.mono _ _
      | exact spec_Turned.mono _ _
      | exact spec_carried.mono _ _
      | exact LeO.none _
      | refine LeO.ite ?_ ?_
      | refine LeO.bind ?_ (fun _ => ?_)
theorem spec_Makes.mono : ∀ a0 a1 a2 k, LeO (spec_Makes.f k a0 a1 a2) (spec_Makes.f (k + 1) a0 a1 a2) := by
  intro a0 a1 a2 k
  obtain ⟨ih0, ih1, ih2, ih3⟩ := spec_Makes.mono_l k
  unfold spec_Makes.f
  repeat' first
      | (with_reducible exact ih0 _ _ _ _ _)
      | (with_reducible exact ih1 _ _ _ _)
      | (with_reducible exact ih2 _ _ _ _ _)
      | (with_reducible exact ih3 _ _ _ _ _)
      | (with_reducible exact spec_Short.mono _ _)
      | (with_reducible exact spec_Turned.mono _ _)
      | (with_reducible exact spec_carried.mono _ _)
      | (with_reducible exact LeO.refl _)
      | (with_reducible exact LeO.none _)
      | (with_reducible refine LeO.ite ?_ ?_)
      | (with_reducible refine LeO.bind ?_ (fun _ => ?_))
      | exact ih0 _ _ _ _ _
      | exact ih1 _ _ _ _
      | exact ih2 _ _ _ _ _
      | exact ih3 _ _ _ _ _
      | exact spec_Short.mono _ _
      | exact spec_Turned.mono _ _
      | exact spec_carried.mono _ _
      | exact LeO.none _
      | refine LeO.ite ?_ ?_
      | refine LeO.bind ?_ (fun _ => ?_)
set_option maxHeartbeats 8000000 in
set_option maxRecDepth 100000 in
theorem spec_Makes.calls (k : Nat) (A0 : Option Addr) (c0 : Nat) (l0 : List Int) (a1 : Int) (A2 : Option Addr) (c2 : Nat) (l2 : List Int) (r : Bool) (w : World) (hr0 : Kd.C (Kd.int .i32) w A0 l0.length l0) (hc0 : l0.length ≤ c0) (hr2 : Kd.C (Kd.int .u8) w A2 l2.length l2) (hc2 : l2.length ≤ c2) (h : spec_Makes.f k l0 a1 l2 = some r) :
    Calls Try.prog 27 #[.slice A0 l0.length c0, .int .i64 a1, .slice A2 l2.length c2] w fun e w' => e = .returned (.bool r) ∧ Below w.heap.size w w' := by
  have HR0 := Aside0.mk hr0
  have HC0 := Aside0.mk hc0
  clear hr0 hc0
  have HR2 := Aside0.mk hr2
  have HC2 := Aside0.mk hc2
  clear hr2 hc2
  have HB := Aside0.mk (Below.refl w.heap.size w)
  have H : (if 0 ≤ (wrap64 ((wrap64 ((l0.length : Int) * a1)) + 1)) then (if (wrap64 ((wrap64 ((l0.length : Int) * a1)) + 1) : Int).toNat ≤ 35184372088832 then (spec_Makes.l0 k l0 a1 l2 (List.replicate (wrap64 ((wrap64 ((l0.length : Int) * a1)) + 1) : Int).toNat 0) 0) else (none)) else (none)) = some r := h
  clear h
  obtain ⟨ji4, hji4⟩ : ∃ j_ : Int, (wrap64 ((wrap64 ((l0.length : Int) * a1)) + 1)) = j_ := ⟨_, rfl⟩
  replace H : (if 0 ≤ (ji4) then (if (ji4 : Int).toNat ≤ 35184372088832 then (spec_Makes.l0 k l0 a1 l2 (List.replicate (ji4 : Int).toNat 0) 0) else (none)) else (none)) = some r := by first | (rw [hji4] at H; exact H) | (simp only [hji4] at H ⊢; exact H)
  have hji4w : (IntKind.i64.wrap ((wrap64 ((l0.length : Int) * a1)) + 1)) = ji4 := (i64_w _).trans hji4
  by_cases c5 : 0 ≤ (ji4)
  · rw [if_pos c5] at H
    have c5b0 := eq_true c5
    have c5b1 : decide (0 ≤ (ji4)) = true := decide_eq_true c5
    clear c5
    by_cases c6 : (ji4 : Int).toNat ≤ 35184372088832
    · rw [if_pos c6] at H
      have c6b0 := eq_true c6
      have c6b1 : decide ((ji4 : Int).toNat ≤ 35184372088832) = true := decide_eq_true c6
      clear c6
      obtain ⟨y140, hy140⟩ : ∃ y_ : List Int, y_ = (List.replicate (ji4 : Int).toNat 0) := ⟨_, rfl⟩
      replace H : (spec_Makes.l0 k l0 a1 l2 y140 0) = some r := by first | (rw [hy140]; with_reducible exact H) | (have H2_ := (Option.bind_some _ _).symm.trans H; rw [hy140]; with_reducible exact H2_) | (have H2_ := (Option.bind_some _ _).symm.trans H; with_reducible exact H2_) | with_reducible exact H | (rw [hy140]; exact H) | exact H
      have Ny140 := Aside0.mk hy140
      clear hy140
      have H' := Aside0.mk H
      clear H
      go_enter Try.func27, Try.ntmps27
      go_wp2_with (first | ((with_reducible refine gate_dst (N := 20) rfl ?_); (try (refine gate_guard (by rfl) ?_; dsimp only)); refine Kd.R_make (Kd.int .i64) _ 2 rfl (N := 20) rfl 56 _ _ rfl ji4 rfl rfl Try.underlying56 (.int .i64 0) 8 info2 rfl (by decide) (by omega) 0 (ok := fun _ => True) (okp := fun _ => True) rfl (fun _ hk => hk) trivial (of_decide_eq_true (by first | (with_reducible assumption) | assumption)) (Nat.le_trans (Nat.mul_le_mul_right _ (of_decide_eq_true (by first | (with_reducible assumption) | assumption) : ji4.toNat ≤ 35184372088832)) (by omega)) (Below.refl _ _) (Nat.le_refl _) ?_; intro v141 w7 ho8 hb hg_ hnew_; clear hg_ hnew_; (first | rw [← Ny140.out] at ho8 | (simp only [Int.reduceToNat] at ho8; rw [← Ny140.out] at ho8)); have n0_ := Aside0.mk (Kd.R_lower ho8 (below_size (by repeat (first | (with_reducible first | exact HB.out | apply below_alloc | apply pw_below_drewN | apply below_drew1) | exact HB.out)))); have n1_ := Aside0.mk (below_step (by repeat (first | (with_reducible first | exact HB.out | apply below_alloc | apply pw_below_drewN | apply below_drew1) | exact HB.out)) hb); clear HB; have HO142 := n0_; have HB := n1_; clear n0_ n1_; clear hb ho8))
      go_loopg [8] k (fun kq v8 w' => ∃ (x7_1 : List Int) (x8_1 : Int), v8 = .int .i64 x8_1 ∧ Aside0 (spec_Makes.l0 kq l0 a1 l2 x7_1 x8_1 = some r) ∧ Aside0 (kq ≤ k) ∧ Aside0 (Kd.R (Kd.int .i64) 2 w' w.heap.size (fun _ => True) v141 x7_1) ∧ Aside0 (Below w.heap.size w w'))
      case atStart => exact ⟨(y140), (0), (by first | rfl | (simp; done) | (simp [*]; done)), H', ⟨Nat.le_refl _⟩, ⟨by (with_reducible repeat (first | apply Kd.R_alloc | apply Kd.R_drewN | apply Kd.R_drew)); exact HO142.out⟩, ⟨by repeat (first | (with_reducible first | exact HB.out | apply below_alloc | apply pw_below_drewN | apply below_drew1) | exact HB.out)⟩⟩
      case round =>
        clear H'
        try clear c2
        try clear p2
        try clear c5
        try clear c5b0
        try clear c5b1
        try clear c6
        try clear c6b0
        try clear c6b1
        try clear p6
        obtain ⟨x7_1, x8_1, rfl, HA, HK1, HO_7, HB⟩ := hrel
        cases gk with
        | zero => exact absurd HA.out (by simp [spec_Makes.l0])
        | succ k1 =>
          have H := HA.out
          clear HA
          simp only [spec_Makes.l0] at H
          by_cases c9 : x8_1 < (l0.length : Int)
          · rw [if_pos c9] at H
            have c9b0 : decide (x8_1 < (l0.length : Int)) = true := decide_eq_true c9
            clear c9
            by_cases c10 : 0 ≤ x8_1
            · rw [if_pos c10] at H
              have c10b0 : decide (0 ≤ x8_1) = true := decide_eq_true c10
              clear c10
              obtain ⟨ji11, hji11⟩ : ∃ j_ : Int, (wrap64 (x8_1 * a1)) = j_ := ⟨_, rfl⟩
              replace H : (if 0 ≤ (ji11) then (if (ji11) < (x7_1.length : Int) then (spec_Makes.l0 k1 l0 a1 l2 (x7_1.set ((ji11) : Int).toNat (wrap64 (rd l0 x8_1))) (wrap64 (x8_1 + 1))) else (none)) else (none)) = some r := by first | (rw [hji11] at H; exact H) | (simp only [hji11] at H ⊢; exact H)
              have hji11w : (IntKind.i64.wrap (x8_1 * a1)) = ji11 := (i64_w _).trans hji11
              by_cases c12 : 0 ≤ (ji11)
              · rw [if_pos c12] at H
                have c12b0 : decide (0 ≤ (ji11)) = true := decide_eq_true c12
                clear c12
                by_cases c13 : (ji11) < (x7_1.length : Int)
                · rw [if_pos c13] at H
                  have c13b0 : decide ((ji11) < (x7_1.length : Int)) = true := decide_eq_true c13
                  clear c13
                  obtain ⟨y144, hy144⟩ : ∃ y_ : List Int, y_ = (x7_1.set ((ji11) : Int).toNat (wrap64 (rd l0 x8_1))) := ⟨_, rfl⟩
                  replace H : (spec_Makes.l0 k1 l0 a1 l2 y144 (wrap64 (x8_1 + 1))) = some r := by first | (rw [hy144]; with_reducible exact H) | (have H2_ := (Option.bind_some _ _).symm.trans H; rw [hy144]; with_reducible exact H2_) | (have H2_ := (Option.bind_some _ _).symm.trans H; with_reducible exact H2_) | with_reducible exact H | (rw [hy144]; exact H) | exact H
                  have Ny144 := Aside0.mk hy144
                  clear hy144
                  have H' := Aside0.mk H
                  clear H
                  have p143 : 0 ≤ (x8_1 : Int) := of_decide_eq_true (by first | (with_reducible assumption) | assumption)
                  have q143 : x8_1 < (l0.length : Int) := of_decide_eq_true (by first | (with_reducible assumption) | assumption)
                  obtain ⟨ad143, e143, hx143_0⟩ := Kd.at_int HR0.out x8_1 p143 q143
                  cases e143
                  replace hx143_0 := (HB.out.cell (World.block_lt_of_cell? w _ hx143_0)).trans hx143_0
                  replace p143 := eq_true p143
                  replace q143 := eq_true q143
                  have p14 : 0 ≤ ((ji11) : Int) := of_decide_eq_true (by first | (with_reducible assumption) | assumption)
                  have q14 : ((ji11) : Int) < ((x7_1.length : Int) : Int) := of_decide_eq_true (by first | (with_reducible assumption) | assumption)
                  obtain ⟨go14, co14, eo14, gb14, gl14, cl14, HG14⟩ := Kd.R_form HO_7.out (by omega)
                  (first | cases eo14 | (injection eo14 with ea_ en_ ec_; (first | subst ea_ | (injection ea_ with ea_; subst ea_)); subst ec_; clear en_))
                  have GB14 := Aside0.mk gb14
                  have GG14 := Aside0.mk HG14
                  clear gb14 gl14 HG14
                  obtain ⟨hx14_0, hf14_0⟩ := Kd.R_celln 0 HO_7.out ((ji11) : Int) p14 q14
                  replace p14 := eq_true p14
                  replace q14 := eq_true q14
                  have HP15 := Kd.R_putg HO_7.out ((ji11) : Int) (wrap64 (rd l0 x8_1))
                  go_wp2_with (first | ((with_reducible refine gate_store (t := 2) (p := 36) rfl ?_); refine store_event (t := 2) (p := 36) (v := ?vo_w16) (w1 := (wr.setCell ⟨go14, ((ji11) : Int).toNat, none⟩ (.int .i64 (wrap64 (rd l0 x8_1))))) ?hg ?ho ?hn ?hr ?_; (case ho => rfl); (case hg => rfl); (case hn => rfl); (case hr => first | (go_simp; done) | (go_simp; rfl)); intro w16 hw; have hg : wr.grownBy w16 (some go14) := (by rw [hw]; exact HP15.2); have hp_ : Kd.R (Kd.int .i64) 2 w16 w.heap.size (fun _ => True) (.slice (some ⟨go14, 0, none⟩) x7_1.length co14) y144 := (by rw [hw, Ny144.out]; exact HP15.1); clear HP15; have n0_ := Aside0.mk (hp_); have n1_ := Aside0.mk ((by rw [hw]; exact below_set (HB.out) GB14.out : Below w.heap.size w w16)); clear HO_7; clear HB; have HO_7 := n0_; have HB := n1_; clear n0_ n1_; clear hg hw hp_))
                  go_roundg k1
                  case measure => have := HK1.out; omega
                  case rel => exact ⟨(y144), (wrap64 (x8_1 + 1)), (by first | rfl | (simp; done) | (simp [*]; done)), H', ⟨by have := HK1.out; omega⟩, ⟨by (with_reducible repeat (first | apply Kd.R_alloc | apply Kd.R_drewN | apply Kd.R_drew)); exact HO_7.out⟩, ⟨by repeat (first | (with_reducible first | exact HB.out | apply below_alloc | apply pw_below_drewN | apply below_drew1) | exact HB.out)⟩⟩
                · rw [if_neg c13] at H
                  exact absurd H (by simp)
              · rw [if_neg c12] at H
                exact absurd H (by simp)
            · rw [if_neg c10] at H
              exact absurd H (by simp)
          · rw [if_neg c9] at H
            have c9b0 : decide (x8_1 < (l0.length : Int)) = false := decide_eq_false c9
            clear c9
            replace H := Option.bind_eq_some_iff.mp H
            obtain ⟨⟨t145, t146⟩, A170, H⟩ := H
            replace H : ((spec_Short.f k1 l2).bind fun t149 => ((spec_Turned.f k1 t149).bind fun t152 => (spec_Makes.l1 k1 t145 t146 t152 0))) = some r := H
            have A17 := Aside0.mk A170
            clear A170
            replace H := Option.bind_eq_some_iff.mp H
            obtain ⟨t149, A180, H⟩ := H
            replace H : ((spec_Turned.f k1 t149).bind fun t152 => (spec_Makes.l1 k1 t145 t146 t152 0)) = some r := H
            have A18 := Aside0.mk A180
            clear A180
            replace H := Option.bind_eq_some_iff.mp H
            obtain ⟨t152, A190, H⟩ := H
            replace H : (spec_Makes.l1 k1 t145 t146 t152 0) = some r := H
            have A19 := Aside0.mk A190
            clear A190
            have H' := Aside0.mk H
            clear H
            obtain ⟨Ao20, co20, eo20⟩ := Kd.R_slice HO_7.out
            subst eo20
            go_wp2_with (first | ((with_reducible refine gate_callee (f := 44) rfl ?_); refine goesL_ (some 39) rfl rfl Try.func44 (by kernel_rfl) rfl #[.slice Ao20 x7_1.length co20] rfl (by (try simp only [List.map_toArray, List.map_cons, List.map_nil]); first | done | rfl | (simp only [List.length_drop, List.length_take]; rfl)) ?_; (with_reducible refine (spec_carried.calls k1 _ _ x7_1 t145 t146 _ ?side1 ?side2 A17.out).mono ?_); (case side1 => repeat (first | exact (Kd.R_reads' HO_7.out).2.2 | (with_reducible refine Kd.C_alloc ?_ _) | (with_reducible refine Kd.C_drewN ?_ _) | (with_reducible refine Kd.C_drew ?_))); (case side2 => exact (Kd.R_reads' HO_7.out).2.1); rintro e w21 ⟨v147, rfl, ho0, hb⟩; refine ⟨_, rfl, ?_⟩; have n0_ := Aside0.mk (Kd.R_elder' (by (with_reducible repeat (first | apply Kd.R_alloc | apply Kd.R_drewN | apply Kd.R_drew)); exact HO_7.out) (Kd.R_base ho0) hb); have n1_ := Aside0.mk (Kd.R_lower (Kd.R_new' ho0 (Kd.R_lt (by (with_reducible repeat (first | apply Kd.R_alloc | apply Kd.R_drewN | apply Kd.R_drew)); exact HO_7.out))) (below_size (by repeat (first | (with_reducible first | exact HB.out | apply below_alloc | apply pw_below_drewN | apply below_drew1) | exact HB.out)))); have n2_ := Aside0.mk (below_step (by repeat (first | (with_reducible first | exact HB.out | apply below_alloc | apply pw_below_drewN | apply below_drew1) | exact HB.out)) hb); clear HO_7; clear HB; have HO_7 := n0_; have HO148 := n1_; have HB := n2_; clear n0_ n1_ n2_; (try clear hb); (try clear hb2); (try clear hk); (try clear hi); (try clear ho0)) | ((with_reducible refine gate_callee (f := 15) rfl ?_); refine goesL_ (some 43) rfl rfl Try.func15 (by kernel_rfl) rfl #[.slice A2 l2.length c2] rfl (by (try simp only [List.map_toArray, List.map_cons, List.map_nil]); first | done | rfl | (simp only [List.length_drop, List.length_take]; rfl)) ?_; (with_reducible refine (spec_Short.calls k1 (fun k_ => k_ < w.heap.size) _ _ l2 t149 _ ?side1 A18.out).mono ?_); (case side1 => exact Kd.V_mk HC2.out (Kd.F_below (Kd.C_F (Kd.heap_int .u8) HR2.out) (by repeat (first | (with_reducible first | exact HB.out | apply below_alloc | apply pw_below_drewN | apply below_drew1) | exact HB.out)))); rintro e w22 ⟨v150, rfl, ho0, hb⟩; refine ⟨_, rfl, ?_⟩; have n0_ := Aside0.mk (Kd.R_below (by (with_reducible repeat (first | apply Kd.R_alloc | apply Kd.R_drewN | apply Kd.R_drew)); exact HO_7.out) hb); have n1_ := Aside0.mk (Kd.R_below (by (with_reducible repeat (first | apply Kd.R_alloc | apply Kd.R_drewN | apply Kd.R_drew)); exact HO148.out) hb); have n2_ := Aside0.mk (Kd.R_lower (Kd.R_mono (ok' := fun k_ => True) ho0 (fun _ hk_ => trivial)) (below_size (by repeat (first | (with_reducible first | exact HB.out | apply below_alloc | apply pw_below_drewN | apply below_drew1) | exact HB.out)))); have n3_ := Aside0.mk (below_step (by repeat (first | (with_reducible first | exact HB.out | apply below_alloc | apply pw_below_drewN | apply below_drew1) | exact HB.out)) hb); clear HO_7; clear HO148; clear HB; have HO_7 := n0_; have HO148 := n1_; have HO151 := n2_; have HB := n3_; clear n0_ n1_ n2_ n3_; (try clear hb); (try clear hb2); (try clear hk); (try clear hi); (try clear ho0); obtain ⟨Ao23, co23, eo23⟩ := Kd.R_slice HO151.out; subst eo23) | ((with_reducible refine gate_callee (f := 16) rfl ?_); refine goesL_ (some 44) rfl rfl Try.func16 (by kernel_rfl) rfl #[.slice Ao23 t149.length co23] rfl (by (try simp only [List.map_toArray, List.map_cons, List.map_nil]); first | done | rfl | (simp only [List.length_drop, List.length_take]; rfl)) ?_; (with_reducible refine (spec_Turned.calls k1 _ _ t149 t152 _ ?side1 ?side2 A19.out).mono ?_); (case side1 => repeat (first | exact (Kd.R_reads' HO151.out).2.2 | (with_reducible refine Kd.C_alloc ?_ _) | (with_reducible refine Kd.C_drewN ?_ _) | (with_reducible refine Kd.C_drew ?_))); (case side2 => exact (Kd.R_reads' HO151.out).2.1); rintro e w24 ⟨v153, rfl, ho0, hb⟩; refine ⟨_, rfl, ?_⟩; have n0_ := Aside0.mk (Kd.R_below (by (with_reducible repeat (first | apply Kd.R_alloc | apply Kd.R_drewN | apply Kd.R_drew)); exact HO_7.out) hb); have n1_ := Aside0.mk (Kd.R_below (by (with_reducible repeat (first | apply Kd.R_alloc | apply Kd.R_drewN | apply Kd.R_drew)); exact HO148.out) hb); have n2_ := Aside0.mk (Kd.R_elder' (by (with_reducible repeat (first | apply Kd.R_alloc | apply Kd.R_drewN | apply Kd.R_drew)); exact HO151.out) (Kd.R_base ho0) hb); have n3_ := Aside0.mk (Kd.R_lower (Kd.R_new' ho0 (Kd.R_lt (by (with_reducible repeat (first | apply Kd.R_alloc | apply Kd.R_drewN | apply Kd.R_drew)); exact HO151.out))) (below_size (by repeat (first | (with_reducible first | exact HB.out | apply below_alloc | apply pw_below_drewN | apply below_drew1) | exact HB.out)))); have n4_ := Aside0.mk (below_step (by repeat (first | (with_reducible first | exact HB.out | apply below_alloc | apply pw_below_drewN | apply below_drew1) | exact HB.out)) hb); clear HO_7; clear HO148; clear HO151; clear HB; have HO_7 := n0_; have HO148 := n1_; have HO151 := n2_; have HO154 := n3_; have HB := n4_; clear n0_ n1_ n2_ n3_ n4_; (try clear hb); (try clear hb2); (try clear hk); (try clear hi); (try clear ho0)))
            go_loopg [12] k1 (fun kq v12 w' => ∃ (x12_2 : Int), v12 = .int .i64 x12_2 ∧ Aside0 (spec_Makes.l1 kq t145 t146 t152 x12_2 = some r) ∧ Aside0 (kq ≤ k1) ∧ Aside0 (Kd.R (Kd.int .i64) 2 w' w.heap.size (fun _ => True) v147 t145) ∧ Aside0 (Kd.R (Kd.int .u8) 5 w' w.heap.size (fun _ => True) v153 t152) ∧ Aside0 (Below w.heap.size w w'))
            case atStart => exact ⟨(0), (by first | rfl | (simp; done) | (simp [*]; done)), H', ⟨Nat.le_refl _⟩, ⟨by (with_reducible repeat (first | apply Kd.R_alloc | apply Kd.R_drewN | apply Kd.R_drew)); exact Kd.R_mono HO148.out (fun _ hk => trivial)⟩, ⟨by (with_reducible repeat (first | apply Kd.R_alloc | apply Kd.R_drewN | apply Kd.R_drew)); exact Kd.R_mono HO154.out (fun _ hk => trivial)⟩, ⟨by repeat (first | (with_reducible first | exact HB.out | apply below_alloc | apply pw_below_drewN | apply below_drew1) | exact HB.out)⟩⟩
            case round =>
              clear H'
              try clear c1
              try clear p1
              try clear q1
              try clear hx1
              try clear c2
              try clear p2
              try clear c4
              try clear c5
              try clear c5b0
              try clear c5b1
              try clear c6
              try clear c6b0
              try clear c6b1
              try clear p6
              try clear c9
              try clear c9b0
              try clear c10
              try clear c10b0
              try clear c12
              try clear c12b0
              try clear c13
              try clear c13b0
              try clear p14
              try clear q14
              try clear hx14
              try clear hf14
              try clear c15
              try clear c16
              try clear hx143_0
              try clear hx14_0
              try clear p14
              try clear p143
              try clear p2
              try clear p6
              try clear q14
              try clear q143
              obtain ⟨x12_2, rfl, HA, HK2, HO_9, HO_11, HB⟩ := hrel
              cases gk with
              | zero => exact absurd HA.out (by simp [spec_Makes.l1])
              | succ k2 =>
                have H := HA.out
                clear HA
                simp only [spec_Makes.l1] at H
                have HC25 := Aside0.mk H
                clear H
                go_upto_region 9 with (fail)
                go_cut [55] (fun v55 wc => ∃ (kq : Nat) (x55_24 : Bool), v55 = .bool x55_24 ∧ Aside0 (spec_Makes.j2 kq t145 t146 t152 x12_2 x55_24 = some r) ∧ Aside0 (kq ≤ k2) ∧ Aside0 (Kd.R (Kd.int .i64) 2 wc w.heap.size (fun _ => True) v147 t145) ∧ Aside0 (Kd.R (Kd.int .u8) 5 wc w.heap.size (fun _ => True) v153 t152) ∧ Aside0 (Below w.heap.size w wc))
                case first =>
                  have H := HC25.out
                  clear HC25
                  by_cases c26 : x12_2 < (t145.length : Int)
                  · rw [if_pos c26] at H
                    have c26b0 : decide (x12_2 < (t145.length : Int)) = true := decide_eq_true c26
                    clear c26
                    (first | rw [c26b0] | (simp only [i64_w, i32_w]; rw [c26b0]) | skip)
                    have H' := Aside0.mk H
                    clear H
                    obtain ⟨Ao27, co27, eo27⟩ := Kd.R_slice HO_9.out
                    subst eo27
                    go_wp2
                    go_meet
                    case rel => exact ⟨_, (true), (by first | rfl | (simp; done) | (simp [*]; done)), H', ⟨by have := HK1.out; have := HK2.out; first | omega | exact Nat.le_refl _⟩, ⟨by (with_reducible repeat (first | apply Kd.R_alloc | apply Kd.R_drewN | apply Kd.R_drew)); exact HO_9.out⟩, ⟨by (with_reducible repeat (first | apply Kd.R_alloc | apply Kd.R_drewN | apply Kd.R_drew)); exact HO_11.out⟩, ⟨by repeat (first | (with_reducible first | exact HB.out | apply below_alloc | apply pw_below_drewN | apply below_drew1) | exact HB.out)⟩⟩
                  · rw [if_neg c26] at H
                    have c26b0 : decide (x12_2 < (t145.length : Int)) = false := decide_eq_false c26
                    clear c26
                    (first | rw [c26b0] | (simp only [i64_w, i32_w]; rw [c26b0]) | skip)
                    have H' := Aside0.mk H
                    clear H
                    obtain ⟨Ao28, co28, eo28⟩ := Kd.R_slice HO_9.out
                    subst eo28
                    obtain ⟨Ao29, co29, eo29⟩ := Kd.R_slice HO_11.out
                    subst eo29
                    go_wp2
                    go_meet
                    case rel => exact ⟨_, (decide (x12_2 < (wrap64 (8 * (t152.length : Int))))), (by first | rfl | (simp; done) | (simp [*]; done)), H', ⟨by have := HK1.out; have := HK2.out; first | omega | exact Nat.le_refl _⟩, ⟨by (with_reducible repeat (first | apply Kd.R_alloc | apply Kd.R_drewN | apply Kd.R_drew)); exact HO_9.out⟩, ⟨by (with_reducible repeat (first | apply Kd.R_alloc | apply Kd.R_drewN | apply Kd.R_drew)); exact HO_11.out⟩, ⟨by repeat (first | (with_reducible first | exact HB.out | apply below_alloc | apply pw_below_drewN | apply below_drew1) | exact HB.out)⟩⟩
                case rest =>
                  clear HC25
                  try clear c1
                  try clear p1
                  try clear q1
                  try clear hx1
                  try clear c2
                  try clear p2
                  try clear c4
                  try clear c5
                  try clear c5b0
                  try clear c5b1
                  try clear c6
                  try clear c6b0
                  try clear c6b1
                  try clear p6
                  try clear c9
                  try clear c9b0
                  try clear c10
                  try clear c10b0
                  try clear c12
                  try clear c12b0
                  try clear c13
                  try clear c13b0
                  try clear p14
                  try clear q14
                  try clear hx14
                  try clear hf14
                  try clear c15
                  try clear c16
                  try clear c26
                  try clear c26b0
                  try clear c27
                  try clear hx143_0
                  try clear hx14_0
                  try clear p1
                  try clear p14
                  try clear p143
                  try clear p2
                  try clear p6
                  try clear q1
                  try clear q14
                  try clear q143
                  obtain ⟨kq, x55_24, rfl, HA, HJ24, HO_9, HO_11, HB⟩ := hcut
                  cases kq with
                  | zero => exact absurd HA.out (by simp [spec_Makes.j2])
                  | succ kj24 =>
                    have H := HA.out
                    clear HA
                    simp only [spec_Makes.j2] at H
                    by_cases c30 : x55_24 = true
                    · subst c30
                      have H1 : (if x12_2 < (wrap64 (8 * (t152.length : Int))) then (if 0 ≤ (wrap64 (Int.tdiv x12_2 8)) then (if (wrap64 (Int.tdiv x12_2 8)) < (t152.length : Int) then (if 0 ≤ (IntKind.u64.wrap (Int.tmod x12_2 8)) then (spec_Makes.j3 kj24 t145 t146 t152 x12_2 (wrap64 (Go.bits .and .u8 (shr .u8 (rd t152 (wrap64 (Int.tdiv x12_2 8))) (IntKind.u64.wrap (Int.tmod x12_2 8))) 1))) else (none)) else (none)) else (none)) else (spec_Makes.j3 kj24 t145 t146 t152 x12_2 0)) = some r := by rw [if_pos rfl] at H; exact H
                      clear H
                      have H := H1
                      clear H1
                      have HC31 := Aside0.mk H
                      clear H
                      obtain ⟨Ao32, co32, eo32⟩ := Kd.R_slice HO_11.out
                      subst eo32
                      go_upto_if 62 with (fail)
                      go_cut [13] (fun v13 wc => ∃ (kq : Nat) (x13_30 : Int), v13 = .int .i64 x13_30 ∧ Aside0 (spec_Makes.j3 kq t145 t146 t152 x12_2 x13_30 = some r) ∧ Aside0 (kq ≤ kj24) ∧ Aside0 (Kd.R (Kd.int .i64) 2 wc w.heap.size (fun _ => True) v147 t145) ∧ Aside0 (Kd.R (Kd.int .u8) 5 wc w.heap.size (fun _ => True) (.slice Ao32 t152.length co32) t152) ∧ Aside0 (Below w.heap.size w wc))
                      case first =>
                        have H := HC31.out
                        clear HC31
                        by_cases c33 : x12_2 < (wrap64 (8 * (t152.length : Int)))
                        · rw [if_pos c33] at H
                          have c33b0 : decide (x12_2 < (wrap64 (8 * (t152.length : Int)))) = true := decide_eq_true c33
                          clear c33
                          (first | rw [c33b0] | (simp only [i64_w, i32_w]; rw [c33b0]) | skip)
                          obtain ⟨ji34, hji34⟩ : ∃ j_ : Int, (wrap64 (Int.tdiv x12_2 8)) = j_ := ⟨_, rfl⟩
                          replace H : (if 0 ≤ (ji34) then (if (ji34) < (t152.length : Int) then (if 0 ≤ (IntKind.u64.wrap (Int.tmod x12_2 8)) then (spec_Makes.j3 kj24 t145 t146 t152 x12_2 (wrap64 (Go.bits .and .u8 (shr .u8 (rd t152 (ji34)) (IntKind.u64.wrap (Int.tmod x12_2 8))) 1))) else (none)) else (none)) else (none)) = some r := by first | (rw [hji34] at H; exact H) | (simp only [hji34] at H ⊢; exact H)
                          have hji34w : (IntKind.i64.wrap (Int.tdiv x12_2 8)) = ji34 := (i64_w _).trans hji34
                          by_cases c35 : 0 ≤ (ji34)
                          · rw [if_pos c35] at H
                            have c35b0 : decide (0 ≤ (ji34)) = true := decide_eq_true c35
                            clear c35
                            by_cases c36 : (ji34) < (t152.length : Int)
                            · rw [if_pos c36] at H
                              have c36b0 : decide ((ji34) < (t152.length : Int)) = true := decide_eq_true c36
                              clear c36
                              obtain ⟨ji37, hji37⟩ : ∃ j_ : Int, (IntKind.u64.wrap (Int.tmod x12_2 8)) = j_ := ⟨_, rfl⟩
                              replace H : (if 0 ≤ (ji37) then (spec_Makes.j3 kj24 t145 t146 t152 x12_2 (wrap64 (Go.bits .and .u8 (shr .u8 (rd t152 (ji34)) (ji37)) 1))) else (none)) = some r := by first | (rw [hji37] at H; exact H) | (simp only [hji37] at H ⊢; exact H)
                              by_cases c38 : 0 ≤ (ji37)
                              · rw [if_pos c38] at H
                                have c38b0 := eq_true c38
                                have c38b1 : decide (0 ≤ (ji37)) = true := decide_eq_true c38
                                clear c38
                                obtain ⟨ji39, hji39⟩ : ∃ j_ : Int, (shr .u8 (rd t152 (ji34)) (ji37)) = j_ := ⟨_, rfl⟩
                                replace H : (spec_Makes.j3 kj24 t145 t146 t152 x12_2 (wrap64 (Go.bits .and .u8 (ji39) 1))) = some r := by first | (rw [hji39] at H; exact H) | (simp only [hji39] at H ⊢; exact H)
                                have hji39_ : ((rd t152 (ji34)) / 2 ^ min (ji37).toNat 8) = ji39 := hji39
                                have hji39z : (ji37) ≤ 8 → ((rd t152 (ji34)) / 2 ^ (ji37).toNat) = ji39 := shr_small hji39
                                have H' := Aside0.mk H
                                clear H
                                have p155 : 0 ≤ ((ji34) : Int) := of_decide_eq_true (by first | (with_reducible assumption) | assumption)
                                have q155 : (ji34) < (t152.length : Int) := of_decide_eq_true (by first | (with_reducible assumption) | assumption)
                                obtain ⟨ad155, e155, hx155_0⟩ := Kd.at_int (Kd.R_reads' HO_11.out).2.2 (ji34) p155 q155
                                cases e155
                                replace p155 := eq_true p155
                                replace q155 := eq_true q155
                                go_wp2
                                go_meet
                                case rel => exact ⟨_, (wrap64 (Go.bits .and .u8 (ji39) 1)), (by first | rfl | (simp; done) | (simp only [← hji39] <;> (first | rfl | simp)) | (simp [*]; done)), H', ⟨by have := HK1.out; have := HK2.out; have := HJ24.out; first | omega | exact Nat.le_refl _⟩, ⟨by (with_reducible repeat (first | apply Kd.R_alloc | apply Kd.R_drewN | apply Kd.R_drew)); exact HO_9.out⟩, ⟨by (with_reducible repeat (first | apply Kd.R_alloc | apply Kd.R_drewN | apply Kd.R_drew)); exact HO_11.out⟩, ⟨by repeat (first | (with_reducible first | exact HB.out | apply below_alloc | apply pw_below_drewN | apply below_drew1) | exact HB.out)⟩⟩
                              · rw [if_neg c38] at H
                                exact absurd H (by simp)
                            · rw [if_neg c36] at H
                              exact absurd H (by simp)
                          · rw [if_neg c35] at H
                            exact absurd H (by simp)
                        · rw [if_neg c33] at H
                          have c33b0 : decide (x12_2 < (wrap64 (8 * (t152.length : Int)))) = false := decide_eq_false c33
                          clear c33
                          (first | rw [c33b0] | (simp only [i64_w, i32_w]; rw [c33b0]) | skip)
                          have H' := Aside0.mk H
                          clear H
                          go_wp2
                          go_meet
                          case rel => exact ⟨_, (0), (by first | rfl | (simp; done) | (simp [*]; done)), H', ⟨by have := HK1.out; have := HK2.out; have := HJ24.out; first | omega | exact Nat.le_refl _⟩, ⟨by (with_reducible repeat (first | apply Kd.R_alloc | apply Kd.R_drewN | apply Kd.R_drew)); exact HO_9.out⟩, ⟨by (with_reducible repeat (first | apply Kd.R_alloc | apply Kd.R_drewN | apply Kd.R_drew)); exact HO_11.out⟩, ⟨by repeat (first | (with_reducible first | exact HB.out | apply below_alloc | apply pw_below_drewN | apply below_drew1) | exact HB.out)⟩⟩
                      case rest =>
                        clear HC31
                        try clear c1
                        try clear p1
                        try clear q1
                        try clear hx1
                        try clear c2
                        try clear p2
                        try clear c3
                        try clear c4
                        try clear c5
                        try clear c5b0
                        try clear c5b1
                        try clear c6
                        try clear c6b0
                        try clear c6b1
                        try clear p6
                        try clear c9
                        try clear c9b0
                        try clear c10
                        try clear c10b0
                        try clear c12
                        try clear c12b0
                        try clear c13
                        try clear c13b0
                        try clear p14
                        try clear q14
                        try clear hx14
                        try clear hf14
                        try clear c15
                        try clear p15
                        try clear q15
                        try clear hx15
                        try clear c16
                        try clear c26
                        try clear c26b0
                        try clear c27
                        try clear c30
                        try clear c33
                        try clear c33b0
                        try clear c35
                        try clear c35b0
                        try clear c36
                        try clear c36b0
                        try clear c38
                        try clear c38b0
                        try clear c38b1
                        try clear hx143_0
                        try clear hx14_0
                        try clear hx155_0
                        try clear p1
                        try clear p14
                        try clear p143
                        try clear p155
                        try clear p2
                        try clear p6
                        try clear q1
                        try clear q14
                        try clear q143
                        try clear q155
                        obtain ⟨kq, x13_30, rfl, HA, HJ30, HO_9, HO_11, HB⟩ := hcut
                        cases kq with
                        | zero => exact absurd HA.out (by simp [spec_Makes.j3])
                        | succ kj30 =>
                          have H := HA.out
                          clear HA
                          simp only [spec_Makes.j3] at H
                          by_cases c40 : x12_2 < (t145.length : Int)
                          · rw [if_pos c40] at H
                            have c40b0 : decide (x12_2 < (t145.length : Int)) = true := decide_eq_true c40
                            clear c40
                            by_cases c41 : 0 ≤ x12_2
                            · rw [if_pos c41] at H
                              have c41b0 : decide (0 ≤ x12_2) = true := decide_eq_true c41
                              clear c41
                              by_cases c42 : x13_30 = (rd t145 x12_2)
                              · rw [if_pos c42] at H
                                have c42b0 : (x13_30 == (rd t145 x12_2)) = true := beq_iff_eq.mpr c42
                                have c42b1 : (x13_30 != (rd t145 x12_2)) = false := bne_eq_false_iff_eq.mpr c42
                                clear c42
                                have H' := Aside0.mk H
                                clear H
                                obtain ⟨Ao43, co43, eo43⟩ := Kd.R_slice HO_9.out
                                subst eo43
                                have p156 : 0 ≤ (x12_2 : Int) := of_decide_eq_true (by first | (with_reducible assumption) | assumption)
                                have q156 : x12_2 < (t145.length : Int) := of_decide_eq_true (by first | (with_reducible assumption) | assumption)
                                obtain ⟨ad156, e156, hx156_0⟩ := Kd.at_int (Kd.R_reads' HO_9.out).2.2 x12_2 p156 q156
                                cases e156
                                replace p156 := eq_true p156
                                replace q156 := eq_true q156
                                go_wp2
                                go_roundg kj30
                                case measure => have := HK1.out; have := HK2.out; have := HJ24.out; have := HJ30.out; omega
                                case rel => exact ⟨(wrap64 (x12_2 + 1)), (by first | rfl | (simp; done) | (simp [*]; done)), H', ⟨by have := HK1.out; have := HK2.out; have := HJ24.out; have := HJ30.out; omega⟩, ⟨by (with_reducible repeat (first | apply Kd.R_alloc | apply Kd.R_drewN | apply Kd.R_drew)); exact HO_9.out⟩, ⟨by (with_reducible repeat (first | apply Kd.R_alloc | apply Kd.R_drewN | apply Kd.R_drew)); exact HO_11.out⟩, ⟨by repeat (first | (with_reducible first | exact HB.out | apply below_alloc | apply pw_below_drewN | apply below_drew1) | exact HB.out)⟩⟩
                              · rw [if_neg c42] at H
                                have c42b0 : (x13_30 == (rd t145 x12_2)) = false := beq_eq_false_iff_ne.mpr c42
                                have c42b1 : (x13_30 != (rd t145 x12_2)) = true := bne_iff_ne.mpr c42
                                obtain rfl := Option.some.inj H
                                obtain ⟨Ao44, co44, eo44⟩ := Kd.R_slice HO_9.out
                                subst eo44
                                have p156 : 0 ≤ (x12_2 : Int) := of_decide_eq_true (by first | (with_reducible assumption) | assumption)
                                have q156 : x12_2 < (t145.length : Int) := of_decide_eq_true (by first | (with_reducible assumption) | assumption)
                                obtain ⟨ad156, e156, hx156_0⟩ := Kd.at_int (Kd.R_reads' HO_9.out).2.2 x12_2 p156 q156
                                cases e156
                                replace p156 := eq_true p156
                                replace q156 := eq_true q156
                                go_wp2
                                go_ret
                                exact ⟨by first | rfl | (simp [errW_none, errW_some] <;> rfl) | (simp only [← hji4]; first | rfl | (simp [errW_none, errW_some] <;> rfl)) | (simp [*, errW_none, errW_some] <;> rfl), by repeat (first | (with_reducible first | exact HB.out | apply below_alloc | apply pw_below_drewN | apply below_drew1) | exact HB.out)⟩
                            · rw [if_neg c41] at H
                              exact absurd H (by simp)
                          · rw [if_neg c40] at H
                            have c40b0 : decide (x12_2 < (t145.length : Int)) = false := decide_eq_false c40
                            clear c40
                            by_cases c45 : x13_30 = 0
                            · rw [if_pos c45] at H
                              have c45b0 : (x13_30 == 0) = true := beq_iff_eq.mpr c45
                              have c45b1 : (x13_30 != 0) = false := bne_eq_false_iff_eq.mpr c45
                              clear c45
                              have H' := Aside0.mk H
                              clear H
                              obtain ⟨Ao46, co46, eo46⟩ := Kd.R_slice HO_9.out
                              subst eo46
                              go_wp2
                              go_roundg kj30
                              case measure => have := HK1.out; have := HK2.out; have := HJ24.out; have := HJ30.out; omega
                              case rel => exact ⟨(wrap64 (x12_2 + 1)), (by first | rfl | (simp; done) | (simp [*]; done)), H', ⟨by have := HK1.out; have := HK2.out; have := HJ24.out; have := HJ30.out; omega⟩, ⟨by (with_reducible repeat (first | apply Kd.R_alloc | apply Kd.R_drewN | apply Kd.R_drew)); exact HO_9.out⟩, ⟨by (with_reducible repeat (first | apply Kd.R_alloc | apply Kd.R_drewN | apply Kd.R_drew)); exact HO_11.out⟩, ⟨by repeat (first | (with_reducible first | exact HB.out | apply below_alloc | apply pw_below_drewN | apply below_drew1) | exact HB.out)⟩⟩
                            · rw [if_neg c45] at H
                              have c45b0 : (x13_30 == 0) = false := beq_eq_false_iff_ne.mpr c45
                              have c45b1 : (x13_30 != 0) = true := bne_iff_ne.mpr c45
                              obtain rfl := Option.some.inj H
                              obtain ⟨Ao47, co47, eo47⟩ := Kd.R_slice HO_9.out
                              subst eo47
                              go_wp2
                              go_ret
                              exact ⟨by first | rfl | (simp [errW_none, errW_some] <;> rfl) | (simp only [← hji4]; first | rfl | (simp [errW_none, errW_some] <;> rfl)) | (simp [*, errW_none, errW_some] <;> rfl), by repeat (first | (with_reducible first | exact HB.out | apply below_alloc | apply pw_below_drewN | apply below_drew1) | exact HB.out)⟩
                    · replace c30 := Bool.eq_false_iff.mpr c30
                      subst c30
                      have H1 : (some t146) = some r := by rw [if_neg (show ¬ (false = true) by decide)] at H; exact H
                      clear H
                      have H := H1
                      clear H1
                      obtain rfl := Option.some.inj H
                      go_wp2
                      go_ret
                      exact ⟨by first | rfl | (simp [errW_none, errW_some] <;> rfl) | (simp only [← hji4]; first | rfl | (simp [errW_none, errW_some] <;> rfl)) | (simp [*, errW_none, errW_some] <;> rfl), by repeat (first | (with_reducible first | exact HB.out | apply below_alloc | apply pw_below_drewN | apply below_drew1) | exact HB.out)⟩
    · rw [if_neg c6] at H
      exact absurd H (by simp)
  · rw [if_neg c5] at H
    exact absurd H (by simp)

/-! ### spec_IsOdd: function 30 -/
def spec_IsOdd.f (l0 : List Int) : Option (Bool) := if (l0.length : Int) > 0 then (if 0 ≤ (wrap64 ((l0.length : Int) - 1)) then (if (wrap64 ((l0.length : Int) - 1)) < (l0.length : Int) then (some ((Int.tmod (rd l0 (wrap64 ((l0.length : Int) - 1))) 2) == 1)) else (none)) else (none)) else (some false)
set_option maxHeartbeats 8000000 in
set_option maxRecDepth 100000 in
theorem spec_IsOdd.calls (A0 : Option Addr) (c0 : Nat) (l0 : List Int) (r : Bool) (w : World) (hr0 : Kd.C (Kd.int .u8) w A0 l0.length l0) (hc0 : l0.length ≤ c0) (h : spec_IsOdd.f l0 = some r) :
    Calls Try.prog 30 #[.slice A0 l0.length c0] w fun e w' => e = .returned (.bool r) ∧ Drawn0 w w' := by
  have HR0 := Aside0.mk hr0
  have HC0 := Aside0.mk hc0
  clear hr0 hc0
  have H : (if (l0.length : Int) > 0 then (if 0 ≤ (wrap64 ((l0.length : Int) - 1)) then (if (wrap64 ((l0.length : Int) - 1)) < (l0.length : Int) then (some ((Int.tmod (rd l0 (wrap64 ((l0.length : Int) - 1))) 2) == 1)) else (none)) else (none)) else (some false)) = some r := h
  clear h
  by_cases c2 : (l0.length : Int) > 0
  · rw [if_pos c2] at H
    have c2b0 : decide (0 < (l0.length : Int)) = true := decide_eq_true c2
    have c2b1 : decide (0 < l0.length) = true := decide_eq_true (by omega)
    clear c2
    obtain ⟨ji3, hji3⟩ : ∃ j_ : Int, (wrap64 ((l0.length : Int) - 1)) = j_ := ⟨_, rfl⟩
    replace H : (if 0 ≤ (ji3) then (if (ji3) < (l0.length : Int) then (some ((Int.tmod (rd l0 (ji3)) 2) == 1)) else (none)) else (none)) = some r := by first | (rw [hji3] at H; exact H) | (simp only [hji3] at H ⊢; exact H)
    have hji3w : (IntKind.i64.wrap ((l0.length : Int) - 1)) = ji3 := (i64_w _).trans hji3
    by_cases c4 : 0 ≤ (ji3)
    · rw [if_pos c4] at H
      have c4b0 : decide (0 ≤ (ji3)) = true := decide_eq_true c4
      clear c4
      by_cases c5 : (ji3) < (l0.length : Int)
      · rw [if_pos c5] at H
        have c5b0 : decide ((ji3) < (l0.length : Int)) = true := decide_eq_true c5
        clear c5
        obtain rfl := Option.some.inj H
        have p157 : 0 ≤ ((ji3) : Int) := of_decide_eq_true (by first | (with_reducible assumption) | assumption)
        have q157 : (ji3) < (l0.length : Int) := of_decide_eq_true (by first | (with_reducible assumption) | assumption)
        obtain ⟨ad157, e157, hx157_0⟩ := Kd.at_int HR0.out (ji3) p157 q157
        cases e157
        replace p157 := eq_true p157
        replace q157 := eq_true q157
        go_enter Try.func30, Try.ntmps30
        go_wp2
        go_ret
        exact ⟨by first | rfl | (simp; done) | (simp only [← hji3] <;> (first | rfl | simp)) | (simp [*]; done), by repeat (first | exact Drawn0.refl _ | apply Drawn0.step)⟩
      · rw [if_neg c5] at H
        exact absurd H (by simp)
    · rw [if_neg c4] at H
      exact absurd H (by simp)
  · rw [if_neg c2] at H
    have c2b0 : decide (0 < (l0.length : Int)) = false := decide_eq_false c2
    have c2b1 : decide (0 < l0.length) = false := decide_eq_false (by omega)
    clear c2
    obtain rfl := Option.some.inj H
    go_enter Try.func30, Try.ntmps30
    go_wp2
    go_ret
    exact ⟨by first | rfl | (simp; done) | (simp [*]; done), by repeat (first | exact Drawn0.refl _ | apply Drawn0.step)⟩

-- NOT PRINTED: function 84 (bigall_nat_make)
end Go.Proofs.Ythckboojmljeiaa.PFnSigned
