/- Out of the kit's print for FnExactApart, what it says of the reference's Apart. -/
import Derived.Test.YthckboojmljeiaaPFnExactApartx0
import Derived.Test.YthckboojmljeiaaPFnExactApartx2
import Derived.Test.YthckboojmljeiaaPFnExactApartx3
namespace Go.Proofs.Ythckboojmljeiaa.PFnExactApart
open Go.RowKit Go.Proofs.YthckboojmljeiaaW.PrintWords Go.Proofs.YthckboojmljeiaaW.PrintLast Go.Proofs.YthckboojmljeiaaW.PrintMore
attribute [local go_sem] max2_int min2_int max_two min_two max_three min_three max_four min_four   -- for this text's walks alone
set_option linter.unusedVariables false
set_option linter.unusedSimpArgs false

/-! ### spec_Apart: function 29 -/
mutual
def spec_Apart.l0 : Nat → Int → List Int → List Int → Int → Option (List Int)
  | 0, _, _, _, _ => none
  | k + 1, x1, x5, x6, x7 => if x7 < (wrap64 (8 * (x5.length : Int))) then (if 0 ≤ (wrap64 (Int.tdiv x7 8)) then (if (wrap64 (Int.tdiv x7 8)) < (x5.length : Int) then (if 0 ≤ (IntKind.u64.wrap (Int.tmod x7 8)) then (if 0 ≤ x7 then (if x7 < (x6.length : Int) then (spec_Apart.l0 k x1 x5 (x6.set (x7 : Int).toNat (wrap64 (Go.bits .and .u8 (shr .u8 (rd x5 (wrap64 (Int.tdiv x7 8))) (IntKind.u64.wrap (Int.tmod x7 8))) 1))) (wrap64 (x7 + 1))) else (none)) else (none)) else (none)) else (none)) else (none)) else (spec_Apart.l1 k x1 x6 (([] : List Int)) 0 0)
def spec_Apart.l1 : Nat → Int → List Int → List Int → Int → Int → Option (List Int)
  | 0, _, _, _, _, _ => none
  | k + 1, x1, x6, x8, x9, x10 => if (wrap64 (x10 + x1)) < (x6.length : Int) then (if 0 ≤ x10 then (if x10 < (x6.length : Int) then (if (rd x6 x10) = 1 then (spec_Apart.l2 k x1 x6 x8 x10 0 (wrap64 (x1 - 1))) else (if x8.length < 35184372088832 then (spec_Apart.l1 k x1 x6 (x8 ++ [0]) x9 (wrap64 (x10 + 1))) else (none))) else (none)) else (none)) else (if 0 ≤ x9 then (if x9 ≤ (x8.length : Int) then (some (x8.take (x9 : Int).toNat)) else (none)) else (none))
def spec_Apart.l2 : Nat → Int → List Int → List Int → Int → Int → Int → Option (List Int)
  | 0, _, _, _, _, _, _ => none
  | k + 1, x1, x6, x8, x10, x11, x12 => if x12 ≥ 0 then (if 0 ≤ (wrap64 (x10 + x12)) then (if (wrap64 (x10 + x12)) < (x6.length : Int) then (spec_Apart.l2 k x1 (x6.set ((wrap64 (x10 + x12)) : Int).toNat 0) x8 x10 (wrap64 ((wrap64 (2 * x11)) + (rd x6 (wrap64 (x10 + x12))))) (wrap64 (x12 - 1))) else (none)) else (none)) else (if 0 ≤ (IntKind.u64.wrap (wrap64 (x1 - 1))) then (if x11 ≥ (shl .i64 1 (IntKind.u64.wrap (wrap64 (x1 - 1)))) then (if 0 ≤ (IntKind.u64.wrap (x1)) then (spec_Apart.l3 k x1 x6 x8 x10 (wrap64 (x11 - (shl .i64 1 (IntKind.u64.wrap (x1))))) (wrap64 (x10 + x1))) else (none)) else (if x8.length < 35184372088832 then (spec_Apart.l1 k x1 x6 (x8 ++ [wrap32 (x11)]) (wrap64 (x10 + 1)) (wrap64 (x10 + 1))) else (none))) else (none))
def spec_Apart.l3 : Nat → Int → List Int → List Int → Int → Int → Int → Option (List Int)
  | 0, _, _, _, _, _, _ => none
  | k + 1, x1, x6, x8, x10, x11, x13 => if 0 ≤ x13 then (if x13 < (x6.length : Int) then (if (rd x6 x13) = 1 then (spec_Apart.l3 k x1 (x6.set (x13 : Int).toNat 0) x8 x10 x11 (wrap64 (x13 + 1))) else (if x8.length < 35184372088832 then (spec_Apart.l1 k x1 (x6.set (x13 : Int).toNat 1) (x8 ++ [wrap32 (x11)]) (wrap64 (x10 + 1)) (wrap64 (x10 + 1))) else (none))) else (none)) else (none)
end
def spec_Apart.f (k : Nat) (l0 : List Int) (a1 : Int) : Option (List Int) := (spec_Short.f k l0).bind fun t172 => ((spec_Turned.f k t172).bind fun t175 => (if 0 ≤ (wrap64 ((wrap64 ((wrap64 (8 * (t175.length : Int))) + a1)) + 2)) then (if (wrap64 ((wrap64 ((wrap64 (8 * (t175.length : Int))) + a1)) + 2) : Int).toNat ≤ 35184372088832 then (spec_Apart.l0 k a1 t175 (List.replicate (wrap64 ((wrap64 ((wrap64 (8 * (t175.length : Int))) + a1)) + 2) : Int).toNat 0) 0) else (none)) else (none)))
theorem spec_Apart.mono_l : ∀ k, (∀ y0 y1 y2 y3, LeO (spec_Apart.l0 k y0 y1 y2 y3) (spec_Apart.l0 (k + 1) y0 y1 y2 y3)) ∧ (∀ y0 y1 y2 y3 y4, LeO (spec_Apart.l1 k y0 y1 y2 y3 y4) (spec_Apart.l1 (k + 1) y0 y1 y2 y3 y4)) ∧ (∀ y0 y1 y2 y3 y4 y5, LeO (spec_Apart.l2 k y0 y1 y2 y3 y4 y5) (spec_Apart.l2 (k + 1) y0 y1 y2 y3 y4 y5)) ∧ (∀ y0 y1 y2 y3 y4 y5, LeO (spec_Apart.l3 k y0 y1 y2 y3 y4 y5) (spec_Apart.l3 (k + 1) y0 y1 y2 y3 y4 y5))
  | 0 => ⟨fun _ _ _ _ r h => by simp [spec_Apart.l0] at h, fun _ _ _ _ _ r h => by simp [spec_Apart.l1] at h, fun _ _ _ _ _ _ r h => by simp [spec_Apart.l2] at h, fun _ _ _ _ _ _ r h => by simp [spec_Apart.l3] at h⟩
  | k + 1 => by
    obtain ⟨ih0, ih1, ih2, ih3⟩ := spec_Apart.mono_l k
    refine ⟨?_, ?_, ?_, ?_⟩
    · intro y0 y1 y2 y3
      unfold spec_Apart.l0
      repeat' first
      | (with_reducible exact ih0 _ _ _ _)
      | (with_reducible exact ih1 _ _ _ _ _)
      | (with_reducible exact ih2 _ _ _ _ _ _)
      | (with_reducible exact ih3 _ _ _ _ _ _)
      | (with_reducible exact spec_Short.mono _ _)
      | (with_reducible exact spec_Turned.mono _ _)
      | (with_reducible exact LeO.refl _)
      | (with_reducible exact LeO.none _)
      | (with_reducible refine LeO.ite ?_ ?_)
      | (with_reducible refine LeO.bind ?_ (fun _ => ?_))
      | exact ih0 _ _ _ _
      | exact ih1 _ _ _ _ _
      | exact ih2 _ _ _ _ _ _
      | exact ih3 _ _ _ _ _ _
      | exact spec_Short.mono _ _
      | exact spec_Turned.mono _ _
      | exact LeO.none _
      | refine LeO.ite ?_ ?_
      | refine LeO.bind ?_ (fun _ => ?_)
    · intro y0 y1 y2 y3 y4
      unfold spec_Apart.l1
      repeat' first
      | (with_reducible exact ih0 _ _ _ _)
      | (with_reducible exact ih1 _ _ _ _ _)
      | (with_reducible exact ih2 _ _ _ _ _ _)
      | (with_reducible exact ih3 _ _ _ _ _ _)
      | (with_reducible exact spec_Short.mono _ _)
      | (with_reducible exact spec_Turned.mono _ _)
      | (with_reducible exact LeO.refl _)
      | (with_reducible exact LeO.none _)
      | (with_reducible refine LeO.ite ?_ ?_)
      | (with_reducible refine LeO.bind ?_ (fun _ => ?_))
      | exact ih0 _ _ _ _
      | exact ih1 _ _ _ _ _
      | exact ih2 _ _ _ _ _ _
      | exact ih3 _ _ _ _ _ _
      | exact spec_Short.mono _ _
      | exact spec_Turned.mono _ _
      | exact LeO.none _
      | refine LeO.ite ?_ ?_
      | refine LeO.bind ?_ (fun _ => ?_)
    · intro y0 y1 y2 y3 y4 y5
      unfold spec_Apart.l2
      repeat' first
      | (with_reducible exact ih0 _ _ _ _)
      | (with_reducible exact ih1 _ _ _ _ _)
      | (with_reducible exact ih2 _ _ _ _ _ _)
      | (with_reducible exact ih3 _ _ _ _ _ _)
      | (with_reducible exact spec_Short.mono _ _)
      | (with_reducible exact spec_Turned.mono _ _)
      | (with_reducible exact LeO.refl _)
      | (with_reducible exact LeO.none _)
      | (with_reducible refine LeO.ite ?_ ?_)
      | (with_reducible refine LeO.bind ?_ (fun _ => ?_))
      | exact ih0 _ _ _ _
      | exact ih1 _ _ _ _ _
      | exact ih2 _ _ _ _ _ _
      | exact ih3 _ _ _ _ _ _
      | exact spec_Short.mono _ _
      | exact spec_Turned.mono _ _
      | exact LeO.none _
      | refine LeO.ite ?_ ?_
      | refine LeO.bind ?_ (fun _ => ?_)
    · intro y0 y1 y2 y3 y4 y5
      unfold spec_Apart.l3
      repeat' first
      | (with_reducible exact ih0 _ _ _ _)
      | (with_reducible exact ih1 _ _ _ _ _)
      | (with_reducible exact ih2 _ _ _ _ _ _)
      | (with_reducible exact ih3 _ _ _ _ _ _)
      | (with_reducible exact spec_Short.mono _ _)
      | (with_reducible exact spec_Turned.mono _ _)
      | (with_reducible exact LeO.refl _)
      | (with_reducible exact LeO.none _)
      | (with_reducible refine LeO.ite ?_ ?_)
      | (with_reducible refine LeO.bind ?_ (fun _ => ?_))
      | exact ih0 _ _ _ _
      | exact ih1 _ _ _ _ _
      | exact ih2 _ _ _ _ _ _
      | exact ih3 _ _ _ _ _ _
      | exact spec_Short.mono _ _
      | exact spec_Turned.mono _ _
      | exact LeO.none _
      | refine LeO.ite ?_ ?_
      | refine LeO.bind ?_ (fun _ => ?_)
theorem spec_Apart.mono : ∀ a0 a1 k, LeO (spec_Apart.f k a0 a1) (spec_Apart.f (k + 1) a0 a1) := by
  intro a0 a1 k
  obtain ⟨ih0, ih1, ih2, ih3⟩ := spec_Apart.mono_l k
  unfold spec_Apart.f
  repeat' first
      | (with_reducible exact ih0 _ _ _ _)
      | (with_reducible exact ih1 _ _ _ _ _)
      | (with_reducible exact ih2 _ _ _ _ _ _)
      | (with_reducible exact ih3 _ _ _ _ _ _)
      | (with_reducible exact spec_Short.mono _ _)
      | (with_reducible exact spec_Turned.mono _ _)
      | (with_reducible exact LeO.refl _)
      | (with_reducible exact LeO.none _)
      | (with_reducible refine LeO.ite ?_ ?_)
      | (with_reducible refine LeO.bind ?_ (fun _ => ?_))
      | exact ih0 _ _ _ _
      | exact ih1 _ _ _ _ _
      | exact ih2 _ _ _ _ _ _
      | exact ih3 _ _ _ _ _ _
      | exact spec_Short.mono _ _
      | exact spec_Turned.mono _ _
      | exact LeO.none _
      | refine LeO.ite ?_ ?_
      | refine LeO.bind ?_ (fun _ => ?_)
set_option maxHeartbeats 8000000 in
set_option maxRecDepth 100000 in
theorem spec_Apart.calls (k : Nat) (A0 : Option Addr) (c0 : Nat) (l0 : List Int) (a1 : Int) (r : List Int) (w : World) (hr0 : Kd.C (Kd.int .u8) w A0 l0.length l0) (hc0 : l0.length ≤ c0) (h : spec_Apart.f k l0 a1 = some r) :
    Calls Try.prog 29 #[.slice A0 l0.length c0, .int .i64 a1] w fun e w' => ∃ v0_ : Value, e = .returned (v0_) ∧ Kd.R (Kd.int .i32) 21 w' w.heap.size (fun _ => True) v0_ r ∧ Below w.heap.size w w' := by
  have HR0 := Aside0.mk hr0
  have HC0 := Aside0.mk hc0
  clear hr0 hc0
  have HB := Aside0.mk (Below.refl w.heap.size w)
  have H : ((spec_Short.f k l0).bind fun t172 => ((spec_Turned.f k t172).bind fun t175 => (if 0 ≤ (wrap64 ((wrap64 ((wrap64 (8 * (t175.length : Int))) + a1)) + 2)) then (if (wrap64 ((wrap64 ((wrap64 (8 * (t175.length : Int))) + a1)) + 2) : Int).toNat ≤ 35184372088832 then (spec_Apart.l0 k a1 t175 (List.replicate (wrap64 ((wrap64 ((wrap64 (8 * (t175.length : Int))) + a1)) + 2) : Int).toNat 0) 0) else (none)) else (none)))) = some r := h
  clear h
  replace H := Option.bind_eq_some_iff.mp H
  obtain ⟨t172, A30, H⟩ := H
  replace H : ((spec_Turned.f k t172).bind fun t175 => (if 0 ≤ (wrap64 ((wrap64 ((wrap64 (8 * (t175.length : Int))) + a1)) + 2)) then (if (wrap64 ((wrap64 ((wrap64 (8 * (t175.length : Int))) + a1)) + 2) : Int).toNat ≤ 35184372088832 then (spec_Apart.l0 k a1 t175 (List.replicate (wrap64 ((wrap64 ((wrap64 (8 * (t175.length : Int))) + a1)) + 2) : Int).toNat 0) 0) else (none)) else (none))) = some r := H
  have A3 := Aside0.mk A30
  clear A30
  replace H := Option.bind_eq_some_iff.mp H
  obtain ⟨t175, A40, H⟩ := H
  replace H : (if 0 ≤ (wrap64 ((wrap64 ((wrap64 (8 * (t175.length : Int))) + a1)) + 2)) then (if (wrap64 ((wrap64 ((wrap64 (8 * (t175.length : Int))) + a1)) + 2) : Int).toNat ≤ 35184372088832 then (spec_Apart.l0 k a1 t175 (List.replicate (wrap64 ((wrap64 ((wrap64 (8 * (t175.length : Int))) + a1)) + 2) : Int).toNat 0) 0) else (none)) else (none)) = some r := H
  have A4 := Aside0.mk A40
  clear A40
  obtain ⟨ji5, hji5⟩ : ∃ j_ : Int, (wrap64 ((wrap64 ((wrap64 (8 * (t175.length : Int))) + a1)) + 2)) = j_ := ⟨_, rfl⟩
  replace H : (if 0 ≤ (ji5) then (if (ji5 : Int).toNat ≤ 35184372088832 then (spec_Apart.l0 k a1 t175 (List.replicate (ji5 : Int).toNat 0) 0) else (none)) else (none)) = some r := by first | (rw [hji5] at H; exact H) | (simp only [hji5] at H ⊢; exact H)
  (try rw [hji5] at A3)
  (try rw [hji5] at A4)
  have hji5w : (IntKind.i64.wrap ((wrap64 ((wrap64 (8 * (t175.length : Int))) + a1)) + 2)) = ji5 := (i64_w _).trans hji5
  by_cases c6 : 0 ≤ (ji5)
  · rw [if_pos c6] at H
    have c6b0 := eq_true c6
    have c6b1 : decide (0 ≤ (ji5)) = true := decide_eq_true c6
    clear c6
    by_cases c7 : (ji5 : Int).toNat ≤ 35184372088832
    · rw [if_pos c7] at H
      have c7b0 := eq_true c7
      have c7b1 : decide ((ji5 : Int).toNat ≤ 35184372088832) = true := decide_eq_true c7
      clear c7
      obtain ⟨y178, hy178⟩ : ∃ y_ : List Int, y_ = (List.replicate (ji5 : Int).toNat 0) := ⟨_, rfl⟩
      replace H : (spec_Apart.l0 k a1 t175 y178 0) = some r := by first | (rw [hy178]; with_reducible exact H) | (have H2_ := (Option.bind_some _ _).symm.trans H; rw [hy178]; with_reducible exact H2_) | (have H2_ := (Option.bind_some _ _).symm.trans H; with_reducible exact H2_) | with_reducible exact H | (rw [hy178]; exact H) | exact H
      have Ny178 := Aside0.mk hy178
      clear hy178
      have H' := Aside0.mk H
      clear H
      go_enter Try.func29, Try.ntmps29
      go_wp2_with (first | ((with_reducible refine gate_callee (f := 15) rfl ?_); refine goesL_ (some 15) rfl rfl Try.func15 (by kernel_rfl) rfl #[.slice A0 l0.length c0] rfl (by (try simp only [List.map_toArray, List.map_cons, List.map_nil]); first | done | rfl | (simp only [List.length_drop, List.length_take]; rfl)) ?_; (with_reducible refine (spec_Short.calls k (fun k_ => k_ < w.heap.size) _ _ l0 t172 _ ?side1 A3.out).mono ?_); (case side1 => exact Kd.V_mk HC0.out (Kd.F_below (Kd.C_F (Kd.heap_int .u8) HR0.out) (by repeat (first | (with_reducible first | exact HB.out | apply below_alloc | apply pw_below_drewN | apply below_drew1) | exact HB.out)))); rintro e w8 ⟨v173, rfl, ho0, hb⟩; refine ⟨_, rfl, ?_⟩; have n0_ := Aside0.mk (Kd.R_lower (Kd.R_mono (ok' := fun k_ => True) ho0 (fun _ hk_ => trivial)) (below_size (by repeat (first | (with_reducible first | exact HB.out | apply below_alloc | apply pw_below_drewN | apply below_drew1) | exact HB.out)))); have n1_ := Aside0.mk (below_step (by repeat (first | (with_reducible first | exact HB.out | apply below_alloc | apply pw_below_drewN | apply below_drew1) | exact HB.out)) hb); clear HB; have HO174 := n0_; have HB := n1_; clear n0_ n1_; (try clear hb); (try clear hb2); (try clear hk); (try clear hi); (try clear ho0); obtain ⟨Ao9, co9, eo9⟩ := Kd.R_slice HO174.out; subst eo9) | ((with_reducible refine gate_callee (f := 16) rfl ?_); refine goesL_ (some 16) rfl rfl Try.func16 (by kernel_rfl) rfl #[.slice Ao9 t172.length co9] rfl (by (try simp only [List.map_toArray, List.map_cons, List.map_nil]); first | done | rfl | (simp only [List.length_drop, List.length_take]; rfl)) ?_; (with_reducible refine (spec_Turned.calls k _ _ t172 t175 _ ?side1 ?side2 A4.out).mono ?_); (case side1 => repeat (first | exact (Kd.R_reads' HO174.out).2.2 | (with_reducible refine Kd.C_alloc ?_ _) | (with_reducible refine Kd.C_drewN ?_ _) | (with_reducible refine Kd.C_drew ?_))); (case side2 => exact (Kd.R_reads' HO174.out).2.1); rintro e w10 ⟨v176, rfl, ho0, hb⟩; refine ⟨_, rfl, ?_⟩; have n0_ := Aside0.mk (Kd.R_elder' (by (with_reducible repeat (first | apply Kd.R_alloc | apply Kd.R_drewN | apply Kd.R_drew)); exact HO174.out) (Kd.R_base ho0) hb); have n1_ := Aside0.mk (Kd.R_lower (Kd.R_new' ho0 (Kd.R_lt (by (with_reducible repeat (first | apply Kd.R_alloc | apply Kd.R_drewN | apply Kd.R_drew)); exact HO174.out))) (below_size (by repeat (first | (with_reducible first | exact HB.out | apply below_alloc | apply pw_below_drewN | apply below_drew1) | exact HB.out)))); have n2_ := Aside0.mk (below_step (by repeat (first | (with_reducible first | exact HB.out | apply below_alloc | apply pw_below_drewN | apply below_drew1) | exact HB.out)) hb); clear HO174; clear HB; have HO174 := n0_; have HO177 := n1_; have HB := n2_; clear n0_ n1_ n2_; (try clear hb); (try clear hb2); (try clear hk); (try clear hi); (try clear ho0); obtain ⟨Ao11, co11, eo11⟩ := Kd.R_slice HO177.out; subst eo11) | ((with_reducible refine gate_dst (N := 23) rfl ?_); refine Kd.R_make (Kd.int .i64) _ 2 rfl (N := 23) rfl 55 _ _ rfl ji5 rfl rfl Try.underlying55 (.int .i64 0) 8 info2 rfl (by decide) (by omega) 0 (ok := fun _ => True) (okp := fun _ => True) rfl (fun _ hk => hk) trivial (of_decide_eq_true (by first | (with_reducible assumption) | assumption)) (Nat.le_trans (Nat.mul_le_mul_right _ (of_decide_eq_true (by first | (with_reducible assumption) | assumption) : ji5.toNat ≤ 35184372088832)) (by omega)) (Below.refl _ _) (Nat.le_refl _) ?_; intro v179 w12 ho13 hb hg_ hnew_; clear hg_ hnew_; (first | rw [← Ny178.out] at ho13 | (simp only [Int.reduceToNat] at ho13; rw [← Ny178.out] at ho13)); have n0_ := Aside0.mk (Kd.R_below (by (with_reducible repeat (first | apply Kd.R_alloc | apply Kd.R_drewN | apply Kd.R_drew)); exact HO174.out) hb); have n1_ := Aside0.mk (Kd.R_below (by (with_reducible repeat (first | apply Kd.R_alloc | apply Kd.R_drewN | apply Kd.R_drew)); exact HO177.out) hb); have n2_ := Aside0.mk (Kd.R_lower ho13 (below_size (by repeat (first | (with_reducible first | exact HB.out | apply below_alloc | apply pw_below_drewN | apply below_drew1) | exact HB.out)))); have n3_ := Aside0.mk (below_step (by repeat (first | (with_reducible first | exact HB.out | apply below_alloc | apply pw_below_drewN | apply below_drew1) | exact HB.out)) hb); clear HO174; clear HO177; clear HB; have HO174 := n0_; have HO177 := n1_; have HO180 := n2_; have HB := n3_; clear n0_ n1_ n2_ n3_; clear hb ho13))
      go_loopg [7] k (fun kq v7 w' => ∃ (x6_1 : List Int) (x7_1 : Int), v7 = .int .i64 x7_1 ∧ Aside0 (spec_Apart.l0 kq a1 t175 x6_1 x7_1 = some r) ∧ Aside0 (kq ≤ k) ∧ Aside0 (Kd.R (Kd.int .u8) 5 w' w.heap.size (fun _ => True) (.slice Ao11 t175.length co11) t175) ∧ Aside0 (Kd.R (Kd.int .i64) 2 w' w.heap.size (fun _ => True) v179 x6_1) ∧ Aside0 (Below w.heap.size w w'))
      case atStart => exact ⟨(y178), (0), (by first | rfl | (simp; done) | (simp [*]; done)), H', ⟨Nat.le_refl _⟩, ⟨by (with_reducible repeat (first | apply Kd.R_alloc | apply Kd.R_drewN | apply Kd.R_drew)); exact Kd.R_mono HO177.out (fun _ hk => trivial)⟩, ⟨by (with_reducible repeat (first | apply Kd.R_alloc | apply Kd.R_drewN | apply Kd.R_drew)); exact HO180.out⟩, ⟨by repeat (first | (with_reducible first | exact HB.out | apply below_alloc | apply pw_below_drewN | apply below_drew1) | exact HB.out)⟩⟩
      case round =>
        clear H'
        try clear c1
        try clear c2
        try clear p2
        try clear c6
        try clear c6b0
        try clear c6b1
        try clear p6
        try clear c7
        try clear c7b0
        try clear c7b1
        obtain ⟨x6_1, x7_1, rfl, HA, HK1, HO_5, HO_6, HB⟩ := hrel
        cases gk with
        | zero => exact absurd HA.out (by simp [spec_Apart.l0])
        | succ k1 =>
          have H := HA.out
          clear HA
          simp only [spec_Apart.l0] at H
          by_cases c14 : x7_1 < (wrap64 (8 * (t175.length : Int)))
          · rw [if_pos c14] at H
            have c14b0 : decide (x7_1 < (wrap64 (8 * (t175.length : Int)))) = true := decide_eq_true c14
            clear c14
            obtain ⟨ji15, hji15⟩ : ∃ j_ : Int, (wrap64 (Int.tdiv x7_1 8)) = j_ := ⟨_, rfl⟩
            replace H : (if 0 ≤ (ji15) then (if (ji15) < (t175.length : Int) then (if 0 ≤ (IntKind.u64.wrap (Int.tmod x7_1 8)) then (if 0 ≤ x7_1 then (if x7_1 < (x6_1.length : Int) then (spec_Apart.l0 k1 a1 t175 (x6_1.set (x7_1 : Int).toNat (wrap64 (Go.bits .and .u8 (shr .u8 (rd t175 (ji15)) (IntKind.u64.wrap (Int.tmod x7_1 8))) 1))) (wrap64 (x7_1 + 1))) else (none)) else (none)) else (none)) else (none)) else (none)) = some r := by first | (rw [hji15] at H; exact H) | (simp only [hji15] at H ⊢; exact H)
            have hji15w : (IntKind.i64.wrap (Int.tdiv x7_1 8)) = ji15 := (i64_w _).trans hji15
            by_cases c16 : 0 ≤ (ji15)
            · rw [if_pos c16] at H
              have c16b0 : decide (0 ≤ (ji15)) = true := decide_eq_true c16
              clear c16
              by_cases c17 : (ji15) < (t175.length : Int)
              · rw [if_pos c17] at H
                have c17b0 : decide ((ji15) < (t175.length : Int)) = true := decide_eq_true c17
                clear c17
                obtain ⟨ji18, hji18⟩ : ∃ j_ : Int, (IntKind.u64.wrap (Int.tmod x7_1 8)) = j_ := ⟨_, rfl⟩
                replace H : (if 0 ≤ (ji18) then (if 0 ≤ x7_1 then (if x7_1 < (x6_1.length : Int) then (spec_Apart.l0 k1 a1 t175 (x6_1.set (x7_1 : Int).toNat (wrap64 (Go.bits .and .u8 (shr .u8 (rd t175 (ji15)) (ji18)) 1))) (wrap64 (x7_1 + 1))) else (none)) else (none)) else (none)) = some r := by first | (rw [hji18] at H; exact H) | (simp only [hji18] at H ⊢; exact H)
                by_cases c19 : 0 ≤ (ji18)
                · rw [if_pos c19] at H
                  have c19b0 := eq_true c19
                  have c19b1 : decide (0 ≤ (ji18)) = true := decide_eq_true c19
                  clear c19
                  obtain ⟨ji20, hji20⟩ : ∃ j_ : Int, (shr .u8 (rd t175 (ji15)) (ji18)) = j_ := ⟨_, rfl⟩
                  replace H : (if 0 ≤ x7_1 then (if x7_1 < (x6_1.length : Int) then (spec_Apart.l0 k1 a1 t175 (x6_1.set (x7_1 : Int).toNat (wrap64 (Go.bits .and .u8 (ji20) 1))) (wrap64 (x7_1 + 1))) else (none)) else (none)) = some r := by first | (rw [hji20] at H; exact H) | (simp only [hji20] at H ⊢; exact H)
                  have hji20_ : ((rd t175 (ji15)) / 2 ^ min (ji18).toNat 8) = ji20 := hji20
                  have hji20z : (ji18) ≤ 8 → ((rd t175 (ji15)) / 2 ^ (ji18).toNat) = ji20 := shr_small hji20
                  by_cases c21 : 0 ≤ x7_1
                  · rw [if_pos c21] at H
                    have c21b0 : decide (0 ≤ x7_1) = true := decide_eq_true c21
                    clear c21
                    by_cases c22 : x7_1 < (x6_1.length : Int)
                    · rw [if_pos c22] at H
                      have c22b0 : decide (x7_1 < (x6_1.length : Int)) = true := decide_eq_true c22
                      clear c22
                      obtain ⟨y182, hy182⟩ : ∃ y_ : List Int, y_ = (x6_1.set (x7_1 : Int).toNat (wrap64 (Go.bits .and .u8 (ji20) 1))) := ⟨_, rfl⟩
                      replace H : (spec_Apart.l0 k1 a1 t175 y182 (wrap64 (x7_1 + 1))) = some r := by first | (rw [hy182]; with_reducible exact H) | (have H2_ := (Option.bind_some _ _).symm.trans H; rw [hy182]; with_reducible exact H2_) | (have H2_ := (Option.bind_some _ _).symm.trans H; with_reducible exact H2_) | with_reducible exact H | (rw [hy182]; exact H) | exact H
                      have Ny182 := Aside0.mk hy182
                      clear hy182
                      have H' := Aside0.mk H
                      clear H
                      have p181 : 0 ≤ ((ji15) : Int) := of_decide_eq_true (by first | (with_reducible assumption) | assumption)
                      have q181 : (ji15) < (t175.length : Int) := of_decide_eq_true (by first | (with_reducible assumption) | assumption)
                      obtain ⟨ad181, e181, hx181_0⟩ := Kd.at_int (Kd.R_reads' HO_5.out).2.2 (ji15) p181 q181
                      cases e181
                      replace p181 := eq_true p181
                      replace q181 := eq_true q181
                      have p23 : 0 ≤ (x7_1 : Int) := of_decide_eq_true (by first | (with_reducible assumption) | assumption)
                      have q23 : (x7_1 : Int) < ((x6_1.length : Int) : Int) := of_decide_eq_true (by first | (with_reducible assumption) | assumption)
                      obtain ⟨go23, co23, eo23, gb23, gl23, cl23, HG23⟩ := Kd.R_form HO_6.out (by omega)
                      (first | cases eo23 | (injection eo23 with ea_ en_ ec_; (first | subst ea_ | (injection ea_ with ea_; subst ea_)); subst ec_; clear en_))
                      have GB23 := Aside0.mk gb23
                      have GG23 := Aside0.mk HG23
                      clear gb23 gl23 HG23
                      obtain ⟨hx23_0, hf23_0⟩ := Kd.R_celln 0 HO_6.out (x7_1 : Int) p23 q23
                      replace p23 := eq_true p23
                      replace q23 := eq_true q23
                      have HP24 := Kd.R_putg HO_6.out (x7_1 : Int) (wrap64 (Go.bits .and .u8 (ji20) 1))
                      go_wp2_with (first | ((with_reducible refine gate_store (t := 2) (p := 44) rfl ?_); refine store_event (t := 2) (p := 44) (v := ?vo_w25) (w1 := (wr.setCell ⟨go23, (x7_1 : Int).toNat, none⟩ (.int .i64 (wrap64 (Go.bits .and .u8 (ji20) 1))))) ?hg ?ho ?hn ?hr ?_; (case ho => rfl); (case hg => rfl); (case hn => rfl); (case hr => first | (go_simp; done) | (go_simp; rfl)); intro w25 hw; have hg : wr.grownBy w25 (some go23) := (by rw [hw]; exact HP24.2); have hp_ : Kd.R (Kd.int .i64) 2 w25 w.heap.size (fun _ => True) (.slice (some ⟨go23, 0, none⟩) x6_1.length co23) y182 := (by rw [hw, Ny182.out]; exact HP24.1); clear HP24; have n0_ := Aside0.mk (Kd.R_over' (v := (.slice (some ⟨go23, 0, none⟩) x6_1.length co23)) (by (with_reducible repeat (first | apply Kd.R_alloc | apply Kd.R_drewN | apply Kd.R_drew)); exact HO_5.out) (Kd.R_typed HO_6.out) (by decide) hg); have n1_ := Aside0.mk (hp_); have n2_ := Aside0.mk ((by rw [hw]; exact below_set (HB.out) GB23.out : Below w.heap.size w w25)); clear HO_5; clear HO_6; clear HB; have HO_5 := n0_; have HO_6 := n1_; have HB := n2_; clear n0_ n1_ n2_; clear hg hw hp_))
                      go_roundg k1
                      case measure => have := HK1.out; omega
                      case rel => exact ⟨(y182), (wrap64 (x7_1 + 1)), (by first | rfl | (simp; done) | (simp [*]; done)), H', ⟨by have := HK1.out; omega⟩, ⟨by (with_reducible repeat (first | apply Kd.R_alloc | apply Kd.R_drewN | apply Kd.R_drew)); exact HO_5.out⟩, ⟨by (with_reducible repeat (first | apply Kd.R_alloc | apply Kd.R_drewN | apply Kd.R_drew)); exact HO_6.out⟩, ⟨by repeat (first | (with_reducible first | exact HB.out | apply below_alloc | apply pw_below_drewN | apply below_drew1) | exact HB.out)⟩⟩
                    · rw [if_neg c22] at H
                      exact absurd H (by simp)
                  · rw [if_neg c21] at H
                    exact absurd H (by simp)
                · rw [if_neg c19] at H
                  exact absurd H (by simp)
              · rw [if_neg c17] at H
                exact absurd H (by simp)
            · rw [if_neg c16] at H
              exact absurd H (by simp)
          · rw [if_neg c14] at H
            have c14b0 : decide (x7_1 < (wrap64 (8 * (t175.length : Int)))) = false := decide_eq_false c14
            clear c14
            obtain ⟨y183, hy183⟩ : ∃ y_ : List Int, y_ = (([] : List Int)) := ⟨_, rfl⟩
            replace H : (spec_Apart.l1 k1 a1 x6_1 y183 0 0) = some r := by first | (rw [hy183]; with_reducible exact H) | (have H2_ := (Option.bind_some _ _).symm.trans H; rw [hy183]; with_reducible exact H2_) | (have H2_ := (Option.bind_some _ _).symm.trans H; with_reducible exact H2_) | with_reducible exact H | (rw [hy183]; exact H) | exact H
            have Ny183 := Aside0.mk hy183
            clear hy183
            have H' := Aside0.mk H
            clear H
            go_wp2_with (first | ((with_reducible refine gate_dst (N := 45) rfl ?_); refine Kd.R_lit (Kd.int .i32) _ 21 ?hg (N := 45) ?hd (xs := ([] : List Int)) (inner := []) (ok := fun _ => True) (okp := fun _ => True) ?hr ?hp (fun _ hk => hk) trivial (Below.refl _ _) (Nat.le_refl _) (by simp) ?_; (case hd => rfl); (case hg => rfl); (case hr => first | (go_simp; done) | (go_simp; rfl)); (case hp => exact (Reps.none _ _)); intro v184 w26 ho27 hb hg_ hnew_; clear hg_ hnew_; (first | rw [← Ny183.out] at ho27 | (simp only [Int.reduceToNat] at ho27; rw [← Ny183.out] at ho27)); have n0_ := Aside0.mk (Kd.R_below (by (with_reducible repeat (first | apply Kd.R_alloc | apply Kd.R_drewN | apply Kd.R_drew)); exact HO_5.out) hb); have n1_ := Aside0.mk (Kd.R_below (by (with_reducible repeat (first | apply Kd.R_alloc | apply Kd.R_drewN | apply Kd.R_drew)); exact HO_6.out) hb); have n2_ := Aside0.mk (Kd.R_lower ho27 (below_size (by repeat (first | (with_reducible first | exact HB.out | apply below_alloc | apply pw_below_drewN | apply below_drew1) | exact HB.out)))); have n3_ := Aside0.mk (below_step (by repeat (first | (with_reducible first | exact HB.out | apply below_alloc | apply pw_below_drewN | apply below_drew1) | exact HB.out)) hb); clear HO_5; clear HO_6; clear HB; have HO_5 := n0_; have HO_6 := n1_; have HO185 := n2_; have HB := n3_; clear n0_ n1_ n2_ n3_; clear hb ho27))
            go_loopg [8, 9, 10] k1 (fun kq v8 v9 v10 w' => ∃ (x6_2 : List Int) (x8_2 : List Int) (x9_2 : Int) (x10_2 : Int), v9 = .int .i64 x9_2 ∧ v10 = .int .i64 x10_2 ∧ Aside0 (spec_Apart.l1 kq a1 x6_2 x8_2 x9_2 x10_2 = some r) ∧ Aside0 (kq ≤ k1) ∧ Aside0 (Kd.R (Kd.int .i64) 2 w' w.heap.size (fun _ => True) v179 x6_2) ∧ Aside0 (Kd.R (Kd.int .i32) 21 w' w.heap.size (fun _ => True) v8 x8_2) ∧ Aside0 (Below w.heap.size w w'))
            case atStart => exact ⟨(x6_1), (y183), (0), (0), (by first | rfl | (simp; done) | (simp [*]; done)), (by first | rfl | (simp; done) | (simp [*]; done)), H', ⟨Nat.le_refl _⟩, ⟨by (with_reducible repeat (first | apply Kd.R_alloc | apply Kd.R_drewN | apply Kd.R_drew)); exact HO_6.out⟩, ⟨by (with_reducible repeat (first | apply Kd.R_alloc | apply Kd.R_drewN | apply Kd.R_drew)); exact HO185.out⟩, ⟨by repeat (first | (with_reducible first | exact HB.out | apply below_alloc | apply pw_below_drewN | apply below_drew1) | exact HB.out)⟩⟩
            case round =>
              clear H'
              try clear c1
              try clear p1
              try clear q1
              try clear hx1
              try clear c2
              try clear p2
              try clear q2
              try clear hx2
              try clear hf2
              try clear c6
              try clear c6b0
              try clear c6b1
              try clear p6
              try clear c7
              try clear c7b0
              try clear c7b1
              try clear c14
              try clear c14b0
              try clear c15
              try clear c16
              try clear c16b0
              try clear c17
              try clear c17b0
              try clear p18
              try clear q18
              try clear hx18
              try clear c19
              try clear c19b0
              try clear c19b1
              try clear c21
              try clear c21b0
              try clear c22
              try clear c22b0
              try clear p23
              try clear q23
              try clear hx23
              try clear hf23
              try clear hx181_0
              try clear hx23_0
              try clear p181
              try clear p2
              try clear p23
              try clear p6
              try clear q181
              try clear q23
              obtain ⟨x6_2, x8_2, x9_2, x10_2, rfl, rfl, HA, HK2, HO_6, HO_8, HB⟩ := hrel
              cases gk with
              | zero => exact absurd HA.out (by simp [spec_Apart.l1])
              | succ k2 =>
                have H := HA.out
                clear HA
                simp only [spec_Apart.l1] at H
                by_cases c28 : (wrap64 (x10_2 + a1)) < (x6_2.length : Int)
                · rw [if_pos c28] at H
                  have c28b0 : decide ((wrap64 (x10_2 + a1)) < (x6_2.length : Int)) = true := decide_eq_true c28
                  clear c28
                  by_cases c29 : 0 ≤ x10_2
                  · rw [if_pos c29] at H
                    have c29b0 : decide (0 ≤ x10_2) = true := decide_eq_true c29
                    clear c29
                    by_cases c30 : x10_2 < (x6_2.length : Int)
                    · rw [if_pos c30] at H
                      have c30b0 : decide (x10_2 < (x6_2.length : Int)) = true := decide_eq_true c30
                      clear c30
                      by_cases c31 : (rd x6_2 x10_2) = 1
                      · rw [if_pos c31] at H
                        have c31b0 : ((rd x6_2 x10_2) == 1) = true := beq_iff_eq.mpr c31
                        have c31b1 : ((rd x6_2 x10_2) != 1) = false := bne_eq_false_iff_eq.mpr c31
                        clear c31
                        have H' := Aside0.mk H
                        clear H
                        obtain ⟨Ao32, co32, eo32⟩ := Kd.R_slice HO_6.out
                        subst eo32
                        have p189 : 0 ≤ (x10_2 : Int) := of_decide_eq_true (by first | (with_reducible assumption) | assumption)
                        have q189 : x10_2 < (x6_2.length : Int) := of_decide_eq_true (by first | (with_reducible assumption) | assumption)
                        obtain ⟨ad189, e189, hx189_0⟩ := Kd.at_int (Kd.R_reads' HO_6.out).2.2 x10_2 p189 q189
                        cases e189
                        obtain ⟨gz, cz, ez, gbz, glz, clz, HGz⟩ := Kd.R_form HO_6.out (by omega)
                        injection ez with ea_ en_ ec_; injection ea_ with ea_; subst ea_; clear en_ ec_ gbz glz clz HGz
                        (first | simp only [add_plain, Nat.zero_add] at hx189_0 | skip)
                        replace p189 := eq_true p189
                        replace q189 := eq_true q189
                        go_wp2
                        (try simp only [add_plain, Nat.zero_add])
                        go_loopg [11, 12] k2 (fun kq v11 v12 w' => ∃ (x6_3 : List Int) (x11_3 : Int) (x12_3 : Int), v11 = .int .i64 x11_3 ∧ v12 = .int .i64 x12_3 ∧ Aside0 (spec_Apart.l2 kq a1 x6_3 x8_2 x10_2 x11_3 x12_3 = some r) ∧ Aside0 (kq ≤ k2) ∧ Aside0 (Kd.R (Kd.int .i64) 2 w' w.heap.size (fun _ => True) (.slice (some ⟨gz, 0, none⟩) x6_2.length co32) x6_3) ∧ Aside0 (Kd.R (Kd.int .i32) 21 w' w.heap.size (fun _ => True) u8 x8_2) ∧ Aside0 (Below w.heap.size w w'))
                        case atStart => exact ⟨(x6_2), (0), (wrap64 (a1 - 1)), (by first | rfl | (simp; done) | (simp [*]; done)), (by first | rfl | (simp; done) | (simp [*]; done)), H', ⟨Nat.le_refl _⟩, ⟨by (with_reducible repeat (first | apply Kd.R_alloc | apply Kd.R_drewN | apply Kd.R_drew)); exact HO_6.out⟩, ⟨by (with_reducible repeat (first | apply Kd.R_alloc | apply Kd.R_drewN | apply Kd.R_drew)); exact HO_8.out⟩, ⟨by repeat (first | (with_reducible first | exact HB.out | apply below_alloc | apply pw_below_drewN | apply below_drew1) | exact HB.out)⟩⟩
                        case round =>
                          clear H'
                          try clear c1
                          try clear p1
                          try clear q1
                          try clear hx1
                          try clear c2
                          try clear p2
                          try clear q2
                          try clear hx2
                          try clear hf2
                          try clear c3
                          try clear c6
                          try clear c6b0
                          try clear c6b1
                          try clear p6
                          try clear c7
                          try clear c7b0
                          try clear c7b1
                          try clear c14
                          try clear c14b0
                          try clear c15
                          try clear c16
                          try clear c16b0
                          try clear c17
                          try clear c17b0
                          try clear p18
                          try clear q18
                          try clear hx18
                          try clear c19
                          try clear c19b0
                          try clear c19b1
                          try clear c21
                          try clear c21b0
                          try clear c22
                          try clear c22b0
                          try clear p23
                          try clear q23
                          try clear hx23
                          try clear hf23
                          try clear c28
                          try clear c28b0
                          try clear c29
                          try clear c29b0
                          try clear c30
                          try clear c30b0
                          try clear c31
                          try clear c31b0
                          try clear c31b1
                          try clear hx181_0
                          try clear hx189_0
                          try clear hx23_0
                          try clear p1
                          try clear p18
                          try clear p181
                          try clear p189
                          try clear p2
                          try clear p23
                          try clear p6
                          try clear q1
                          try clear q18
                          try clear q181
                          try clear q189
                          try clear q2
                          try clear q23
                          obtain ⟨x6_3, x11_3, x12_3, rfl, rfl, HA, HK3, HO_6, HO_8, HB⟩ := hrel
                          have hl6_3 := (Kd.R_reads' HO_6.out).1
                          rw [hl6_3] at HO_6
                          (try simp only [hl6_3])
                          (try simp only [hl6_3] at HO_8)
                          cases gk with
                          | zero => exact absurd HA.out (by simp [spec_Apart.l2])
                          | succ k3 =>
                            have H := HA.out
                            clear HA
                            simp only [spec_Apart.l2] at H
                            by_cases c33 : x12_3 ≥ 0
                            · rw [if_pos c33] at H
                              have c33b0 : decide (0 ≤ x12_3) = true := decide_eq_true c33
                              clear c33
                              obtain ⟨ji34, hji34⟩ : ∃ j_ : Int, (wrap64 (x10_2 + x12_3)) = j_ := ⟨_, rfl⟩
                              replace H : (if 0 ≤ (ji34) then (if (ji34) < (x6_3.length : Int) then (spec_Apart.l2 k3 a1 (x6_3.set ((ji34) : Int).toNat 0) x8_2 x10_2 (wrap64 ((wrap64 (2 * x11_3)) + (rd x6_3 (ji34)))) (wrap64 (x12_3 - 1))) else (none)) else (none)) = some r := by first | (rw [hji34] at H; exact H) | (simp only [hji34] at H ⊢; exact H)
                              have hji34w : (IntKind.i64.wrap (x10_2 + x12_3)) = ji34 := (i64_w _).trans hji34
                              by_cases c35 : 0 ≤ (ji34)
                              · rw [if_pos c35] at H
                                have c35b0 : decide (0 ≤ (ji34)) = true := decide_eq_true c35
                                clear c35
                                by_cases c36 : (ji34) < (x6_3.length : Int)
                                · rw [if_pos c36] at H
                                  have c36b0 : decide ((ji34) < (x6_3.length : Int)) = true := decide_eq_true c36
                                  clear c36
                                  obtain ⟨y191, hy191⟩ : ∃ y_ : List Int, y_ = (x6_3.set ((ji34) : Int).toNat 0) := ⟨_, rfl⟩
                                  replace H : (spec_Apart.l2 k3 a1 y191 x8_2 x10_2 (wrap64 ((wrap64 (2 * x11_3)) + (rd x6_3 (ji34)))) (wrap64 (x12_3 - 1))) = some r := by first | (rw [hy191]; with_reducible exact H) | (have H2_ := (Option.bind_some _ _).symm.trans H; rw [hy191]; with_reducible exact H2_) | (have H2_ := (Option.bind_some _ _).symm.trans H; with_reducible exact H2_) | with_reducible exact H | (rw [hy191]; exact H) | exact H
                                  have Ny191 := Aside0.mk hy191
                                  clear hy191
                                  have H' := Aside0.mk H
                                  clear H
                                  have p190 : 0 ≤ ((ji34) : Int) := of_decide_eq_true (by first | (with_reducible assumption) | assumption)
                                  have q190 : (ji34) < (x6_3.length : Int) := of_decide_eq_true (by first | (with_reducible assumption) | assumption)
                                  obtain ⟨ad190, e190, hx190_0⟩ := Kd.at_int (Kd.R_reads' HO_6.out).2.2 (ji34) p190 q190
                                  obtain rfl : (⟨gz, 0, none⟩ : Addr) = ad190 := (by injection e190)
                                  replace p190 := eq_true p190
                                  replace q190 := eq_true q190
                                  have p37 : 0 ≤ ((ji34) : Int) := of_decide_eq_true (by first | (with_reducible assumption) | assumption)
                                  have q37 : ((ji34) : Int) < ((x6_3.length : Int) : Int) := of_decide_eq_true (by first | (with_reducible assumption) | assumption)
                                  obtain ⟨go37, co37, eo37, gb37, gl37, cl37, HG37⟩ := Kd.R_form HO_6.out (by omega)
                                  injection eo37 with ea_ en_ ec_; injection ea_ with ea_; injection ea_ with ea_; subst ec_; clear en_; obtain rfl := ea_.symm
                                  have GB37 := Aside0.mk gb37
                                  have GG37 := Aside0.mk HG37
                                  clear gb37 gl37 HG37
                                  (first | simp only [add_plain] at hx189_0 | skip)
                                  (first | simp only [add_plain] at hx190_0 | skip)
                                  obtain ⟨hx37_0, hf37_0⟩ := Kd.R_celln 0 HO_6.out ((ji34) : Int) p37 q37
                                  replace p37 := eq_true p37
                                  replace q37 := eq_true q37
                                  have HP38 := Kd.R_putg HO_6.out ((ji34) : Int) 0
                                  go_wp2_with (first | ((with_reducible refine gate_store (t := 2) (p := 78) rfl ?_); refine store_event (t := 2) (p := 78) (v := ?vo_w39) (w1 := (wr.setCell ⟨go37, ((ji34) : Int).toNat, none⟩ (.int .i64 0))) ?hg ?ho ?hn ?hr ?_; (case ho => rfl); (case hg => rfl); (case hn => rfl); (case hr => first | (go_simp; done) | (go_simp; rfl)); intro w39 hw; have hg : wr.grownBy w39 (some go37) := (by rw [hw]; exact HP38.2); have hp_ : Kd.R (Kd.int .i64) 2 w39 w.heap.size (fun _ => True) (.slice (some ⟨go37, 0, none⟩) x6_3.length co32) y191 := (by rw [hw, Ny191.out]; exact HP38.1); clear HP38; have n0_ := Aside0.mk (hp_); have n1_ := Aside0.mk (Kd.R_over' (v := (.slice (some ⟨go37, 0, none⟩) x6_3.length co32)) (by (with_reducible repeat (first | apply Kd.R_alloc | apply Kd.R_drewN | apply Kd.R_drew)); exact HO_8.out) (Kd.R_typed HO_6.out) (by decide) hg); have n2_ := Aside0.mk ((by rw [hw]; exact below_set (HB.out) GB37.out : Below w.heap.size w w39)); clear HO_6; clear HO_8; clear HB; have HO_6 := n0_; have HO_8 := n1_; have HB := n2_; clear n0_ n1_ n2_; clear hg hw hp_))
                                  (try simp only [← hl6_3])
                                  go_roundg k3
                                  case measure => have := HK1.out; have := HK2.out; have := HK3.out; omega
                                  case rel => exact ⟨(y191), (wrap64 ((wrap64 (2 * x11_3)) + (rd x6_3 (ji34)))), (wrap64 (x12_3 - 1)), (by first | rfl | (simp; done) | (simp only [← hji34] <;> (first | rfl | simp)) | (simp [*]; done)), (by first | rfl | (simp; done) | (simp [*]; done)), H', ⟨by have := HK1.out; have := HK2.out; have := HK3.out; omega⟩, ⟨by (try simp only [hl6_3]); (with_reducible repeat (first | apply Kd.R_alloc | apply Kd.R_drewN | apply Kd.R_drew)); exact HO_6.out⟩, ⟨by (try simp only [hl6_3]); (with_reducible repeat (first | apply Kd.R_alloc | apply Kd.R_drewN | apply Kd.R_drew)); exact HO_8.out⟩, ⟨by repeat (first | (with_reducible first | exact HB.out | apply below_alloc | apply pw_below_drewN | apply below_drew1) | exact HB.out)⟩⟩
                                · rw [if_neg c36] at H
                                  exact absurd H (by simp)
                              · rw [if_neg c35] at H
                                exact absurd H (by simp)
                            · rw [if_neg c33] at H
                              have c33b0 : decide (0 ≤ x12_3) = false := decide_eq_false c33
                              clear c33
                              obtain ⟨ji40, hji40⟩ : ∃ j_ : Int, (IntKind.u64.wrap (wrap64 (a1 - 1))) = j_ := ⟨_, rfl⟩
                              replace H : (if 0 ≤ (ji40) then (if x11_3 ≥ (shl .i64 1 (ji40)) then (if 0 ≤ (IntKind.u64.wrap (a1)) then (spec_Apart.l3 k3 a1 x6_3 x8_2 x10_2 (wrap64 (x11_3 - (shl .i64 1 (IntKind.u64.wrap (a1))))) (wrap64 (x10_2 + a1))) else (none)) else (if x8_2.length < 35184372088832 then (spec_Apart.l1 k3 a1 x6_3 (x8_2 ++ [wrap32 (x11_3)]) (wrap64 (x10_2 + 1)) (wrap64 (x10_2 + 1))) else (none))) else (none)) = some r := by first | (rw [hji40] at H; exact H) | (simp only [hji40] at H ⊢; exact H)
                              by_cases c41 : 0 ≤ (ji40)
                              · rw [if_pos c41] at H
                                have c41b0 := eq_true c41
                                have c41b1 : decide (0 ≤ (ji40)) = true := decide_eq_true c41
                                clear c41
                                obtain ⟨ji42, hji42⟩ : ∃ j_ : Int, (shl .i64 1 (ji40)) = j_ := ⟨_, rfl⟩
                                replace H : (if x11_3 ≥ (ji42) then (if 0 ≤ (IntKind.u64.wrap (a1)) then (spec_Apart.l3 k3 a1 x6_3 x8_2 x10_2 (wrap64 (x11_3 - (shl .i64 1 (IntKind.u64.wrap (a1))))) (wrap64 (x10_2 + a1))) else (none)) else (if x8_2.length < 35184372088832 then (spec_Apart.l1 k3 a1 x6_3 (x8_2 ++ [wrap32 (x11_3)]) (wrap64 (x10_2 + 1)) (wrap64 (x10_2 + 1))) else (none))) = some r := by first | (rw [hji42] at H; exact H) | (simp only [hji42] at H ⊢; exact H)
                                have hji42_ : (IntKind.i64.wrap (1 * 2 ^ min (ji40).toNat 64)) = ji42 := hji42
                                have hji42z : (ji40) ≤ 64 → (IntKind.i64.wrap (1 * 2 ^ (ji40).toNat)) = ji42 := shl_small hji42
                                have hji42u : (IntKind.i64.wrap (2 ^ min (ji40).toNat 64)) = ji42 := by have h_ := hji42_; rw [Int.one_mul] at h_; exact h_
                                have hji42v : (ji40) ≤ 64 → (IntKind.i64.wrap (2 ^ (ji40).toNat)) = ji42 := fun hle_ => by have h_ := hji42z hle_; rw [Int.one_mul] at h_; exact h_
                                have hji42y : (wrap64 (1 * 2 ^ min (ji40).toNat 64)) = ji42 := (i64_w _).symm.trans hji42_
                                have hji42x : (ji40) ≤ 64 → (wrap64 (1 * 2 ^ (ji40).toNat)) = ji42 := fun h_ => (i64_w _).symm.trans (hji42z h_)
                                by_cases c43 : x11_3 ≥ (ji42)
                                · rw [if_pos c43] at H
                                  have c43b0 : decide ((ji42) ≤ x11_3) = true := decide_eq_true c43
                                  clear c43
                                  obtain ⟨ji44, hji44⟩ : ∃ j_ : Int, (IntKind.u64.wrap (a1)) = j_ := ⟨_, rfl⟩
                                  replace H : (if 0 ≤ (ji44) then (spec_Apart.l3 k3 a1 x6_3 x8_2 x10_2 (wrap64 (x11_3 - (shl .i64 1 (ji44)))) (wrap64 (x10_2 + a1))) else (none)) = some r := by first | (rw [hji44] at H; exact H) | (simp only [hji44] at H ⊢; exact H)
                                  by_cases c45 : 0 ≤ (ji44)
                                  · rw [if_pos c45] at H
                                    have c45b0 := eq_true c45
                                    have c45b1 : decide (0 ≤ (ji44)) = true := decide_eq_true c45
                                    clear c45
                                    obtain ⟨ji46, hji46⟩ : ∃ j_ : Int, (shl .i64 1 (ji44)) = j_ := ⟨_, rfl⟩
                                    replace H : (spec_Apart.l3 k3 a1 x6_3 x8_2 x10_2 (wrap64 (x11_3 - (ji46))) (wrap64 (x10_2 + a1))) = some r := by first | (rw [hji46] at H; exact H) | (simp only [hji46] at H ⊢; exact H)
                                    have hji46_ : (IntKind.i64.wrap (1 * 2 ^ min (ji44).toNat 64)) = ji46 := hji46
                                    have hji46z : (ji44) ≤ 64 → (IntKind.i64.wrap (1 * 2 ^ (ji44).toNat)) = ji46 := shl_small hji46
                                    have hji46u : (IntKind.i64.wrap (2 ^ min (ji44).toNat 64)) = ji46 := by have h_ := hji46_; rw [Int.one_mul] at h_; exact h_
                                    have hji46v : (ji44) ≤ 64 → (IntKind.i64.wrap (2 ^ (ji44).toNat)) = ji46 := fun hle_ => by have h_ := hji46z hle_; rw [Int.one_mul] at h_; exact h_
                                    have hji46y : (wrap64 (1 * 2 ^ min (ji44).toNat 64)) = ji46 := (i64_w _).symm.trans hji46_
                                    have hji46x : (ji44) ≤ 64 → (wrap64 (1 * 2 ^ (ji44).toNat)) = ji46 := fun h_ => (i64_w _).symm.trans (hji46z h_)
                                    have H' := Aside0.mk H
                                    clear H
                                    go_wp2
                                    (try simp only [add_plain, Nat.zero_add])
                                    go_loopg [13] k3 (fun kq v13 w' => ∃ (x6_4 : List Int) (x13_4 : Int), v13 = .int .i64 x13_4 ∧ Aside0 (spec_Apart.l3 kq a1 x6_4 x8_2 x10_2 (wrap64 (x11_3 - (ji46))) x13_4 = some r) ∧ Aside0 (kq ≤ k3) ∧ Aside0 (Kd.R (Kd.int .i64) 2 w' w.heap.size (fun _ => True) (.slice (some ⟨gz, 0, none⟩) x6_3.length co32) x6_4) ∧ Aside0 (Kd.R (Kd.int .i32) 21 w' w.heap.size (fun _ => True) u8 x8_2) ∧ Aside0 (Below w.heap.size w w'))
                                    case atStart => exact ⟨(x6_3), (wrap64 (x10_2 + a1)), (by first | rfl | (simp; done) | (simp [*]; done)), H', ⟨Nat.le_refl _⟩, ⟨by (try simp only [hl6_3]); (with_reducible repeat (first | apply Kd.R_alloc | apply Kd.R_drewN | apply Kd.R_drew)); exact HO_6.out⟩, ⟨by (try simp only [hl6_3]); (with_reducible repeat (first | apply Kd.R_alloc | apply Kd.R_drewN | apply Kd.R_drew)); exact HO_8.out⟩, ⟨by repeat (first | (with_reducible first | exact HB.out | apply below_alloc | apply pw_below_drewN | apply below_drew1) | exact HB.out)⟩⟩
                                    case round =>
                                      clear H'
                                      try clear c1
                                      try clear p1
                                      try clear q1
                                      try clear hx1
                                      try clear c2
                                      try clear p2
                                      try clear q2
                                      try clear hx2
                                      try clear hf2
                                      try clear c3
                                      try clear p3
                                      try clear q3
                                      try clear hx3
                                      try clear hf3
                                      try clear c4
                                      try clear c6
                                      try clear c6b0
                                      try clear c6b1
                                      try clear p6
                                      try clear c7
                                      try clear c7b0
                                      try clear c7b1
                                      try clear c14
                                      try clear c14b0
                                      try clear c15
                                      try clear c16
                                      try clear c16b0
                                      try clear c17
                                      try clear c17b0
                                      try clear p18
                                      try clear q18
                                      try clear hx18
                                      try clear c19
                                      try clear c19b0
                                      try clear c19b1
                                      try clear p19
                                      try clear q19
                                      try clear hx19
                                      try clear c21
                                      try clear c21b0
                                      try clear c22
                                      try clear c22b0
                                      try clear p23
                                      try clear q23
                                      try clear hx23
                                      try clear hf23
                                      try clear c28
                                      try clear c28b0
                                      try clear c29
                                      try clear c29b0
                                      try clear c30
                                      try clear c30b0
                                      try clear c31
                                      try clear c31b0
                                      try clear c31b1
                                      try clear p32
                                      try clear c33
                                      try clear c33b0
                                      try clear c35
                                      try clear c35b0
                                      try clear c36
                                      try clear c36b0
                                      try clear p37
                                      try clear q37
                                      try clear hx37
                                      try clear hf37
                                      try clear c41
                                      try clear c41b0
                                      try clear c41b1
                                      try clear c43
                                      try clear c43b0
                                      try clear c45
                                      try clear c45b0
                                      try clear c45b1
                                      try clear hx181_0
                                      try clear hx189_0
                                      try clear hx190_0
                                      try clear hx23_0
                                      try clear hx37_0
                                      try clear p1
                                      try clear p18
                                      try clear p181
                                      try clear p189
                                      try clear p190
                                      try clear p2
                                      try clear p23
                                      try clear p37
                                      try clear p6
                                      try clear q1
                                      try clear q18
                                      try clear q181
                                      try clear q189
                                      try clear q190
                                      try clear q2
                                      try clear q23
                                      try clear q37
                                      obtain ⟨x6_4, x13_4, rfl, HA, HK4, HO_6, HO_8, HB⟩ := hrel
                                      have hl6_4 := (Kd.R_reads' HO_6.out).1
                                      rw [hl6_4] at HO_6
                                      (try simp only [hl6_4])
                                      (try simp only [hl6_4] at HO_8)
                                      cases gk with
                                      | zero => exact absurd HA.out (by simp [spec_Apart.l3])
                                      | succ k4 =>
                                        have H := HA.out
                                        clear HA
                                        simp only [spec_Apart.l3] at H
                                        by_cases c47 : 0 ≤ x13_4
                                        · rw [if_pos c47] at H
                                          have c47b0 : decide (0 ≤ x13_4) = true := decide_eq_true c47
                                          clear c47
                                          by_cases c48 : x13_4 < (x6_4.length : Int)
                                          · rw [if_pos c48] at H
                                            have c48b0 : decide (x13_4 < (x6_4.length : Int)) = true := decide_eq_true c48
                                            clear c48
                                            by_cases c49 : (rd x6_4 x13_4) = 1
                                            · rw [if_pos c49] at H
                                              have c49b0 : ((rd x6_4 x13_4) == 1) = true := beq_iff_eq.mpr c49
                                              have c49b1 : ((rd x6_4 x13_4) != 1) = false := bne_eq_false_iff_eq.mpr c49
                                              clear c49
                                              obtain ⟨y193, hy193⟩ : ∃ y_ : List Int, y_ = (x6_4.set (x13_4 : Int).toNat 0) := ⟨_, rfl⟩
                                              replace H : (spec_Apart.l3 k4 a1 y193 x8_2 x10_2 (wrap64 (x11_3 - (ji46))) (wrap64 (x13_4 + 1))) = some r := by first | (rw [hy193]; with_reducible exact H) | (have H2_ := (Option.bind_some _ _).symm.trans H; rw [hy193]; with_reducible exact H2_) | (have H2_ := (Option.bind_some _ _).symm.trans H; with_reducible exact H2_) | with_reducible exact H | (rw [hy193]; exact H) | exact H
                                              have Ny193 := Aside0.mk hy193
                                              clear hy193
                                              have H' := Aside0.mk H
                                              clear H
                                              have p192 : 0 ≤ (x13_4 : Int) := of_decide_eq_true (by first | (with_reducible assumption) | assumption)
                                              have q192 : x13_4 < (x6_4.length : Int) := of_decide_eq_true (by first | (with_reducible assumption) | assumption)
                                              obtain ⟨ad192, e192, hx192_0⟩ := Kd.at_int (Kd.R_reads' HO_6.out).2.2 x13_4 p192 q192
                                              obtain rfl : (⟨gz, 0, none⟩ : Addr) = ad192 := (by injection e192)
                                              replace p192 := eq_true p192
                                              replace q192 := eq_true q192
                                              have p50 : 0 ≤ (x13_4 : Int) := of_decide_eq_true (by first | (with_reducible assumption) | assumption)
                                              have q50 : (x13_4 : Int) < ((x6_4.length : Int) : Int) := of_decide_eq_true (by first | (with_reducible assumption) | assumption)
                                              obtain ⟨go50, co50, eo50, gb50, gl50, cl50, HG50⟩ := Kd.R_form HO_6.out (by omega)
                                              injection eo50 with ea_ en_ ec_; injection ea_ with ea_; injection ea_ with ea_; subst ec_; clear en_; obtain rfl := ea_.symm
                                              have GB50 := Aside0.mk gb50
                                              have GG50 := Aside0.mk HG50
                                              clear gb50 gl50 HG50
                                              (first | simp only [add_plain] at hx192_0 | skip)
                                              obtain ⟨hx50_0, hf50_0⟩ := Kd.R_celln 0 HO_6.out (x13_4 : Int) p50 q50
                                              replace p50 := eq_true p50
                                              replace q50 := eq_true q50
                                              have HP51 := Kd.R_putg HO_6.out (x13_4 : Int) 0
                                              go_wp2_with (first | ((with_reducible refine gate_store (t := 2) (p := 100) rfl ?_); refine store_event (t := 2) (p := 100) (v := ?vo_w52) (w1 := (wr.setCell ⟨go50, (x13_4 : Int).toNat, none⟩ (.int .i64 0))) ?hg ?ho ?hn ?hr ?_; (case ho => rfl); (case hg => rfl); (case hn => rfl); (case hr => first | (go_simp; done) | (go_simp; rfl)); intro w52 hw; have hg : wr.grownBy w52 (some go50) := (by rw [hw]; exact HP51.2); have hp_ : Kd.R (Kd.int .i64) 2 w52 w.heap.size (fun _ => True) (.slice (some ⟨go50, 0, none⟩) x6_4.length co32) y193 := (by rw [hw, Ny193.out]; exact HP51.1); clear HP51; have n0_ := Aside0.mk (hp_); have n1_ := Aside0.mk (Kd.R_over' (v := (.slice (some ⟨go50, 0, none⟩) x6_4.length co32)) (by (with_reducible repeat (first | apply Kd.R_alloc | apply Kd.R_drewN | apply Kd.R_drew)); exact HO_8.out) (Kd.R_typed HO_6.out) (by decide) hg); have n2_ := Aside0.mk ((by rw [hw]; exact below_set (HB.out) GB50.out : Below w.heap.size w w52)); clear HO_6; clear HO_8; clear HB; have HO_6 := n0_; have HO_8 := n1_; have HB := n2_; clear n0_ n1_ n2_; clear hg hw hp_))
                                              (try simp only [← hl6_4])
                                              go_roundg k4
                                              case measure => have := HK1.out; have := HK2.out; have := HK3.out; have := HK4.out; omega
                                              case rel => exact ⟨(y193), (wrap64 (x13_4 + 1)), (by first | rfl | (simp; done) | (simp [*]; done)), H', ⟨by have := HK1.out; have := HK2.out; have := HK3.out; have := HK4.out; omega⟩, ⟨by (try simp only [hl6_3]); (try simp only [hl6_4]); (with_reducible repeat (first | apply Kd.R_alloc | apply Kd.R_drewN | apply Kd.R_drew)); exact HO_6.out⟩, ⟨by (try simp only [hl6_3]); (try simp only [hl6_4]); (with_reducible repeat (first | apply Kd.R_alloc | apply Kd.R_drewN | apply Kd.R_drew)); exact HO_8.out⟩, ⟨by repeat (first | (with_reducible first | exact HB.out | apply below_alloc | apply pw_below_drewN | apply below_drew1) | exact HB.out)⟩⟩
                                            · rw [if_neg c49] at H
                                              have c49b0 : ((rd x6_4 x13_4) == 1) = false := beq_eq_false_iff_ne.mpr c49
                                              have c49b1 : ((rd x6_4 x13_4) != 1) = true := bne_iff_ne.mpr c49
                                              obtain ⟨y194, hy194⟩ : ∃ y_ : List Int, y_ = (x6_4.set (x13_4 : Int).toNat 1) := ⟨_, rfl⟩
                                              replace H : (if x8_2.length < 35184372088832 then (spec_Apart.l1 k4 a1 y194 (x8_2 ++ [wrap32 ((wrap64 (x11_3 - (ji46))))]) (wrap64 (x10_2 + 1)) (wrap64 (x10_2 + 1))) else (none)) = some r := by first | (rw [hy194]; with_reducible exact H) | (have H2_ := (Option.bind_some _ _).symm.trans H; rw [hy194]; with_reducible exact H2_) | (have H2_ := (Option.bind_some _ _).symm.trans H; with_reducible exact H2_) | with_reducible exact H | (rw [hy194]; exact H) | exact H
                                              have Ny194 := Aside0.mk hy194
                                              clear hy194
                                              by_cases c54 : x8_2.length < 35184372088832
                                              · rw [if_pos c54] at H
                                                have LMc54 := Aside0.mk c54
                                                clear c54
                                                obtain ⟨y195, hy195⟩ : ∃ y_ : List Int, y_ = (x8_2 ++ [wrap32 ((wrap64 (x11_3 - (ji46))))]) := ⟨_, rfl⟩
                                                replace H : (spec_Apart.l1 k4 a1 y194 y195 (wrap64 (x10_2 + 1)) (wrap64 (x10_2 + 1))) = some r := by first | (rw [hy195]; with_reducible exact H) | (have H2_ := (Option.bind_some _ _).symm.trans H; rw [hy195]; with_reducible exact H2_) | (have H2_ := (Option.bind_some _ _).symm.trans H; with_reducible exact H2_) | with_reducible exact H | (rw [hy195]; exact H) | exact H
                                                have Ny195 := Aside0.mk hy195
                                                clear hy195
                                                have H' := Aside0.mk H
                                                clear H
                                                have p192 : 0 ≤ (x13_4 : Int) := of_decide_eq_true (by first | (with_reducible assumption) | assumption)
                                                have q192 : x13_4 < (x6_4.length : Int) := of_decide_eq_true (by first | (with_reducible assumption) | assumption)
                                                obtain ⟨ad192, e192, hx192_0⟩ := Kd.at_int (Kd.R_reads' HO_6.out).2.2 x13_4 p192 q192
                                                obtain rfl : (⟨gz, 0, none⟩ : Addr) = ad192 := (by injection e192)
                                                replace p192 := eq_true p192
                                                replace q192 := eq_true q192
                                                have p53 : 0 ≤ (x13_4 : Int) := of_decide_eq_true (by first | (with_reducible assumption) | assumption)
                                                have q53 : (x13_4 : Int) < ((x6_4.length : Int) : Int) := of_decide_eq_true (by first | (with_reducible assumption) | assumption)
                                                obtain ⟨go53, co53, eo53, gb53, gl53, cl53, HG53⟩ := Kd.R_form HO_6.out (by omega)
                                                injection eo53 with ea_ en_ ec_; injection ea_ with ea_; injection ea_ with ea_; subst ec_; clear en_; obtain rfl := ea_.symm
                                                have GB53 := Aside0.mk gb53
                                                have GG53 := Aside0.mk HG53
                                                clear gb53 gl53 HG53
                                                (first | simp only [add_plain] at hx192_0 | skip)
                                                obtain ⟨hx53_0, hf53_0⟩ := Kd.R_celln 0 HO_6.out (x13_4 : Int) p53 q53
                                                replace p53 := eq_true p53
                                                replace q53 := eq_true q53
                                                have HP55 := Kd.R_putg HO_6.out (x13_4 : Int) 1
                                                go_wp2_with (first | ((with_reducible refine gate_store (t := 2) (p := 105) rfl ?_); refine store_event (t := 2) (p := 105) (v := ?vo_w56) (w1 := (wr.setCell ⟨go53, (x13_4 : Int).toNat, none⟩ (.int .i64 1))) ?hg ?ho ?hn ?hr ?_; (case ho => rfl); (case hg => rfl); (case hn => rfl); (case hr => first | (go_simp; done) | (go_simp; rfl)); intro w56 hw; have hg : wr.grownBy w56 (some go53) := (by rw [hw]; exact HP55.2); have hp_ : Kd.R (Kd.int .i64) 2 w56 w.heap.size (fun _ => True) (.slice (some ⟨go53, 0, none⟩) x6_4.length co32) y194 := (by rw [hw, Ny194.out]; exact HP55.1); clear HP55; have n0_ := Aside0.mk (hp_); have n1_ := Aside0.mk (Kd.R_over' (v := (.slice (some ⟨go53, 0, none⟩) x6_4.length co32)) (by (with_reducible repeat (first | apply Kd.R_alloc | apply Kd.R_drewN | apply Kd.R_drew)); exact HO_8.out) (Kd.R_typed HO_6.out) (by decide) hg); have n2_ := Aside0.mk ((by rw [hw]; exact below_set (HB.out) GB53.out : Below w.heap.size w w56)); clear HO_6; clear HO_8; clear HB; have HO_6 := n0_; have HO_8 := n1_; have HB := n2_; clear n0_ n1_ n2_; clear hg hw hp_) | ((with_reducible refine gate_builtin (b := .append) (xs := #[.tmp 108, .tmp 111]) rfl ?_); at_builtin; refine Kd.R_append (Kd.int .i32) (w0 := w) w.heap.size rfl (.tmp 108) (.tmp 111) 37 21 (.int .i32 0) 4 rfl Try.underlying37 info21 rfl (by decide) (by omega) u8 x8_2 (wrap32 ((wrap64 (x11_3 - (ji46))))) [.int .i32 (wrap32 ((wrap64 (x11_3 - (ji46)))))] (fun _ => True) (fun _ => False) rfl rfl ?aP (fun _ hk => hk.elim) ?aF ?aO ?aB ?aS ?aL ?_; (case aP => exact rfl); (case aB => exact (by repeat (first | (with_reducible first | exact HB.out | apply below_alloc | apply pw_below_drewN | apply below_drew1) | exact HB.out))); (case aF => exact (fun _ _ => trivial)); (case aO => exact (by (with_reducible repeat (first | apply Kd.R_alloc | apply Kd.R_drewN | apply Kd.R_drew)); exact HO_8.out)); (case aS => exact (below_size (by repeat (first | (with_reducible first | exact HB.out | apply below_alloc | apply pw_below_drewN | apply below_drew1) | exact HB.out)))); (case aL => have := LMc54.out; omega); intro v196 w57 ho hb hg hat; rw [← Ny195.out] at ho; have n0_ := Aside0.mk (Kd.R_over' (by (with_reducible repeat (first | apply Kd.R_alloc | apply Kd.R_drewN | apply Kd.R_drew)); exact HO_6.out) (Kd.R_typed (by (with_reducible repeat (first | apply Kd.R_alloc | apply Kd.R_drewN | apply Kd.R_drew)); exact HO_8.out)) (by decide) hg); have n1_ := Aside0.mk (hb); have n2_ := Aside0.mk (ho); clear HO_6; clear HB; clear HO_8; have HO_6 := n0_; have HB := n1_; have HO197 := n2_; clear n0_ n1_ n2_; clear ho hb hg hat))
                                                (try simp only [← hl6_3, ← hl6_4])
                                                go_roundg k4
                                                case measure => have := HK1.out; have := HK2.out; have := HK3.out; have := HK4.out; omega
                                                case rel => exact ⟨(y194), (y195), (wrap64 (x10_2 + 1)), (wrap64 (x10_2 + 1)), (by first | rfl | (simp; done) | (simp [*]; done)), (by first | rfl | (simp; done) | (simp [*]; done)), H', ⟨by have := HK1.out; have := HK2.out; have := HK3.out; have := HK4.out; omega⟩, ⟨by (try simp only [hl6_3]); (try simp only [hl6_4]); (with_reducible repeat (first | apply Kd.R_alloc | apply Kd.R_drewN | apply Kd.R_drew)); exact HO_6.out⟩, ⟨by (try simp only [hl6_3]); (try simp only [hl6_4]); (with_reducible repeat (first | apply Kd.R_alloc | apply Kd.R_drewN | apply Kd.R_drew)); exact HO197.out⟩, ⟨by repeat (first | (with_reducible first | exact HB.out | apply below_alloc | apply pw_below_drewN | apply below_drew1) | exact HB.out)⟩⟩
                                              · rw [if_neg c54] at H
                                                exact absurd H (by simp)
                                          · rw [if_neg c48] at H
                                            exact absurd H (by simp)
                                        · rw [if_neg c47] at H
                                          exact absurd H (by simp)
                                  · rw [if_neg c45] at H
                                    exact absurd H (by simp)
                                · rw [if_neg c43] at H
                                  have c43b0 : decide ((ji42) ≤ x11_3) = false := decide_eq_false c43
                                  clear c43
                                  by_cases c58 : x8_2.length < 35184372088832
                                  · rw [if_pos c58] at H
                                    have LMc58 := Aside0.mk c58
                                    clear c58
                                    obtain ⟨y198, hy198⟩ : ∃ y_ : List Int, y_ = (x8_2 ++ [wrap32 (x11_3)]) := ⟨_, rfl⟩
                                    replace H : (spec_Apart.l1 k3 a1 x6_3 y198 (wrap64 (x10_2 + 1)) (wrap64 (x10_2 + 1))) = some r := by first | (rw [hy198]; with_reducible exact H) | (have H2_ := (Option.bind_some _ _).symm.trans H; rw [hy198]; with_reducible exact H2_) | (have H2_ := (Option.bind_some _ _).symm.trans H; with_reducible exact H2_) | with_reducible exact H | (rw [hy198]; exact H) | exact H
                                    have Ny198 := Aside0.mk hy198
                                    clear hy198
                                    have H' := Aside0.mk H
                                    clear H
                                    go_wp2_with (first | ((with_reducible refine gate_builtin (b := .append) (xs := #[.tmp 108, .tmp 111]) rfl ?_); at_builtin; refine Kd.R_append (Kd.int .i32) (w0 := w) w.heap.size rfl (.tmp 108) (.tmp 111) 37 21 (.int .i32 0) 4 rfl Try.underlying37 info21 rfl (by decide) (by omega) u8 x8_2 (wrap32 (x11_3)) [.int .i32 (wrap32 (x11_3))] (fun _ => True) (fun _ => False) rfl rfl ?aP (fun _ hk => hk.elim) ?aF ?aO ?aB ?aS ?aL ?_; (case aP => exact rfl); (case aB => exact (by repeat (first | (with_reducible first | exact HB.out | apply below_alloc | apply pw_below_drewN | apply below_drew1) | exact HB.out))); (case aF => exact (fun _ _ => trivial)); (case aO => exact (by (with_reducible repeat (first | apply Kd.R_alloc | apply Kd.R_drewN | apply Kd.R_drew)); exact HO_8.out)); (case aS => exact (below_size (by repeat (first | (with_reducible first | exact HB.out | apply below_alloc | apply pw_below_drewN | apply below_drew1) | exact HB.out)))); (case aL => have := LMc58.out; omega); intro v199 w59 ho hb hg hat; rw [← Ny198.out] at ho; have n0_ := Aside0.mk (Kd.R_over' (by (with_reducible repeat (first | apply Kd.R_alloc | apply Kd.R_drewN | apply Kd.R_drew)); exact HO_6.out) (Kd.R_typed (by (with_reducible repeat (first | apply Kd.R_alloc | apply Kd.R_drewN | apply Kd.R_drew)); exact HO_8.out)) (by decide) hg); have n1_ := Aside0.mk (hb); have n2_ := Aside0.mk (ho); clear HO_6; clear HB; clear HO_8; have HO_6 := n0_; have HB := n1_; have HO200 := n2_; clear n0_ n1_ n2_; clear ho hb hg hat))
                                    (try simp only [← hl6_3])
                                    go_roundg k3
                                    case measure => have := HK1.out; have := HK2.out; have := HK3.out; omega
                                    case rel => exact ⟨(x6_3), (y198), (wrap64 (x10_2 + 1)), (wrap64 (x10_2 + 1)), (by first | rfl | (simp; done) | (simp [*]; done)), (by first | rfl | (simp; done) | (simp [*]; done)), H', ⟨by have := HK1.out; have := HK2.out; have := HK3.out; omega⟩, ⟨by (try simp only [hl6_3]); (with_reducible repeat (first | apply Kd.R_alloc | apply Kd.R_drewN | apply Kd.R_drew)); exact HO_6.out⟩, ⟨by (try simp only [hl6_3]); (with_reducible repeat (first | apply Kd.R_alloc | apply Kd.R_drewN | apply Kd.R_drew)); exact HO200.out⟩, ⟨by repeat (first | (with_reducible first | exact HB.out | apply below_alloc | apply pw_below_drewN | apply below_drew1) | exact HB.out)⟩⟩
                                  · rw [if_neg c58] at H
                                    exact absurd H (by simp)
                              · rw [if_neg c41] at H
                                exact absurd H (by simp)
                      · rw [if_neg c31] at H
                        have c31b0 : ((rd x6_2 x10_2) == 1) = false := beq_eq_false_iff_ne.mpr c31
                        have c31b1 : ((rd x6_2 x10_2) != 1) = true := bne_iff_ne.mpr c31
                        by_cases c60 : x8_2.length < 35184372088832
                        · rw [if_pos c60] at H
                          have LMc60 := Aside0.mk c60
                          clear c60
                          obtain ⟨y201, hy201⟩ : ∃ y_ : List Int, y_ = (x8_2 ++ [0]) := ⟨_, rfl⟩
                          replace H : (spec_Apart.l1 k2 a1 x6_2 y201 x9_2 (wrap64 (x10_2 + 1))) = some r := by first | (rw [hy201]; with_reducible exact H) | (have H2_ := (Option.bind_some _ _).symm.trans H; rw [hy201]; with_reducible exact H2_) | (have H2_ := (Option.bind_some _ _).symm.trans H; with_reducible exact H2_) | with_reducible exact H | (rw [hy201]; exact H) | exact H
                          have Ny201 := Aside0.mk hy201
                          clear hy201
                          have H' := Aside0.mk H
                          clear H
                          obtain ⟨Ao61, co61, eo61⟩ := Kd.R_slice HO_6.out
                          subst eo61
                          have p189 : 0 ≤ (x10_2 : Int) := of_decide_eq_true (by first | (with_reducible assumption) | assumption)
                          have q189 : x10_2 < (x6_2.length : Int) := of_decide_eq_true (by first | (with_reducible assumption) | assumption)
                          obtain ⟨ad189, e189, hx189_0⟩ := Kd.at_int (Kd.R_reads' HO_6.out).2.2 x10_2 p189 q189
                          cases e189
                          replace p189 := eq_true p189
                          replace q189 := eq_true q189
                          go_wp2_with (first | ((with_reducible refine gate_builtin (b := .append) (xs := #[.tmp 108, .tmp 111]) rfl ?_); at_builtin; refine Kd.R_append (Kd.int .i32) (w0 := w) w.heap.size rfl (.tmp 108) (.tmp 111) 37 21 (.int .i32 0) 4 rfl Try.underlying37 info21 rfl (by decide) (by omega) u8 x8_2 0 [.int .i32 0] (fun _ => True) (fun _ => False) rfl rfl ?aP (fun _ hk => hk.elim) ?aF ?aO ?aB ?aS ?aL ?_; (case aP => exact rfl); (case aB => exact (by repeat (first | (with_reducible first | exact HB.out | apply below_alloc | apply pw_below_drewN | apply below_drew1) | exact HB.out))); (case aF => exact (fun _ _ => trivial)); (case aO => exact (by (with_reducible repeat (first | apply Kd.R_alloc | apply Kd.R_drewN | apply Kd.R_drew)); exact HO_8.out)); (case aS => exact (below_size (by repeat (first | (with_reducible first | exact HB.out | apply below_alloc | apply pw_below_drewN | apply below_drew1) | exact HB.out)))); (case aL => have := LMc60.out; omega); intro v202 w62 ho hb hg hat; rw [← Ny201.out] at ho; have n0_ := Aside0.mk (Kd.R_over' (by (with_reducible repeat (first | apply Kd.R_alloc | apply Kd.R_drewN | apply Kd.R_drew)); exact HO_6.out) (Kd.R_typed (by (with_reducible repeat (first | apply Kd.R_alloc | apply Kd.R_drewN | apply Kd.R_drew)); exact HO_8.out)) (by decide) hg); have n1_ := Aside0.mk (hb); have n2_ := Aside0.mk (ho); clear HO_6; clear HB; clear HO_8; have HO_6 := n0_; have HB := n1_; have HO203 := n2_; clear n0_ n1_ n2_; clear ho hb hg hat))
                          go_roundg k2
                          case measure => have := HK1.out; have := HK2.out; omega
                          case rel => exact ⟨(x6_2), (y201), (x9_2), (wrap64 (x10_2 + 1)), (by first | rfl | (simp; done) | (simp [*]; done)), (by first | rfl | (simp; done) | (simp [*]; done)), H', ⟨by have := HK1.out; have := HK2.out; omega⟩, ⟨by (with_reducible repeat (first | apply Kd.R_alloc | apply Kd.R_drewN | apply Kd.R_drew)); exact HO_6.out⟩, ⟨by (with_reducible repeat (first | apply Kd.R_alloc | apply Kd.R_drewN | apply Kd.R_drew)); exact HO203.out⟩, ⟨by repeat (first | (with_reducible first | exact HB.out | apply below_alloc | apply pw_below_drewN | apply below_drew1) | exact HB.out)⟩⟩
                        · rw [if_neg c60] at H
                          exact absurd H (by simp)
                    · rw [if_neg c30] at H
                      exact absurd H (by simp)
                  · rw [if_neg c29] at H
                    exact absurd H (by simp)
                · rw [if_neg c28] at H
                  have c28b0 : decide ((wrap64 (x10_2 + a1)) < (x6_2.length : Int)) = false := decide_eq_false c28
                  clear c28
                  by_cases c63 : 0 ≤ x9_2
                  · rw [if_pos c63] at H
                    have c63b0 := eq_true c63
                    have c63b1 : decide (0 ≤ x9_2) = true := decide_eq_true c63
                    clear c63
                    by_cases c64 : x9_2 ≤ (x8_2.length : Int)
                    · rw [if_pos c64] at H
                      have c64b0 := eq_true c64
                      have c64b1 : decide (x9_2 ≤ (x8_2.length : Int)) = true := decide_eq_true c64
                      clear c64
                      obtain ⟨y186, hy186⟩ : ∃ y_ : List Int, y_ = (x8_2.take (x9_2 : Int).toNat) := ⟨_, rfl⟩
                      replace H : (some y186) = some r := by first | (rw [hy186]; with_reducible exact H) | (have H2_ := (Option.bind_some _ _).symm.trans H; rw [hy186]; with_reducible exact H2_) | (have H2_ := (Option.bind_some _ _).symm.trans H; with_reducible exact H2_) | with_reducible exact H | (rw [hy186]; exact H) | exact H
                      have Ny186 := Aside0.mk hy186
                      clear hy186
                      obtain rfl := Option.some.inj H
                      obtain ⟨Ao65, co65, eo65⟩ := Kd.R_slice HO_6.out
                      subst eo65
                      obtain ⟨Ao66, co66, eo66⟩ := Kd.R_slice HO_8.out
                      subst eo66
                      have q67 : (x9_2 : Int) ≤ ((x8_2.length : Int) : Int) := of_decide_eq_true (by first | (with_reducible assumption) | assumption)
                      obtain ⟨i067, hi067, _, hsz67, _⟩ := info_parts info21
                      have hcut67 := cut_to (P := Try.prog) 37 21 .i64 Try.underlying37 hi067 Ao66 x8_2.length co66 x9_2 (of_decide_eq_true (by first | (with_reducible assumption) | assumption)) q67 (Kd.R_reads' HO_8.out).2.1
                      have hr67 := Kd.R_take (m := (x9_2 : Int).toNat) HO_8.out (by omega)
                      have hy67 : y186.length = (x9_2 : Int).toNat := (by rw [Ny186.out, List.length_take]; omega)
                      rw [← Ny186.out] at hr67
                      rw [← hy67] at hr67 hcut67
                      clear hy67 hi067 hsz67 HO_8
                      have HO188 := Aside0.mk hr67
                      clear hr67
                      replace q67 := eq_true q67
                      go_wp2
                      go_ret
                      exact ⟨_, by first | rfl | (simp [errW_none, errW_some] <;> rfl) | (simp only [← hji5]; first | rfl | (simp [errW_none, errW_some] <;> rfl)) | (simp [*, errW_none, errW_some] <;> rfl), by (with_reducible repeat (first | apply Kd.R_alloc | apply Kd.R_drewN | apply Kd.R_drew)); exact HO188.out, by repeat (first | (with_reducible first | exact HB.out | apply below_alloc | apply pw_below_drewN | apply below_drew1) | exact HB.out)⟩
                    · rw [if_neg c64] at H
                      exact absurd H (by simp)
                  · rw [if_neg c63] at H
                    exact absurd H (by simp)
    · rw [if_neg c7] at H
      exact absurd H (by simp)
  · rw [if_neg c6] at H
    exact absurd H (by simp)
end Go.Proofs.Ythckboojmljeiaa.PFnExactApart
