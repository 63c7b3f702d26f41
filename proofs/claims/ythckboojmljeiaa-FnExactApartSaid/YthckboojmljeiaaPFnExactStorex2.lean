-- PRINTED BY print.sh 35421559b90ae4d0a3588c463048766b98c2df88dd9212a6774a882060cdf62d: not written by this session
import Derived.Test.YthckboojmljeiaaPFnExactStorex0
namespace Go.Proofs.Ythckboojmljeiaa.PFnExactStore
open Go.RowKit Go.Proofs.YthckboojmljeiaaW.PrintWords Go.Proofs.YthckboojmljeiaaW.PrintLast Go.Proofs.YthckboojmljeiaaW.PrintMore
attribute [local go_sem] max2_int min2_int max_two min_two max_three min_three max_four min_four   -- for this text's walks alone
set_option linter.unusedVariables false
set_option linter.unusedSimpArgs false

/-! ### spec_Short: function 15 -/
def spec_Short.l0 : Nat → List Int → Option (List Int)
  | 0, _ => none
  | k + 1, x0 => if (x0.length : Int) > 0 then (if 0 < (x0.length : Int) then (if (rd x0 0) = 0 then (if 1 ≤ (x0.length : Int) then (spec_Short.l0 k (x0.drop 1)) else (none)) else ((some (([] : List Int) : List Int)).bind fun y144 => (if y144.length + x0.length < 140737488355328 then (some (y144 ++ x0)) else (none)))) else (none)) else ((some (([] : List Int) : List Int)).bind fun y150 => (if y150.length + x0.length < 140737488355328 then (some (y150 ++ x0)) else (none)))
def spec_Short.f (k : Nat) (l0 : List Int) : Option (List Int) := spec_Short.l0 k l0
theorem spec_Short.mono_l : ∀ k, (∀ y0, LeO (spec_Short.l0 k y0) (spec_Short.l0 (k + 1) y0))
  | 0 => fun _ r h => by simp [spec_Short.l0] at h
  | k + 1 => by
    have ih0 := spec_Short.mono_l k
    · intro y0
      unfold spec_Short.l0
      repeat' first
      | (with_reducible exact ih0 _)
      | (with_reducible exact LeO.refl _)
      | (with_reducible exact LeO.none _)
      | (with_reducible refine LeO.ite ?_ ?_)
      | (with_reducible refine LeO.bind ?_ (fun _ => ?_))
      | exact ih0 _
      | exact LeO.none _
      | refine LeO.ite ?_ ?_
      | refine LeO.bind ?_ (fun _ => ?_)
theorem spec_Short.mono : ∀ a0 k, LeO (spec_Short.f k a0) (spec_Short.f (k + 1) a0) := by
  intro a0 k
  have ih0 := spec_Short.mono_l k
  unfold spec_Short.f
  repeat' first
      | (with_reducible exact ih0 _)
      | (with_reducible exact LeO.refl _)
      | (with_reducible exact LeO.none _)
      | (with_reducible refine LeO.ite ?_ ?_)
      | (with_reducible refine LeO.bind ?_ (fun _ => ?_))
      | exact ih0 _
      | exact LeO.none _
      | refine LeO.ite ?_ ?_
      | refine LeO.bind ?_ (fun _ => ?_)
set_option maxHeartbeats 8000000 in
set_option maxRecDepth 100000 in
theorem spec_Short.calls (k : Nat) (P0_ : Nat → Prop) (A0 : Option Addr) (c0 : Nat) (l0 : List Int) (r : List Int) (w : World) (hs0 : Kd.V (Kd.int .u8) 5 w w.heap.size (fun k_ => P0_ k_) (.slice A0 l0.length c0) l0) (h : spec_Short.f k l0 = some r) :
    Calls Try.prog 15 #[.slice A0 l0.length c0] w fun e w' => ∃ v0_ : Value, e = .returned (v0_) ∧ Kd.R (Kd.int .u8) 5 w' w.heap.size (fun k_ => (w.heap.size ≤ k_)) v0_ r ∧ Below w.heap.size w w' := by
  have HO0 := Aside0.mk (show Kd.V (Kd.int .u8) 5 w w.heap.size (fun k_ => (P0_ k_ ∨ w.heap.size ≤ k_)) (.slice A0 l0.length c0) l0 from Kd.V_mono hs0 (fun k_ hk => .inl hk))
  have HB := Aside0.mk (Below.refl w.heap.size w)
  have H : (spec_Short.l0 k l0) = some r := h
  clear h
  have H' := Aside0.mk H
  clear H
  go_enter Try.func15, Try.ntmps15
  go_wp2
  go_loopg [0] k (fun kq v0 w' => ∃ (x0_1 : List Int), Aside0 (spec_Short.l0 kq x0_1 = some r) ∧ Aside0 (kq ≤ k) ∧ Aside0 (Kd.V (Kd.int .u8) 5 w' w.heap.size (fun k_ => (P0_ k_ ∨ w.heap.size ≤ k_)) v0 x0_1) ∧ Aside0 (Below w.heap.size w w'))
  case atStart => exact ⟨(l0), H', ⟨Nat.le_refl _⟩, ⟨by (with_reducible repeat (first | apply Kd.V_alloc | apply Kd.V_drewN | apply Kd.V_drew)); exact HO0.out⟩, ⟨by repeat (first | (with_reducible first | exact HB.out | apply below_alloc | apply pw_below_drewN | apply below_drew1) | exact HB.out)⟩⟩
  case round =>
    clear H'
    try clear c1
    obtain ⟨x0_1, HA, HK1, HO_0, HB⟩ := hrel
    cases gk with
    | zero => exact absurd HA.out (by simp [spec_Short.l0])
    | succ k1 =>
      have H := HA.out
      clear HA
      simp only [spec_Short.l0] at H
      by_cases c2 : (x0_1.length : Int) > 0
      · rw [if_pos c2] at H
        have c2b0 : decide (0 < (x0_1.length : Int)) = true := decide_eq_true c2
        have c2b1 : decide (0 < x0_1.length) = true := decide_eq_true (by omega)
        clear c2
        by_cases c3 : 0 < (x0_1.length : Int)
        · rw [if_pos c3] at H
          have c3b0 : decide (0 < (x0_1.length : Int)) = true := decide_eq_true c3
          have c3b1 : decide (0 < x0_1.length) = true := decide_eq_true (by omega)
          clear c3
          by_cases c4 : (rd x0_1 0) = 0
          · rw [if_pos c4] at H
            have c4b0 : ((rd x0_1 0) == 0) = true := beq_iff_eq.mpr c4
            have c4b1 : ((rd x0_1 0) != 0) = false := bne_eq_false_iff_eq.mpr c4
            clear c4
            by_cases c5 : 1 ≤ (x0_1.length : Int)
            · rw [if_pos c5] at H
              have c5b0 := eq_true c5
              have c5b1 : decide (1 ≤ (x0_1.length : Int)) = true := decide_eq_true c5
              clear c5
              obtain ⟨y139, hy139⟩ : ∃ y_ : List Int, y_ = (x0_1.drop 1) := ⟨_, rfl⟩
              replace H : (spec_Short.l0 k1 y139) = some r := by first | (rw [hy139]; with_reducible exact H) | (have H2_ := (Option.bind_some _ _).symm.trans H; rw [hy139]; with_reducible exact H2_) | (have H2_ := (Option.bind_some _ _).symm.trans H; with_reducible exact H2_) | with_reducible exact H | (rw [hy139]; exact H) | exact H
              have Ny139 := Aside0.mk hy139
              clear hy139
              have H' := Aside0.mk H
              clear H
              obtain ⟨Ao6, co6, eo6⟩ := Kd.V_slice HO_0.out
              subst eo6
              have p138 : 0 ≤ (0 : Int) := (by omega)
              have q138 : 0 < (x0_1.length : Int) := of_decide_eq_true (by first | (with_reducible assumption) | assumption)
              obtain ⟨ad138, e138, hx138_0⟩ := Kd.at_int (Kd.V_reads' HO_0.out).2.2 0 p138 q138
              cases e138
              have qi138 : (0 < x0_1.length) = True := eq_true (by omega)
              (try rw [show ((0 : Int)).toNat = 0 from rfl] at hx138_0)
              (try rw [Addr.add_zero'] at hx138_0)
              replace p138 := eq_true p138
              replace q138 := eq_true q138
              have q7 : (1 : Int) ≤ ((x0_1.length : Int) : Int) := of_decide_eq_true (by first | (with_reducible assumption) | assumption)
              obtain ⟨i07, hi07, _, hsz7, _⟩ := info_parts info5
              have hroom7 : x0_1.length ≤ co6 := (Kd.V_reads' HO_0.out).2.1
              have hC7 : Kd.F (Kd.int .u8) _ _ (some ad138) x0_1.length x0_1 := (Kd.V_at (base := w.heap.size) HO_0.out).2.2
              have hcut7 := cut_from (P := Try.prog) 22 5 .i64 Try.underlying22 hi07 1 hsz7 (some ad138) x0_1.length co6 1 (by omega) q7
              have hr7 := Kd.F_cut (m := (1 : Int).toNat) (c := co6) hC7 (by omega) hroom7
              obtain ⟨A7, hA7⟩ : ∃ A1, A1 = (if co6 = (1 : Int).toNat then (some ad138) else ((some ad138) : Option Addr).map (·.add ((1 : Int).toNat * 1))) := ⟨_, rfl⟩
              obtain ⟨c7, hc7⟩ : ∃ c1, c1 = co6 - (1 : Int).toNat := ⟨_, rfl⟩
              have hy7 : y139.length = x0_1.length - (1 : Int).toNat := (by rw [Ny139.out, List.length_drop] <;> omega)
              rw [show (x0_1).drop (1 : Int).toNat = y139 from Ny139.out.symm] at hr7
              replace hr7 : Kd.F (Kd.int .u8) _ _ A7 y139.length y139 := (by rw [hA7]; exact hr7)
              rw [← hy7, ← hA7, ← hc7] at hcut7
              have HO143 := Aside0.mk (show Kd.V (Kd.int .u8) 5 _ w.heap.size _ (.slice A7 y139.length c7) y139 from Kd.V_mk (by rw [hy7, hc7]; exact Nat.sub_le_sub_right hroom7 _) hr7)
              have HC143 := Aside0.mk (show y139.length ≤ c7 from by rw [hy7, hc7]; exact Nat.sub_le_sub_right hroom7 _)
              clear hr7 hC7 hroom7 hi07 hsz7 hc7
              have KY7 := Aside0.mk hy7
              have KA7 := Aside0.mk hA7
              clear hy7 hA7
              replace q7 := eq_true q7
              go_wp2
              go_roundg k1
              case measure => have := HK1.out; omega
              case rel => exact ⟨(y139), H', ⟨by have := HK1.out; omega⟩, ⟨by (with_reducible repeat (first | apply Kd.V_alloc | apply Kd.V_drewN | apply Kd.V_drew)); exact HO143.out⟩, ⟨by repeat (first | (with_reducible first | exact HB.out | apply below_alloc | apply pw_below_drewN | apply below_drew1) | exact HB.out)⟩⟩
            · rw [if_neg c5] at H
              exact absurd H (by simp)
          · rw [if_neg c4] at H
            have c4b0 : ((rd x0_1 0) == 0) = false := beq_eq_false_iff_ne.mpr c4
            have c4b1 : ((rd x0_1 0) != 0) = true := bne_iff_ne.mpr c4
            obtain ⟨y144, hy144⟩ : ∃ y_ : List Int, y_ = (([] : List Int)) := ⟨_, rfl⟩
            replace H : (if y144.length + x0_1.length < 140737488355328 then (some (y144 ++ x0_1)) else (none)) = some r := by first | (rw [hy144]; with_reducible exact H) | (have H2_ := (Option.bind_some _ _).symm.trans H; rw [hy144]; with_reducible exact H2_) | (have H2_ := (Option.bind_some _ _).symm.trans H; with_reducible exact H2_) | with_reducible exact H | (rw [hy144]; exact H) | exact H
            have Ny144 := Aside0.mk hy144
            clear hy144
            by_cases c8 : y144.length + x0_1.length < 140737488355328
            · rw [if_pos c8] at H
              have LMc8 := Aside0.mk c8
              clear c8
              obtain ⟨y147, hy147⟩ : ∃ y_ : List Int, y_ = (y144 ++ x0_1) := ⟨_, rfl⟩
              replace H : (some y147) = some r := by first | (rw [hy147]; with_reducible exact H) | (have H2_ := (Option.bind_some _ _).symm.trans H; rw [hy147]; with_reducible exact H2_) | (have H2_ := (Option.bind_some _ _).symm.trans H; with_reducible exact H2_) | with_reducible exact H | (rw [hy147]; exact H) | exact H
              have Ny147 := Aside0.mk hy147
              clear hy147
              obtain rfl := Option.some.inj H
              obtain ⟨Ao9, co9, eo9⟩ := Kd.V_slice HO_0.out
              subst eo9
              have p138 : 0 ≤ (0 : Int) := (by omega)
              have q138 : 0 < (x0_1.length : Int) := of_decide_eq_true (by first | (with_reducible assumption) | assumption)
              obtain ⟨ad138, e138, hx138_0⟩ := Kd.at_int (Kd.V_reads' HO_0.out).2.2 0 p138 q138
              cases e138
              have qi138 : (0 < x0_1.length) = True := eq_true (by omega)
              (try rw [show ((0 : Int)).toNat = 0 from rfl] at hx138_0)
              (try rw [Addr.add_zero'] at hx138_0)
              replace p138 := eq_true p138
              replace q138 := eq_true q138
              go_wp2_with (first | ((with_reducible refine gate_dst (N := 14) rfl ?_); refine Kd.R_lit (Kd.int .u8) _ 5 ?hg (N := 14) ?hd (xs := ([] : List Int)) (inner := []) (ok := fun _ => True) (okp := fun _ => True) ?hr ?hp (fun _ hk => hk) trivial (Below.refl _ _) (Nat.le_refl _) (by simp) ?_; (case hd => rfl); (case hg => rfl); (case hr => first | (go_simp; done) | (go_simp; rfl)); (case hp => exact (Reps.none _ _)); intro v145 w10 ho11 hb hg_ hnew_; clear hg_ hnew_; (first | rw [← Ny144.out] at ho11 | (simp only [Int.reduceToNat] at ho11; rw [← Ny144.out] at ho11)); have n0_ := Aside0.mk (Kd.V_elder' (by (with_reducible repeat (first | apply Kd.V_alloc | apply Kd.V_drewN | apply Kd.V_drew)); exact HO_0.out) (Kd.R_base ho11) hb); have n1_ := Aside0.mk (Kd.R_lower (Kd.R_newM (M := fun k_ => (w.heap.size ≤ k_)) ho11 (below_size (by repeat (first | (with_reducible first | exact HB.out | apply below_alloc | apply pw_below_drewN | apply below_drew1) | exact HB.out))) (fun k_ h_ => h_)) (below_size (by repeat (first | (with_reducible first | exact HB.out | apply below_alloc | apply pw_below_drewN | apply below_drew1) | exact HB.out)))); have n2_ := Aside0.mk (below_step (by repeat (first | (with_reducible first | exact HB.out | apply below_alloc | apply pw_below_drewN | apply below_drew1) | exact HB.out)) hb); clear HO_0; clear HB; have HO_0 := n0_; have HO146 := n1_; have HB := n2_; clear n0_ n1_ n2_; clear hb ho11) | ((with_reducible refine gate_builtin (b := .append) (xs := #[.tmp 14, .tmp 15]) rfl ?_); at_builtin; refine Kd.R_append_rows (Kd.int .u8) (w0 := w) w.heap.size rfl (.tmp 14) (.tmp 15) 22 5 (.int .u8 0) 1 rfl Try.underlying22 info5 rfl (by decide) (by omega) v145 y144 x0_1 _ _ _ (fun k_ => (w.heap.size ≤ k_)) (fun _ => False) rfl rfl ?aO ?aR (fun _ _ h => h) (fun _ h => h.elim) ?aF ?aB ?aS ?aL ?_; (case aR => repeat (first | exact (Kd.V_reads' HO_0.out).2.2 | (with_reducible refine Kd.C_alloc ?_ _) | (with_reducible refine Kd.C_drewN ?_ _) | (with_reducible refine Kd.C_drew ?_))); (case aB => exact (by repeat (first | (with_reducible first | exact HB.out | apply below_alloc | apply pw_below_drewN | apply below_drew1) | exact HB.out))); (case aF => exact (fun k_ hk => (Nat.le_trans (below_size (by repeat (first | (with_reducible first | exact HB.out | apply below_alloc | apply pw_below_drewN | apply below_drew1) | exact HB.out))) hk))); (case aO => exact (by (with_reducible repeat (first | apply Kd.R_alloc | apply Kd.R_drewN | apply Kd.R_drew)); exact Kd.R_mono HO146.out (fun _ hk => hk.1))); (case aS => exact (below_size (by repeat (first | (with_reducible first | exact HB.out | apply below_alloc | apply pw_below_drewN | apply below_drew1) | exact HB.out)))); (case aL => have := LMc8.out; omega); intro v148 w12 ho hb hg hat; rw [← Ny147.out] at ho; have n0_ := Aside0.mk (Kd.V_afterv (ok := (fun k_ => (P0_ k_ ∨ w.heap.size ≤ k_))) (by (with_reducible repeat (first | apply Kd.V_alloc | apply Kd.V_drewN | apply Kd.V_drew)); exact HO_0.out) hg hat); have n1_ := Aside0.mk (hb); have n2_ := Aside0.mk (ho); clear HO_0; clear HB; clear HO146; have HO_0 := n0_; have HB := n1_; have HO149 := n2_; clear n0_ n1_ n2_; clear ho hb hg hat))
              go_ret
              exact ⟨_, by first | rfl | (simp [errW_none, errW_some] <;> rfl) | (simp [*, errW_none, errW_some] <;> rfl), by (with_reducible repeat (first | apply Kd.R_alloc | apply Kd.R_drewN | apply Kd.R_drew)); exact HO149.out, by repeat (first | (with_reducible first | exact HB.out | apply below_alloc | apply pw_below_drewN | apply below_drew1) | exact HB.out)⟩
            · rw [if_neg c8] at H
              exact absurd H (by simp)
        · rw [if_neg c3] at H
          exact absurd H (by simp)
      · rw [if_neg c2] at H
        have c2b0 : decide (0 < (x0_1.length : Int)) = false := decide_eq_false c2
        have c2b1 : decide (0 < x0_1.length) = false := decide_eq_false (by omega)
        clear c2
        obtain ⟨y150, hy150⟩ : ∃ y_ : List Int, y_ = (([] : List Int)) := ⟨_, rfl⟩
        replace H : (if y150.length + x0_1.length < 140737488355328 then (some (y150 ++ x0_1)) else (none)) = some r := by first | (rw [hy150]; with_reducible exact H) | (have H2_ := (Option.bind_some _ _).symm.trans H; rw [hy150]; with_reducible exact H2_) | (have H2_ := (Option.bind_some _ _).symm.trans H; with_reducible exact H2_) | with_reducible exact H | (rw [hy150]; exact H) | exact H
        have Ny150 := Aside0.mk hy150
        clear hy150
        by_cases c13 : y150.length + x0_1.length < 140737488355328
        · rw [if_pos c13] at H
          have LMc13 := Aside0.mk c13
          clear c13
          obtain ⟨y153, hy153⟩ : ∃ y_ : List Int, y_ = (y150 ++ x0_1) := ⟨_, rfl⟩
          replace H : (some y153) = some r := by first | (rw [hy153]; with_reducible exact H) | (have H2_ := (Option.bind_some _ _).symm.trans H; rw [hy153]; with_reducible exact H2_) | (have H2_ := (Option.bind_some _ _).symm.trans H; with_reducible exact H2_) | with_reducible exact H | (rw [hy153]; exact H) | exact H
          have Ny153 := Aside0.mk hy153
          clear hy153
          obtain rfl := Option.some.inj H
          obtain ⟨Ao14, co14, eo14⟩ := Kd.V_slice HO_0.out
          subst eo14
          go_wp2_with (first | ((with_reducible refine gate_dst (N := 14) rfl ?_); refine Kd.R_lit (Kd.int .u8) _ 5 ?hg (N := 14) ?hd (xs := ([] : List Int)) (inner := []) (ok := fun _ => True) (okp := fun _ => True) ?hr ?hp (fun _ hk => hk) trivial (Below.refl _ _) (Nat.le_refl _) (by simp) ?_; (case hd => rfl); (case hg => rfl); (case hr => first | (go_simp; done) | (go_simp; rfl)); (case hp => exact (Reps.none _ _)); intro v151 w15 ho16 hb hg_ hnew_; clear hg_ hnew_; (first | rw [← Ny150.out] at ho16 | (simp only [Int.reduceToNat] at ho16; rw [← Ny150.out] at ho16)); have n0_ := Aside0.mk (Kd.V_elder' (by (with_reducible repeat (first | apply Kd.V_alloc | apply Kd.V_drewN | apply Kd.V_drew)); exact HO_0.out) (Kd.R_base ho16) hb); have n1_ := Aside0.mk (Kd.R_lower (Kd.R_newM (M := fun k_ => (w.heap.size ≤ k_)) ho16 (below_size (by repeat (first | (with_reducible first | exact HB.out | apply below_alloc | apply pw_below_drewN | apply below_drew1) | exact HB.out))) (fun k_ h_ => h_)) (below_size (by repeat (first | (with_reducible first | exact HB.out | apply below_alloc | apply pw_below_drewN | apply below_drew1) | exact HB.out)))); have n2_ := Aside0.mk (below_step (by repeat (first | (with_reducible first | exact HB.out | apply below_alloc | apply pw_below_drewN | apply below_drew1) | exact HB.out)) hb); clear HO_0; clear HB; have HO_0 := n0_; have HO152 := n1_; have HB := n2_; clear n0_ n1_ n2_; clear hb ho16) | ((with_reducible refine gate_builtin (b := .append) (xs := #[.tmp 14, .tmp 15]) rfl ?_); at_builtin; refine Kd.R_append_rows (Kd.int .u8) (w0 := w) w.heap.size rfl (.tmp 14) (.tmp 15) 22 5 (.int .u8 0) 1 rfl Try.underlying22 info5 rfl (by decide) (by omega) v151 y150 x0_1 _ _ _ (fun k_ => (w.heap.size ≤ k_)) (fun _ => False) rfl rfl ?aO ?aR (fun _ _ h => h) (fun _ h => h.elim) ?aF ?aB ?aS ?aL ?_; (case aR => repeat (first | exact (Kd.V_reads' HO_0.out).2.2 | (with_reducible refine Kd.C_alloc ?_ _) | (with_reducible refine Kd.C_drewN ?_ _) | (with_reducible refine Kd.C_drew ?_))); (case aB => exact (by repeat (first | (with_reducible first | exact HB.out | apply below_alloc | apply pw_below_drewN | apply below_drew1) | exact HB.out))); (case aF => exact (fun k_ hk => (Nat.le_trans (below_size (by repeat (first | (with_reducible first | exact HB.out | apply below_alloc | apply pw_below_drewN | apply below_drew1) | exact HB.out))) hk))); (case aO => exact (by (with_reducible repeat (first | apply Kd.R_alloc | apply Kd.R_drewN | apply Kd.R_drew)); exact Kd.R_mono HO152.out (fun _ hk => hk.1))); (case aS => exact (below_size (by repeat (first | (with_reducible first | exact HB.out | apply below_alloc | apply pw_below_drewN | apply below_drew1) | exact HB.out)))); (case aL => have := LMc13.out; omega); intro v154 w17 ho hb hg hat; rw [← Ny153.out] at ho; have n0_ := Aside0.mk (Kd.V_afterv (ok := (fun k_ => (P0_ k_ ∨ w.heap.size ≤ k_))) (by (with_reducible repeat (first | apply Kd.V_alloc | apply Kd.V_drewN | apply Kd.V_drew)); exact HO_0.out) hg hat); have n1_ := Aside0.mk (hb); have n2_ := Aside0.mk (ho); clear HO_0; clear HB; clear HO152; have HO_0 := n0_; have HB := n1_; have HO155 := n2_; clear n0_ n1_ n2_; clear ho hb hg hat))
          go_ret
          exact ⟨_, by first | rfl | (simp [errW_none, errW_some] <;> rfl) | (simp [*, errW_none, errW_some] <;> rfl), by (with_reducible repeat (first | apply Kd.R_alloc | apply Kd.R_drewN | apply Kd.R_drew)); exact HO155.out, by repeat (first | (with_reducible first | exact HB.out | apply below_alloc | apply pw_below_drewN | apply below_drew1) | exact HB.out)⟩
        · rw [if_neg c13] at H
          exact absurd H (by simp)

/-! ### spec_Turned: function 16 -/
def spec_Turned.l0 : Nat → List Int → List Int → Int → Option (List Int)
  | 0, _, _, _ => none
  | k + 1, x0, x3, x4 => if x4 ≥ 0 then (if 0 ≤ x4 then (if x4 < (x0.length : Int) then (if x3.length < 140737488355328 then (spec_Turned.l0 k x0 (x3 ++ [rd x0 x4]) (wrap64 (x4 - 1))) else (none)) else (none)) else (none)) else (some x3)
def spec_Turned.f (k : Nat) (l0 : List Int) : Option (List Int) := spec_Turned.l0 k l0 (([] : List Int)) (wrap64 ((l0.length : Int) - 1))
theorem spec_Turned.mono_l : ∀ k, (∀ y0 y1 y2, LeO (spec_Turned.l0 k y0 y1 y2) (spec_Turned.l0 (k + 1) y0 y1 y2))
  | 0 => fun _ _ _ r h => by simp [spec_Turned.l0] at h
  | k + 1 => by
    have ih0 := spec_Turned.mono_l k
    · intro y0 y1 y2
      unfold spec_Turned.l0
      repeat' first
      | (with_reducible exact ih0 _ _ _)
      | (with_reducible exact LeO.refl _)
      | (with_reducible exact LeO.none _)
      | (with_reducible refine LeO.ite ?_ ?_)
      | (with_reducible refine LeO.bind ?_ (fun _ => ?_))
      | exact ih0 _ _ _
      | exact LeO.none _
      | refine LeO.ite ?_ ?_
      | refine LeO.bind ?_ (fun _ => ?_)
theorem spec_Turned.mono : ∀ a0 k, LeO (spec_Turned.f k a0) (spec_Turned.f (k + 1) a0) := by
  intro a0 k
  have ih0 := spec_Turned.mono_l k
  unfold spec_Turned.f
  repeat' first
      | (with_reducible exact ih0 _ _ _)
      | (with_reducible exact LeO.refl _)
      | (with_reducible exact LeO.none _)
      | (with_reducible refine LeO.ite ?_ ?_)
      | (with_reducible refine LeO.bind ?_ (fun _ => ?_))
      | exact ih0 _ _ _
      | exact LeO.none _
      | refine LeO.ite ?_ ?_
      | refine LeO.bind ?_ (fun _ => ?_)
set_option maxHeartbeats 8000000 in
set_option maxRecDepth 100000 in
theorem spec_Turned.calls (k : Nat) (A0 : Option Addr) (c0 : Nat) (l0 : List Int) (r : List Int) (w : World) (hr0 : Kd.C (Kd.int .u8) w A0 l0.length l0) (hc0 : l0.length ≤ c0) (h : spec_Turned.f k l0 = some r) :
    Calls Try.prog 16 #[.slice A0 l0.length c0] w fun e w' => ∃ v0_ : Value, e = .returned (v0_) ∧ Kd.R (Kd.int .u8) 5 w' w.heap.size (fun _ => True) v0_ r ∧ Below w.heap.size w w' := by
  have HR0 := Aside0.mk hr0
  have HC0 := Aside0.mk hc0
  clear hr0 hc0
  have HB := Aside0.mk (Below.refl w.heap.size w)
  have H : (spec_Turned.l0 k l0 (([] : List Int)) (wrap64 ((l0.length : Int) - 1))) = some r := h
  clear h
  obtain ⟨y156, hy156⟩ : ∃ y_ : List Int, y_ = (([] : List Int)) := ⟨_, rfl⟩
  replace H : (spec_Turned.l0 k l0 y156 (wrap64 ((l0.length : Int) - 1))) = some r := by first | (rw [hy156]; with_reducible exact H) | (have H2_ := (Option.bind_some _ _).symm.trans H; rw [hy156]; with_reducible exact H2_) | (have H2_ := (Option.bind_some _ _).symm.trans H; with_reducible exact H2_) | with_reducible exact H | (rw [hy156]; exact H) | exact H
  have Ny156 := Aside0.mk hy156
  clear hy156
  have H' := Aside0.mk H
  clear H
  go_enter Try.func16, Try.ntmps16
  go_wp2_with (first | ((with_reducible refine gate_dst (N := 5) rfl ?_); refine Kd.R_lit (Kd.int .u8) _ 5 ?hg (N := 5) ?hd (xs := ([] : List Int)) (inner := []) (ok := fun _ => True) (okp := fun _ => True) ?hr ?hp (fun _ hk => hk) trivial (Below.refl _ _) (Nat.le_refl _) (by simp) ?_; (case hd => rfl); (case hg => rfl); (case hr => first | (go_simp; done) | (go_simp; rfl)); (case hp => exact (Reps.none _ _)); intro v157 w2 ho3 hb hg_ hnew_; clear hg_ hnew_; (first | rw [← Ny156.out] at ho3 | (simp only [Int.reduceToNat] at ho3; rw [← Ny156.out] at ho3)); have n0_ := Aside0.mk (Kd.R_lower ho3 (below_size (by repeat (first | (with_reducible first | exact HB.out | apply below_alloc | apply pw_below_drewN | apply below_drew1) | exact HB.out)))); have n1_ := Aside0.mk (below_step (by repeat (first | (with_reducible first | exact HB.out | apply below_alloc | apply pw_below_drewN | apply below_drew1) | exact HB.out)) hb); clear HB; have HO158 := n0_; have HB := n1_; clear n0_ n1_; clear hb ho3))
  go_loopg [3, 4] k (fun kq v3 v4 w' => ∃ (x3_1 : List Int) (x4_1 : Int), v4 = .int .i64 x4_1 ∧ Aside0 (spec_Turned.l0 kq l0 x3_1 x4_1 = some r) ∧ Aside0 (kq ≤ k) ∧ Aside0 (Kd.R (Kd.int .u8) 5 w' w.heap.size (fun _ => True) v3 x3_1) ∧ Aside0 (Below w.heap.size w w'))
  case atStart => exact ⟨(y156), (wrap64 ((l0.length : Int) - 1)), (by first | rfl | (simp; done) | (simp [*]; done)), H', ⟨Nat.le_refl _⟩, ⟨by (with_reducible repeat (first | apply Kd.R_alloc | apply Kd.R_drewN | apply Kd.R_drew)); exact HO158.out⟩, ⟨by repeat (first | (with_reducible first | exact HB.out | apply below_alloc | apply pw_below_drewN | apply below_drew1) | exact HB.out)⟩⟩
  case round =>
    clear H'
    try clear c1
    try clear p2
    obtain ⟨x3_1, x4_1, rfl, HA, HK1, HO_3, HB⟩ := hrel
    cases gk with
    | zero => exact absurd HA.out (by simp [spec_Turned.l0])
    | succ k1 =>
      have H := HA.out
      clear HA
      simp only [spec_Turned.l0] at H
      by_cases c4 : x4_1 ≥ 0
      · rw [if_pos c4] at H
        have c4b0 : decide (0 ≤ x4_1) = true := decide_eq_true c4
        clear c4
        by_cases c5 : 0 ≤ x4_1
        · rw [if_pos c5] at H
          have c5b0 : decide (0 ≤ x4_1) = true := decide_eq_true c5
          clear c5
          by_cases c6 : x4_1 < (l0.length : Int)
          · rw [if_pos c6] at H
            have c6b0 : decide (x4_1 < (l0.length : Int)) = true := decide_eq_true c6
            clear c6
            by_cases c7 : x3_1.length < 140737488355328
            · rw [if_pos c7] at H
              have LMc7 := Aside0.mk c7
              clear c7
              obtain ⟨y160, hy160⟩ : ∃ y_ : List Int, y_ = (x3_1 ++ [rd l0 x4_1]) := ⟨_, rfl⟩
              replace H : (spec_Turned.l0 k1 l0 y160 (wrap64 (x4_1 - 1))) = some r := by first | (rw [hy160]; with_reducible exact H) | (have H2_ := (Option.bind_some _ _).symm.trans H; rw [hy160]; with_reducible exact H2_) | (have H2_ := (Option.bind_some _ _).symm.trans H; with_reducible exact H2_) | with_reducible exact H | (rw [hy160]; exact H) | exact H
              have Ny160 := Aside0.mk hy160
              clear hy160
              have H' := Aside0.mk H
              clear H
              have p159 : 0 ≤ (x4_1 : Int) := of_decide_eq_true (by first | (with_reducible assumption) | assumption)
              have q159 : x4_1 < (l0.length : Int) := of_decide_eq_true (by first | (with_reducible assumption) | assumption)
              obtain ⟨ad159, e159, hx159_0⟩ := Kd.at_int HR0.out x4_1 p159 q159
              cases e159
              replace hx159_0 := (HB.out.cell (World.block_lt_of_cell? w _ hx159_0)).trans hx159_0
              replace p159 := eq_true p159
              replace q159 := eq_true q159
              go_wp2_with (first | ((with_reducible refine gate_builtin (b := .append) (xs := #[.tmp 13, .tmp 18]) rfl ?_); at_builtin; refine Kd.R_append (Kd.int .u8) (w0 := w) w.heap.size rfl (.tmp 13) (.tmp 18) 22 5 (.int .u8 0) 1 rfl Try.underlying22 info5 rfl (by decide) (by omega) u3 x3_1 (rd l0 x4_1) [.int .u8 (rd l0 x4_1)] (fun _ => True) (fun _ => False) rfl rfl ?aP (fun _ hk => hk.elim) ?aF ?aO ?aB ?aS ?aL ?_; (case aP => exact rfl); (case aB => exact (by repeat (first | (with_reducible first | exact HB.out | apply below_alloc | apply pw_below_drewN | apply below_drew1) | exact HB.out))); (case aF => exact (fun _ _ => trivial)); (case aO => exact (by (with_reducible repeat (first | apply Kd.R_alloc | apply Kd.R_drewN | apply Kd.R_drew)); exact HO_3.out)); (case aS => exact (below_size (by repeat (first | (with_reducible first | exact HB.out | apply below_alloc | apply pw_below_drewN | apply below_drew1) | exact HB.out)))); (case aL => have := LMc7.out; omega); intro v161 w8 ho hb hg hat; rw [← Ny160.out] at ho; have n0_ := Aside0.mk (hb); have n1_ := Aside0.mk (ho); clear HB; clear HO_3; have HB := n0_; have HO162 := n1_; clear n0_ n1_; clear ho hb hg hat))
              go_roundg k1
              case measure => have := HK1.out; omega
              case rel => exact ⟨(y160), (wrap64 (x4_1 - 1)), (by first | rfl | (simp; done) | (simp [*]; done)), H', ⟨by have := HK1.out; omega⟩, ⟨by (with_reducible repeat (first | apply Kd.R_alloc | apply Kd.R_drewN | apply Kd.R_drew)); exact HO162.out⟩, ⟨by repeat (first | (with_reducible first | exact HB.out | apply below_alloc | apply pw_below_drewN | apply below_drew1) | exact HB.out)⟩⟩
            · rw [if_neg c7] at H
              exact absurd H (by simp)
          · rw [if_neg c6] at H
            exact absurd H (by simp)
        · rw [if_neg c5] at H
          exact absurd H (by simp)
      · rw [if_neg c4] at H
        have c4b0 : decide (0 ≤ x4_1) = false := decide_eq_false c4
        clear c4
        obtain rfl := Option.some.inj H
        go_wp2
        go_ret
        exact ⟨_, by first | rfl | (simp [errW_none, errW_some] <;> rfl) | (simp [*, errW_none, errW_some] <;> rfl), by (with_reducible repeat (first | apply Kd.R_alloc | apply Kd.R_drewN | apply Kd.R_drew)); exact HO_3.out, by repeat (first | (with_reducible first | exact HB.out | apply below_alloc | apply pw_below_drewN | apply below_drew1) | exact HB.out)⟩

/-! ### spec_Store: function 18 -/
def spec_Store.f (k : Nat) (l0 : List Int) (l1 : List Int) (a2 : Bool) : Option (List Int) := (spec_Short.f k l1).bind fun t163 => ((spec_Turned.f k t163).bind fun t166 => (if (t166.length : Int) > (l0.length : Int) then ((some (([] : List Int) : List Int)).bind fun y169 => (if y169.length + l0.length < 140737488355328 then (some (y169 ++ l0)) else (none))) else (if a2 = true then (if (t166.length : Int) > 0 then ((some (([] : List Int) : List Int)).bind fun y175 => (if y175.length + l0.length < 140737488355328 then (some (y175 ++ l0)) else (none))) else (if 0 ≤ (wrap64 ((l0.length : Int) - (t166.length : Int))) then (if t166.length + (wrap64 ((l0.length : Int) - (t166.length : Int)) : Int).toNat < 140737488355328 then (some (t166 ++ List.replicate (wrap64 ((l0.length : Int) - (t166.length : Int)) : Int).toNat 0)) else (none)) else (none))) else (if 0 ≤ (wrap64 ((l0.length : Int) - (t166.length : Int))) then (if t166.length + (wrap64 ((l0.length : Int) - (t166.length : Int)) : Int).toNat < 140737488355328 then (some (t166 ++ List.replicate (wrap64 ((l0.length : Int) - (t166.length : Int)) : Int).toNat 0)) else (none)) else (none)))))
theorem spec_Store.mono : ∀ a0 a1 a2 k, LeO (spec_Store.f k a0 a1 a2) (spec_Store.f (k + 1) a0 a1 a2) := by
  intro a0 a1 a2 k
  unfold spec_Store.f
  repeat' first
      | (with_reducible exact spec_Short.mono _ _)
      | (with_reducible exact spec_Turned.mono _ _)
      | (with_reducible exact LeO.refl _)
      | (with_reducible exact LeO.none _)
      | (with_reducible refine LeO.ite ?_ ?_)
      | (with_reducible refine LeO.bind ?_ (fun _ => ?_))
      | exact spec_Short.mono _ _
      | exact spec_Turned.mono _ _
      | exact LeO.none _
      | refine LeO.ite ?_ ?_
      | refine LeO.bind ?_ (fun _ => ?_)
set_option maxHeartbeats 8000000 in
set_option maxRecDepth 100000 in
theorem spec_Store.calls (k : Nat) (A0 : Option Addr) (c0 : Nat) (l0 : List Int) (A1 : Option Addr) (c1 : Nat) (l1 : List Int) (a2 : Bool) (r : List Int) (w : World) (hr0 : Kd.C (Kd.int .u8) w A0 l0.length l0) (hc0 : l0.length ≤ c0) (hr1 : Kd.C (Kd.int .u8) w A1 l1.length l1) (hc1 : l1.length ≤ c1) (h : spec_Store.f k l0 l1 a2 = some r) :
    Calls Try.prog 18 #[.slice A0 l0.length c0, .slice A1 l1.length c1, .bool a2] w fun e w' => ∃ v0_ : Value, e = .returned (v0_) ∧ Kd.R (Kd.int .u8) 5 w' w.heap.size (fun _ => True) v0_ r ∧ Below w.heap.size w w' := by
  have HR0 := Aside0.mk hr0
  have HC0 := Aside0.mk hc0
  clear hr0 hc0
  have HR1 := Aside0.mk hr1
  have HC1 := Aside0.mk hc1
  clear hr1 hc1
  have HB := Aside0.mk (Below.refl w.heap.size w)
  have H : ((spec_Short.f k l1).bind fun t163 => ((spec_Turned.f k t163).bind fun t166 => (if (t166.length : Int) > (l0.length : Int) then ((some (([] : List Int) : List Int)).bind fun y169 => (if y169.length + l0.length < 140737488355328 then (some (y169 ++ l0)) else (none))) else (if a2 = true then (if (t166.length : Int) > 0 then ((some (([] : List Int) : List Int)).bind fun y175 => (if y175.length + l0.length < 140737488355328 then (some (y175 ++ l0)) else (none))) else (if 0 ≤ (wrap64 ((l0.length : Int) - (t166.length : Int))) then (if t166.length + (wrap64 ((l0.length : Int) - (t166.length : Int)) : Int).toNat < 140737488355328 then (some (t166 ++ List.replicate (wrap64 ((l0.length : Int) - (t166.length : Int)) : Int).toNat 0)) else (none)) else (none))) else (if 0 ≤ (wrap64 ((l0.length : Int) - (t166.length : Int))) then (if t166.length + (wrap64 ((l0.length : Int) - (t166.length : Int)) : Int).toNat < 140737488355328 then (some (t166 ++ List.replicate (wrap64 ((l0.length : Int) - (t166.length : Int)) : Int).toNat 0)) else (none)) else (none)))))) = some r := h
  clear h
  replace H := Option.bind_eq_some_iff.mp H
  obtain ⟨t163, A40, H⟩ := H
  replace H : ((spec_Turned.f k t163).bind fun t166 => (if (t166.length : Int) > (l0.length : Int) then ((some (([] : List Int) : List Int)).bind fun y169 => (if y169.length + l0.length < 140737488355328 then (some (y169 ++ l0)) else (none))) else (if a2 = true then (if (t166.length : Int) > 0 then ((some (([] : List Int) : List Int)).bind fun y175 => (if y175.length + l0.length < 140737488355328 then (some (y175 ++ l0)) else (none))) else (if 0 ≤ (wrap64 ((l0.length : Int) - (t166.length : Int))) then (if t166.length + (wrap64 ((l0.length : Int) - (t166.length : Int)) : Int).toNat < 140737488355328 then (some (t166 ++ List.replicate (wrap64 ((l0.length : Int) - (t166.length : Int)) : Int).toNat 0)) else (none)) else (none))) else (if 0 ≤ (wrap64 ((l0.length : Int) - (t166.length : Int))) then (if t166.length + (wrap64 ((l0.length : Int) - (t166.length : Int)) : Int).toNat < 140737488355328 then (some (t166 ++ List.replicate (wrap64 ((l0.length : Int) - (t166.length : Int)) : Int).toNat 0)) else (none)) else (none))))) = some r := H
  have A4 := Aside0.mk A40
  clear A40
  replace H := Option.bind_eq_some_iff.mp H
  obtain ⟨t166, A50, H⟩ := H
  replace H : (if (t166.length : Int) > (l0.length : Int) then ((some (([] : List Int) : List Int)).bind fun y169 => (if y169.length + l0.length < 140737488355328 then (some (y169 ++ l0)) else (none))) else (if a2 = true then (if (t166.length : Int) > 0 then ((some (([] : List Int) : List Int)).bind fun y175 => (if y175.length + l0.length < 140737488355328 then (some (y175 ++ l0)) else (none))) else (if 0 ≤ (wrap64 ((l0.length : Int) - (t166.length : Int))) then (if t166.length + (wrap64 ((l0.length : Int) - (t166.length : Int)) : Int).toNat < 140737488355328 then (some (t166 ++ List.replicate (wrap64 ((l0.length : Int) - (t166.length : Int)) : Int).toNat 0)) else (none)) else (none))) else (if 0 ≤ (wrap64 ((l0.length : Int) - (t166.length : Int))) then (if t166.length + (wrap64 ((l0.length : Int) - (t166.length : Int)) : Int).toNat < 140737488355328 then (some (t166 ++ List.replicate (wrap64 ((l0.length : Int) - (t166.length : Int)) : Int).toNat 0)) else (none)) else (none)))) = some r := H
  have A5 := Aside0.mk A50
  clear A50
  by_cases c6 : (t166.length : Int) > (l0.length : Int)
  · rw [if_pos c6] at H
    have c6b0 : decide ((l0.length : Int) < (t166.length : Int)) = true := decide_eq_true c6
    have c6b1 : decide (l0.length < t166.length) = true := decide_eq_true (Int.ofNat_lt.mp c6)
    clear c6
    obtain ⟨y169, hy169⟩ : ∃ y_ : List Int, y_ = (([] : List Int)) := ⟨_, rfl⟩
    replace H : (if y169.length + l0.length < 140737488355328 then (some (y169 ++ l0)) else (none)) = some r := by first | (rw [hy169]; with_reducible exact H) | (have H2_ := (Option.bind_some _ _).symm.trans H; rw [hy169]; with_reducible exact H2_) | (have H2_ := (Option.bind_some _ _).symm.trans H; with_reducible exact H2_) | with_reducible exact H | (rw [hy169]; exact H) | exact H
    have Ny169 := Aside0.mk hy169
    clear hy169
    by_cases c7 : y169.length + l0.length < 140737488355328
    · rw [if_pos c7] at H
      have LMc7 := Aside0.mk c7
      clear c7
      obtain ⟨y172, hy172⟩ : ∃ y_ : List Int, y_ = (y169 ++ l0) := ⟨_, rfl⟩
      replace H : (some y172) = some r := by first | (rw [hy172]; with_reducible exact H) | (have H2_ := (Option.bind_some _ _).symm.trans H; rw [hy172]; with_reducible exact H2_) | (have H2_ := (Option.bind_some _ _).symm.trans H; with_reducible exact H2_) | with_reducible exact H | (rw [hy172]; exact H) | exact H
      have Ny172 := Aside0.mk hy172
      clear hy172
      obtain rfl := Option.some.inj H
      go_enter Try.func18, Try.ntmps18
      go_wp2_with (first | ((with_reducible refine gate_callee (f := 15) rfl ?_); refine goesL_ (some 9) rfl rfl Try.func15 (by kernel_rfl) rfl #[.slice A1 l1.length c1] rfl (by (try simp only [List.map_toArray, List.map_cons, List.map_nil]); first | done | rfl | (simp only [List.length_drop, List.length_take]; rfl)) ?_; (with_reducible refine (spec_Short.calls k (fun k_ => k_ < w.heap.size) _ _ l1 t163 _ ?side1 A4.out).mono ?_); (case side1 => exact Kd.V_mk HC1.out (Kd.F_below (Kd.C_F (Kd.heap_int .u8) HR1.out) (by repeat (first | (with_reducible first | exact HB.out | apply below_alloc | apply pw_below_drewN | apply below_drew1) | exact HB.out)))); rintro e w8 ⟨v164, rfl, ho0, hb⟩; refine ⟨_, rfl, ?_⟩; have n0_ := Aside0.mk (Kd.R_lower (Kd.R_mono (ok' := fun k_ => True) ho0 (fun _ hk_ => trivial)) (below_size (by repeat (first | (with_reducible first | exact HB.out | apply below_alloc | apply pw_below_drewN | apply below_drew1) | exact HB.out)))); have n1_ := Aside0.mk (below_step (by repeat (first | (with_reducible first | exact HB.out | apply below_alloc | apply pw_below_drewN | apply below_drew1) | exact HB.out)) hb); clear HB; have HO165 := n0_; have HB := n1_; clear n0_ n1_; (try clear hb); (try clear hb2); (try clear hk); (try clear hi); (try clear ho0); obtain ⟨Ao9, co9, eo9⟩ := Kd.R_slice HO165.out; subst eo9) | ((with_reducible refine gate_callee (f := 16) rfl ?_); refine goesL_ (some 10) rfl rfl Try.func16 (by kernel_rfl) rfl #[.slice Ao9 t163.length co9] rfl (by (try simp only [List.map_toArray, List.map_cons, List.map_nil]); first | done | rfl | (simp only [List.length_drop, List.length_take]; rfl)) ?_; (with_reducible refine (spec_Turned.calls k _ _ t163 t166 _ ?side1 ?side2 A5.out).mono ?_); (case side1 => repeat (first | exact (Kd.R_reads' HO165.out).2.2 | (with_reducible refine Kd.C_alloc ?_ _) | (with_reducible refine Kd.C_drewN ?_ _) | (with_reducible refine Kd.C_drew ?_))); (case side2 => exact (Kd.R_reads' HO165.out).2.1); rintro e w10 ⟨v167, rfl, ho0, hb⟩; refine ⟨_, rfl, ?_⟩; have n0_ := Aside0.mk (Kd.R_elder' (by (with_reducible repeat (first | apply Kd.R_alloc | apply Kd.R_drewN | apply Kd.R_drew)); exact HO165.out) (Kd.R_base ho0) hb); have n1_ := Aside0.mk (Kd.R_lower (Kd.R_new' ho0 (Kd.R_lt (by (with_reducible repeat (first | apply Kd.R_alloc | apply Kd.R_drewN | apply Kd.R_drew)); exact HO165.out))) (below_size (by repeat (first | (with_reducible first | exact HB.out | apply below_alloc | apply pw_below_drewN | apply below_drew1) | exact HB.out)))); have n2_ := Aside0.mk (below_step (by repeat (first | (with_reducible first | exact HB.out | apply below_alloc | apply pw_below_drewN | apply below_drew1) | exact HB.out)) hb); clear HO165; clear HB; have HO165 := n0_; have HO168 := n1_; have HB := n2_; clear n0_ n1_ n2_; (try clear hb); (try clear hb2); (try clear hk); (try clear hi); (try clear ho0); obtain ⟨Ao11, co11, eo11⟩ := Kd.R_slice HO168.out; subst eo11) | ((with_reducible refine gate_dst (N := 24) rfl ?_); (try (refine gate_guard (by rfl) ?_; dsimp only)); refine Kd.R_lit (Kd.int .u8) _ 5 ?hg (N := 24) ?hd (xs := ([] : List Int)) (inner := []) (ok := fun _ => True) (okp := fun _ => True) ?hr ?hp (fun _ hk => hk) trivial (Below.refl _ _) (Nat.le_refl _) (by simp) ?_; (case hd => rfl); (case hg => rfl); (case hr => first | (go_simp; done) | (go_simp; rfl)); (case hp => exact (Reps.none _ _)); intro v170 w12 ho13 hb hg_ hnew_; clear hg_ hnew_; (first | rw [← Ny169.out] at ho13 | (simp only [Int.reduceToNat] at ho13; rw [← Ny169.out] at ho13)); have n0_ := Aside0.mk (Kd.R_elder' (by (with_reducible repeat (first | apply Kd.R_alloc | apply Kd.R_drewN | apply Kd.R_drew)); exact HO165.out) (Kd.R_base ho13) hb); have n1_ := Aside0.mk (Kd.R_elder' (by (with_reducible repeat (first | apply Kd.R_alloc | apply Kd.R_drewN | apply Kd.R_drew)); exact HO168.out) (Kd.R_base ho13) hb); have n2_ := Aside0.mk (Kd.R_lower (Kd.R_new' (Kd.R_new' ho13 (Kd.R_lt (by (with_reducible repeat (first | apply Kd.R_alloc | apply Kd.R_drewN | apply Kd.R_drew)); exact HO165.out))) (Kd.R_lt (by (with_reducible repeat (first | apply Kd.R_alloc | apply Kd.R_drewN | apply Kd.R_drew)); exact HO168.out))) (below_size (by repeat (first | (with_reducible first | exact HB.out | apply below_alloc | apply pw_below_drewN | apply below_drew1) | exact HB.out)))); have n3_ := Aside0.mk (below_step (by repeat (first | (with_reducible first | exact HB.out | apply below_alloc | apply pw_below_drewN | apply below_drew1) | exact HB.out)) hb); clear HO165; clear HO168; clear HB; have HO165 := n0_; have HO168 := n1_; have HO171 := n2_; have HB := n3_; clear n0_ n1_ n2_ n3_; clear hb ho13) | ((with_reducible refine gate_builtin (b := .append) (xs := #[.tmp 24, .tmp 25]) rfl ?_); (try (refine gate_guard (by rfl) ?_; dsimp only)); at_builtin; refine Kd.R_append_rows (Kd.int .u8) (w0 := w) w.heap.size rfl (.tmp 24) (.tmp 25) 22 5 (.int .u8 0) 1 rfl Try.underlying22 info5 rfl (by decide) (by omega) v170 y169 l0 _ _ _ (fun k_ => some k_ ≠ (.slice Ao9 t163.length co9 : Value).ownBlock ∧ some k_ ≠ (.slice Ao11 t166.length co11 : Value).ownBlock) (fun _ => False) rfl rfl ?aO ?aR (fun _ _ h => h) (fun _ h => h.elim) ?aF ?aB ?aS ?aL ?_; (case aR => repeat (first | exact (Kd.C_below HR0.out HB.out) | (with_reducible refine Kd.C_alloc ?_ _) | (with_reducible refine Kd.C_drewN ?_ _) | (with_reducible refine Kd.C_drew ?_))); (case aB => exact (by repeat (first | (with_reducible first | exact HB.out | apply below_alloc | apply pw_below_drewN | apply below_drew1) | exact HB.out))); (case aF => exact (fun k_ hk => ⟨Kd.fresh' (Kd.R_lt (by (with_reducible repeat (first | apply Kd.R_alloc | apply Kd.R_drewN | apply Kd.R_drew)); exact HO165.out)) k_ hk, Kd.fresh' (Kd.R_lt (by (with_reducible repeat (first | apply Kd.R_alloc | apply Kd.R_drewN | apply Kd.R_drew)); exact HO168.out)) k_ hk⟩)); (case aO => exact (by (with_reducible repeat (first | apply Kd.R_alloc | apply Kd.R_drewN | apply Kd.R_drew)); exact Kd.R_mono HO171.out (fun _ hk => ⟨hk.1.2, hk.2⟩))); (case aS => exact (below_size (by repeat (first | (with_reducible first | exact HB.out | apply below_alloc | apply pw_below_drewN | apply below_drew1) | exact HB.out)))); (case aL => have := LMc7.out; omega); intro v173 w14 ho hb hg hat; rw [← Ny172.out] at ho; have n0_ := Aside0.mk (Kd.R_after (ok := (fun k_ => some k_ ≠ (.slice Ao11 t166.length co11 : Value).ownBlock)) (by (with_reducible repeat (first | apply Kd.R_alloc | apply Kd.R_drewN | apply Kd.R_drew)); exact Kd.R_mono HO165.out (fun _ hk => ⟨hk.1.2, hk.2⟩)) hg hat); have n1_ := Aside0.mk (Kd.R_after (ok := (fun k_ => some k_ ≠ (.slice Ao9 t163.length co9 : Value).ownBlock)) (by (with_reducible repeat (first | apply Kd.R_alloc | apply Kd.R_drewN | apply Kd.R_drew)); exact Kd.R_mono HO168.out (fun _ hk => ⟨hk.1.2, hk.2⟩)) hg hat); have n2_ := Aside0.mk (hb); have n3_ := Aside0.mk (ho); clear HO165; clear HO168; clear HB; clear HO171; have HO165 := n0_; have HO168 := n1_; have HB := n2_; have HO174 := n3_; clear n0_ n1_ n2_ n3_; clear ho hb hg hat))
      go_ret
      exact ⟨_, by first | rfl | (simp [errW_none, errW_some] <;> rfl) | (simp [*, errW_none, errW_some] <;> rfl), by (with_reducible repeat (first | apply Kd.R_alloc | apply Kd.R_drewN | apply Kd.R_drew)); exact Kd.R_mono HO174.out (fun _ hk => trivial), by repeat (first | (with_reducible first | exact HB.out | apply below_alloc | apply pw_below_drewN | apply below_drew1) | exact HB.out)⟩
    · rw [if_neg c7] at H
      exact absurd H (by simp)
  · rw [if_neg c6] at H
    have c6b0 : decide ((l0.length : Int) < (t166.length : Int)) = false := decide_eq_false c6
    have c6b1 : decide (l0.length < t166.length) = false := decide_eq_false (fun h => c6 (Int.ofNat_lt.mpr h))
    clear c6
    by_cases c15 : a2 = true
    · subst c15
      have H1 : (if (t166.length : Int) > 0 then ((some (([] : List Int) : List Int)).bind fun y175 => (if y175.length + l0.length < 140737488355328 then (some (y175 ++ l0)) else (none))) else (if 0 ≤ (wrap64 ((l0.length : Int) - (t166.length : Int))) then (if t166.length + (wrap64 ((l0.length : Int) - (t166.length : Int)) : Int).toNat < 140737488355328 then (some (t166 ++ List.replicate (wrap64 ((l0.length : Int) - (t166.length : Int)) : Int).toNat 0)) else (none)) else (none))) = some r := by rw [if_pos rfl] at H; exact H
      clear H
      have H := H1
      clear H1
      by_cases c16 : (t166.length : Int) > 0
      · rw [if_pos c16] at H
        have c16b0 : decide (0 < (t166.length : Int)) = true := decide_eq_true c16
        have c16b1 : decide (0 < t166.length) = true := decide_eq_true (by omega)
        clear c16
        obtain ⟨y175, hy175⟩ : ∃ y_ : List Int, y_ = (([] : List Int)) := ⟨_, rfl⟩
        replace H : (if y175.length + l0.length < 140737488355328 then (some (y175 ++ l0)) else (none)) = some r := by first | (rw [hy175]; with_reducible exact H) | (have H2_ := (Option.bind_some _ _).symm.trans H; rw [hy175]; with_reducible exact H2_) | (have H2_ := (Option.bind_some _ _).symm.trans H; with_reducible exact H2_) | with_reducible exact H | (rw [hy175]; exact H) | exact H
        have Ny175 := Aside0.mk hy175
        clear hy175
        by_cases c17 : y175.length + l0.length < 140737488355328
        · rw [if_pos c17] at H
          have LMc17 := Aside0.mk c17
          clear c17
          obtain ⟨y178, hy178⟩ : ∃ y_ : List Int, y_ = (y175 ++ l0) := ⟨_, rfl⟩
          replace H : (some y178) = some r := by first | (rw [hy178]; with_reducible exact H) | (have H2_ := (Option.bind_some _ _).symm.trans H; rw [hy178]; with_reducible exact H2_) | (have H2_ := (Option.bind_some _ _).symm.trans H; with_reducible exact H2_) | with_reducible exact H | (rw [hy178]; exact H) | exact H
          have Ny178 := Aside0.mk hy178
          clear hy178
          obtain rfl := Option.some.inj H
          go_enter Try.func18, Try.ntmps18
          go_wp2_with (first | ((with_reducible refine gate_callee (f := 15) rfl ?_); refine goesL_ (some 9) rfl rfl Try.func15 (by kernel_rfl) rfl #[.slice A1 l1.length c1] rfl (by (try simp only [List.map_toArray, List.map_cons, List.map_nil]); first | done | rfl | (simp only [List.length_drop, List.length_take]; rfl)) ?_; (with_reducible refine (spec_Short.calls k (fun k_ => k_ < w.heap.size) _ _ l1 t163 _ ?side1 A4.out).mono ?_); (case side1 => exact Kd.V_mk HC1.out (Kd.F_below (Kd.C_F (Kd.heap_int .u8) HR1.out) (by repeat (first | (with_reducible first | exact HB.out | apply below_alloc | apply pw_below_drewN | apply below_drew1) | exact HB.out)))); rintro e w18 ⟨v164, rfl, ho0, hb⟩; refine ⟨_, rfl, ?_⟩; have n0_ := Aside0.mk (Kd.R_lower (Kd.R_mono (ok' := fun k_ => True) ho0 (fun _ hk_ => trivial)) (below_size (by repeat (first | (with_reducible first | exact HB.out | apply below_alloc | apply pw_below_drewN | apply below_drew1) | exact HB.out)))); have n1_ := Aside0.mk (below_step (by repeat (first | (with_reducible first | exact HB.out | apply below_alloc | apply pw_below_drewN | apply below_drew1) | exact HB.out)) hb); clear HB; have HO165 := n0_; have HB := n1_; clear n0_ n1_; (try clear hb); (try clear hb2); (try clear hk); (try clear hi); (try clear ho0); obtain ⟨Ao19, co19, eo19⟩ := Kd.R_slice HO165.out; subst eo19) | ((with_reducible refine gate_callee (f := 16) rfl ?_); refine goesL_ (some 10) rfl rfl Try.func16 (by kernel_rfl) rfl #[.slice Ao19 t163.length co19] rfl (by (try simp only [List.map_toArray, List.map_cons, List.map_nil]); first | done | rfl | (simp only [List.length_drop, List.length_take]; rfl)) ?_; (with_reducible refine (spec_Turned.calls k _ _ t163 t166 _ ?side1 ?side2 A5.out).mono ?_); (case side1 => repeat (first | exact (Kd.R_reads' HO165.out).2.2 | (with_reducible refine Kd.C_alloc ?_ _) | (with_reducible refine Kd.C_drewN ?_ _) | (with_reducible refine Kd.C_drew ?_))); (case side2 => exact (Kd.R_reads' HO165.out).2.1); rintro e w20 ⟨v167, rfl, ho0, hb⟩; refine ⟨_, rfl, ?_⟩; have n0_ := Aside0.mk (Kd.R_elder' (by (with_reducible repeat (first | apply Kd.R_alloc | apply Kd.R_drewN | apply Kd.R_drew)); exact HO165.out) (Kd.R_base ho0) hb); have n1_ := Aside0.mk (Kd.R_lower (Kd.R_new' ho0 (Kd.R_lt (by (with_reducible repeat (first | apply Kd.R_alloc | apply Kd.R_drewN | apply Kd.R_drew)); exact HO165.out))) (below_size (by repeat (first | (with_reducible first | exact HB.out | apply below_alloc | apply pw_below_drewN | apply below_drew1) | exact HB.out)))); have n2_ := Aside0.mk (below_step (by repeat (first | (with_reducible first | exact HB.out | apply below_alloc | apply pw_below_drewN | apply below_drew1) | exact HB.out)) hb); clear HO165; clear HB; have HO165 := n0_; have HO168 := n1_; have HB := n2_; clear n0_ n1_ n2_; (try clear hb); (try clear hb2); (try clear hk); (try clear hi); (try clear ho0); obtain ⟨Ao21, co21, eo21⟩ := Kd.R_slice HO168.out; subst eo21) | ((with_reducible refine gate_dst (N := 24) rfl ?_); (try (refine gate_guard (by rfl) ?_; dsimp only)); refine Kd.R_lit (Kd.int .u8) _ 5 ?hg (N := 24) ?hd (xs := ([] : List Int)) (inner := []) (ok := fun _ => True) (okp := fun _ => True) ?hr ?hp (fun _ hk => hk) trivial (Below.refl _ _) (Nat.le_refl _) (by simp) ?_; (case hd => rfl); (case hg => rfl); (case hr => first | (go_simp; done) | (go_simp; rfl)); (case hp => exact (Reps.none _ _)); intro v176 w22 ho23 hb hg_ hnew_; clear hg_ hnew_; (first | rw [← Ny175.out] at ho23 | (simp only [Int.reduceToNat] at ho23; rw [← Ny175.out] at ho23)); have n0_ := Aside0.mk (Kd.R_elder' (by (with_reducible repeat (first | apply Kd.R_alloc | apply Kd.R_drewN | apply Kd.R_drew)); exact HO165.out) (Kd.R_base ho23) hb); have n1_ := Aside0.mk (Kd.R_elder' (by (with_reducible repeat (first | apply Kd.R_alloc | apply Kd.R_drewN | apply Kd.R_drew)); exact HO168.out) (Kd.R_base ho23) hb); have n2_ := Aside0.mk (Kd.R_lower (Kd.R_new' (Kd.R_new' ho23 (Kd.R_lt (by (with_reducible repeat (first | apply Kd.R_alloc | apply Kd.R_drewN | apply Kd.R_drew)); exact HO165.out))) (Kd.R_lt (by (with_reducible repeat (first | apply Kd.R_alloc | apply Kd.R_drewN | apply Kd.R_drew)); exact HO168.out))) (below_size (by repeat (first | (with_reducible first | exact HB.out | apply below_alloc | apply pw_below_drewN | apply below_drew1) | exact HB.out)))); have n3_ := Aside0.mk (below_step (by repeat (first | (with_reducible first | exact HB.out | apply below_alloc | apply pw_below_drewN | apply below_drew1) | exact HB.out)) hb); clear HO165; clear HO168; clear HB; have HO165 := n0_; have HO168 := n1_; have HO177 := n2_; have HB := n3_; clear n0_ n1_ n2_ n3_; clear hb ho23) | ((with_reducible refine gate_builtin (b := .append) (xs := #[.tmp 24, .tmp 25]) rfl ?_); (try (refine gate_guard (by rfl) ?_; dsimp only)); at_builtin; refine Kd.R_append_rows (Kd.int .u8) (w0 := w) w.heap.size rfl (.tmp 24) (.tmp 25) 22 5 (.int .u8 0) 1 rfl Try.underlying22 info5 rfl (by decide) (by omega) v176 y175 l0 _ _ _ (fun k_ => some k_ ≠ (.slice Ao19 t163.length co19 : Value).ownBlock ∧ some k_ ≠ (.slice Ao21 t166.length co21 : Value).ownBlock) (fun _ => False) rfl rfl ?aO ?aR (fun _ _ h => h) (fun _ h => h.elim) ?aF ?aB ?aS ?aL ?_; (case aR => repeat (first | exact (Kd.C_below HR0.out HB.out) | (with_reducible refine Kd.C_alloc ?_ _) | (with_reducible refine Kd.C_drewN ?_ _) | (with_reducible refine Kd.C_drew ?_))); (case aB => exact (by repeat (first | (with_reducible first | exact HB.out | apply below_alloc | apply pw_below_drewN | apply below_drew1) | exact HB.out))); (case aF => exact (fun k_ hk => ⟨Kd.fresh' (Kd.R_lt (by (with_reducible repeat (first | apply Kd.R_alloc | apply Kd.R_drewN | apply Kd.R_drew)); exact HO165.out)) k_ hk, Kd.fresh' (Kd.R_lt (by (with_reducible repeat (first | apply Kd.R_alloc | apply Kd.R_drewN | apply Kd.R_drew)); exact HO168.out)) k_ hk⟩)); (case aO => exact (by (with_reducible repeat (first | apply Kd.R_alloc | apply Kd.R_drewN | apply Kd.R_drew)); exact Kd.R_mono HO177.out (fun _ hk => ⟨hk.1.2, hk.2⟩))); (case aS => exact (below_size (by repeat (first | (with_reducible first | exact HB.out | apply below_alloc | apply pw_below_drewN | apply below_drew1) | exact HB.out)))); (case aL => have := LMc17.out; omega); intro v179 w24 ho hb hg hat; rw [← Ny178.out] at ho; have n0_ := Aside0.mk (Kd.R_after (ok := (fun k_ => some k_ ≠ (.slice Ao21 t166.length co21 : Value).ownBlock)) (by (with_reducible repeat (first | apply Kd.R_alloc | apply Kd.R_drewN | apply Kd.R_drew)); exact Kd.R_mono HO165.out (fun _ hk => ⟨hk.1.2, hk.2⟩)) hg hat); have n1_ := Aside0.mk (Kd.R_after (ok := (fun k_ => some k_ ≠ (.slice Ao19 t163.length co19 : Value).ownBlock)) (by (with_reducible repeat (first | apply Kd.R_alloc | apply Kd.R_drewN | apply Kd.R_drew)); exact Kd.R_mono HO168.out (fun _ hk => ⟨hk.1.2, hk.2⟩)) hg hat); have n2_ := Aside0.mk (hb); have n3_ := Aside0.mk (ho); clear HO165; clear HO168; clear HB; clear HO177; have HO165 := n0_; have HO168 := n1_; have HB := n2_; have HO180 := n3_; clear n0_ n1_ n2_ n3_; clear ho hb hg hat))
          go_ret
          exact ⟨_, by first | rfl | (simp [errW_none, errW_some] <;> rfl) | (simp [*, errW_none, errW_some] <;> rfl), by (with_reducible repeat (first | apply Kd.R_alloc | apply Kd.R_drewN | apply Kd.R_drew)); exact Kd.R_mono HO180.out (fun _ hk => trivial), by repeat (first | (with_reducible first | exact HB.out | apply below_alloc | apply pw_below_drewN | apply below_drew1) | exact HB.out)⟩
        · rw [if_neg c17] at H
          exact absurd H (by simp)
      · rw [if_neg c16] at H
        have c16b0 : decide (0 < (t166.length : Int)) = false := decide_eq_false c16
        have c16b1 : decide (0 < t166.length) = false := decide_eq_false (by omega)
        clear c16
        obtain ⟨ji25, hji25⟩ : ∃ j_ : Int, (wrap64 ((l0.length : Int) - (t166.length : Int))) = j_ := ⟨_, rfl⟩
        replace H : (if 0 ≤ (ji25) then (if t166.length + (ji25 : Int).toNat < 140737488355328 then (some (t166 ++ List.replicate (ji25 : Int).toNat 0)) else (none)) else (none)) = some r := by first | (rw [hji25] at H; exact H) | (simp only [hji25] at H ⊢; exact H)
        (try rw [hji25] at A4)
        (try rw [hji25] at A5)
        have hji25w : (IntKind.i64.wrap ((l0.length : Int) - (t166.length : Int))) = ji25 := (i64_w _).trans hji25
        by_cases c26 : 0 ≤ (ji25)
        · rw [if_pos c26] at H
          have c26b0 := eq_true c26
          have c26b1 : decide (0 ≤ (ji25)) = true := decide_eq_true c26
          clear c26
          by_cases c27 : t166.length + (ji25 : Int).toNat < 140737488355328
          · rw [if_pos c27] at H
            have LMc27 := Aside0.mk c27
            clear c27
            obtain ⟨y181, hy181⟩ : ∃ y_ : List Int, y_ = (t166 ++ List.replicate (ji25 : Int).toNat 0) := ⟨_, rfl⟩
            replace H : (some y181) = some r := by first | (rw [hy181]; with_reducible exact H) | (have H2_ := (Option.bind_some _ _).symm.trans H; rw [hy181]; with_reducible exact H2_) | (have H2_ := (Option.bind_some _ _).symm.trans H; with_reducible exact H2_) | with_reducible exact H | (rw [hy181]; exact H) | exact H
            have Ny181 := Aside0.mk hy181
            clear hy181
            obtain rfl := Option.some.inj H
            go_enter Try.func18, Try.ntmps18
            go_wp2_with (first | ((with_reducible refine gate_callee (f := 15) rfl ?_); refine goesL_ (some 9) rfl rfl Try.func15 (by kernel_rfl) rfl #[.slice A1 l1.length c1] rfl (by (try simp only [List.map_toArray, List.map_cons, List.map_nil]); first | done | rfl | (simp only [List.length_drop, List.length_take]; rfl)) ?_; (with_reducible refine (spec_Short.calls k (fun k_ => k_ < w.heap.size) _ _ l1 t163 _ ?side1 A4.out).mono ?_); (case side1 => exact Kd.V_mk HC1.out (Kd.F_below (Kd.C_F (Kd.heap_int .u8) HR1.out) (by repeat (first | (with_reducible first | exact HB.out | apply below_alloc | apply pw_below_drewN | apply below_drew1) | exact HB.out)))); rintro e w28 ⟨v164, rfl, ho0, hb⟩; refine ⟨_, rfl, ?_⟩; have n0_ := Aside0.mk (Kd.R_lower (Kd.R_mono (ok' := fun k_ => True) ho0 (fun _ hk_ => trivial)) (below_size (by repeat (first | (with_reducible first | exact HB.out | apply below_alloc | apply pw_below_drewN | apply below_drew1) | exact HB.out)))); have n1_ := Aside0.mk (below_step (by repeat (first | (with_reducible first | exact HB.out | apply below_alloc | apply pw_below_drewN | apply below_drew1) | exact HB.out)) hb); clear HB; have HO165 := n0_; have HB := n1_; clear n0_ n1_; (try clear hb); (try clear hb2); (try clear hk); (try clear hi); (try clear ho0); obtain ⟨Ao29, co29, eo29⟩ := Kd.R_slice HO165.out; subst eo29) | ((with_reducible refine gate_callee (f := 16) rfl ?_); refine goesL_ (some 10) rfl rfl Try.func16 (by kernel_rfl) rfl #[.slice Ao29 t163.length co29] rfl (by (try simp only [List.map_toArray, List.map_cons, List.map_nil]); first | done | rfl | (simp only [List.length_drop, List.length_take]; rfl)) ?_; (with_reducible refine (spec_Turned.calls k _ _ t163 t166 _ ?side1 ?side2 A5.out).mono ?_); (case side1 => repeat (first | exact (Kd.R_reads' HO165.out).2.2 | (with_reducible refine Kd.C_alloc ?_ _) | (with_reducible refine Kd.C_drewN ?_ _) | (with_reducible refine Kd.C_drew ?_))); (case side2 => exact (Kd.R_reads' HO165.out).2.1); rintro e w30 ⟨v167, rfl, ho0, hb⟩; refine ⟨_, rfl, ?_⟩; have n0_ := Aside0.mk (Kd.R_elder' (by (with_reducible repeat (first | apply Kd.R_alloc | apply Kd.R_drewN | apply Kd.R_drew)); exact HO165.out) (Kd.R_base ho0) hb); have n1_ := Aside0.mk (Kd.R_lower (Kd.R_new' ho0 (Kd.R_lt (by (with_reducible repeat (first | apply Kd.R_alloc | apply Kd.R_drewN | apply Kd.R_drew)); exact HO165.out))) (below_size (by repeat (first | (with_reducible first | exact HB.out | apply below_alloc | apply pw_below_drewN | apply below_drew1) | exact HB.out)))); have n2_ := Aside0.mk (below_step (by repeat (first | (with_reducible first | exact HB.out | apply below_alloc | apply pw_below_drewN | apply below_drew1) | exact HB.out)) hb); clear HO165; clear HB; have HO165 := n0_; have HO168 := n1_; have HB := n2_; clear n0_ n1_ n2_; (try clear hb); (try clear hb2); (try clear hk); (try clear hi); (try clear ho0); obtain ⟨Ao31, co31, eo31⟩ := Kd.R_slice HO168.out; subst eo31) | (at_builtin; refine Kd.R_append_zeros (Kd.int .u8) (w0 := w) w.heap.size rfl (.tmp 27) (.tmp 32) 22 3 5 (.int .u8 0) 1 rfl Try.underlying22 Try.underlying3 info5 rfl (by decide) (by omega) (.slice Ao31 t166.length co31) t166 0 (ji25 : Int) (fun k_ => some k_ ≠ (.slice Ao29 t163.length co29 : Value).ownBlock) rfl rfl rfl ?aF ?aO (of_decide_eq_true (by first | (with_reducible assumption) | assumption)) ?aB ?aS ?aL ?_; (case aB => exact (by repeat (first | (with_reducible first | exact HB.out | apply below_alloc | apply pw_below_drewN | apply below_drew1) | exact HB.out))); (case aF => exact (fun k_ hk => Kd.fresh' (Kd.R_lt (by (with_reducible repeat (first | apply Kd.R_alloc | apply Kd.R_drewN | apply Kd.R_drew)); exact HO165.out)) k_ hk)); (case aO => exact (by (with_reducible repeat (first | apply Kd.R_alloc | apply Kd.R_drewN | apply Kd.R_drew)); exact Kd.R_mono HO168.out (fun _ hk => hk.2))); (case aS => exact (below_size (by repeat (first | (with_reducible first | exact HB.out | apply below_alloc | apply pw_below_drewN | apply below_drew1) | exact HB.out)))); (case aL => have := LMc27.out; omega); intro v182 w32 ho hb hg hat; rw [← Ny181.out] at ho; have n0_ := Aside0.mk (Kd.R_after (ok := (fun _ => True)) (by (with_reducible repeat (first | apply Kd.R_alloc | apply Kd.R_drewN | apply Kd.R_drew)); exact HO165.out) hg hat); have n1_ := Aside0.mk (hb); have n2_ := Aside0.mk (ho); clear HO165; clear HB; clear HO168; have HO165 := n0_; have HB := n1_; have HO183 := n2_; clear n0_ n1_ n2_; clear ho hb hg hat))
            go_ret
            exact ⟨_, by first | rfl | (simp [errW_none, errW_some] <;> rfl) | (simp only [← hji25]; first | rfl | (simp [errW_none, errW_some] <;> rfl)) | (simp [*, errW_none, errW_some] <;> rfl), by (with_reducible repeat (first | apply Kd.R_alloc | apply Kd.R_drewN | apply Kd.R_drew)); exact Kd.R_mono HO183.out (fun _ hk => trivial), by repeat (first | (with_reducible first | exact HB.out | apply below_alloc | apply pw_below_drewN | apply below_drew1) | exact HB.out)⟩
          · rw [if_neg c27] at H
            exact absurd H (by simp)
        · rw [if_neg c26] at H
          exact absurd H (by simp)
    · replace c15 := Bool.eq_false_iff.mpr c15
      subst c15
      have H1 : (if 0 ≤ (wrap64 ((l0.length : Int) - (t166.length : Int))) then (if t166.length + (wrap64 ((l0.length : Int) - (t166.length : Int)) : Int).toNat < 140737488355328 then (some (t166 ++ List.replicate (wrap64 ((l0.length : Int) - (t166.length : Int)) : Int).toNat 0)) else (none)) else (none)) = some r := by rw [if_neg (show ¬ (false = true) by decide)] at H; exact H
      clear H
      have H := H1
      clear H1
      obtain ⟨ji33, hji33⟩ : ∃ j_ : Int, (wrap64 ((l0.length : Int) - (t166.length : Int))) = j_ := ⟨_, rfl⟩
      replace H : (if 0 ≤ (ji33) then (if t166.length + (ji33 : Int).toNat < 140737488355328 then (some (t166 ++ List.replicate (ji33 : Int).toNat 0)) else (none)) else (none)) = some r := by first | (rw [hji33] at H; exact H) | (simp only [hji33] at H ⊢; exact H)
      (try rw [hji33] at A4)
      (try rw [hji33] at A5)
      have hji33w : (IntKind.i64.wrap ((l0.length : Int) - (t166.length : Int))) = ji33 := (i64_w _).trans hji33
      by_cases c34 : 0 ≤ (ji33)
      · rw [if_pos c34] at H
        have c34b0 := eq_true c34
        have c34b1 : decide (0 ≤ (ji33)) = true := decide_eq_true c34
        clear c34
        by_cases c35 : t166.length + (ji33 : Int).toNat < 140737488355328
        · rw [if_pos c35] at H
          have LMc35 := Aside0.mk c35
          clear c35
          obtain ⟨y184, hy184⟩ : ∃ y_ : List Int, y_ = (t166 ++ List.replicate (ji33 : Int).toNat 0) := ⟨_, rfl⟩
          replace H : (some y184) = some r := by first | (rw [hy184]; with_reducible exact H) | (have H2_ := (Option.bind_some _ _).symm.trans H; rw [hy184]; with_reducible exact H2_) | (have H2_ := (Option.bind_some _ _).symm.trans H; with_reducible exact H2_) | with_reducible exact H | (rw [hy184]; exact H) | exact H
          have Ny184 := Aside0.mk hy184
          clear hy184
          obtain rfl := Option.some.inj H
          go_enter Try.func18, Try.ntmps18
          go_wp2_with (first | ((with_reducible refine gate_callee (f := 15) rfl ?_); refine goesL_ (some 9) rfl rfl Try.func15 (by kernel_rfl) rfl #[.slice A1 l1.length c1] rfl (by (try simp only [List.map_toArray, List.map_cons, List.map_nil]); first | done | rfl | (simp only [List.length_drop, List.length_take]; rfl)) ?_; (with_reducible refine (spec_Short.calls k (fun k_ => k_ < w.heap.size) _ _ l1 t163 _ ?side1 A4.out).mono ?_); (case side1 => exact Kd.V_mk HC1.out (Kd.F_below (Kd.C_F (Kd.heap_int .u8) HR1.out) (by repeat (first | (with_reducible first | exact HB.out | apply below_alloc | apply pw_below_drewN | apply below_drew1) | exact HB.out)))); rintro e w36 ⟨v164, rfl, ho0, hb⟩; refine ⟨_, rfl, ?_⟩; have n0_ := Aside0.mk (Kd.R_lower (Kd.R_mono (ok' := fun k_ => True) ho0 (fun _ hk_ => trivial)) (below_size (by repeat (first | (with_reducible first | exact HB.out | apply below_alloc | apply pw_below_drewN | apply below_drew1) | exact HB.out)))); have n1_ := Aside0.mk (below_step (by repeat (first | (with_reducible first | exact HB.out | apply below_alloc | apply pw_below_drewN | apply below_drew1) | exact HB.out)) hb); clear HB; have HO165 := n0_; have HB := n1_; clear n0_ n1_; (try clear hb); (try clear hb2); (try clear hk); (try clear hi); (try clear ho0); obtain ⟨Ao37, co37, eo37⟩ := Kd.R_slice HO165.out; subst eo37) | ((with_reducible refine gate_callee (f := 16) rfl ?_); refine goesL_ (some 10) rfl rfl Try.func16 (by kernel_rfl) rfl #[.slice Ao37 t163.length co37] rfl (by (try simp only [List.map_toArray, List.map_cons, List.map_nil]); first | done | rfl | (simp only [List.length_drop, List.length_take]; rfl)) ?_; (with_reducible refine (spec_Turned.calls k _ _ t163 t166 _ ?side1 ?side2 A5.out).mono ?_); (case side1 => repeat (first | exact (Kd.R_reads' HO165.out).2.2 | (with_reducible refine Kd.C_alloc ?_ _) | (with_reducible refine Kd.C_drewN ?_ _) | (with_reducible refine Kd.C_drew ?_))); (case side2 => exact (Kd.R_reads' HO165.out).2.1); rintro e w38 ⟨v167, rfl, ho0, hb⟩; refine ⟨_, rfl, ?_⟩; have n0_ := Aside0.mk (Kd.R_elder' (by (with_reducible repeat (first | apply Kd.R_alloc | apply Kd.R_drewN | apply Kd.R_drew)); exact HO165.out) (Kd.R_base ho0) hb); have n1_ := Aside0.mk (Kd.R_lower (Kd.R_new' ho0 (Kd.R_lt (by (with_reducible repeat (first | apply Kd.R_alloc | apply Kd.R_drewN | apply Kd.R_drew)); exact HO165.out))) (below_size (by repeat (first | (with_reducible first | exact HB.out | apply below_alloc | apply pw_below_drewN | apply below_drew1) | exact HB.out)))); have n2_ := Aside0.mk (below_step (by repeat (first | (with_reducible first | exact HB.out | apply below_alloc | apply pw_below_drewN | apply below_drew1) | exact HB.out)) hb); clear HO165; clear HB; have HO165 := n0_; have HO168 := n1_; have HB := n2_; clear n0_ n1_ n2_; (try clear hb); (try clear hb2); (try clear hk); (try clear hi); (try clear ho0); obtain ⟨Ao39, co39, eo39⟩ := Kd.R_slice HO168.out; subst eo39) | (at_builtin; refine Kd.R_append_zeros (Kd.int .u8) (w0 := w) w.heap.size rfl (.tmp 27) (.tmp 32) 22 3 5 (.int .u8 0) 1 rfl Try.underlying22 Try.underlying3 info5 rfl (by decide) (by omega) (.slice Ao39 t166.length co39) t166 0 (ji33 : Int) (fun k_ => some k_ ≠ (.slice Ao37 t163.length co37 : Value).ownBlock) rfl rfl rfl ?aF ?aO (of_decide_eq_true (by first | (with_reducible assumption) | assumption)) ?aB ?aS ?aL ?_; (case aB => exact (by repeat (first | (with_reducible first | exact HB.out | apply below_alloc | apply pw_below_drewN | apply below_drew1) | exact HB.out))); (case aF => exact (fun k_ hk => Kd.fresh' (Kd.R_lt (by (with_reducible repeat (first | apply Kd.R_alloc | apply Kd.R_drewN | apply Kd.R_drew)); exact HO165.out)) k_ hk)); (case aO => exact (by (with_reducible repeat (first | apply Kd.R_alloc | apply Kd.R_drewN | apply Kd.R_drew)); exact Kd.R_mono HO168.out (fun _ hk => hk.2))); (case aS => exact (below_size (by repeat (first | (with_reducible first | exact HB.out | apply below_alloc | apply pw_below_drewN | apply below_drew1) | exact HB.out)))); (case aL => have := LMc35.out; omega); intro v185 w40 ho hb hg hat; rw [← Ny184.out] at ho; have n0_ := Aside0.mk (Kd.R_after (ok := (fun _ => True)) (by (with_reducible repeat (first | apply Kd.R_alloc | apply Kd.R_drewN | apply Kd.R_drew)); exact HO165.out) hg hat); have n1_ := Aside0.mk (hb); have n2_ := Aside0.mk (ho); clear HO165; clear HB; clear HO168; have HO165 := n0_; have HB := n1_; have HO186 := n2_; clear n0_ n1_ n2_; clear ho hb hg hat))
          go_ret
          exact ⟨_, by first | rfl | (simp [errW_none, errW_some] <;> rfl) | (simp only [← hji33]; first | rfl | (simp [errW_none, errW_some] <;> rfl)) | (simp [*, errW_none, errW_some] <;> rfl), by (with_reducible repeat (first | apply Kd.R_alloc | apply Kd.R_drewN | apply Kd.R_drew)); exact Kd.R_mono HO186.out (fun _ hk => trivial), by repeat (first | (with_reducible first | exact HB.out | apply below_alloc | apply pw_below_drewN | apply below_drew1) | exact HB.out)⟩
        · rw [if_neg c35] at H
          exact absurd H (by simp)
      · rw [if_neg c34] at H
        exact absurd H (by simp)

-- NOT PRINTED: function 4 (laws_FnExactStore)

end Go.Proofs.Ythckboojmljeiaa.PFnExactStore
