/- Walk: nat.lsh by 64, of itself. -/
import Derived.Test.YthckboojmljeiaaSm
import Derived.Lib.SliceRun
namespace Go.Proofs.Ythckboojmljeiaa.Ls
set_option linter.unusedVariables false
set_option linter.unusedSimpArgs false
open Go.RowKit Go.Proofs.YthckboojmljeiaaW.PrintWords Go.Proofs.Ythckboojmljeiaa.Pl Go.Proofs.Ythckboojmljeiaa.Dg Go.Proofs.Ythckboojmljeiaa.Mem Go.Proofs.Ythckboojmljeiaa.Na Go.Proofs.Ythckboojmljeiaa.Nb Go.Proofs.Ythckboojmljeiaa.Sm

theorem zero74 (w : World) : (zeroValue 74).run Try.prog w = .ok (.int .u64 0) w := by
  obtain ⟨i, hi, hz, _⟩ := info_parts info74
  simp [zeroValue, typeInfo, hi, hz]
theorem clear1 (w : World) (g c : Nat) (u : Int) (hc : w.cell? ⟨g, 0, none⟩ = some (.int .u64 u)) (hf : w.frozen? ⟨g, 0, none⟩ = false) :
    (Builtin.clear_ #[62] 0 #[.slice (some ⟨g, 0, none⟩) 1 c]).run Try.prog w = .ok (.tuple #[]) (w.setCell ⟨g, 0, none⟩ (.int .u64 0)) := by
  refine Lib.run_clear_slice w 62 74 0 (.int .u64 0) Try.underlying62 zero74 rfl rfl g 0 1 c (by omega) ?_ ?_
  · intro j hj
    obtain rfl : j = 0 := by omega
    rw [Nat.add_zero, hc]
    rfl
  · intro j hj
    obtain rfl : j = 0 := by omega
    exact hf
theorem norm_fin {w w3 : World} {v : Value} {g m : Nat} {row : List Int} {l : List Int} {Z : Nat} (hr : Rw w3 g row) (hm : m ≤ row.length) (hl : row.length ≤ 1000000) (ht : row.take m = l) (hd : DW l) (hz : (lv (BB : Int) l).toNat = Z) (hc : Chg (Own v) w w3) (hok : Own v g ∨ w.heap.size ≤ g) :
    Calls Try.prog 86 #[.slice (some ⟨g, 0, none⟩) m row.length] w3 (NtOut w v (dg Z)) := by
  have := norm_dg g m row _ hr hm hl (by rw [ht]; exact hd)
  rw [ht, hz] at this
  refine this.mono ?_
  rintro e w' ⟨v', rfl, h1, h2, rfl⟩
  refine ⟨v', rfl, h1, hc, ?_⟩
  rcases hok with h | h
  · exact .inl (h2.trans h.symm)
  · exact .inr ⟨g, h2, h⟩
theorem lsh_zero {w : World} {v : Value} (h : Nt w v []) : Calls Try.prog 72 #[v, v, .int .u64 64] w (NtOut w v []) := by
  obtain ⟨A, c, rfl, _, hc⟩ := h.slice
  have H := Lib.hid (cut0 h)
  clear h
  go_enter Try.func72, Try.ntmps72
  go_wp2
  go_ret
  exact ⟨_, rfl, H.out, Chg.refl _ _, Fr.refl _ _⟩

/-- The words moved up by one. -/
def upRow (cur : List Int) (m : Nat) (xs : List Int) : List Int := lay cur 1 m xs
theorem up_take (cur : List Int) (m : Nat) (xs : List Int) (hx : xs.length = m) (hl : m + 2 ≤ cur.length) : (((lay cur 1 m xs).set (m + 1) 0).set 0 0).take (m + 2) = [0] ++ (xs ++ [0]) := by
  have hll := lay_length cur 1 m xs (by omega) (by omega)
  obtain ⟨a, t, rfl⟩ : ∃ a t, cur = a :: t := by
    cases cur with
    | nil => simp at hl
    | cons a t => exact ⟨a, t, rfl⟩
  have e : lay (a :: t) 1 m xs = a :: (xs ++ t.drop m) := by
    unfold lay
    rw [show xs.take m = xs from List.take_of_length_le (by omega), show 1 + m = m + 1 from by omega]
    simp
  rw [e, List.set_cons_succ, List.set_cons_zero, List.take_succ_cons, List.set_append_right _ _ (by omega), hx, Nat.sub_self]
  have hd : 0 < (t.drop m).length := by rw [List.length_drop]; simp at hl; omega
  obtain ⟨y, s, hs⟩ : ∃ y s, t.drop m = y :: s := by
    cases h : t.drop m with
    | nil => rw [h] at hd; simp at hd
    | cons y s => exact ⟨y, s, rfl⟩
  rw [hs, List.set_cons_zero, List.take_append, List.take_of_length_le (by omega), hx]
  simp
theorem up_val (X : Nat) : DW ([0] ++ (dg X ++ [0])) ∧ (lv (BB : Int) ([0] ++ (dg X ++ [0]))).toNat = X * BB := by
  refine ⟨(Dig.mk (by omega) (by decide) (Dig.nil _)).append ((dg_dig X).append (Dig.mk (by omega) (by decide) (Dig.nil _))), ?_⟩
  rw [lv_append, lv_append, lv_dg]
  simp only [lv]
  rw [show ([0] : List Int).length = 1 from rfl]
  have : (0 + (BB : Int) * 0 + (BB : Int) ^ 1 * ((X : Int) + (BB : Int) ^ (dg X).length * (0 + (BB : Int) * 0))) = ((X * BB : Nat) : Int) := by
    rw [Int.mul_zero, Int.add_zero, Int.mul_zero, Int.add_zero, Int.zero_add, Int.pow_succ, Int.pow_zero, Int.one_mul, Int.mul_comm]
    exact_mod_cast rfl
  rw [this, Int.toNat_natCast]

set_option maxHeartbeats 1000000 in
set_option maxRecDepth 100000 in
theorem lsh_pos {w : World} {gx m : Nat} {cux : List Int} {X : Nat} (hX : 0 < X) (hlen : (dg X).length = m) (hR : Rw w gx cux) (hl : m ≤ cux.length) (hl2 : cux.length ≤ 1000000) (hmb : m ≤ 800000) (ht : cux.take m = dg X) :
    Calls Try.prog 72 #[.slice (some ⟨gx, 0, none⟩) m cux.length, .slice (some ⟨gx, 0, none⟩) m cux.length, .int .u64 64] w (NtOut w (.slice (some ⟨gx, 0, none⟩) m cux.length) (dg (X * BB))) := by
  have hN : Nt w (.slice (some ⟨gx, 0, none⟩) m cux.length) (dg X) := .inr ⟨gx, cux, by rw [hlen], hR, by omega, by rw [hlen]; exact ht, hl2⟩
  have h0 : 0 < m := by rw [← hlen]; exact dg_len_pos hX
  have HM := Lib.hid (make_any hN (m + 2) (by omega) (by omega))
  rw [show ((m + 2 : Nat) : Int) = (m : Int) + 1 + 1 from by omega] at HM
  have HXC := Lib.hid hR
  have HT := Lib.hid ht
  have HL := Lib.hid hlen
  have HXL := Lib.hid hl
  clear hN hR ht hlen hl2
  have hm0 : ((m : Int) == 0) = false := by rw [beq_eq_false_iff_ne]; omega
  have c1 : (m : Int) + 1 - (m : Int) = 1 := by omega
  go_enter Try.func72, Try.ntmps72
  go_wp2_with fail
  refine HM.out.mono ?_
  rintro e w1 ⟨g, cur, rfl, hr, h1, h2, hk⟩
  have HR := Lib.hid hr
  have HK := Lib.hid hk
  have HC := Lib.hid h1
  have HC2 := Lib.hid h2
  have b1 : (1 : Int) ≤ (m : Int) + 1 := by omega
  have b2 : (m : Int) + 1 ≤ (m : Int) + 2 := by omega
  have b3 : (m : Int) + 1 < (m : Int) + 2 := by omega
  have b4 : (m : Int) + 1 ≤ (cur.length : Int) := by omega
  have b5 : ((m : Int) + 1).toNat = m + 1 := by omega
  have q1 : ¬ cur.length = 1 := by omega
  have hsrc : ∀ j, j < m → w1.cell? ⟨gx, j, none⟩ = some (.int .u64 ((dg X).getD j 0)) := fun j hj => by
    rw [(Mk.old HK.out HXC.out).cell j (by have := HXL.out; omega), ← HT.out, List.getD_eq_getElem?_getD, List.getD_eq_getElem?_getD, List.getElem?_take, if_pos hj]
  have HSrc := Lib.hid hsrc
  obtain ⟨new, hnew⟩ : ∃ new, lay cur 1 m (dg X) = new := ⟨_, rfl⟩
  have hlx := HL.out
  have hrow : ((cur.map (Value.int .u64)).toArray.toList.take 1 ++ ((dg X).map (Value.int .u64) ++ (cur.map (Value.int .u64)).toArray.toList.drop (1 + ((dg X).map (Value.int .u64)).length))).toArray = (new.map (Value.int .u64)).toArray := by
    rw [← hnew]
    unfold lay
    rw [List.take_of_length_le (show (dg X).length ≤ m by omega)]
    simp [hlx]
  have hnl : new.length = cur.length := by rw [← hnew]; exact lay_length _ _ _ _ (by omega) (by omega)
  have HRow := Lib.hid hrow
  have HNew := Lib.hid hnew
  have HNl := Lib.hid hnl
  have hRn := HR.out.row new
  have HRn := Lib.hid hRn
  obtain ⟨u, hcell⟩ := hRn.has (m + 1) (by omega)
  have hfree := hRn.free (m + 1)
  have hR3 := hRn.put (m + 1) 0
  obtain ⟨u0, hcell0⟩ := hR3.has 0 (by rw [List.length_set]; omega)
  have hfree0 := hR3.free 0
  have HR3 := Lib.hid (hR3.put 0 0)
  have hcl : (Builtin.clear_ #[62] 0 #[.slice (some ⟨g, 0, none⟩) 1 cur.length]).run Try.prog ((w1.setRow g (new.map (Value.int .u64)).toArray).setCell ⟨g, m + 1, none⟩ (.int .u64 0)) = .ok (.tuple #[]) (((w1.setRow g (new.map (Value.int .u64)).toArray).setCell ⟨g, m + 1, none⟩ (.int .u64 0)).setCell ⟨g, 0, none⟩ (.int .u64 0)) :=
    clear1 _ g cur.length u0 hcell0 hfree0
  clear hr hk h1 h2 hrow hnew hnl hsrc hlx hRn hR3
  go_wp2_with (first | (refine wpList_copy_own rfl (.tmp 46) (.tmp 47) 62 62 rfl 74 Try.underlying62 (by kernel_rfl) g 1 m (cur.length - 1) ⟨gx, 0, none⟩ m cux.length rfl rfl (cur.map (Value.int .u64)).toArray 74 HR.out ((dg X).map (Value.int .u64)) ?hn ?hsrc ?hfit ?h1 ?_; (case hn => have := HL.out; simp [this]); (case hsrc => exact copy_src HL.out HSrc.out); (case hfit => have := HL.out; have := HC.out; simp; omega); (case h1 => intro v hv; obtain ⟨x, _, rfl⟩ := List.mem_map.1 hv; rfl); rw [HRow.out]))
  have hlen3 : ((new.set (m + 1) 0).set 0 0).length = cur.length := by rw [List.length_set, List.length_set]; exact HNl.out
  have hns := norm_fin (w := w) (v := .slice (some ⟨gx, 0, none⟩) m cux.length) (m := m + 2) (l := [0] ++ (dg X ++ [0])) (Z := X * BB) HR3.out (by rw [hlen3]; exact HC.out) (by rw [hlen3]; exact HC2.out) (by rw [← HNew.out]; exact up_take cur m (dg X) HL.out HC.out) (up_val X).1 (up_val X).2 (((HK.out.chg.setRow g _ HK.out.ok).set g (m + 1) _ HK.out.ok).set g 0 _ HK.out.ok) HK.out.ok
  rw [hlen3] at hns
  refine hns.mono ?_
  rintro e w4 ⟨v', rfl, h1, h2, h3⟩
  have H1 := Lib.hid h1
  have H2 := Lib.hid h2
  have H3 := Lib.hid h3
  clear h1 h2 h3 hns hlen3
  go_wp2
  go_ret
  exact ⟨_, rfl, H1.out, H2.out, H3.out⟩

/-- nat.lsh by 64, of itself. -/
theorem lsh_any {w : World} {v : Value} {X : Nat} (h : Nt w v (dg X)) (hl : (dg X).length ≤ 800000) : Calls Try.prog 72 #[v, v, .int .u64 64] w (NtOut w v (dg (X * BB))) := by
  by_cases hX : X = 0
  · subst hX
    rw [Nat.zero_mul]
    rw [dg_zero] at h ⊢
    exact lsh_zero h
  · rcases h with ⟨_, h1⟩ | ⟨gx, cux, rfl, h1, h2, h3, h4⟩
    · exact absurd (dg_nil.1 h1) hX
    · exact lsh_pos (by omega) rfl h1 h2 h4 hl h3
end Go.Proofs.Ythckboojmljeiaa.Ls
