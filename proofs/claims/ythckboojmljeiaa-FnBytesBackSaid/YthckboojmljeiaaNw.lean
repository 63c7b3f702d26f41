/- Walks: Uint64Le2BigInt, impl.NumberWords. The law FnExactNumberWords. -/
import Derived.Test.YthckboojmljeiaaIa
import Derived.Test.YthckboojmljeiaaTw
namespace Go.Proofs.Ythckboojmljeiaa.Nw
set_option linter.unusedVariables false
set_option linter.unusedSimpArgs false
open Go.RowKit Go.Proofs.YthckboojmljeiaaW.PrintWords Go.Proofs.YthckboojmljeiaaW.PrintLast Go.Proofs.YthckboojmljeiaaW.PrintMore Go.Proofs.Ythckboojmljeiaa.Pl Go.Proofs.Ythckboojmljeiaa.Dg Go.Proofs.Ythckboojmljeiaa.Mem Go.Proofs.Ythckboojmljeiaa.Na Go.Proofs.Ythckboojmljeiaa.Nb Go.Proofs.Ythckboojmljeiaa.Be Go.Proofs.Ythckboojmljeiaa.Ow Go.Proofs.Ythckboojmljeiaa.By Go.Proofs.Ythckboojmljeiaa.Sp Go.Proofs.Ythckboojmljeiaa.Nu Go.Proofs.Ythckboojmljeiaa.In Go.Proofs.Ythckboojmljeiaa.Ia Go.Proofs.Ythckboojmljeiaa.Tw

/-- The state behind the words from i on. -/
def Sw (w wr : World) (p q : Nat) (l : List Int) (i : Nat) : Prop := ∃ v u y, Two w wr p q v u ((lv (BB : Int) (l.drop i)).toNat : Int) y

set_option maxHeartbeats 1000000 in
set_option maxRecDepth 100000 in
theorem num_words (A : Option Addr) (c : Nat) (l : List Int) (w : World) (hr : Kd.C (Kd.int .u64) w A l.length l) (hd : DW l) (hl : l.length ≤ 10000) :
    Calls Try.prog 39 #[.slice A l.length c] w (NewZ w (lv (BB : Int) l)) := by
  have HR := Lib.hid hr
  have HD := Lib.hid hd
  obtain ⟨n, hn⟩ : ∃ n, l.length = n := ⟨_, rfl⟩
  have HN := Lib.hid hn
  rw [hn] at HR hl ⊢
  have HT := Lib.hid (Two.made w)
  clear hr hd hn
  go_enter Try.func39, Try.ntmps39
  go_wp2_with fail
  have hp1 : w.heap.size ≠ w.heap.size + 1 := by omega
  obtain ⟨q, hq⟩ : ∃ q, w.heap.size + 1 = q := ⟨_, rfl⟩
  obtain ⟨p, hp⟩ : ∃ p, w.heap.size = p := ⟨_, rfl⟩
  rw [hq] at HT ⊢
  rw [hp] at HT ⊢
  clear hp1 hq
  have HP := Lib.hid hp
  clear hp
  obtain ⟨w0, hw0⟩ : ∃ w0, (w.alloc (.cells #[.bool false, .slice none 0 0] 64)).alloc (.cells #[.bool false, .slice none 0 0] 64) = w0 := ⟨_, rfl⟩
  rw [hw0] at HT ⊢
  clear hw0
  go_loopw [6] (fun t wr => ∃ k : Nat, k ≤ n ∧ t = .int .i64 ((k : Int) - 1) ∧ Hid (Sw w wr p q l k)) (fun t _ => (intOf t + 1).toNat)
  case atStart => exact ⟨n, Nat.le_refl _, rfl, _, _, _, by rw [List.drop_of_length_le (by rw [HN.out]; exact Nat.le_refl _)]; exact HT.out⟩
  case round =>
    clear HT
    obtain ⟨k, hk, rfl, v, u, y, HT⟩ := hrel
    have HT := Lib.hid HT
    by_cases hk0 : 0 < k
    · obtain ⟨ad, e, hx⟩ := Kd.at_int (Kd.C_below HR.out HT.out.below) ((k : Int) - 1) (by omega) (by omega)
      subst e
      have ht : ((k : Int) - 1).toNat = k - 1 := by omega
      rw [show rd l ((k : Int) - 1) = l.getD (k - 1) 0 from by unfold rd; rw [ht], ht] at hx
      have hxr := HD.out.get (i := k - 1) (by rw [HN.out]; omega)
      have hdr := drop_getD l (k - 1) (by rw [HN.out]; omega)
      obtain ⟨x, hx2⟩ : ∃ x, l.getD (k - 1) 0 = x := ⟨_, rfl⟩
      rw [hx2] at hx hxr hdr
      rw [show k - 1 + 1 = k from by omega] at hdr
      have hlr := lv_range (B := (BB : Int)) (by decide) (HD.out.drop k)
      rw [List.length_drop, HN.out] at hlr
      obtain ⟨X, hX⟩ := Int.eq_ofNat_of_zero_le hlr.1
      have hXl : (dg X).length ≤ n - k := dg_len_le (by
        rw [hX, pow_cast] at hlr
        exact_mod_cast hlr.2)
      obtain ⟨x', rfl⟩ := Int.eq_ofNat_of_zero_le hxr.1
      have hnew : (lv (BB : Int) (l.drop (k - 1))).toNat = X * BB + x' := by
        rw [hdr]
        simp only [lv]
        rw [hX]
        have : ((x' : Int) + (BB : Int) * ((X : Nat) : Int)) = ((X * BB + x' : Nat) : Int) := by
          rw [Int.natCast_add, Int.natCast_mul, Int.add_comm, Int.mul_comm]
        rw [this, Int.toNat_natCast]
      have hxb : x' < BB := by exact_mod_cast hxr.2
      rw [hX, Int.toNat_natCast] at HT
      have HNew := Lib.hid hnew
      have HXB := Lib.hid hxb
      have HXL := Lib.hid hXl
      have HSet := Lib.hid (intSetUint64 (l := dg y.natAbs) HT.out.iq (x' : Int) (by omega) hxr.2)
      have b1 : (0 : Int) ≤ (k : Int) - 1 := by omega
      have b1b : (1 : Int) ≤ (k : Int) := by omega
      have b2 : (k : Int) - 1 < (n : Int) := by omega
      clear hlr hdr hx2 hX hXl hnew hxb hxr
      go_wp2_with fail
      refine HSet.out.mono ?_
      rintro e w1 ⟨rfl, hu⟩
      obtain ⟨u1, ht1⟩ := HT.out.updQ hu
      have HT1 := Lib.hid ht1
      have HLsh := Lib.hid (intLsh ht1.iz (by have := HXL.out; omega))
      clear hu ht1 HT HSet
      go_wp2_with fail
      refine HLsh.out.mono ?_
      rintro e w2 ⟨rfl, hu⟩
      obtain ⟨v2, ht2⟩ := HT1.out.updP hu
      have HT2 := Lib.hid ht2
      have HAdd := Lib.hid (intAdd ht2.iz ht2.iq ht2.ap HXB.out (by
        have h1 := HXL.out
        have h2 : (dg (X * BB)).length ≤ (n - k) + 1 := dg_len_le (by
          rw [Nat.pow_succ]
          exact Nat.mul_lt_mul_of_pos_right (Nat.lt_of_lt_of_le (dg_lt X) (Nat.pow_le_pow_right BB_pos h1)) BB_pos)
        omega))
      clear hu ht2 HT1 HLsh
      go_wp2_with fail
      refine HAdd.out.mono ?_
      rintro e w3 ⟨rfl, hu⟩
      obtain ⟨v3, ht3⟩ := HT2.out.updP hu
      have HT3 := Lib.hid ht3
      clear hu ht3 HT2 HAdd
      go_wp2_with fail
      go_roundw
      case rel => exact ⟨k - 1, by omega, by congr 1; omega, v3, u1, _, by rw [HNew.out]; exact HT3.out⟩
      case measure => simp [intOf]; omega
    · have hk1 : k = 0 := by omega
      subst hk1
      rw [List.drop_zero] at HT
      have hnn := (lv_range (B := (BB : Int)) (by decide) HD.out).1
      have HNn := Lib.hid (Int.toNat_of_nonneg hnn)
      clear hnn
      go_wp2_with fail
      go_ret
      exact ⟨p, v, rfl, by rw [← HNn.out]; exact HT.out.iz, HT.out.np, HT.out.nv, HT.out.below⟩
end Go.Proofs.Ythckboojmljeiaa.Nw
