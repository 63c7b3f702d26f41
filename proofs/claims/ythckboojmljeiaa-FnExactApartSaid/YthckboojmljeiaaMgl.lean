/- Walk: impl.Signed. The law FnSignedMany. -/
import Derived.Test.YthckboojmljeiaaMgk
import Derived.Test.YthckboojmljeiaaPm
namespace Go.Proofs.Ythckboojmljeiaa.Kl
set_option linter.unusedVariables false
set_option linter.unusedSimpArgs false
open Go.RowKit Go.Proofs.YthckboojmljeiaaW.PrintWords Go.Proofs.YthckboojmljeiaaW.PrintLast Go.Proofs.YthckboojmljeiaaW.PrintMore Go.Proofs.Ythckboojmljeiaa.Pl Go.Proofs.Ythckboojmljeiaa.Dg Go.Proofs.Ythckboojmljeiaa.Mem Go.Proofs.Ythckboojmljeiaa.Na Go.Proofs.Ythckboojmljeiaa.Nb Go.Proofs.Ythckboojmljeiaa.Be Go.Proofs.Ythckboojmljeiaa.Ow Go.Proofs.Ythckboojmljeiaa.Nu Go.Proofs.Ythckboojmljeiaa.In Go.Proofs.Ythckboojmljeiaa.Bl Go.Proofs.Ythckboojmljeiaa.Bs Go.Proofs.Ythckboojmljeiaa.Sk Go.Proofs.Ythckboojmljeiaa.Kp Go.Proofs.Ythckboojmljeiaa.Kw

set_option maxRecDepth 100000 in
theorem impl_signed (A : Option Addr) (c : Nat) (n : List Int) (s L m : Nat) (w : World) (hr : Kd.C (Kd.int .u8) w A n.length n) (hc : n.length ≤ c) (hl : n.length ≤ 10000) (hd : Dig 256 n) (X : Nat) (hX : lv 256 n.reverse = (X : Int))
    (ho : X % 2 = 1) (hs1 : 1 ≤ s) (hs2 : s ≤ 30) (hXl : bln X ≤ L) (hl2 : L ≤ 10000) (hm : (L + s - 1) / s = m) :
    Calls Try.prog 31 #[.slice A n.length c, .int .i64 ((s : Int) + 1), .int .i64 (L : Int)] w (Rd32 w (sdL s X m)) := by
  have hof := impl_of A c n false w hr hc hd (by omega)
  rw [show (if false = true then -lv 256 n.reverse else lv 256 n.reverse) = lv 256 n.reverse from rfl, hX] at hof
  have HOf := Lib.hid hof
  have HSg := Lib.hid (fun (w1 : World) (p : Nat) (v : Value) (hz : Iz w1 p v (X : Int)) => signed_any (l := L) (m := m) (s := s) hz ho hs1 hs2 hXl hl2 hm)
  have f1 : (s : Int) ≤ 30 := by omega
  have f2 : (1 : Int) ≤ (s : Int) := by omega
  have f3 : (L : Int) ≤ 10000 := by omega
  clear hof hr hc hd hX ho hXl hm hs1 hs2
  go_enter Try.func31, Try.ntmps31
  go_wp2_with fail
  refine HOf.out.mono ?_
  rintro e w1 ⟨p, v, rfl, hz, hp, hv, hb⟩
  have HS := Lib.hid (HSg.out w1 p v hz)
  have HB := Lib.hid hb
  clear hz hp hv hb HOf HSg
  go_wp2_with fail
  refine HS.out.mono ?_
  rintro e w2 ⟨A2, c2, rfl, h1, h2, h3⟩
  have H1 := Lib.hid h1
  have H2 := Lib.hid h2
  have HB2 := Lib.hid (below_then HB.out HB.out.size h3)
  clear h1 h2 h3 HS
  go_wp2
  go_ret
  exact ⟨A2, c2, rfl, H1.out, H2.out, HB2.out⟩

theorem odd_last (n : List Int) (hd : Dig 256 n) (X : Nat) (hX : lv 256 n.reverse = (X : Int)) (hl : n.length ≤ 10000) : PFnSigned.spec_IsOdd.f n = some (decide (X % 2 = 1)) := by
  unfold PFnSigned.spec_IsOdd.f
  by_cases h0 : n.length = 0
  · obtain rfl := List.length_eq_zero_iff.1 h0
    have : X = 0 := by
      have e : lv 256 ([] : List Int).reverse = 0 := rfl
      omega
    subst this
    rfl
  · have e : wrap64 ((n.length : Int) - 1) = ((n.length - 1 : Nat) : Int) := by rw [w64 (by omega) (by omega)]; omega
    have c1 : (n.length : Int) > 0 := by omega
    have c2 : (0 : Int) ≤ ((n.length - 1 : Nat) : Int) := by omega
    have c3 : ((n.length - 1 : Nat) : Int) < (n.length : Int) := by omega
    rw [e, if_pos c1, if_pos c2, if_pos c3]
    have hg := hd.get (i := n.length - 1) (by omega)
    have e2 : rd n ((n.length - 1 : Nat) : Int) = n.getD (n.length - 1) 0 := by unfold rd; rw [Int.toNat_natCast]
    rw [e2]
    have hrev : n.reverse = n.getD (n.length - 1) 0 :: n.reverse.drop 1 := by
      have h1 := getD_reverse n 0 (by omega)
      rw [Nat.sub_zero] at h1
      have h2 := drop_getD n.reverse 0 (by rw [List.length_reverse]; omega)
      rw [List.drop_zero, h1] at h2
      exact h2
    rw [hrev] at hX
    simp only [lv] at hX
    obtain ⟨b, hb⟩ : ∃ b, n.getD (n.length - 1) 0 = b := ⟨_, rfl⟩
    obtain ⟨t, ht⟩ : ∃ b, lv 256 (n.reverse.drop 1) = b := ⟨_, rfl⟩
    rw [hb] at hX hg ⊢
    rw [ht] at hX
    rw [Int.tmod_eq_emod_of_nonneg hg.1]
    congr 1
    rw [Bool.eq_iff_iff]
    simp only [beq_iff_eq, decide_eq_true_eq]
    omega
theorem odd_call (A : Option Addr) (c : Nat) (n : List Int) (w : World) (hr : Kd.C (Kd.int .u8) w A n.length n) (hc : n.length ≤ c) (hl : n.length ≤ 10000) (hd : Dig 256 n) (X : Nat) (hX : lv 256 n.reverse = (X : Int)) :
    Calls Try.prog 30 #[.slice A n.length c] w fun e w' => e = .returned (.bool (decide (X % 2 = 1))) ∧ Below w.heap.size w w' := by
  refine (PFnSigned.spec_IsOdd.calls A c n _ w hr hc (odd_last n hd X hX hl)).mono ?_
  rintro e w' ⟨rfl, hd⟩
  exact ⟨rfl, hd.below⟩
theorem one_row (w : World) : Ow .u8 5 w.heap.size w.heap.size 1 [1] (w.alloc (.cells #[.int .u8 1] 5)) := by
  have := World.ownsRow_lit (e := 5) (base := w.heap.size) (size := 1) w #[.int .u8 1] 1 (Nat.le_refl _) (by unfold maxLen; omega) (by simp)
  exact this

set_option maxHeartbeats 1000000 in
set_option maxRecDepth 100000 in
theorem law_many (A : Option Addr) (c : Nat) (n : List Int) (win len : Int) (w : World) (hr : Kd.C (Kd.int .u8) w A n.length n) (hc : n.length ≤ c) (hd : Dig 256 n) :
    Calls Try.prog 11 #[.slice A n.length c, .int .i64 win, .int .i64 len] w fun e w' => e = .returned (.bool true) ∧ Below w.heap.size w w' := by
  have hlv := (lv_range (B := 256) (by omega) hd.reverse).1
  obtain ⟨X, hX⟩ := Int.eq_ofNat_of_zero_le hlv
  have HR := Lib.hid hr
  have HC := Lib.hid hc
  have HD := Lib.hid hd
  have HX := Lib.hid hX
  clear hr hc hd hX hlv
  go_enter Try.func11, Try.ntmps11
  by_cases h0 : (2147483647 : Int) < (n.length : Int)
  · go_wp2
    go_ret
    exact ⟨rfl, Below.refl _ _⟩
  by_cases h1 : (512 : Int) < (n.length : Int)
  · go_wp2
    go_ret
    exact ⟨rfl, Below.refl _ _⟩
  have hod := odd_call A c n w HR.out HC.out (by omega) HD.out X HX.out
  by_cases ho : X % 2 = 1
  · rw [decide_eq_true ho] at hod
    have HOd := Lib.hid hod
    have HOX := Lib.hid ho
    have hnl : n.length ≤ 512 := by omega
    have hnl2 : (n.length : Int) ≤ 512 := by omega
    clear hod ho h0 h1
    by_cases h2 : win < 2
    · go_wp2_with fail
      refine HOd.out.mono ?_
      rintro e w1 ⟨rfl, hb⟩
      have HB := Lib.hid hb
      clear hb
      go_wp2
      go_ret
      exact ⟨rfl, HB.out⟩
    by_cases h3 : 31 < win
    · go_wp2_with fail
      refine HOd.out.mono ?_
      rintro e w1 ⟨rfl, hb⟩
      have HB := Lib.hid hb
      clear hb
      go_wp2
      go_ret
      exact ⟨rfl, HB.out⟩
    have HBits := Lib.hid (fun (w1 : World) (hb : Below w.heap.size w w1) => bits_call A c n w1 (Kd.C_below HR.out hb) HC.out HD.out (by omega) X HX.out)
    have HBln := Lib.hid (show bln X = bln X from rfl)
    obtain ⟨b, hb⟩ : ∃ b, bln X = b := ⟨_, rfl⟩
    rw [hb] at HBits
    have HBb := Lib.hid hb
    clear hb HBln
    by_cases h4 : len < (b : Int)
    · go_wp2_with fail
      refine HOd.out.mono ?_
      rintro e w1 ⟨rfl, hb⟩
      have HB := Lib.hid hb
      have HBs := Lib.hid (HBits.out w1 hb)
      clear hb
      go_wp2_with fail
      refine HBs.out.mono ?_
      rintro e w2 ⟨rfl, hb⟩
      have HB2 := Lib.hid (below_then HB.out HB.out.size hb)
      clear hb
      go_wp2
      go_ret
      exact ⟨rfl, HB2.out⟩
    by_cases h5 : 8192 < len
    · go_wp2_with fail
      refine HOd.out.mono ?_
      rintro e w1 ⟨rfl, hb⟩
      have HB := Lib.hid hb
      have HBs := Lib.hid (HBits.out w1 hb)
      clear hb
      go_wp2_with fail
      refine HBs.out.mono ?_
      rintro e w2 ⟨rfl, hb⟩
      have HB2 := Lib.hid (below_then HB.out HB.out.size hb)
      clear hb
      go_wp2
      go_ret
      exact ⟨rfl, HB2.out⟩
    by_cases h6 : len < 1
    · go_wp2_with fail
      refine HOd.out.mono ?_
      rintro e w1 ⟨rfl, hb⟩
      have HB := Lib.hid hb
      have HBs := Lib.hid (HBits.out w1 hb)
      clear hb
      go_wp2_with fail
      refine HBs.out.mono ?_
      rintro e w2 ⟨rfl, hb⟩
      have HB2 := Lib.hid (below_then HB.out HB.out.size hb)
      clear hb
      go_wp2
      go_ret
      exact ⟨rfl, HB2.out⟩
    obtain ⟨s, rfl⟩ : ∃ s : Nat, win = (s : Int) + 1 := ⟨(win - 1).toNat, by omega⟩
    obtain ⟨L, rfl⟩ : ∃ L : Nat, len = (L : Int) := ⟨len.toNat, by omega⟩
    have HSg := Lib.hid (fun (w1 : World) (hb : Below w.heap.size w w1) => impl_signed A c n s L ((L + s - 1) / s) w1 (Kd.C_below HR.out hb) HC.out (by omega) HD.out X HX.out HOX.out (by omega) (by omega) (by rw [HBb.out]; omega) (by omega) rfl)
    have HSg2 := Lib.hid (fun (w1 : World) => impl_signed (some ⟨w1.heap.size, 0, none⟩) 1 [1] s L ((L + s - 1) / s) (w1.alloc (.cells #[.int .u8 1] 5)) (Ow.c (one_row w1)) (Nat.le_refl _) (by simp) (Dig.mk (by omega) (by omega) (Dig.nil _)) 1 (by simp [lv]) rfl (by omega) (by omega) (by rw [show bln 1 = 1 from rfl]; omega) (by omega) rfl)
    obtain ⟨m, hm⟩ : ∃ m, (L + s - 1) / s = m := ⟨_, rfl⟩
    rw [hm] at HSg HSg2
    have g1 : ¬ (L : Int) < (b : Int) := h4
    clear hm
    go_wp2_with fail
    refine HOd.out.mono ?_
    rintro e w1 ⟨rfl, hb⟩
    have HB := Lib.hid hb
    have HBs := Lib.hid (HBits.out w1 hb)
    clear hb
    go_wp2_with fail
    refine HBs.out.mono ?_
    rintro e w2 ⟨rfl, hb⟩
    have HB2 := Lib.hid (below_then HB.out HB.out.size hb)
    have HS1 := Lib.hid (HSg.out w2 HB2.out)
    clear hb
    go_wp2_with fail
    refine HS1.out.mono ?_
    rintro e w3 ⟨A2, c2, rfl, q1, q2, q3⟩
    have HB3 := Lib.hid (below_then HB2.out HB2.out.size q3)
    have HS2 := Lib.hid (HSg2.out w3)
    rw [sdL_length] at q1 ⊢
    have q4 : (0 : Int) < (m : Int) + 1 := by omega
    clear q1 q2 q3 HS1
    go_wp2_with fail
    refine HS2.out.mono ?_
    rintro e w4 ⟨A3, c3, rfl, q1, q2, q3⟩
    have HB4 := Lib.hid (below_then (HB3.out.alloc HB3.out.size _) (by simp; exact Nat.le_succ_of_le HB3.out.size) q3)
    rw [sdL_length] at q1 ⊢
    clear q1 q2 q3 HS2
    go_wp2
    go_ret
    exact ⟨rfl, HB4.out⟩
  · rw [decide_eq_false ho] at hod
    have HOd := Lib.hid hod
    clear hod ho
    go_wp2_with fail
    refine HOd.out.mono ?_
    rintro e w1 ⟨rfl, hb⟩
    have HB := Lib.hid hb
    clear hb
    go_wp2
    go_ret
    exact ⟨rfl, HB.out⟩
end Go.Proofs.Ythckboojmljeiaa.Kl
