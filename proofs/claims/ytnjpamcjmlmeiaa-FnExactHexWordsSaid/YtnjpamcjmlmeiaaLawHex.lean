/- The laws FnExactHex, FnExactHexWords: walks. -/
import Derived.Test.YtnjpamcjmlmeiaaRows
import Derived.Test.YtnjpamcjmlmeiaaHx
import Derived.Test.YtnjpamcjmlmeiaaTu
import Derived.Test.YtnjpamcjmlmeiaaEq
import Derived.ProofKit
import Derived.OpenShut
import Derived.ChangeOld
namespace Go.Proofs.Ytnjpamcjmlmeiaa.LawHex
set_option linter.unusedVariables false
set_option linter.unusedSimpArgs false
open Go.RowKit Go.Proofs.YtnjpamcjmlmeiaaW.PrintWords Go.Proofs.YtnjpamcjmlmeiaaW.PrintLast Go.Proofs.YtnjpamcjmlmeiaaW.PrintMore Go.Proofs.Ytnjpamcjmlmeiaa.Pl Go.Proofs.Ytnjpamcjmlmeiaa.Fig Go.Proofs.Ytnjpamcjmlmeiaa.Hx Go.Proofs.Ytnjpamcjmlmeiaa.Tu Go.Proofs.Ytnjpamcjmlmeiaa.PFnExactBytes

theorem dig8 {l : List Int} (h : ∀ x ∈ l, (Lit.int .u8 x).wf = true) : Dig 256 l := fun x hx => by
  have := Go.bounds_u8 (h x hx)
  omega
theorem dig64 {l : List Int} (h : ∀ x ∈ l, (Lit.int .u64 x).wf = true) : Dig 18446744073709551616 l := fun x hx => by
  have := Go.bounds_u64 (h x hx)
  omega

theorem implHex (A : Option Addr) (n c : Nat) (l : List Int) (w : World) (hr : Kd.C (Kd.int .u8) w A n l) (hd : Dig 256 l) (hl : n ≤ 10000) :
    Calls Try.prog 7 #[.slice A n c] w fun e w' => e = .returned (.string (strOfNums (hexL l))) ∧ Below w.heap.size w w' := by
  have h : Calls Try.prog 17 #[.slice A n c] w fun e w' => e = .returned (.string (strOfNums (hexL l))) ∧ Below w.heap.size w w' := by
    by_cases h0 : n = 0
    · subst h0
      have he : hexL l = [48, 120, 48, 48] := by rw [List.eq_nil_of_length_eq_zero hr.1]; rfl
      rw [he]
      exact bytesHex0 A c w
    · have he : hexL l = [48, 120] ++ figs l := by
        unfold hexL
        rw [if_neg (fun h => h0 (by rw [← hr.1, h]; rfl))]
      rw [he]
      exact bytesHex1 A n c l w hr hd hl (by omega)
  have H := Lib.hid h
  clear h hr hd hl
  go_enter Try.func7, Try.ntmps7
  go_wp2_with (first | (go_at_call 17; refine H.out.mono ?_; rintro e w' ⟨rfl, hb⟩; have HB := Lib.hid hb; clear hb))
  go_ret
  exact ⟨rfl, HB.out⟩
theorem implHexWords (A : Option Addr) (n c : Nat) (l : List Int) (w : World) (hr : Kd.C (Kd.int .u64) w A n l) (hd : Dig 18446744073709551616 l) (hl : n ≤ 10000) :
    Calls Try.prog 9 #[.slice A n c] w fun e w' => e = .returned (.string (strOfNums (hexL (low l)))) ∧ Below w.heap.size w w' := by
  have h : Calls Try.prog 19 #[.slice A n c] w fun e w' => e = .returned (.string (strOfNums (hexL (low l)))) ∧ Below w.heap.size w w' := by
    by_cases h0 : n = 0
    · subst h0
      have he : hexL (low l) = [48, 120, 48, 48] := by rw [List.eq_nil_of_length_eq_zero hr.1]; rfl
      rw [he]
      exact wordsHex0 A c w
    · have he : hexL (low l) = [48, 120] ++ figs (low l) := by
        unfold hexL
        rw [if_neg (fun h => h0 (by have h1 := low_length l; rw [h] at h1; have := hr.1; simp at h1; omega))]
      rw [he]
      exact wordsHex1 A n c l w hr hd hl (by omega)
  have H := Lib.hid h
  clear h hr hd hl
  go_enter Try.func9, Try.ntmps9
  go_wp2_with (first | (go_at_call 19; refine H.out.mono ?_; rintro e w' ⟨rfl, hb⟩; have HB := Lib.hid hb; clear hb))
  go_ret
  exact ⟨rfl, HB.out⟩

set_option maxHeartbeats 400000 in
theorem law (A : Option Addr) (c : Nat) (l : List Int) (w : World) (hr : Kd.C (Kd.int .u8) w A l.length l) (hc : l.length ≤ c) (hd : Dig 256 l) :
    Calls Try.prog 3 #[.slice A l.length c] w fun e w' => e = .returned (.bool true) ∧ Below w.heap.size w w' := by
  by_cases h0 : (l.length : Int) > 2147483647
  · clear hr hc hd
    go_enter Try.func3, Try.ntmps3
    go_wp2
    go_ret
    exact ⟨rfl, Below.refl _ _⟩
  · by_cases h1 : (l.length : Int) > 4096
    · clear hr hc hd
      go_enter Try.func3, Try.ntmps3
      go_wp2
      go_ret
      exact ⟨rfl, Below.refl _ _⟩
    · have HR := Lib.hid hr
      have HD := Lib.hid hd
      clear hr hc hd
      have hl : l.length ≤ 4096 := by omega
      obtain ⟨S, hS⟩ : ∃ S, strOfNums (hexL l) = S := ⟨_, rfl⟩
      have HS := Lib.hid hS
      clear hS
      go_enter Try.func3, Try.ntmps3
      go_wp2_with fail
      refine (implHex A l.length c l w HR.out HD.out (by omega)).mono ?_
      rw [HS.out]
      rintro e w1 ⟨rfl, hb⟩
      have HB := Lib.hid hb
      clear hb
      go_wp2_with fail
      refine (hex A l.length c l w1 (Kd.C_below HR.out HB.out) HD.out (by omega)).mono ?_
      rw [HS.out]
      rintro e w2 ⟨rfl, q, rfl⟩
      go_wp2
      go_ret
      exact ⟨rfl, pw_below_drewN HB.out q⟩

set_option maxHeartbeats 400000 in
theorem lawWords (A : Option Addr) (c : Nat) (l : List Int) (w : World) (hr : Kd.C (Kd.int .u64) w A l.length l) (hc : l.length ≤ c) (hd : Dig 18446744073709551616 l) :
    Calls Try.prog 4 #[.slice A l.length c] w fun e w' => e = .returned (.bool true) ∧ Below w.heap.size w w' := by
  by_cases h0 : (l.length : Int) > 2147483647
  · clear hr hc hd
    go_enter Try.func4, Try.ntmps4
    go_wp2
    go_ret
    exact ⟨rfl, Below.refl _ _⟩
  · by_cases h1 : (l.length : Int) > 4096
    · clear hr hc hd
      go_enter Try.func4, Try.ntmps4
      go_wp2
      go_ret
      exact ⟨rfl, Below.refl _ _⟩
    · have HR := Lib.hid hr
      have HC := Lib.hid hc
      have HD := Lib.hid hd
      clear hr hc hd
      have hl : l.length ≤ 4096 := by omega
      have HL := Lib.hid (low_eq l HD.out (by omega))
      obtain ⟨S, hS⟩ : ∃ S, strOfNums (hexL (low l)) = S := ⟨_, rfl⟩
      have HS := Lib.hid hS
      clear hS
      go_enter Try.func4, Try.ntmps4
      go_wp2_with fail
      refine (implHexWords A l.length c l w HR.out HD.out (by omega)).mono ?_
      rw [HS.out]
      rintro e w1 ⟨rfl, hb⟩
      have HB := Lib.hid hb
      clear hb
      go_wp2_with fail
      refine (spec_Low.calls _ A c l (low l) w1 (Kd.C_below HR.out HB.out) HC.out HL.out).mono ?_
      rintro e w3 ⟨v, rfl, hv, hb3⟩
      obtain ⟨A2, c2, rfl, hc2, hC2⟩ := Kd.R_reads hv
      have HV := Lib.hid hC2
      have HB3 := Lib.hid (below_then HB.out HB.out.size hb3)
      clear hv hb3 hC2 hc2
      go_wp2_with fail
      refine (hex A2 _ c2 (low l) w3 HV.out (low_dig l) (by rw [low_length]; omega)).mono ?_
      rw [HS.out]
      rintro e w2 ⟨rfl, q, rfl⟩
      go_wp2
      go_ret
      exact ⟨rfl, pw_below_drewN HB3.out q⟩
end Go.Proofs.Ytnjpamcjmlmeiaa.LawHex
