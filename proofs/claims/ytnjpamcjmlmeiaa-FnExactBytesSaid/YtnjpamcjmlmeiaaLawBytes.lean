/- For every slice of words: FnExactBytes answers true: the bytes that the package makes of words, the lowest or the highest first, are those of the reference. -/
import Derived.Test.YtnjpamcjmlmeiaaRows
import Derived.Test.YtnjpamcjmlmeiaaLe
import Derived.Test.YtnjpamcjmlmeiaaTu
import Derived.Test.YtnjpamcjmlmeiaaWSized
import Derived.ProofKit
import Derived.OpenShut
import Derived.ChangeOld
namespace Go.Proofs.Ytnjpamcjmlmeiaa.LawBytes
set_option linter.unusedVariables false
set_option linter.unusedSimpArgs false
open Go.RowKit Go.Proofs.YtnjpamcjmlmeiaaW.PrintWords Go.Proofs.YtnjpamcjmlmeiaaW.PrintLast Go.Proofs.YtnjpamcjmlmeiaaW.PrintMore Go.Proofs.Ytnjpamcjmlmeiaa.Pl Go.Proofs.Ytnjpamcjmlmeiaa.Be Go.Proofs.Ytnjpamcjmlmeiaa.Ow Go.Proofs.Ytnjpamcjmlmeiaa.Tu Go.Proofs.Ytnjpamcjmlmeiaa.PFnExactBytes

theorem dig_of_wf {l : List Int} (h : ∀ x ∈ l, (Lit.int .u64 x).wf = true) : Dig 18446744073709551616 l := fun x hx => by
  have := Go.bounds_u64 (h x hx)
  omega

set_option maxHeartbeats 400000 in
theorem law (A : Option Addr) (c : Nat) (l : List Int) (b : Bool) (w : World) (hr : Kd.C (Kd.int .u64) w A l.length l) (hc : l.length ≤ c) (hd : Dig 18446744073709551616 l) :
    Calls Try.prog 6 #[.slice A l.length c, .bool b] w fun e w' => e = .returned (.bool true) ∧ Below w.heap.size w w' := by
  by_cases h0 : (l.length : Int) > 2147483647
  · clear hr hc hd
    go_enter Try.func6, Try.ntmps6
    go_wp2
    go_ret
    exact ⟨rfl, Below.refl _ _⟩
  · by_cases h1 : (l.length : Int) > 4096
    · clear hr hc hd
      go_enter Try.func6, Try.ntmps6
      go_wp2
      go_ret
      exact ⟨rfl, Below.refl _ _⟩
    · have HR := Lib.hid hr
      have HC := Lib.hid hc
      have HD := Lib.hid hd
      clear hr hc hd
      have hl : l.length ≤ 4096 := by omega
      have HL := Lib.hid (low_eq l HD.out (by omega))
      cases b
      · go_enter Try.func6, Try.ntmps6
        go_wp2_with fail
        refine (spec_Low.calls _ A c l (low l) w HR.out HC.out HL.out).mono ?_
        rintro e w1 ⟨v, rfl, hv, hb⟩
        obtain ⟨A2, c2, rfl, hc2, hC2⟩ := Kd.R_reads hv
        have HV := Lib.hid hC2
        have HB := Lib.hid hb
        clear hv hb hC2 hc2
        go_wp2_with fail
        refine (impl_le A l.length c l w1 (Kd.C_below HR.out HB.out) HD.out (by omega)).mono ?_
        rintro e w2 ⟨rfl, hq, hb⟩
        have HQ := Lib.hid hq
        have HB2 := Lib.hid hb
        clear hq hb
        go_wp2_with fail
        have hln := low_length l
        rw [hln] at HV ⊢
        refine (equal8 _ _ _ _ _ (low l) w2 HQ.out.c (Kd.C_below HV.out HB2.out)).mono ?_
        rintro e w3 ⟨rfl, hd3⟩
        have HD3 := Lib.hid hd3
        clear hd3 hln
        go_wp2
        go_ret
        exact ⟨rfl, below_then (below_then HB.out HB.out.size HB2.out) (below_then HB.out HB.out.size HB2.out).size HD3.out.below⟩
      · go_enter Try.func6, Try.ntmps6
        go_wp2_with fail
        refine (spec_Low.calls _ A c l (low l) w HR.out HC.out HL.out).mono ?_
        rintro e w1 ⟨v, rfl, hv, hb⟩
        obtain ⟨A2, c2, rfl, hc2, hC2⟩ := Kd.R_reads hv
        have HV := Lib.hid hC2
        have HB := Lib.hid hb
        have HC2 := Lib.hid hc2
        clear hv hb hC2 hc2
        go_wp2_with fail
        refine (spec_Turned.calls _ A2 c2 (low l) (low l).reverse w1 HV.out HC2.out (turned_eq (low l) (by rw [low_length]; omega))).mono ?_
        rintro e w4 ⟨v, rfl, hv, hb⟩
        obtain ⟨A4, c4, rfl, hc4, hC4⟩ := Kd.R_reads hv
        have HV4 := Lib.hid hC4
        have HB4 := Lib.hid (below_then HB.out HB.out.size hb)
        clear hv hb hC4 hc4
        go_wp2_with fail
        refine (impl_be A l.length c l w4 (Kd.C_below HR.out HB4.out) HD.out (by omega)).mono ?_
        rintro e w2 ⟨rfl, hq, hb⟩
        have HQ := Lib.hid hq
        have HB2 := Lib.hid hb
        clear hq hb
        go_wp2_with fail
        have hln : (low l).reverse.length = 8 * l.length := by rw [List.length_reverse, low_length]
        rw [hln] at HV4
        rw [low_length]
        refine (equal8 _ _ _ _ _ (low l).reverse w2 HQ.out.c (Kd.C_below HV4.out HB2.out)).mono ?_
        rintro e w3 ⟨rfl, hd3⟩
        have HD3 := Lib.hid hd3
        clear hd3 hln
        go_wp2
        go_ret
        exact ⟨rfl, below_then (below_then HB4.out HB4.out.size HB2.out) (below_then HB4.out HB4.out.size HB2.out).size HD3.out.below⟩
end Go.Proofs.Ytnjpamcjmlmeiaa.LawBytes
