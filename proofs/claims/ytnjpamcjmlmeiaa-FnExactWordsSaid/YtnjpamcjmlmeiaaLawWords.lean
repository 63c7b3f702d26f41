/- Proved here: for every slice of bytes, FnExactWords answers true: the words that the package makes of bytes are those of the reference. No condition. -/
import Derived.Test.YtnjpamcjmlmeiaaRows
import Derived.Test.YtnjpamcjmlmeiaaWs
import Derived.Test.YtnjpamcjmlmeiaaPFnExactBytesx1
import Derived.Test.YtnjpamcjmlmeiaaWSized
import Derived.ProofKit
import Derived.OpenShut
import Derived.ChangeOld
import Derived.SizedLaws
namespace Go.Proofs.Ytnjpamcjmlmeiaa.LawWords
open Go.RowKit Go.Proofs.YtnjpamcjmlmeiaaW.PrintWords Go.Proofs.YtnjpamcjmlmeiaaW.PrintLast Go.Proofs.YtnjpamcjmlmeiaaW.PrintMore Go.Proofs.Ytnjpamcjmlmeiaa.Pl Go.Proofs.Ytnjpamcjmlmeiaa.Be Go.Proofs.Ytnjpamcjmlmeiaa.PFnExactBytes

theorem turned_l0 (l : List Int) (hl : l.length ≤ 100000) : ∀ (i k : Nat) (acc : List Int), i ≤ l.length → acc.length + i ≤ 100000 → i < k →
    spec_Turned.l0 k l acc ((i : Int) - 1) = some (acc ++ (l.take i).reverse) := by
  intro i
  induction i with
  | zero =>
    intro k acc _ _ hk
    obtain ⟨k, rfl⟩ : ∃ m, k = m + 1 := ⟨k - 1, by omega⟩
    simp only [spec_Turned.l0]
    rw [if_neg (by omega)]
    simp
  | succ i ih =>
    intro k acc h1 h2 hk
    obtain ⟨k, rfl⟩ : ∃ m, k = m + 1 := ⟨k - 1, by omega⟩
    simp only [spec_Turned.l0]
    rw [show ((i + 1 : Nat) : Int) - 1 = (i : Int) from by omega, if_pos (by omega), if_pos (by omega), if_pos (by omega), if_pos (by omega), w64 (by omega) (by omega), show rd l (i : Int) = l.getD i 0 from by simp [rd]]
    rw [ih k _ (by omega) (by simp; omega) (by omega), take_succ_getD l i (by omega)]
    simp
theorem turned_eq (l : List Int) (hl : l.length ≤ 100000) : spec_Turned.f (l.length + 1) l = some l.reverse := by
  unfold spec_Turned.f
  rw [w64 (by omega) (by omega), turned_l0 l hl l.length _ [] (by omega) (by simpa using hl) (by omega)]
  simp
theorem dig_of_wf {l : List Int} (h : ∀ x ∈ l, (Lit.int .u8 x).wf = true) : Dig 256 l := fun x hx => by
  have := Go.bounds_u8 (h x hx)
  omega

theorem impl_words (A : Option Addr) (c : Nat) (l : List Int) (w : World) (hr : Kd.C (Kd.int .u8) w A l.length l) (hc : l.length ≤ c) (hd : Dig 256 l) (hl : l.length ≤ 100000) :
    Calls Try.prog 12 #[.slice A l.length c] w fun e w' => e = .returned (.slice (some ⟨w.heap.size, 0, none⟩) ((l.length + 7) / 8) ((l.length + 7) / 8)) ∧ Q w ((l.length + 7) / 8) (wds ((l.length + 7) / 8) l.reverse) w' := by
  have h := Lib.hid (be_any A c l w hr hc hd hl)
  clear hr hc hd hl
  go_enter Try.func12, Try.ntmps12
  go_wp2_with (first | (go_at_call 20; refine h.out.mono ?_; rintro e w' ⟨rfl, hq⟩; have HQ := Lib.hid hq; clear hq))
  go_ret
  exact ⟨rfl, HQ.out⟩

theorem Q.c {w wr : World} {m : Nat} {xs : List Int} (h : Q w m xs wr) : Kd.C (Kd.int .u64) wr (some ⟨w.heap.size, 0, none⟩) m xs := by
  have hl : xs.length = m := by have := h.1.1; simpa using this
  refine Kd.C_of_reads (h1 := fun _ => rfl) (d := (0 : Int)) ?_
  have hm : m ≤ 9223372036854775807 := by
    rcases h.1.2 with ⟨h0, _⟩ | ⟨g, cap, cur, _, _, _, h1, h2, _⟩
    · cases h0
    · unfold maxLen at h2; omega
  refine ⟨hl, hm, fun _ => ⟨_, rfl, fun j hj => ?_⟩⟩
  rw [add_plain]
  exact h.cell j hj

set_option maxHeartbeats 400000 in
theorem law (A : Option Addr) (c : Nat) (l : List Int) (w : World) (hr : Kd.C (Kd.int .u8) w A l.length l) (hc : l.length ≤ c) (hd : Dig 256 l) :
    Calls Try.prog 5 #[.slice A l.length c] w fun e w' => e = .returned (.bool true) ∧ Below w.heap.size w w' := by
  by_cases h0 : (l.length : Int) > 2147483647
  · clear hr hc hd
    go_enter Try.func5, Try.ntmps5
    go_wp2
    go_ret
    exact ⟨rfl, Below.refl _ _⟩
  · by_cases h1 : (l.length : Int) > 4096
    · clear hr hc hd
      go_enter Try.func5, Try.ntmps5
      go_wp2
      go_ret
      exact ⟨rfl, Below.refl _ _⟩
    · have HR := Lib.hid hr
      have HC := Lib.hid hc
      have HD := Lib.hid hd
      clear hr hc hd
      have hl : l.length ≤ 4096 := by omega
      go_enter Try.func5, Try.ntmps5
      go_wp2_with fail
      refine (impl_words A c l w HR.out HC.out HD.out (by omega)).mono ?_
      rintro e w1 ⟨rfl, hq⟩
      have HQ := Lib.hid hq
      clear hq
      go_wp2_with fail
      refine (spec_Turned.calls (l.length + 1) A c l l.reverse w1 (Kd.C_below HR.out HQ.out.2) HC.out (turned_eq l (by omega))).mono ?_
      rintro e w2 ⟨v, rfl, hv, hb⟩
      obtain ⟨A2, c2, rfl, hc2, hC2⟩ := Kd.R_reads hv
      rw [List.length_reverse] at hC2 ⊢
      have HV := Lib.hid hC2
      have HB := Lib.hid hb
      clear hv hb hC2 hc2
      go_wp2_with fail
      refine (words A2 l.length c2 l.reverse w2 HV.out HD.out.reverse (by omega)).mono ?_
      rintro e w3 ⟨rfl, hq3⟩
      have HQ3 := Lib.hid hq3
      clear hq3
      go_wp2_with fail
      refine (equal _ _ _ _ _ (wds ((l.length + 7) / 8) l.reverse) w3 (Kd.C_below (Kd.C_below (Q.c HQ.out) HB.out) HQ3.out.2) (Q.c HQ3.out)).mono ?_
      rintro e w4 ⟨rfl, hd4⟩
      have HD4 := Lib.hid hd4
      clear hd4
      go_wp2
      go_ret
      exact ⟨rfl, below_then (below_then (below_then HQ.out.2 HQ.out.2.size HB.out) (below_then HQ.out.2 HQ.out.2.size HB.out).size HQ3.out.2) (below_then (below_then HQ.out.2 HQ.out.2.size HB.out) (below_then HQ.out.2 HQ.out.2.size HB.out).size HQ3.out.2).size HD4.out.below⟩

end Go.Proofs.Ytnjpamcjmlmeiaa.LawWords
