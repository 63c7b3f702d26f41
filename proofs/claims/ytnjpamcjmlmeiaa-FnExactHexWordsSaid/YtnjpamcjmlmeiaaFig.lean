/- Walks: spec.figures, spec.Hex. -/
import Derived.Test.YtnjpamcjmlmeiaaBe
import Derived.WalkLawsBesides
namespace Go.Proofs.Ytnjpamcjmlmeiaa.Fig
set_option linter.unusedVariables false
set_option linter.unusedSimpArgs false
open Go.RowKit Go.Proofs.YtnjpamcjmlmeiaaW.PrintWords Go.Proofs.YtnjpamcjmlmeiaaW.PrintLast Go.Proofs.YtnjpamcjmlmeiaaW.PrintMore Go.Proofs.Ytnjpamcjmlmeiaa.Pl

def hs : ByteArray := ⟨#[48, 49, 50, 51, 52, 53, 54, 55, 56, 57, 97, 98, 99, 100, 101, 102]⟩
def hxd (d : Int) : Int := bt hs d
def figs (l : List Int) : List Int := l.reverse.flatMap fun b => [hxd (b / 16), hxd (b % 16)]

theorem hxd_range (d : Int) (h0 : 0 ≤ d) (h1 : d < 16) : 0 ≤ hxd d ∧ hxd d < 128 := by
  obtain ⟨n, rfl⟩ := Int.eq_ofNat_of_zero_le h0
  have hn : n < 16 := by omega
  have : n = 0 ∨ n = 1 ∨ n = 2 ∨ n = 3 ∨ n = 4 ∨ n = 5 ∨ n = 6 ∨ n = 7 ∨ n = 8 ∨ n = 9 ∨ n = 10 ∨ n = 11 ∨ n = 12 ∨ n = 13 ∨ n = 14 ∨ n = 15 := by omega
  rcases this with rfl | rfl | rfl | rfl | rfl | rfl | rfl | rfl | rfl | rfl | rfl | rfl | rfl | rfl | rfl | rfl <;> exact ⟨by decide, by decide⟩
theorem enc_one (d : Int) (h0 : 0 ≤ d) (h1 : d < 128) : Utf8.encode d = strOfNums [d] := by
  unfold Utf8.encode
  have hv : Utf8.valid d = true := by simp [Utf8.valid]; omega
  rw [hv]
  simp only [if_true]
  rw [if_pos (by omega)]
  rfl
theorem str_append (a b : List Int) : strOfNums a ++ strOfNums b = strOfNums (a ++ b) := by
  apply ByteArray.ext
  simp [strOfNums]

theorem figs_step (l : List Int) (i : Nat) (h0 : 0 < i) (hi : i ≤ l.length) : figs (l.drop (i - 1)) = figs (l.drop i) ++ [hxd (l.getD (i - 1) 0 / 16)] ++ [hxd (l.getD (i - 1) 0 % 16)] := by
  rw [drop_getD l (i - 1) (by omega), show i - 1 + 1 = i from by omega]
  simp [figs]
theorem figs_length (l : List Int) : (figs l).length = 2 * l.length := by
  have : ∀ r : List Int, (r.flatMap fun b => [hxd (b / 16), hxd (b % 16)]).length = 2 * r.length := by
    intro r
    induction r with
    | nil => rfl
    | cons x r ih => rw [List.flatMap_cons, List.length_append, ih]; simp; omega
  rw [figs, this, List.length_reverse]

set_option maxHeartbeats 800000 in
set_option maxRecDepth 100000 in
theorem figures (A : Option Addr) (n c : Nat) (l : List Int) (w : World) (hr : Kd.C (Kd.int .u8) w A n l) (hd : Dig 256 l) (hl : n ≤ 100000) :
    Calls Try.prog 18 #[.slice A n c] w fun e w' => e = .returned (.string (strOfNums (figs l))) ∧ ∃ q, w' = w.drewN q := by
  have hn := Lib.hid hr.1
  have HR := Lib.hid hr
  have HD := Lib.hid hd
  clear hr hd
  go_enter Try.func18, Try.ntmps18
  go_wp2
  go_outline
  go_loopw [3, 4] (fun o t wr => ∃ i : Nat, i ≤ n ∧ t = .int .i64 ((i : Int) - 1) ∧ o = .string (strOfNums (figs (l.drop i))) ∧ ∃ q, wr = w.drewN q) (fun _ t _ => (intOf t + 1).toNat)
  case atStart => exact ⟨n, by omega, rfl, by rw [List.drop_of_length_le (by rw [hn.out]; omega)]; rfl, 0, rfl⟩
  case round =>
    obtain ⟨i, hi, rfl, rfl, q, rfl⟩ := hrel
    by_cases hlt : 0 < i
    · obtain ⟨ad, e, hx⟩ := Kd.at_int HR.out ((i : Int) - 1) (by omega) (by omega)
      cases e
      have ht : ((i : Int) - 1).toNat = i - 1 := by omega
      rw [show rd l ((i : Int) - 1) = l.getD (i - 1) 0 from by unfold rd; rw [ht], ht] at hx
      have hxr := HD.out.get (i := i - 1) (by rw [hn.out]; omega)
      obtain ⟨x, hx2⟩ : ∃ x, l.getD (i - 1) 0 = x := ⟨_, rfl⟩
      rw [hx2] at hx hxr
      have Hx := Lib.hid hx2
      have Hxr := Lib.hid hxr
      have x0 := hxr.1
      have x1 := hxr.2
      clear hx2 hxr
      have b1 : (0 : Int) ≤ (i : Int) - 1 := by omega
      have b1' : (1 : Int) ≤ (i : Int) := by omega
      have b2 : (i : Int) - 1 < (n : Int) := by omega
      have c1 : (0 : Int) ≤ x / 16 := by omega
      have c2 : x / 16 < 16 := by omega
      have c3 : (0 : Int) ≤ x % 16 := by omega
      have c4 : x % 16 < 16 := by omega
      have hsl := figs_length (l.drop i)
      have HF := Lib.hid (figs_step l i hlt (by rw [hn.out]; omega))
      obtain ⟨S, hS⟩ : ∃ S, strOfNums (figs (l.drop i)) = S := ⟨_, rfl⟩
      have hsz : S.size ≤ 300000 := by
        rw [← hS, strOfNums_size, hsl, List.length_drop]
        have := hn.out
        omega
      rw [hS]
      have HS := Lib.hid hS
      clear hS hsl
      have r1 := hxd_range (x / 16) c1 c2
      have r2 := hxd_range (x % 16) c3 c4
      have e1 := enc_one (hxd (x / 16)) r1.1 r1.2
      have e2 := enc_one (hxd (x % 16)) r2.1 r2.2
      have z1 : (strOfNums [hxd (x / 16)]).size = 1 := strOfNums_size _
      have z2 : (strOfNums [hxd (x % 16)]).size = 1 := strOfNums_size _
      obtain ⟨d1, hd1⟩ : ∃ d, hxd (x / 16) = d := ⟨_, rfl⟩
      obtain ⟨d2, hd2⟩ : ∃ d, hxd (x % 16) = d := ⟨_, rfl⟩
      have g1 : ∀ h : (x / 16).toNat < (⟨#[48, 49, 50, 51, 52, 53, 54, 55, 56, 57, 97, 98, 99, 100, 101, 102]⟩ : ByteArray).size, (((⟨#[48, 49, 50, 51, 52, 53, 54, 55, 56, 57, 97, 98, 99, 100, 101, 102]⟩ : ByteArray)[(x / 16).toNat]'h).toNat : Int) = d1 := fun h => (bt_at _ _ h).trans hd1
      have g2 : ∀ h : (x % 16).toNat < (⟨#[48, 49, 50, 51, 52, 53, 54, 55, 56, 57, 97, 98, 99, 100, 101, 102]⟩ : ByteArray).size, (((⟨#[48, 49, 50, 51, 52, 53, 54, 55, 56, 57, 97, 98, 99, 100, 101, 102]⟩ : ByteArray)[(x % 16).toNat]'h).toNat : Int) = d2 := fun h => (bt_at _ _ h).trans hd2
      rw [hd1] at e1 z1
      rw [hd2] at e2 z2
      obtain ⟨u1, hu1⟩ : ∃ u, strOfNums [d1] = u := ⟨_, rfl⟩
      obtain ⟨u2, hu2⟩ : ∃ u, strOfNums [d2] = u := ⟨_, rfl⟩
      rw [hu1] at e1 z1
      rw [hu2] at e2 z2
      have HU1 := Lib.hid hu1
      have HU2 := Lib.hid hu2
      have HD1 := Lib.hid hd1
      have HD2 := Lib.hid hd2
      clear hu1 hu2 hd1 hd2 r1 r2
      have l1 : ¬ 9223372036854775807 < S.size + 1 := by omega
      have l2 : ¬ 9223372036854775807 < S.size + 1 + 1 := by omega
      go_wp2
      go_quiet (fail)
      go_wp2
      go_roundw
      case rel => exact ⟨i - 1, by omega, by congr 1; omega, by rw [HF.out, ← str_append, ← str_append, HS.out, Hx.out, HD1.out, HD2.out, HU1.out, HU2.out], _, rfl⟩
      case measure => simp [intOf]; omega
    · have h0 : i = 0 := by omega
      subst h0
      go_wp2
      go_ret
      exact ⟨rfl, _, rfl⟩

/-- What Hex tells. -/
def hexL (l : List Int) : List Int := if l = [] then [48, 120, 48, 48] else [48, 120] ++ figs l

set_option maxHeartbeats 400000 in
set_option maxRecDepth 100000 in
theorem hex (A : Option Addr) (n c : Nat) (l : List Int) (w : World) (hr : Kd.C (Kd.int .u8) w A n l) (hd : Dig 256 l) (hl : n ≤ 100000) :
    Calls Try.prog 8 #[.slice A n c] w fun e w' => e = .returned (.string (strOfNums (hexL l))) ∧ ∃ q, w' = w.drewN q := by
  have hn := Lib.hid hr.1
  have HF := Lib.hid (figures A n c l w hr hd hl)
  clear hr hd
  by_cases h0 : n = 0
  · subst h0
    have he : hexL l = [48, 120, 48, 48] := by rw [List.eq_nil_of_length_eq_zero hn.out]; rfl
    rw [he]
    go_enter Try.func8, Try.ntmps8
    go_wp2
    go_ret
    exact ⟨rfl, 0, rfl⟩
  · have hb : ((n : Int) == 0) = false := by rw [beq_eq_false_iff_ne]; omega
    have he : hexL l = [48, 120] ++ figs l := by
      unfold hexL
      rw [if_neg (fun h => h0 (by rw [← hn.out, h]; rfl))]
    rw [he, ← str_append]
    have hsz : (strOfNums (figs l)).size ≤ 300000 := by rw [strOfNums_size, figs_length, hn.out]; omega
    obtain ⟨S, hS⟩ : ∃ S, strOfNums (figs l) = S := ⟨_, rfl⟩
    rw [hS] at HF hsz ⊢
    have l1 : ¬ 9223372036854775807 < 2 + S.size := by omega
    clear hS he
    go_enter Try.func8, Try.ntmps8
    go_wp2_with (first | (go_at_call 18; refine HF.out.mono ?_; rintro e w' ⟨rfl, q, rfl⟩))
    go_ret
    exact ⟨rfl, q, rfl⟩
end Go.Proofs.Ytnjpamcjmlmeiaa.Fig
