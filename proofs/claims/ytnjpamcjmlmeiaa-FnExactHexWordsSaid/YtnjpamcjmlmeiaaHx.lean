/- Walks: appendHex, BytesLe2Hex, Uint64Le2Hex. -/
import Derived.Test.YtnjpamcjmlmeiaaFig
namespace Go.Proofs.Ytnjpamcjmlmeiaa.Hx
set_option linter.unusedVariables false
set_option linter.unusedSimpArgs false
open Go.RowKit Go.Proofs.YtnjpamcjmlmeiaaW.PrintWords Go.Proofs.YtnjpamcjmlmeiaaW.PrintLast Go.Proofs.YtnjpamcjmlmeiaaW.PrintMore Go.Proofs.Ytnjpamcjmlmeiaa.Pl Go.Proofs.Ytnjpamcjmlmeiaa.Fig

/-- n digits of a number, the highest first. -/
def hexd : Nat → Int → List Int
  | 0, _ => []
  | n + 1, v => hxd (v / 2 ^ (4 * n) % 16) :: hexd n v
theorem hexd_length (n : Nat) (v : Int) : (hexd n v).length = n := by
  induction n with
  | zero => rfl
  | succ n ih => simp [hexd, ih]

/-- A row of bytes of the call's own, as it grows. -/
def Ba (w0 : World) (v : Value) (xs : List Int) (w : World) : Prop := w.ownsRow w0.heap.size 5 1 v xs.length (nums .u8 xs) ∧ Below w0.heap.size w0 w
theorem Ba.size {w0 w : World} {v : Value} {xs : List Int} (h : Ba w0 v xs w) : w0.heap.size ≤ w.heap.size := h.2.size

theorem and15 (x : Int) (h0 : 0 ≤ x) (h1 : x < 18446744073709551616) : Go.bits .and .u64 x 15 = x % 16 := bits_mask .u64 64 (by decide) wraps_u64 4 (by decide) x h0 h1

theorem hexd_step (i : Nat) (x : Int) (ys : List Int) (u d : Int) {zs : List Int} (h0 : 0 < i) (hd : x / 2 ^ (4 * (i - 1)) % 16 = d) (hu : hxd d = u) (h : ys ++ hexd i x = zs) : Hid (ys ++ [u] ++ hexd (i - 1) x = zs) := by
  obtain ⟨j, rfl⟩ : ∃ j, i = j + 1 := ⟨i - 1, by omega⟩
  simp only [Nat.add_sub_cancel] at hd ⊢
  simp only [hexd, hd, hu] at h
  rw [← h]
  show _ = _
  simp

set_option maxHeartbeats 800000 in
set_option maxRecDepth 100000 in
theorem appendHex (v : Value) (xs : List Int) (x : Int) (n : Nat) (w0 w : World) (h : Ba w0 v xs w) (hx0 : 0 ≤ x) (hx1 : x < 18446744073709551616) (hn : n ≤ 16) (hl : xs.length + n ≤ 1000000) :
    Calls Try.prog 23 #[v, .int .u64 x, .int .i64 (n : Int)] w fun e w' => ∃ v', e = .returned v' ∧ Ba w0 v' (xs ++ hexd n x) w' := by
  have HB := Lib.hid h
  clear h
  go_enter Try.func23, Try.ntmps23
  go_wp2
  go_loopw [0, 7] (fun b t wr => ∃ (i : Nat) (ys : List Int), i ≤ n ∧ t = .int .i64 ((i : Int) - 1) ∧ Hid (Ba w0 b ys wr) ∧ Hid (ys ++ hexd i x = xs ++ hexd n x) ∧ ys.length + i ≤ 1000000) (fun _ t _ => (intOf t + 1).toNat)
  case atStart => exact ⟨n, xs, by omega, rfl, HB.out, rfl, by omega⟩
  case round =>
    obtain ⟨i, ys, hi, rfl, HY, HE, hy⟩ := hrel
    by_cases hlt : 0 < i
    · have b1 : (0 : Int) ≤ (i : Int) - 1 := by omega
      have b1' : (1 : Int) ≤ (i : Int) := by omega
      have b2 : (i : Int) - 1 < 16 := by omega
      have b3 : (4 * ((i : Int) - 1)).toNat = 4 * (i - 1) := by omega
      have hq0 : 0 ≤ x / 2 ^ (4 * (i - 1)) := Int.ediv_nonneg hx0 (Int.le_of_lt (Int.pow_pos (by omega)))
      have hq1 : x / 2 ^ (4 * (i - 1)) < 18446744073709551616 := by
        refine Int.lt_of_le_of_lt (Int.ediv_le_self _ hx0) hx1
      have ha := and15 _ hq0 hq1
      obtain ⟨d, hd⟩ : ∃ d, x / 2 ^ (4 * (i - 1)) % 16 = d := ⟨_, rfl⟩
      rw [hd] at ha
      have d0 : 0 ≤ d := by omega
      have d1 : d < 16 := by omega
      obtain ⟨u, hu⟩ : ∃ u, hxd d = u := ⟨_, rfl⟩
      have g1 : ∀ h : d.toNat < (⟨#[48, 49, 50, 51, 52, 53, 54, 55, 56, 57, 97, 98, 99, 100, 101, 102]⟩ : ByteArray).size, (((⟨#[48, 49, 50, 51, 52, 53, 54, 55, 56, 57, 97, 98, 99, 100, 101, 102]⟩ : ByteArray)[d.toNat]'h).toNat : Int) = u := fun h => (bt_at _ _ h).trans hu
      have HD := Lib.hid hd
      have HU := Lib.hid hu
      have HQ0 := Lib.hid hq0
      have HQ1 := Lib.hid hq1
      clear hd hu hq0 hq1
      go_wp2_with (first | (at_builtin; refine print_append_of (w0 := w0) (Value.int .u8) w0.heap.size rfl (.tmp 14) (.tmp 22) 22 5 (.int .u8 0) 1 rfl Try.underlying22 Be.infoU8 rfl (by decide) u0 ys u rfl rfl rfl ?aO ?aB ?aS ?aL ?_; (case aO => exact HY.out.1); (case aB => exact HY.out.2); (case aS => exact HY.out.size); (case aL => omega); intro v1 w1 ho hb hg hat; have HO1 := Lib.hid (show Ba w0 v1 (ys ++ [u]) w1 from ⟨ho, hb⟩); clear ho hb hg hat))
      go_roundw
      case rel => exact ⟨i - 1, ys ++ [u], by omega, by congr 1; omega, HO1.out, hexd_step i x ys u _ hlt HD.out HU.out HE.out, by rw [List.length_append]; simp; omega⟩
      case measure => simp [intOf]; omega
    · have h0 : i = 0 := by omega
      subst h0
      go_wp2
      go_ret
      exact ⟨_, rfl, by have := HE.out; simp only [hexd, List.append_nil] at this; rw [← this]; exact HY.out⟩

theorem bytes_x : bytesOf (⟨#[48, 120]⟩ : ByteArray) = [48, 120] := rfl
theorem bytes_0 : bytesOf (⟨#[48, 48]⟩ : ByteArray) = [48, 48] := rfl
theorem hexd2 (b : Int) (h0 : 0 ≤ b) (h1 : b < 256) : hexd 2 b = [hxd (b / 16)] ++ [hxd (b % 16)] := by
  have e1 : b / 2 ^ (4 * 1) % 16 = b / 16 := by rw [show (2 : Int) ^ (4 * 1) = 16 from by decide]; omega
  have e2 : b / 2 ^ (4 * 0) % 16 = b % 16 := by simp
  simp only [hexd, e1, e2]
  rfl

theorem figs_append (a b : List Int) : figs (a ++ b) = figs b ++ figs a := by simp [figs]
theorem bytesHex_step (l : List Int) (i : Nat) (x : Int) (h0 : 0 < i) (hi : i ≤ l.length) (hx : l.getD (i - 1) 0 = x) (hr : 0 ≤ x ∧ x < 256) : figs (l.drop (i - 1)) = figs (l.drop i) ++ hexd 2 x := by
  rw [figs_step l i h0 hi, hx, hexd2 x hr.1 hr.2]
  simp
theorem figs_le8 (x : Int) : figs (le8 x) = hexd 16 x := by
  have e : ∀ k : Nat, x / 2 ^ (8 * k) % 256 / 16 = x / 2 ^ (4 * (2 * k + 1)) % 16 := fun k => by
    rw [show 4 * (2 * k + 1) = 8 * k + 4 from by omega, Int.pow_add, ← Int.ediv_ediv_of_nonneg (Int.le_of_lt (Int.pow_pos (by omega))), show (2 : Int) ^ 4 = 16 from by decide]
    omega
  have e' : ∀ k : Nat, x / 2 ^ (8 * k) % 256 % 16 = x / 2 ^ (4 * (2 * k)) % 16 := fun k => by
    rw [show 4 * (2 * k) = 8 * k from by omega]
    omega
  have hle : le8 x = [x / 2 ^ (8 * 0) % 256, x / 2 ^ (8 * 1) % 256, x / 2 ^ (8 * 2) % 256, x / 2 ^ (8 * 3) % 256, x / 2 ^ (8 * 4) % 256, x / 2 ^ (8 * 5) % 256, x / 2 ^ (8 * 6) % 256, x / 2 ^ (8 * 7) % 256] := rfl
  rw [hle]
  simp only [figs, List.reverse_cons, List.reverse_nil, List.nil_append, List.cons_append, List.flatMap_cons, List.flatMap_nil, e, e']
  rfl
theorem wordsHex_step (l : List Int) (i : Nat) (x : Int) (h0 : 0 < i) (hi : i ≤ l.length) (hx : l.getD (i - 1) 0 = x) (_ : 0 ≤ x ∧ x < 18446744073709551616) : figs (low (l.drop (i - 1))) = figs (low (l.drop i)) ++ hexd 16 x := by
  rw [drop_getD l (i - 1) (by omega), show i - 1 + 1 = i from by omega, hx]
  simp only [low]
  rw [figs_append, figs_le8]

set_option maxHeartbeats 1600000 in
set_option maxRecDepth 100000 in
theorem bytesHex0 (A : Option Addr) (c : Nat) (w : World) :
    Calls Try.prog 17 #[.slice A 0 c] w fun e w' => e = .returned (.string (strOfNums [48, 120, 48, 48])) ∧ Below w.heap.size w w' := by
  go_enter Try.func17, Try.ntmps17
  go_upto_if 9 with (first | (at_builtin; refine print_append_str (w0 := w) w.heap.size rfl (.tmp 5) _ 22 9 5 rfl Try.underlying22 Try.underlying9 Be.infoU8 (.slice none 0 0) ([] : List Int) (⟨#[48, 120]⟩ : ByteArray) rfl rfl ?aO ?aB ?aS ?aL ?_; (case aO => exact own_nil _ _ _ _); (case aB => exact Below.refl _ _); (case aS => exact Nat.le_refl _); (case aL => decide); intro v1 w1 ho hb1 hg; rw [bytes_x] at ho; have HO1 := Lib.hid (show Ba w v1 [48, 120] w1 from ⟨ho, hb1⟩); clear ho hb1 hg))
  (try simp only [Act.put, List.setIfInBounds_toArray, List.set_cons_zero, List.set_cons_succ])
  go_wp2_with (first | (at_builtin; refine print_append_str (w0 := w) w.heap.size rfl (.tmp 10) _ 22 9 5 rfl Try.underlying22 Try.underlying9 Be.infoU8 v1 ([48, 120] : List Int) (⟨#[48, 48]⟩ : ByteArray) rfl rfl ?aO ?aB ?aS ?aL ?_; (case aO => exact HO1.out.1); (case aB => exact HO1.out.2); (case aS => exact HO1.out.size); (case aL => decide); intro v2 w2 ho hb1 hg; rw [bytes_0] at ho; have HO2 := Lib.hid (show Ba w v2 [48, 120, 48, 48] w2 from ⟨ho, hb1⟩); clear ho hb1 hg))
  have hcv := own_string (P := Try.prog) (src := 22) (dst := 9) Try.underlying22 Try.underlying5 Try.underlying9 HO2.out.1
  refine wp_loop_rounds 1 ?_
  rw [rounds_succ]
  go_wp2
  go_ret
  exact ⟨rfl, HO2.out.2⟩

set_option maxHeartbeats 1600000 in
set_option maxRecDepth 100000 in
theorem bytesHex1 (A : Option Addr) (n c : Nat) (l : List Int) (w : World) (hr : Kd.C (Kd.int .u8) w A n l) (hd : Dig 256 l) (hl : n ≤ 10000) (h0 : 0 < n) :
    Calls Try.prog 17 #[.slice A n c] w fun e w' => e = .returned (.string (strOfNums ([48, 120] ++ figs l))) ∧ Below w.heap.size w w' := by
  have hn := Lib.hid hr.1
  have HR := Lib.hid hr
  have HD := Lib.hid hd
  clear hr hd
  have hb : ((n : Int) == 0) = false := by rw [beq_eq_false_iff_ne]; omega
  go_enter Try.func17, Try.ntmps17
  go_wp2_with (first | (at_builtin; refine print_append_str (w0 := w) w.heap.size rfl (.tmp 5) _ 22 9 5 rfl Try.underlying22 Try.underlying9 Be.infoU8 (.slice none 0 0) ([] : List Int) (⟨#[48, 120]⟩ : ByteArray) rfl rfl ?aO ?aB ?aS ?aL ?_; (case aO => exact own_nil _ _ _ _); (case aB => exact Below.refl _ _); (case aS => exact Nat.le_refl _); (case aL => decide); intro v1 w1 ho hb1 hg; rw [bytes_x] at ho; have HO1 := Lib.hid (show Ba w v1 [48, 120] w1 from ⟨ho, hb1⟩); clear ho hb1 hg))
  go_loopw [3, 4] (fun v t wr => ∃ i : Nat, i ≤ n ∧ t = .int .i64 ((i : Int) - 1) ∧ Hid (Ba w v ([48, 120] ++ figs (l.drop i)) wr)) (fun _ t _ => (intOf t + 1).toNat)
  case atStart => exact ⟨n, by omega, rfl, by rw [List.drop_of_length_le (by rw [hn.out]; omega)]; exact HO1.out⟩
  case round =>
    clear HO1
    obtain ⟨i, hi, rfl, HB⟩ := hrel
    by_cases hlt : 0 < i
    · obtain ⟨ad, e, hx⟩ := Kd.at_int (Kd.C_below HR.out HB.out.2) ((i : Int) - 1) (by omega) (by omega)
      cases e
      have ht : ((i : Int) - 1).toNat = i - 1 := by omega
      rw [show rd l ((i : Int) - 1) = l.getD (i - 1) 0 from by unfold rd; rw [ht], ht] at hx
      have hxr := HD.out.get (i := i - 1) (by rw [hn.out]; omega)
      obtain ⟨x, hx2⟩ : ∃ x, l.getD (i - 1) 0 = x := ⟨_, rfl⟩
      rw [hx2] at hx hxr
      have HX := Lib.hid hx2
      have HXR := Lib.hid hxr
      have x0 := hxr.1
      have x1 : x < 256 := hxr.2
      clear hx2 hxr
      have b1 : (0 : Int) ≤ (i : Int) - 1 := by omega
      have b1' : (1 : Int) ≤ (i : Int) := by omega
      have b2 : (i : Int) - 1 < (n : Int) := by omega
      have HS := Lib.hid (bytesHex_step l i x hlt (by rw [hn.out]; omega) HX.out HXR.out)
      have hlen : ([48, 120] ++ figs (l.drop i)).length ≤ 900000 := by
        rw [List.length_append, figs_length, List.length_drop]
        have := hn.out
        simp
        omega
      have HL := Lib.hid hlen
      clear hlen
      go_wp2_with (first | (go_at_call 23; refine (appendHex _ _ x 2 w wr HB.out HXR.out.1 (Int.lt_of_lt_of_le HXR.out.2 (by decide)) (by decide) (by have := HL.out; omega)).mono ?_; rintro e w2 ⟨v2, rfl, hq⟩; rw [List.append_assoc, ← HS.out] at hq; have HQ := Lib.hid hq; clear hq))
      go_roundw
      case rel => exact ⟨i - 1, by omega, by congr 1; omega, HQ.out⟩
      case measure => simp [intOf]; omega
    · have h0 : i = 0 := by omega
      subst h0
      rw [List.drop_zero] at HB
      have hcv := own_string (P := Try.prog) (src := 22) (dst := 9) Try.underlying22 Try.underlying5 Try.underlying9 HB.out.1
      go_wp2
      go_ret
      exact ⟨rfl, HB.out.2⟩

set_option maxHeartbeats 1600000 in
set_option maxRecDepth 100000 in
theorem wordsHex0 (A : Option Addr) (c : Nat) (w : World) :
    Calls Try.prog 19 #[.slice A 0 c] w fun e w' => e = .returned (.string (strOfNums [48, 120, 48, 48])) ∧ Below w.heap.size w w' := by
  go_enter Try.func19, Try.ntmps19
  go_upto_if 9 with (first | (at_builtin; refine print_append_str (w0 := w) w.heap.size rfl (.tmp 5) _ 22 9 5 rfl Try.underlying22 Try.underlying9 Be.infoU8 (.slice none 0 0) ([] : List Int) (⟨#[48, 120]⟩ : ByteArray) rfl rfl ?aO ?aB ?aS ?aL ?_; (case aO => exact own_nil _ _ _ _); (case aB => exact Below.refl _ _); (case aS => exact Nat.le_refl _); (case aL => decide); intro v1 w1 ho hb1 hg; rw [bytes_x] at ho; have HO1 := Lib.hid (show Ba w v1 [48, 120] w1 from ⟨ho, hb1⟩); clear ho hb1 hg))
  (try simp only [Act.put, List.setIfInBounds_toArray, List.set_cons_zero, List.set_cons_succ])
  go_wp2_with (first | (at_builtin; refine print_append_str (w0 := w) w.heap.size rfl (.tmp 10) _ 22 9 5 rfl Try.underlying22 Try.underlying9 Be.infoU8 v1 ([48, 120] : List Int) (⟨#[48, 48]⟩ : ByteArray) rfl rfl ?aO ?aB ?aS ?aL ?_; (case aO => exact HO1.out.1); (case aB => exact HO1.out.2); (case aS => exact HO1.out.size); (case aL => decide); intro v2 w2 ho hb1 hg; rw [bytes_0] at ho; have HO2 := Lib.hid (show Ba w v2 [48, 120, 48, 48] w2 from ⟨ho, hb1⟩); clear ho hb1 hg))
  have hcv := own_string (P := Try.prog) (src := 22) (dst := 9) Try.underlying22 Try.underlying5 Try.underlying9 HO2.out.1
  refine wp_loop_rounds 1 ?_
  rw [rounds_succ]
  go_wp2
  go_ret
  exact ⟨rfl, HO2.out.2⟩

set_option maxHeartbeats 1600000 in
set_option maxRecDepth 100000 in
theorem wordsHex1 (A : Option Addr) (n c : Nat) (l : List Int) (w : World) (hr : Kd.C (Kd.int .u64) w A n l) (hd : Dig 18446744073709551616 l) (hl : n ≤ 10000) (h0 : 0 < n) :
    Calls Try.prog 19 #[.slice A n c] w fun e w' => e = .returned (.string (strOfNums ([48, 120] ++ figs (low l)))) ∧ Below w.heap.size w w' := by
  have hn := Lib.hid hr.1
  have HR := Lib.hid hr
  have HD := Lib.hid hd
  clear hr hd
  have hb : ((n : Int) == 0) = false := by rw [beq_eq_false_iff_ne]; omega
  go_enter Try.func19, Try.ntmps19
  go_wp2_with (first | (at_builtin; refine print_append_str (w0 := w) w.heap.size rfl (.tmp 5) _ 22 9 5 rfl Try.underlying22 Try.underlying9 Be.infoU8 (.slice none 0 0) ([] : List Int) (⟨#[48, 120]⟩ : ByteArray) rfl rfl ?aO ?aB ?aS ?aL ?_; (case aO => exact own_nil _ _ _ _); (case aB => exact Below.refl _ _); (case aS => exact Nat.le_refl _); (case aL => decide); intro v1 w1 ho hb1 hg; rw [bytes_x] at ho; have HO1 := Lib.hid (show Ba w v1 [48, 120] w1 from ⟨ho, hb1⟩); clear ho hb1 hg))
  go_loopw [3, 4] (fun v t wr => ∃ i : Nat, i ≤ n ∧ t = .int .i64 ((i : Int) - 1) ∧ Hid (Ba w v ([48, 120] ++ figs (low (l.drop i))) wr)) (fun _ t _ => (intOf t + 1).toNat)
  case atStart => exact ⟨n, by omega, rfl, by rw [List.drop_of_length_le (by rw [hn.out]; omega)]; exact HO1.out⟩
  case round =>
    clear HO1
    obtain ⟨i, hi, rfl, HB⟩ := hrel
    by_cases hlt : 0 < i
    · obtain ⟨ad, e, hx⟩ := Kd.at_int (Kd.C_below HR.out HB.out.2) ((i : Int) - 1) (by omega) (by omega)
      cases e
      have ht : ((i : Int) - 1).toNat = i - 1 := by omega
      rw [show rd l ((i : Int) - 1) = l.getD (i - 1) 0 from by unfold rd; rw [ht], ht] at hx
      have hxr := HD.out.get (i := i - 1) (by rw [hn.out]; omega)
      obtain ⟨x, hx2⟩ : ∃ x, l.getD (i - 1) 0 = x := ⟨_, rfl⟩
      rw [hx2] at hx hxr
      have HX := Lib.hid hx2
      have HXR := Lib.hid hxr
      have x0 := hxr.1
      have x1 : x < 18446744073709551616 := hxr.2
      clear hx2 hxr
      have b1 : (0 : Int) ≤ (i : Int) - 1 := by omega
      have b1' : (1 : Int) ≤ (i : Int) := by omega
      have b2 : (i : Int) - 1 < (n : Int) := by omega
      have HS := Lib.hid (wordsHex_step l i x hlt (by rw [hn.out]; omega) HX.out HXR.out)
      have hlen : ([48, 120] ++ figs (low (l.drop i))).length ≤ 900000 := by
        rw [List.length_append, figs_length, low_length, List.length_drop]
        have := hn.out
        simp
        omega
      have HL := Lib.hid hlen
      clear hlen
      go_wp2_with (first | (go_at_call 23; refine (appendHex _ _ x 16 w wr HB.out HXR.out.1 (Int.lt_of_lt_of_le HXR.out.2 (by decide)) (by decide) (by have := HL.out; omega)).mono ?_; rintro e w2 ⟨v2, rfl, hq⟩; rw [List.append_assoc, ← HS.out] at hq; have HQ := Lib.hid hq; clear hq))
      go_roundw
      case rel => exact ⟨i - 1, by omega, by congr 1; omega, HQ.out⟩
      case measure => simp [intOf]; omega
    · have h0 : i = 0 := by omega
      subst h0
      rw [List.drop_zero] at HB
      have hcv := own_string (P := Try.prog) (src := 22) (dst := 9) Try.underlying22 Try.underlying5 Try.underlying9 HB.out.1
      go_wp2
      go_ret
      exact ⟨rfl, HB.out.2⟩

end Go.Proofs.Ytnjpamcjmlmeiaa.Hx
