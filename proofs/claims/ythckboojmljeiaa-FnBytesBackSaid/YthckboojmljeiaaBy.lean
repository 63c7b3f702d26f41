/- Walks: nat.bytes, Int.Bytes. -/
import Derived.Test.YthckboojmljeiaaNb
import Derived.Test.YthckboojmljeiaaOw
namespace Go.Proofs.Ythckboojmljeiaa.By
set_option linter.unusedVariables false
set_option linter.unusedSimpArgs false
open Go.RowKit Go.Proofs.YthckboojmljeiaaW.PrintWords Go.Proofs.YthckboojmljeiaaW.PrintLast Go.Proofs.YthckboojmljeiaaW.PrintMore Go.Proofs.Ythckboojmljeiaa.Pl Go.Proofs.Ythckboojmljeiaa.Dg Go.Proofs.Ythckboojmljeiaa.Mem Go.Proofs.Ythckboojmljeiaa.Na Go.Proofs.Ythckboojmljeiaa.Nb Go.Proofs.Ythckboojmljeiaa.Be Go.Proofs.Ythckboojmljeiaa.Ow

theorem low_getD (l : List Int) (k j : Nat) (hk : k < l.length) (hj : j < 8) : (low l).getD (8 * k + j) 0 = l.getD k 0 / 2 ^ (8 * j) % 256 := by
  induction l generalizing k with
  | nil => simp at hk
  | cons v r ih =>
    simp only [low]
    cases k with
    | zero =>
      rw [List.getD_eq_getElem?_getD, List.getElem?_append_left (by rw [le8_length]; omega), ← List.getD_eq_getElem?_getD, Nat.mul_zero, Nat.zero_add, le8_get _ _ hj]
      rfl
    | succ k =>
      rw [List.getD_eq_getElem?_getD, List.getElem?_append_right (by rw [le8_length]; omega), le8_length, show 8 * (k + 1) + j - 8 = 8 * k + j from by omega, ← List.getD_eq_getElem?_getD, ih k (by simpa using hk)]
      rfl

/-- k bytes are laid, the lowest last. -/
def Bt (w wr : World) (g m : Nat) (L : List Int) (k : Nat) : Prop := ∃ cur, Ow .u8 5 w.heap.size g m cur wr ∧ cur.drop (m - k) = (L.take k).reverse ∧ Below w.heap.size w wr
theorem Bt.put {w wr : World} {g m k : Nat} {L : List Int} (h : Bt w wr g m L k) (hk : k < m) (hL : k < L.length) (x : Int) (hx : L.getD k 0 = x) : Bt w (wr.setCell ⟨g, m - k - 1, none⟩ (.int .u8 x)) g m L (k + 1) := by
  obtain ⟨cur, h1, h2, h3⟩ := h
  refine ⟨_, h1.put (m - k - 1) x, ?_, h3.setCell h1.base.1 _⟩
  have hl := h1.len
  rw [take_succ_getD L k hL, List.reverse_append, hx, ← h2, drop_getD _ (m - (k + 1)) (by rw [List.length_set]; omega), show m - (k + 1) = m - k - 1 from by omega, List.getD_eq_getElem?_getD, List.getElem?_set_self (by omega)]
  rw [show m - k - 1 + 1 = m - k from by omega, List.drop_set_of_lt (by omega)]
  rfl
theorem Bt.has {w wr : World} {g m k : Nat} {L : List Int} (h : Bt w wr g m L k) (i : Nat) (hi : i < m) : (∃ u, wr.cell? ⟨g, i, none⟩ = some (.int .u8 u)) ∧ wr.frozen? ⟨g, i, none⟩ = false := by
  obtain ⟨cur, h1, h2, h3⟩ := h
  exact ⟨h1.has i hi, h1.free i⟩
theorem Bt.drewN {w wr : World} {g m k : Nat} {L : List Int} (h : Bt w wr g m L k) (q : Nat) : Bt w (wr.drewN q) g m L k := by
  obtain ⟨cur, h1, h2, h3⟩ := h
  exact ⟨cur, h1.drewN q, h2, pw_below_drewN h3 q⟩
theorem Bt.all {w wr : World} {g m : Nat} {L : List Int} (h : Bt w wr g m L m) (hL : L.length = m) : Ow .u8 5 w.heap.size g m L.reverse wr ∧ Below w.heap.size w wr := by
  obtain ⟨cur, h1, h2, h3⟩ := h
  rw [Nat.sub_self, List.drop_zero, List.take_of_length_le (by omega)] at h2
  subst h2
  exact ⟨h1, h3⟩

theorem Bt.back {w wr : World} {g m : Nat} {L : List Int} (h : Ow .u8 5 w.heap.size g m L.reverse wr ∧ Below w.heap.size w wr) : Bt w wr g m L m :=
  ⟨_, h.1, by have := h.1.len; rw [List.length_reverse] at this; rw [Nat.sub_self, List.drop_zero, List.take_of_length_le (by omega)], h.2⟩
theorem byte_step (v : Int) (j : Nat) : v / 2 ^ (8 * j) / 256 = v / 2 ^ (8 * (j + 1)) := by
  rw [show 8 * (j + 1) = 8 * j + 8 from by omega, Int.pow_add, Int.ediv_ediv_of_nonneg]
  · rfl
  · exact Int.pow_nonneg (by omega)

/-- Without noughts ahead. -/
def strip (l : List Int) : List Int := l.dropWhile (fun x => x == 0)

set_option maxHeartbeats 1000000 in
set_option maxRecDepth 100000 in
theorem bytes_any (w0 w : World) (g n m : Nat) (A : Option Addr) (c : Nat) (l : List Int) (hA : Kd.C (Kd.int .u64) w0 A n l) (hd : DW l) (hn : n ≤ 100000) (hm : m = 8 * n) (h : Bt w0 w g m (low l) 0) :
    Calls Try.prog 49 #[.slice A n c, .slice (some ⟨g, 0, none⟩) m m] w fun e w' => ∃ i : Nat, e = .returned (.int .i64 (i : Int)) ∧ Bt w0 w' g m (low l) m ∧ i ≤ m ∧ (low l).reverse.drop i = strip (low l).reverse := by
  have hl := hA.1
  have HMN := Lib.hid hm
  have hm1 : m ≤ 8 * n := by omega
  have hm2 : 8 * n ≤ m := by omega
  clear hm
  have HA := Lib.hid hA
  have HD := Lib.hid hd
  have HB := Lib.hid h
  have HL := Lib.hid hl
  have HLL := Lib.hid (low_length l)
  clear hA hd h hl
  go_enter Try.func49, Try.ntmps49
  go_wp2_with fail
  go_loopw [4, 12] (fun t u wr => ∃ k : Nat, k ≤ n ∧ t = .int .i64 ((m : Int) - 8 * (k : Int)) ∧ u = .int .i64 (k : Int) ∧ Hid (Bt w0 wr g m (low l) (8 * k))) (fun _ u _ => n - (intOf u).toNat)
  case atStart => exact ⟨0, by omega, by simp, rfl, HB.out⟩
  case round =>
    clear HB
    obtain ⟨k, hk, rfl, rfl, HB⟩ := hrel
    have hlow : Below w0.heap.size w0 wr := by obtain ⟨_, _, _, h⟩ := HB.out; exact h
    by_cases hlt : k < n
    · obtain ⟨ad, e, hx⟩ := Kd.at_int (Kd.C_below HA.out hlow) (k : Int) (by omega) (by omega)
      subst e
      rw [show rd l (k : Int) = l.getD k 0 from by simp [rd], Int.toNat_natCast] at hx
      obtain ⟨x, hx2⟩ : ∃ x, l.getD k 0 = x := ⟨_, rfl⟩
      have hxr := HD.out.get (i := k) (by rw [HL.out]; exact hlt)
      rw [hx2] at hx hxr
      have Hx := Lib.hid hx2
      have Hxr := Lib.hid hxr
      have b1 : (k : Int) < (n : Int) := by omega
      clear hlow hx2 hxr
      go_wp2_with fail
      go_loopw [4, 6, 7] (fun t d u wr => ∃ j : Nat, j ≤ 8 ∧ t = .int .i64 ((m : Int) - 8 * (k : Int) - (j : Int)) ∧ d = .int .u64 (x / 2 ^ (8 * j)) ∧ u = .int .i64 (j : Int) ∧ Hid (Bt w0 wr g m (low l) (8 * k + j))) (fun _ _ u _ => 8 - (intOf u).toNat)
      case atStart => exact ⟨0, by omega, by simp, by simp, rfl, HB.out⟩
      case round =>
        clear HB
        obtain ⟨j, hj, rfl, rfl, rfl, HB⟩ := hrel
        by_cases hj8 : j < 8
        · have hstep := byte_step x j
          obtain ⟨y, hy⟩ : ∃ y, x / 2 ^ (8 * j) = y := ⟨_, rfl⟩
          have hlo := low_getD l k j (by rw [HL.out]; exact hlt) hj8
          rw [Hx.out, hy] at hlo
          rw [hy] at hstep ⊢
          have hyr : IntKind.u8.wrap y = y % 256 := by simp [IntKind.wrap, IntKind.bits, IntKind.signed]
          have HS := Lib.hid (HB.out.put (by omega) (by rw [HLL.out, HL.out]; omega) (y % 256) hlo)
          obtain ⟨⟨u, hcell⟩, hfree⟩ := HB.out.has (m - (8 * k + j) - 1) (by omega)
          have HST := Lib.hid hstep
          have c1 : (0 : Int) ≤ (m : Int) - 8 * (k : Int) - (j : Int) - 1 := by omega
          have c1b : (1 : Int) ≤ (m : Int) - 8 * (k : Int) - (j : Int) := by omega
          have c2 : (m : Int) - 8 * (k : Int) - (j : Int) - 1 < (m : Int) := by omega
          have c3 : ((m : Int) - 8 * (k : Int) - (j : Int) - 1).toNat = m - (8 * k + j) - 1 := by omega
          have c4 : (j : Int) < 8 := by omega
          have w1e : IntKind.i64.wrap ((m : Int) - 8 * (k : Int) - (j : Int) - 1) = (m : Int) - 8 * (k : Int) - (j : Int) - 1 := IntWalk.i64_in _ (by omega)
          clear hlo hy hstep
          go_wp2_with fail
          go_roundw
          case rel => exact ⟨j + 1, by omega, by go_num, by rw [← HST.out], by go_num, HS.out⟩
          case measure => simp [intOf]; omega
        · have : j = 8 := by omega
          subst this
          have c4 : ¬ ((8 : Nat) : Int) < 8 := by omega
          go_wp2_with fail
          refine ⟨⟨k + 1, by omega, by congr 1; omega, by go_num, HB.out⟩, ?_⟩
          simp [intOf]; omega
    · have hkn : k = n := by omega
      have e0 : (m : Int) - 8 * (k : Int) = 0 := by omega
      have hkm : 8 * k = m := by omega
      rw [e0]
      rw [hkm] at HB
      have b1 : ¬ (k : Int) < (n : Int) := by omega
      have HO := Lib.hid (HB.out.all (by rw [HLL.out, HL.out]; have := HMN.out; omega))
      have HRL := Lib.hid (show (low l).reverse.length = m by rw [List.length_reverse, HLL.out, HL.out]; have := HMN.out; omega)
      clear hkn e0 hlow
      go_wp2_with fail
      go_loopw [4] (fun t w2 => ∃ i : Nat, i ≤ m ∧ t = .int .i64 (i : Int) ∧ w2 = wr ∧ Hid (strip ((low l).reverse.drop i) = strip (low l).reverse)) (fun t _ => m - (intOf t).toNat)
      case atStart => exact ⟨0, by omega, rfl, rfl, rfl⟩
      case round =>
        obtain ⟨i, hi, rfl, rfl, HSt⟩ := hrel
        by_cases him : i < m
        · have hcell := HO.out.1.cell i him
          obtain ⟨y, hy⟩ : ∃ y, (low l).reverse.getD i 0 = y := ⟨_, rfl⟩
          rw [hy] at hcell
          have c1 : (i : Int) < (m : Int) := by omega
          have c2 : (0 : Int) ≤ (i : Int) := by omega
          have hdr := drop_getD (low l).reverse i (by rw [HRL.out]; exact him)
          rw [hy] at hdr
          by_cases hy0 : y = 0
          · subst hy0
            have HN := Lib.hid (show strip ((low l).reverse.drop (i + 1)) = strip (low l).reverse by
              rw [← HSt.out, hdr]; rfl)
            clear hdr hy HSt
            go_wp2_with fail
            go_roundw
            case rel => exact ⟨i + 1, by omega, by go_num, trivial, HN.out⟩
            case measure => simp [intOf]; omega
          · have hyb : (y == 0) = false := by rw [beq_eq_false_iff_ne]; exact hy0
            have HN := Lib.hid (show (low l).reverse.drop i = strip (low l).reverse by
              rw [← HSt.out, hdr]; unfold strip; rw [List.dropWhile_cons, if_neg (by rw [hyb]; decide)])
            clear hdr hy HSt hy0
            go_wp2_with fail
            go_ret
            exact ⟨i, rfl, Bt.back HO.out, hi, HN.out⟩
        · have c1 : ¬ (i : Int) < (m : Int) := by omega
          have c1b : decide ((i : Int) < (m : Int)) = false := decide_eq_false c1
          have HN := Lib.hid (show (low l).reverse.drop i = strip (low l).reverse by
              rw [← HSt.out, List.drop_of_length_le (by rw [HRL.out]; omega)]; rfl)
          clear HSt
          go_wp2_with fail
          go_ret
          exact ⟨i, rfl, Bt.back HO.out, hi, HN.out⟩

/-- What Int.Bytes leaves: the bytes of n, the highest first, none of nought ahead. -/
def BytesOut (w : World) (l : List Int) (e : Ending) (w' : World) : Prop := ∃ A' k c, e = .returned (.slice A' k c) ∧ k ≤ c ∧ k = (strip (low l).reverse).length ∧ Ow .u8 5 w.heap.size w.heap.size (8 * l.length) (low l).reverse w' ∧ Below w.heap.size w w' ∧ (∀ w2, Ow .u8 5 w.heap.size w.heap.size (8 * l.length) (low l).reverse w2 → Kd.C (Kd.int .u8) w2 A' k (strip (low l).reverse))
set_option maxRecDepth 100000 in
/-- Int.Bytes of a number: its bytes in a new buffer, the highest first, none of nought ahead. -/
theorem intBytes {w : World} {p : Nat} {v : Value} {z : Int} (h : Iz w p v z) (hn : (dg z.natAbs).length ≤ 100000) :
    Calls Try.prog 36 #[.pointer (some ⟨p, 0, none⟩)] w (BytesOut w (dg z.natAbs)) := by
  obtain ⟨A, c, hv, hlc, hC⟩ := h.2.c
  have h1 := h.abs1
  subst hv
  have hd := dg_dig z.natAbs
  obtain ⟨l, hl⟩ : ∃ l, dg z.natAbs = l := ⟨_, rfl⟩
  rw [hl] at hC hn h1 hlc hd ⊢
  obtain ⟨n, hn2⟩ : ∃ n, l.length = n := ⟨_, rfl⟩
  unfold BytesOut
  rw [hn2] at hC hn h1 hlc ⊢
  obtain ⟨m, hm⟩ : ∃ m, 8 * n = m := ⟨_, rfl⟩
  rw [hm]
  have hmk : ∀ w : World, (Instr.makeSlice 22 (.int .i64 ((n : Int) * 8)) (.int .i64 ((n : Int) * 8))).run Try.prog w = .ok (.slice (some ⟨w.heap.size, 0, none⟩) m m) (w.alloc (.cells (madeCells #[.int .u8 0] m) 5)) := fun w => by
    have := run_mk8 ((n : Int) * 8) w (by omega) (by omega)
    rwa [show ((n : Int) * 8).toNat = m from by omega] at this
  have hB : Below w.heap.size w (w.alloc (.cells (madeCells #[.int .u8 0] m) 5)) := (Below.refl _ _).alloc (Nat.le_refl _) _
  have hO := Ow.made w .u8 5 m (by unfold maxLen; omega)
  have hBt : Bt w (w.alloc (.cells (madeCells #[.int .u8 0] m) 5)) w.heap.size m (low l) 0 := ⟨_, hO, by simp, hB⟩
  have HY := Lib.hid (bytes_any w _ w.heap.size n m A c l hC hd hn hm.symm hBt)
  have hcell := Chg.cell (S := fun _ => False) (Chg.of_below hB) h1 (fun h => h)
  have HLen := Lib.hid (show (low l).reverse.length = m by rw [List.length_reverse, low_length, hn2, hm])
  have hm9 : m ≤ 9000000 := by omega
  clear h hl hC hd hm hB hO hBt hn2
  go_enter Try.func36, Try.ntmps36
  go_wp2_with fail
  refine HY.out.mono ?_
  rintro e w1 ⟨i, rfl, hb, hi, hs⟩
  obtain ⟨i0, hi0, _, hsz0, _⟩ := info_parts infoU8
  obtain ⟨L, hL⟩ : ∃ L, (low l).reverse = L := ⟨_, rfl⟩
  have hall := hb.all (by have := HLen.out; rw [List.length_reverse] at this; exact this)
  rw [hL] at hall hs HLen
  have HL2 := Lib.hid hL
  obtain ⟨A', hcut, hA', hC'⟩ := print_drop_of (P := Try.prog) (Value.int .u8) 0 22 5 .i64 Try.underlying22 hi0 hsz0 (some ⟨w.heap.size, 0, none⟩) m L (i : Int) (by omega) (by rw [HLen.out]; omega) (by rw [HLen.out]; exact Nat.le_refl _)
  rw [Int.toNat_natCast, hs, HLen.out] at hcut
  rw [Int.toNat_natCast, hs] at hA' hC'
  have HH := Lib.hid hall
  have HR := Lib.hid (show ∀ w2, Ow .u8 5 w.heap.size w.heap.size m L w2 → Kd.C (Kd.int .u8) w2 A' (strip L).length (strip L) from fun w2 h2 => Kd.C_of_reads (h1 := fun _ => rfl) (hA' w2 (Kd.reads_of_C (by rw [HLen.out]; exact h2.c))))
  obtain ⟨k, hk⟩ : ∃ k, (strip L).length = k := ⟨_, rfl⟩
  rw [hk] at hcut hC' HR
  have HK := Lib.hid hk
  have HC := Lib.hid hC'
  clear hA' hC' hall hs hb hi0 hsz0 hk hL
  go_wp2_with fail
  go_ret
  rw [HL2.out]
  exact ⟨A', k, _, rfl, HC.out, HK.out.symm, HH.out.1, HH.out.2, HR.out⟩
end Go.Proofs.Ythckboojmljeiaa.By
