/- Walks: beUint32, beUint64, bigEndianWord, nat.setBytes, Int.SetBytes. -/
import Derived.Test.YthckboojmljeiaaNb
import Derived.Test.YthckboojmljeiaaEq
namespace Go.Proofs.Ythckboojmljeiaa.Sb
set_option linter.unusedVariables false
set_option linter.unusedSimpArgs false
open Go.RowKit Go.Proofs.YthckboojmljeiaaW.PrintWords Go.Proofs.YthckboojmljeiaaW.PrintLast Go.Proofs.YthckboojmljeiaaW.PrintMore Go.Proofs.Ythckboojmljeiaa.Pl Go.Proofs.Ythckboojmljeiaa.Dg Go.Proofs.Ythckboojmljeiaa.Mem Go.Proofs.Ythckboojmljeiaa.Na Go.Proofs.Ythckboojmljeiaa.Nb Go.Proofs.Ythckboojmljeiaa.Be

theorem wu32 (n : Int) : IntKind.u32.wrap n = n % 4294967296 := by simp [IntKind.wrap, IntKind.bits, IntKind.signed]
theorem wu32_in {n : Int} (h0 : 0 ≤ n) (h1 : n < 4294967296) : IntKind.u32.wrap n = n := by rw [wu32]; omega
theorem wraps_u32 (n : Int) (h₀ : 0 ≤ n) (h₁ : n < 2 ^ 32) : IntKind.u32.wrap n = n := wu32_in h₀ h₁
theorem u32_or_add (i : Nat) (x y : Int) (hx : 0 ≤ x) (hx' : x < 2 ^ 32) (hi : x % 2 ^ i = 0) (hy : 0 ≤ y) (hy' : y < 2 ^ i) (hy1 : y < 2 ^ 32) : bits .or .u32 x y = x + y :=
  bits_join .u32 32 (by decide) wraps_u32 i x y hx hi hx' hy hy' hy1
theorem u32_or_comm (x y : Int) (hx : 0 ≤ x) (hx' : x < 2 ^ 32) (hy : 0 ≤ y) (hy' : y < 2 ^ 32) : bits .or .u32 x y = bits .or .u32 y x := by
  obtain ⟨a, rfl⟩ := Int.eq_ofNat_of_zero_le hx
  obtain ⟨b, rfl⟩ := Int.eq_ofNat_of_zero_le hy
  have ha : a < 2 ^ 32 := by exact_mod_cast hx'
  have hb : b < 2 ^ 32 := by exact_mod_cast hy'
  rw [(bits_nat .u32 32 (by decide) wraps_u32 a b ha hb).2, (bits_nat .u32 32 (by decide) wraps_u32 b a hb ha).2, Nat.or_comm]
/-- y | x where x lies above y. -/
theorem u32_or_up (i : Nat) (x y : Int) (hx : 0 ≤ x) (hx' : x < 2 ^ 32) (hi : x % 2 ^ i = 0) (hy : 0 ≤ y) (hy' : y < 2 ^ i) (hy1 : y < 2 ^ 32) : bits .or .u32 y x = y + x := by
  rw [u32_or_comm y x hy hy1 hx hx', u32_or_add i x y hx hx' hi hy hy' hy1]; omega

theorem be32_num (a b c d : Int) (ha : 0 ≤ a ∧ a < 256) (hb : 0 ≤ b ∧ b < 256) (hc : 0 ≤ c ∧ c < 256) (hd : 0 ≤ d ∧ d < 256) :
    bits .or .u32 (bits .or .u32 (bits .or .u32 (IntKind.u32.wrap d) (IntKind.u32.wrap (IntKind.u32.wrap c * 256))) (IntKind.u32.wrap (IntKind.u32.wrap b * 65536))) (IntKind.u32.wrap (IntKind.u32.wrap a * 16777216)) = d + 256 * (c + 256 * (b + 256 * a)) := by
  rw [wu32_in ha.1 (by omega), wu32_in hb.1 (by omega), wu32_in hc.1 (by omega), wu32_in hd.1 (by omega), wu32_in (n := c * 256) (by omega) (by omega), wu32_in (n := b * 65536) (by omega) (by omega), wu32_in (n := a * 16777216) (by omega) (by omega)]
  rw [u32_or_up 8 (c * 256) d (by omega) (by omega) (by omega) hd.1 (by omega) (by omega)]
  rw [u32_or_up 16 (b * 65536) _ (by omega) (by omega) (by omega) (by omega) (by omega) (by omega)]
  rw [u32_or_up 24 (a * 16777216) _ (by omega) (by omega) (by omega) (by omega) (by omega) (by omega)]
  omega
theorem take4 (l : List Int) (h : 4 ≤ l.length) : lv 256 (l.take 4).reverse = l.getD 3 0 + 256 * (l.getD 2 0 + 256 * (l.getD 1 0 + 256 * l.getD 0 0)) := by
  match l, h with
  | a :: b :: c :: d :: r, _ => simp [lv]

set_option maxHeartbeats 400000 in
theorem be32 (A : Option Addr) (n c : Nat) (l : List Int) (w : World) (hr : Kd.C (Kd.int .u8) w A n l) (h4 : 4 ≤ n) (hd : Dig 256 l) :
    Calls Try.prog 98 #[.slice A n c] w fun e w' => e = .returned (.int .u32 (lv 256 (l.take 4).reverse)) ∧ Drn w w' := by
  have hl := hr.1
  have g0 := hd.get (i := 0) (by omega)
  have g1 := hd.get (i := 1) (by omega)
  have g2 := hd.get (i := 2) (by omega)
  have g3 := hd.get (i := 3) (by omega)
  obtain ⟨ad, e, h0⟩ := Kd.at_int hr ((0 : Nat) : Int) (by omega) (by omega)
  obtain ⟨ad1, e1, h1⟩ := Kd.at_int hr ((1 : Nat) : Int) (by omega) (by omega)
  obtain ⟨ad2, e2, h2⟩ := Kd.at_int hr ((2 : Nat) : Int) (by omega) (by omega)
  obtain ⟨ad3, e3, h3⟩ := Kd.at_int hr ((3 : Nat) : Int) (by omega) (by omega)
  subst e
  cases e1
  cases e2
  cases e3
  unfold rd at h0 h1 h2 h3
  rw [Int.toNat_natCast] at h0 h1 h2 h3
  rw [show ad.add 0 = ad from rfl] at h0
  rw [show ad.add 1 = { block := ad.block, off := ad.off + 1 } from rfl] at h1
  rw [show ad.add 2 = { block := ad.block, off := ad.off + 2 } from rfl] at h2
  rw [show ad.add 3 = { block := ad.block, off := ad.off + 3 } from rfl] at h3
  have e4 := take4 l (by omega)
  obtain ⟨a, ha⟩ : ∃ a, l.getD 0 0 = a := ⟨_, rfl⟩
  obtain ⟨b, hb⟩ : ∃ a, l.getD 1 0 = a := ⟨_, rfl⟩
  obtain ⟨cc, hc⟩ : ∃ a, l.getD 2 0 = a := ⟨_, rfl⟩
  obtain ⟨d, hd⟩ : ∃ a, l.getD 3 0 = a := ⟨_, rfl⟩
  rw [ha] at h0 g0
  rw [hb] at h1 g1
  rw [hc] at h2 g2
  rw [hd] at h3 g3
  rw [ha, hb, hc, hd] at e4
  rw [e4, ← be32_num a b cc d g0 g1 g2 g3]
  clear hr ha hb hc hd e4 g0 g1 g2 g3
  have b1 : (3 : Int) < (n : Int) := by omega
  have b2 : (2 : Int) < (n : Int) := by omega
  have b3 : (1 : Int) < (n : Int) := by omega
  have b4 : (0 : Int) < (n : Int) := by omega
  go_enter Try.func98, Try.ntmps98
  go_wp2
  go_quiet (fail)
  go_wp2
  go_ret
  refine ⟨?_, nq, rfl⟩
  simp only [wu32]
  rfl

theorem take8 (l : List Int) (h : 8 ≤ l.length) : lv 256 (l.take 8).reverse = lv 256 ((l.drop 4).take 4).reverse + 4294967296 * lv 256 (l.take 4).reverse := by
  match l, h with
  | a :: b :: c :: d :: e :: f :: g :: h :: r, _ => simp [lv]; omega

set_option maxHeartbeats 400000 in
set_option maxRecDepth 100000 in
theorem be64 (A : Option Addr) (n c : Nat) (l : List Int) (w : World) (hr : Kd.C (Kd.int .u8) w A n l) (hnc : n ≤ c) (h8 : 8 ≤ n) (hd : Dig 256 l) :
    Calls Try.prog 97 #[.slice A n c] w fun e w' => e = .returned (.int .u64 (lv 256 (l.take 8).reverse)) ∧ Drn w w' := by
  have hl := hr.1
  obtain ⟨i0, hi0, _, hsz0, _⟩ := info_parts infoU8
  subst hl
  obtain ⟨A', hcut, hA', hC'⟩ := print_drop_of (P := Try.prog) (Value.int .u8) 0 22 5 .i64 Try.underlying22 hi0 hsz0 A c l 4 (by omega) (by omega) hnc
  have H0 := Lib.hid (fun q => Calls.quiet_of (n := q) (w := w) (be32 A l.length c l (w.drewN q) hr (by omega) hd))
  have H1 := Lib.hid (fun q => Calls.quiet_of (n := q) (w := w) (be32 A' (l.drop (Int.toNat 4)).length (c - Int.toNat 4) (l.drop 4) (w.drewN q) (Kd.C_of_reads (h1 := fun _ => rfl) (hA' _ (Kd.reads_of_C hr))) (by rw [List.length_drop]; omega) (hd.drop 4)))
  have e8 := take8 l (by omega)
  obtain ⟨ad, ea, hcell⟩ := Kd.at_int hr ((7 : Nat) : Int) (by omega) (by omega)
  unfold rd at hcell
  rw [Int.toNat_natCast] at hcell
  obtain ⟨b7, hb7⟩ : ∃ x, l.getD 7 0 = x := ⟨_, rfl⟩
  rw [hb7] at hcell
  subst ea
  rw [show ad.add 7 = { block := ad.block, off := ad.off + 7 } from rfl] at hcell
  clear hb7
  have r1 := lv_range (B := 256) (by omega) ((hd.take 4).reverse)
  have r2 := lv_range (B := 256) (by omega) (((hd.drop 4).take 4).reverse)
  rw [List.length_reverse, List.length_take, Nat.min_eq_left (by omega)] at r1
  rw [List.length_reverse, List.length_take, List.length_drop, Nat.min_eq_left (by omega)] at r2
  rw [show (256 : Int) ^ 4 = 4294967296 from by decide] at r1 r2
  rw [e8]
  clear e8
  obtain ⟨x, hx⟩ : ∃ x, lv 256 (l.take 4).reverse = x := ⟨_, rfl⟩
  obtain ⟨y, hy⟩ : ∃ x, lv 256 ((l.drop 4).take 4).reverse = x := ⟨_, rfl⟩
  rw [hx] at H0 r1 ⊢
  rw [hy] at H1 r2 ⊢
  obtain ⟨n2, hn2⟩ : ∃ n, (l.drop (Int.toNat 4)).length = n := ⟨_, rfl⟩
  obtain ⟨c2, hc2⟩ : ∃ n, c - Int.toNat 4 = n := ⟨_, rfl⟩
  rw [hn2, hc2] at H1 hcut
  have e : bits .or .u64 (IntKind.u64.wrap (IntKind.u64.wrap x * 4294967296)) (IntKind.u64.wrap y) = y + 4294967296 * x := by
    rw [wu64_in r1.1 (by omega), wu64_in r2.1 (by omega), wu64_in (n := x * 4294967296) (by omega) (by omega), u64_or_add 32 _ _ (by omega) (by omega) (by omega) r2.1 (by omega) (by omega)]
    omega
  rw [← e]
  clear hr hd hA' hC' hx hy e r1 r2 hi0 hsz0 hn2 hc2
  have b1 : (7 : Int) < (l.length : Int) := by omega
  have b2 : (4 : Int) ≤ (l.length : Int) := by omega
  obtain ⟨n, hn⟩ : ∃ n, l.length = n := ⟨_, rfl⟩
  rw [hn] at hcut H0 b1 b2 hnc h8 ⊢
  clear hn
  go_enter Try.func97, Try.ntmps97
  go_wp2_with fail
  go_quiet (first | (go_at_call 98; first | with_reducible exact H0.out _ | with_reducible exact H1.out _))
  go_wp2
  go_ret
  exact ⟨rfl, nq, rfl⟩

theorem word_any (A : Option Addr) (n c : Nat) (l : List Int) (w : World) (hr : Kd.C (Kd.int .u8) w A n l) (hnc : n ≤ c) (h8 : 8 ≤ n) (hd : Dig 256 l) :
    Calls Try.prog 85 #[.slice A n c] w fun e w' => e = .returned (.int .u64 (lv 256 (l.take 8).reverse)) ∧ Drn w w' := by
  have H0 := Lib.hid (be64 A n c l w hr hnc h8 hd)
  obtain ⟨x, hx⟩ : ∃ x, lv 256 (l.take 8).reverse = x := ⟨_, rfl⟩
  have r := lv_range (B := 256) (by omega) ((hd.take 8).reverse)
  rw [List.length_reverse, List.length_take, Nat.min_eq_left (by rw [hr.1]; exact h8), show (256 : Int) ^ 8 = 18446744073709551616 from by decide] at r
  rw [hx] at H0 r ⊢
  have e : IntKind.u64.wrap x = x := wu64_in r.1 r.2
  clear hr hnc h8 hd hx r
  go_enter Try.func85, Try.ntmps85
  go_wp2_with (first | (go_at_call 97; refine H0.out.mono ?_; rintro e1 w1 ⟨rfl, hq⟩))
  go_ret
  exact ⟨rfl, hq⟩

/-! ### Bytes as words -/
theorem wds_cons (m : Nat) (l : List Int) : wds (m + 1) l = lv 256 (l.take 8) :: wds m (l.drop 8) := by
  refine List.ext_getElem (by simp [wds]) fun i h1 h2 => ?_
  cases i with
  | zero => simp [wds]
  | succ i => simp [wds, List.drop_drop]; congr 3; omega
theorem lv_split (B : Int) (l : List Int) (k : Nat) : lv B l = lv B (l.take k) + B ^ (l.take k).length * lv B (l.drop k) := by
  rw [← lv_append, List.take_append_drop]
theorem wds_dig (m : Nat) (l : List Int) (hd : Dig 256 l) : DW (wds m l) := by
  intro x hx
  unfold wds at hx
  obtain ⟨j, _, rfl⟩ := List.mem_map.1 hx
  have r := lv_range (B := 256) (by omega) ((hd.drop (8 * j)).take 8)
  have h2 : (256 : Int) ^ ((l.drop (8 * j)).take 8).length ≤ 256 ^ 8 := pow256_le _ _ (by rw [List.length_take]; omega)
  have h3 : (256 : Int) ^ 8 = (BB : Int) := by decide
  omega
theorem wds_lv (m : Nat) (l : List Int) (hm : l.length ≤ 8 * m) : lv (BB : Int) (wds m l) = lv 256 l := by
  induction m generalizing l with
  | zero =>
    have : l = [] := List.length_eq_zero_iff.1 (by omega)
    subst this
    rfl
  | succ m ih =>
    rw [wds_cons, lv_split 256 l 8]
    simp only [lv]
    rw [ih (l.drop 8) (by rw [List.length_drop]; omega)]
    by_cases h : 8 ≤ l.length
    · rw [List.length_take, Nat.min_eq_left h]
      rfl
    · rw [show l.drop 8 = [] from List.drop_of_length_le (by omega)]
      simp [lv]

theorem dig_any (x : Int) : (0 ≤ x ∧ x < 256) → IntKind.u64.wrap x = x := fun h => wu64_in h.1 (by omega)

/-- The walk's state behind k words. -/
def St (w wr : World) (g m : Nat) (len : Nat) (L : List Int) (k : Nat) : Prop := ∃ cur, Rw wr g cur ∧ cur.length = len ∧ cur.take k = (wds m L).take k ∧ Below w.heap.size w wr
theorem St.put {w wr : World} {g m len : Nat} {L : List Int} {k : Nat} (h : St w wr g m len L k) (hk : k < m) (hm : m ≤ len) (hg : w.heap.size ≤ g) : St w (wr.setCell ⟨g, k, none⟩ (.int .u64 (lv 256 ((L.drop (8 * k)).take 8)))) g m len L (k + 1) := by
  obtain ⟨cur, h1, h2, h3, h4⟩ := h
  refine ⟨_, h1.put k _, by rw [List.length_set]; exact h2, ?_, h4.setCell hg _⟩
  rw [take_succ_getD _ k (by rw [List.length_set]; omega), List.take_set, List.set_eq_of_length_le (by rw [List.length_take]; omega), h3, take_succ_getD _ k (by rw [wds_length]; exact hk), List.getD_eq_getElem?_getD, List.getElem?_set_self (by omega), wds_get _ _ _ hk]
  rfl
theorem St.has {w wr : World} {g m len : Nat} {L : List Int} {k : Nat} (h : St w wr g m len L k) (i : Nat) (hi : i < len) : (∃ u, wr.cell? ⟨g, i, none⟩ = some (.int .u64 u)) ∧ wr.frozen? ⟨g, i, none⟩ = false := by
  obtain ⟨cur, h1, h2, h3, h4⟩ := h
  exact ⟨h1.has i (by omega), h1.free i⟩
theorem St.drewN {w wr : World} {g m len : Nat} {L : List Int} {k : Nat} (h : St w wr g m len L k) (q : Nat) : St w (wr.drewN q) g m len L k := by
  obtain ⟨cur, h1, h2, h3, h4⟩ := h
  exact ⟨cur, h1.drewN q, h2, h3, pw_below_drewN h4 q⟩

theorem St.norm {w wr : World} {g m len : Nat} {L : List Int} (h : St w wr g m len L m) (hm : m ≤ len) (hl : len ≤ 1000000) (hd : DW (wds m L)) (hv : lv (BB : Int) (wds m L) = lv 256 L) (hf : ∀ v' : Value, v'.ownBlock = some g → Fr w (.slice none 0 0) v') :
    Calls Try.prog 86 #[.slice (some ⟨g, 0, none⟩) m len] wr fun e w' => ∃ v', e = .returned v' ∧ Nt w' v' (dg (lv 256 L).toNat) ∧ Below w.heap.size w w' ∧ Fr w (.slice none 0 0) v' := by
  obtain ⟨cur, h1, h2, h3, h4⟩ := h
  have e : cur.take m = wds m L := by rw [h3]; exact List.take_of_length_le (by rw [wds_length]; omega)
  have := norm_dg g m cur wr h1 (by omega) (by omega) (by rw [e]; exact hd)
  rw [e, hv, h2] at this
  refine this.mono ?_
  rintro e w' ⟨v', rfl, h5, h6, rfl⟩
  exact ⟨v', rfl, h5, h4, hf v' h6⟩

theorem setBytes_zero (A : Option Addr) (c : Nat) (w : World) : Calls Try.prog 69 #[.slice none 0 0, .slice A 0 c] w fun e w' => e = .returned (.slice none 0 0) ∧ w = w' := by
  have HM := Lib.hid (make_room none 0 0 0 w (by omega) (by omega))
  have HN : ∀ w : World, Calls Try.prog 86 #[.slice none 0 0] w fun e w' => e = .returned (.slice none 0 0) ∧ w = w' := by
    intro w
    go_enter Try.func86, Try.ntmps86
    go_wp2_with fail
    refine wp_loop_rounds 1 ?_
    rw [rounds_succ]
    go_wp2_with fail
    go_ret
    exact ⟨rfl, rfl⟩
  go_enter Try.func69, Try.ntmps69
  go_wp2_with fail
  refine HM.out.mono ?_
  rintro e w1 ⟨rfl, rfl⟩
  go_wp2_with fail
  refine wp_loop_rounds 1 ?_
  rw [rounds_succ]
  go_wp2_with fail
  refine (HN _).mono ?_
  rintro e w1 ⟨rfl, rfl⟩
  go_wp2_with fail
  go_ret
  exact ⟨rfl, rfl⟩

set_option maxHeartbeats 1000000 in
set_option maxRecDepth 100000 in
theorem setBytes_pos (A : Option Addr) (n c : Nat) (l : List Int) (w : World) (hr : Kd.C (Kd.int .u8) w A n l) (hnc : n ≤ c) (hd : Dig 256 l) (h0 : 0 < n) (hl : n ≤ 100000) :
    Calls Try.prog 69 #[.slice none 0 0, .slice A n c] w fun e w' => ∃ v', e = .returned v' ∧ Nt w' v' (dg (lv 256 l.reverse).toNat) ∧ Below w.heap.size w w' ∧ Fr w (.slice none 0 0) v' := by
  obtain rfl := hr.1
  obtain ⟨m, hm⟩ : ∃ m, (l.length + 7) / 8 = m := ⟨_, rfl⟩
  have HM := Lib.hid (make_any (w := w) (v := .slice none 0 0) (l := []) (.inl ⟨rfl, rfl⟩) m (by omega) (by omega))
  rw [show ((m : Nat) : Int) = ((l.length : Int) + 8 - 1) / 8 from by omega] at HM
  have HR := Lib.hid hr
  have HD := Lib.hid hd
  have HL := Lib.hid hl
  have hm1 : l.length ≤ 8 * m := by omega
  have hm2 : 8 * m ≤ l.length + 7 := by omega
  have HV := Lib.hid (wds_lv m l.reverse (by rw [List.length_reverse]; omega))
  have HW := Lib.hid (wds_dig m l.reverse hd.reverse)
  clear hr hd hm
  have w0 : IntKind.i64.wrap ((l.length : Int) + 7) = (l.length : Int) + 7 := IntWalk.i64_in _ (by omega)
  have w00 : IntKind.i64.wrap ((l.length : Int) + 8) = (l.length : Int) + 8 := IntWalk.i64_in _ (by omega)
  go_enter Try.func69, Try.ntmps69
  go_wp2_with fail
  refine HM.out.mono ?_
  rintro e w1 ⟨g, cur, rfl, hr, h1, h2, hk⟩
  have HK := Lib.hid (fun (v' : Value) (hv : v'.ownBlock = some g) => hk.fr hv)
  have hg : w.heap.size ≤ g := by rcases hk with ⟨_, h⟩ | ⟨h, _⟩; cases h; omega
  have hB : Below w.heap.size w w1 := Chg.toBelow hk.chg (fun k h => by cases h) (Nat.le_refl _)
  have HS := Lib.hid (show St w w1 g m cur.length l.reverse 0 from ⟨cur, hr, rfl, rfl, hB⟩)
  have HC2 := Lib.hid h2
  have HG := Lib.hid hg
  clear hr hk hg hB h2
  obtain ⟨len, hlen⟩ : ∃ n, cur.length = n := ⟨_, rfl⟩
  rw [hlen] at HS HC2 h1 ⊢
  clear hlen
  go_wp2_with fail
  go_loopw [5, 6] (fun t u wr => ∃ i : Nat, 8 * i ≤ l.length ∧ t = .int .i64 ((l.length : Int) - 8 * (i : Int)) ∧ u = .int .i64 (i : Int) ∧ Hid (St w wr g m len l.reverse i)) (fun t _ _ => (intOf t).toNat)
  case atStart => exact ⟨0, by omega, by simp, rfl, HS.out⟩
  case round =>
    clear HS
    obtain ⟨i, hi, rfl, rfl, HS⟩ := hrel
    by_cases hlt : 8 * i + 8 ≤ l.length
    · obtain ⟨i0, hi0, _, hsz0, _⟩ := info_parts infoU8
      have w1e : IntKind.i64.wrap ((l.length : Int) - 8 * (i : Int) - 8) = (l.length : Int) - 8 * (i : Int) - 8 := IntWalk.i64_in _ (by omega)
      obtain ⟨A', hcut, hA', hC'⟩ := print_mid_of (P := Try.prog) (Value.int .u8) 0 22 5 .i64 .i64 Try.underlying22 hi0 hsz0 A c l ((l.length : Int) - 8 * (i : Int) - 8) ((l.length : Int) - 8 * (i : Int)) (by omega) (by omega) (by omega) hnc
      have ht : ((l.length : Int) - 8 * (i : Int) - 8).toNat = l.length - (8 * i + 8) := by omega
      have ht2 : ((l.length : Int) - 8 * (i : Int)).toNat = l.length - 8 * i := by omega
      rw [ht, ht2] at hcut hA' hC'
      have hll : ((l.take (l.length - 8 * i)).drop (l.length - (8 * i + 8))).length = 8 := by rw [List.length_drop, List.length_take]; omega
      have hch := chunk_rev l i hlt
      rw [show (l.drop (l.length - (8 * i + 8))).take 8 = (l.take (l.length - 8 * i)).drop (l.length - (8 * i + 8)) from by rw [List.drop_take]; congr 1; omega] at hch
      obtain ⟨b, hb⟩ : ∃ b, (l.take (l.length - 8 * i)).drop (l.length - (8 * i + 8)) = b := ⟨_, rfl⟩
      have hbd : Dig 256 b := by rw [← hb]; exact (HD.out.take _).drop _
      rw [hb] at hch hll hcut hA' hC'
      obtain ⟨c2, hc2⟩ : ∃ n, c - (l.length - (8 * i + 8)) = n := ⟨_, rfl⟩
      rw [hc2, hll] at hcut hC'
      rw [hll] at hA'
      have hst : Below w.heap.size w wr := by obtain ⟨_, _, _, _, h⟩ := HS.out; exact h
      have HCall := Lib.hid (word_any A' 8 c2 b wr (Kd.C_of_reads (h1 := fun _ => rfl) (hA' _ (Kd.reads_of_C (Kd.C_below HR.out hst)))) hC' (by omega) hbd)
      rw [List.take_of_length_le (show b.length ≤ 8 by omega), hch] at HCall
      obtain ⟨⟨u, hcell⟩, hfree⟩ := HS.out.has i (by omega)
      have b1 : (8 : Int) ≤ (l.length : Int) - 8 * (i : Int) := by omega
      have b2 : (i : Int) < (m : Int) := by omega
      have b3 : (0 : Int) ≤ (i : Int) := by omega
      clear hA' hC' hi0 hsz0 hb hbd hch hll hst hc2 ht ht2
      go_wp2_with fail
      refine HCall.out.mono ?_
      rintro e w2 ⟨rfl, q, rfl⟩
      have HS2 := Lib.hid ((HS.out.drewN q).put (by omega) h1 HG.out)
      rw [← World.cell?_drewN (n := q)] at hcell
      rw [← World.frozen?_drewN (n := q)] at hfree
      clear HS HCall
      go_wp2_with fail
      go_roundw
      case rel => exact ⟨i + 1, by omega, by go_num, by go_num, HS2.out⟩
      case measure => simp [intOf]; omega
    · by_cases hz : 8 * i < l.length
      · obtain ⟨r, hr⟩ : ∃ r, l.length - 8 * i = r := ⟨_, rfl⟩
        have HI := Lib.hid (show l.length = 8 * i + r by omega)
        have hr1 : r ≤ 7 := by omega
        have hr0 : 0 < r := by omega
        rw [show ((l.length : Int) - 8 * (i : Int)) = (r : Int) from by omega]
        have b1 : (0 : Int) < (r : Int) := by omega
        have b2 : ¬ (8 : Int) ≤ (r : Int) := by omega
        have b3 : (r : Int) < 8 := by omega
        have hst : Below w.heap.size w wr := by obtain ⟨_, _, _, _, h⟩ := HS.out; exact h
        have HB := Lib.hid hst
        clear hlt hz hst hr
        go_wp2_with fail
        go_loopw [5, 7, 8] (fun t d s w2 => ∃ j q : Nat, j ≤ r ∧ t = .int .i64 ((r : Int) - (j : Int)) ∧ d = .int .u64 (lv 256 ((l.reverse.drop (8 * i)).take j)) ∧ s = .int .u64 (8 * (j : Int)) ∧ w2 = wr.drewN q) (fun t _ _ _ => (intOf t).toNat)
        case atStart => exact ⟨0, 0, by omega, by simp, rfl, rfl, rfl⟩
        case round =>
          obtain ⟨j, q, hj, rfl, rfl, rfl, rfl⟩ := hrel
          by_cases hjr : j < r
          · obtain ⟨ad, e, hx⟩ := Kd.at_int (Kd.C_drewN (Kd.C_below HR.out HB.out) q) ((r : Int) - (j : Int) - 1) (by omega) (by have := HI.out; omega)
            subst e
            have ht : ((r : Int) - (j : Int) - 1).toNat = r - j - 1 := by omega
            rw [show rd l ((r : Int) - (j : Int) - 1) = (l.reverse.drop (8 * i)).getD j 0 from by
              unfold rd
              rw [ht, List.getD_eq_getElem?_getD, List.getD_eq_getElem?_getD, List.getElem?_drop, ← List.getD_eq_getElem?_getD, ← List.getD_eq_getElem?_getD, getD_reverse l (8 * i + j) (by have := HI.out; omega)]
              congr 1
              have := HI.out
              omega, ht] at hx
            have hxr := (HD.out.reverse.drop (8 * i)).get (i := j) (by rw [List.length_drop, List.length_reverse]; have := HI.out; omega)
            have hor := lv_range (B := 256) (by omega) ((HD.out.reverse.drop (8 * i)).take j)
            have hln : ((l.reverse.drop (8 * i)).take j).length = j := by rw [List.length_take, List.length_drop, List.length_reverse]; have := HI.out; omega
            rw [hln] at hor
            have hsn := take_succ_getD (l.reverse.drop (8 * i)) j (by rw [List.length_drop, List.length_reverse]; have := HI.out; omega)
            have hlv := congrArg (lv 256) hsn
            rw [lv_snoc, hln] at hlv
            obtain ⟨x, hx2⟩ : ∃ x, (l.reverse.drop (8 * i)).getD j 0 = x := ⟨_, rfl⟩
            obtain ⟨o, ho⟩ : ∃ o, lv 256 ((l.reverse.drop (8 * i)).take j) = o := ⟨_, rfl⟩
            rw [hx2] at hx hxr hlv
            rw [ho] at hor hlv ⊢
            have hnew := or_byte o x j (by omega) hor.1 hor.2 hxr.1 hxr.2
            rw [← hlv] at hnew
            have wx := dig_any x hxr
            have HN := Lib.hid hnew
            have hj7 : (j : Int) < 8 := by omega
            have b4 : (0 : Int) < (r : Int) - (j : Int) := by omega
            have b4b : (j : Int) < (r : Int) := by omega
            have b5 : (0 : Int) ≤ (r : Int) - (j : Int) - 1 := by omega
            have b6 : (r : Int) - (j : Int) - 1 < (l.length : Int) := by have := HI.out; omega
            have b7 : (j : Int) + 1 ≤ (r : Int) := by omega
            have b8 : (1 : Int) ≤ (r : Int) - (j : Int) := by omega
            have w1e : IntKind.i64.wrap ((r : Int) - (j : Int) - 1) = (r : Int) - (j : Int) - 1 := IntWalk.i64_in _ (by omega)
            clear hxr hor hln hsn hlv hx2 ho hnew
            go_wp2_with fail
            go_roundw
            case rel => exact ⟨j + 1, q, by omega, by go_num, by rw [HN.out], by go_num, rfl⟩
            case measure => simp [intOf]; omega
          · have hjj : j = r := by omega
            subst hjj
            have hm3 : m = i + 1 := by have := HI.out; omega
            have HM3 := Lib.hid hm3
            obtain ⟨⟨u, hcell⟩, hfree⟩ := HS.out.has i (by omega)
            rw [← World.cell?_drewN (n := q)] at hcell
            rw [← World.frozen?_drewN (n := q)] at hfree
            have HS2 := Lib.hid ((HS.out.drewN q).put (by omega) h1 HG.out)
            have hch : (l.reverse.drop (8 * i)).take 8 = (l.reverse.drop (8 * i)).take j := by
              have := HI.out
              rw [List.take_of_length_le (by rw [List.length_drop, List.length_reverse]; omega), List.take_of_length_le (by rw [List.length_drop, List.length_reverse]; omega)]
            rw [hch] at HS2
            obtain ⟨o, ho⟩ : ∃ o, lv 256 ((l.reverse.drop (8 * i)).take j) = o := ⟨_, rfl⟩
            rw [ho] at HS2 ⊢
            have b4 : (0 : Int) ≤ (m : Int) - 1 := by omega
            have b4b : (1 : Int) ≤ (m : Int) := by omega
            have b5 : (m : Int) - 1 < (m : Int) := by omega
            have b6 : ((m : Int) - 1).toNat = i := by omega
            have w1e : IntKind.i64.wrap ((m : Int) - 1) = (m : Int) - 1 := IntWalk.i64_in _ (by omega)
            have hfin : Calls Try.prog 86 #[.slice (some ⟨g, 0, none⟩) m len] ((wr.drewN q).setCell ⟨g, i, none⟩ (.int .u64 o)) fun e w' => ∃ v', e = .returned v' ∧ Nt w' v' (dg (lv 256 l.reverse).toNat) ∧ Below w.heap.size w w' ∧ Fr w (.slice none 0 0) v' := by
              rw [← HM3.out] at HS2
              exact St.norm HS2.out h1 HC2.out HW.out HV.out HK.out
            have HF := Lib.hid hfin
            clear hfin HS2 HS hch ho hm3
            go_wp2_with fail
            refine HF.out.mono ?_
            rintro e w3 ⟨v', rfl, h5, h6, h7⟩
            have H5 := Lib.hid h5
            have H6 := Lib.hid h6
            have H7 := Lib.hid h7
            clear h5 h6 h7 HF
            go_wp2_with fail
            go_ret
            exact ⟨_, rfl, H5.out, H6.out, H7.out⟩
      · have hm3 : m = i := by omega
        subst hm3
        have HF := Lib.hid (St.norm HS.out h1 HC2.out HW.out HV.out HK.out)
        rw [show (l.length : Int) - 8 * (m : Int) = 0 from by omega]
        clear hlt hz
        go_wp2_with fail
        refine HF.out.mono ?_
        rintro e w3 ⟨v', rfl, h5, h6, h7⟩
        have H5 := Lib.hid h5
        have H6 := Lib.hid h6
        have H7 := Lib.hid h7
        clear h5 h6 h7 HF
        go_wp2_with fail
        go_ret
        exact ⟨_, rfl, H5.out, H6.out, H7.out⟩

/-- nat.setBytes of a new number. -/
theorem setBytes_any (A : Option Addr) (n c : Nat) (l : List Int) (w : World) (hr : Kd.C (Kd.int .u8) w A n l) (hnc : n ≤ c) (hd : Dig 256 l) (hl : n ≤ 100000) :
    Calls Try.prog 69 #[.slice none 0 0, .slice A n c] w fun e w' => ∃ v', e = .returned v' ∧ Nt w' v' (dg (lv 256 l.reverse).toNat) ∧ Below w.heap.size w w' ∧ Fr w (.slice none 0 0) v' := by
  by_cases h0 : n = 0
  · subst h0
    have : l = [] := List.length_eq_zero_iff.1 hr.1
    subst this
    refine (setBytes_zero A c w).mono ?_
    rintro e w' ⟨rfl, rfl⟩
    exact ⟨_, rfl, .inl ⟨rfl, by rw [show (lv 256 ([] : List Int).reverse).toNat = 0 from rfl, dg_zero]⟩, Below.refl _ _, Fr.refl _ _⟩
  · exact setBytes_pos A n c l w hr hnc hd (by omega) hl

/-- Int.SetBytes of a new number. -/
theorem intSetBytes {p : Nat} (A : Option Addr) (n c : Nat) (l : List Int) (w : World) (h : It w p (.slice none 0 0) false []) (hr : Kd.C (Kd.int .u8) w A n l) (hnc : n ≤ c) (hd : Dig 256 l) (hl : n ≤ 100000) :
    Calls Try.prog 48 #[.pointer (some ⟨p, 0, none⟩), .slice A n c] w fun e w' => e = .returned (.pointer (some ⟨p, 0, none⟩)) ∧ Upd w p (.slice none 0 0) (lv 256 l.reverse) w' := by
  have H := Lib.hid (setBytes_any A n c l w hr hnc hd hl)
  have HI := Lib.hid h
  have h1 := h.abs1
  have hv := (lv_range (B := 256) (by omega) hd.reverse).1
  obtain ⟨x, hx⟩ : ∃ x, lv 256 l.reverse = x := ⟨_, rfl⟩
  rw [hx] at H hv ⊢
  clear h hr hd hx hnc hl
  go_enter Try.func48, Try.ntmps48
  go_wp2_with fail
  refine H.out.mono ?_
  rintro e w1 ⟨v', rfl, h2, h3, h4⟩
  obtain ⟨A', cc, rfl, _, _⟩ := h2.slice
  have hc : Chg (Own (.slice none 0 0)) w w1 := Chg.of_below h3
  obtain ⟨c0, c1, f0, f1⟩ := head_cell (head_kept HI.out hc)
  have HU := Lib.hid (upd_of (z := x) HI.out h2 hc h4 (by congr 1; omega))
  rw [show decide (x < 0) = false from decide_eq_false (by omega)] at HU
  clear h2 h3 h4 hc hv
  go_wp2
  go_ret
  exact ⟨rfl, HU.out⟩
end Go.Proofs.Ythckboojmljeiaa.Sb
