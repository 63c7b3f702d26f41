/- Walk: BigInt2Uint64Le; Walk: impl.StoreWords. The law FnExactStoreWords. -/
import Derived.Test.YthckboojmljeiaaMge
import Derived.Test.YthckboojmljeiaaMgf
import Derived.Test.YthckboojmljeiaaMgg
import Derived.Test.YthckboojmljeiaaMgj
import Derived.Test.YthckboojmljeiaaMgd
import Derived.Test.YthckboojmljeiaaPFnExactStoreWordsx3
namespace Go.Proofs.Ythckboojmljeiaa.Wt
set_option linter.unusedVariables false
set_option linter.unusedSimpArgs false
open Go.RowKit Go.Proofs.YthckboojmljeiaaW.PrintWords Go.Proofs.YthckboojmljeiaaW.PrintLast Go.Proofs.YthckboojmljeiaaW.PrintMore Go.Proofs.Ythckboojmljeiaa.Pl Go.Proofs.Ythckboojmljeiaa.Dg Go.Proofs.Ythckboojmljeiaa.Mem Go.Proofs.Ythckboojmljeiaa.Na Go.Proofs.Ythckboojmljeiaa.Nb Go.Proofs.Ythckboojmljeiaa.Nu Go.Proofs.Ythckboojmljeiaa.In Go.Proofs.Ythckboojmljeiaa.Tw Go.Proofs.Ythckboojmljeiaa.Tr Go.Proofs.Ythckboojmljeiaa.Be Go.Proofs.Ythckboojmljeiaa.Ow Go.Proofs.Ythckboojmljeiaa.Bl Go.Proofs.Ythckboojmljeiaa.Bn Go.Proofs.Ythckboojmljeiaa.Rp Go.Proofs.Ythckboojmljeiaa.Ir Go.Proofs.Ythckboojmljeiaa.Ni Go.Proofs.Ythckboojmljeiaa.Is Go.Proofs.Ythckboojmljeiaa.Ia

theorem words_len (X : Nat) : (bln X + 63) / 64 = (dg X).length := by
  by_cases hX : X = 0
  · subst hX; rw [dg_zero]; rfl
  · have hp := dg_len_pos (n := X) (by omega)
    have h1 := dg_lt X
    have h2 := dg_ge (n := X) (by omega)
    obtain ⟨m, hm⟩ : ∃ m, (dg X).length = m + 1 := ⟨_, (Nat.succ_pred_eq_of_pos hp).symm⟩
    rw [hm] at h1 h2 ⊢
    rw [Nat.add_sub_cancel] at h2
    rw [BB_pow, ← Nat.pow_mul] at h1 h2
    have u1 : bln X ≤ 64 * (m + 1) := bln_le.2 h1
    have u2 : ¬ bln X ≤ 64 * m := by rw [bln_le]; omega
    omega
/-- What BigInt2Uint64Le leaves in a buffer. -/
def stW (xs : List Int) (X : Nat) : List Int := if (dg X).length ≤ xs.length then dg X ++ List.replicate (xs.length - (dg X).length) 0 else xs

abbrev U : TypeId := 33
theorem intSub_one {w : World} {p q : Nat} {v u : Value} (h : Iz w p v ((1 * BB : Nat) : Int)) (hq : Iz w q u 1) (ha : Ap v u) :
    Calls Try.prog 63 #[.pointer (some ⟨p, 0, none⟩), .pointer (some ⟨p, 0, none⟩), .pointer (some ⟨q, 0, none⟩)] w fun e w' => e = .returned (.pointer (some ⟨p, 0, none⟩)) ∧ Upd w p v ((BB - 1 : Nat) : Int) w' := by
  have := intSub_pos (X := 1 * BB) (Y := 1) h hq ha (by decide) (by decide)
  rw [show 1 * BB - 1 = BB - 1 from by rw [Nat.one_mul]] at this
  exact this

set_option maxHeartbeats 2000000 in
set_option maxRecDepth 100000 in
theorem storeW_pos {w : World} {p0 : Nat} {v0 : Value} {X : Nat} {B g n cap : Nat} {xs : List Int} (h : Iz w p0 v0 (X : Int)) (hX : 0 < X) (hk : (dg X).length ≤ n) (hO : w.ownsRow B U 1 (.slice (some ⟨g, 0, none⟩) n cap) n (nums .u64 xs)) (hn : n ≤ 100000) :
    Calls Try.prog 46 #[.slice (some ⟨g, 0, none⟩) n cap, .pointer (some ⟨p0, 0, none⟩)] w fun e w' => e = .returned (.tuple #[]) ∧ w'.ownsRow B U 1 (.slice (some ⟨g, 0, none⟩) n cap) n (nums .u64 (dg X ++ List.replicate (n - (dg X).length) 0)) ∧ w.grownBy w' (some g) := by
  have hxl : xs.length = n := by have := hO.1; simpa [nums] using this
  have hwl := words_len X
  have HL := Lib.hid (intBitLen h)
  have HS := Lib.hid (intSign h)
  rw [Int.natAbs_natCast] at HL
  rw [Int.sign_eq_one_of_pos (by omega)] at HS
  obtain ⟨R, hR⟩ : ∃ R, dg X ++ List.replicate (n - (dg X).length) 0 = R := ⟨_, rfl⟩
  have hRl : R.length = n := by rw [← hR]; simp; omega
  have hR1 : ∀ i, i < (dg X).length → R.getD i 0 = ((X / BB ^ i % BB : Nat) : Int) := fun i hi => by
    rw [← hR, List.getD_eq_getElem?_getD, List.getElem?_append_left hi, ← List.getD_eq_getElem?_getD, dg_get]
  have hR2 : ∀ i, (dg X).length ≤ i → R.getD i 0 = 0 := fun i hi => by
    rw [← hR, List.getD_eq_getElem?_getD, List.getElem?_append_right hi, List.getElem?_replicate]
    split <;> rfl
  have hpos : ∀ i, i < (dg X).length → 0 < X / BB ^ i := fun i hi => by
    have h2 := dg_ge (n := X) hX
    have h3 : BB ^ i ≤ BB ^ ((dg X).length - 1) := Nat.pow_le_pow_right BB_pos (by omega)
    exact Nat.div_pos (Nat.le_trans h3 h2) (Nat.pow_pos BB_pos)
  rw [hR]
  have hgl := (hO.lt g rfl).2
  have hset : Calls Try.prog 59 #[.pointer (some ⟨w.heap.size, 0, none⟩), .pointer (some ⟨p0, 0, none⟩)] ((w.alloc (.cells #[.bool false, .slice none 0 0] 64)).alloc (.cells #[.bool false, .slice none 0 0] 64)) fun e w' => e = .returned (.pointer (some ⟨w.heap.size, 0, none⟩)) ∧ Upd ((w.alloc (.cells #[.bool false, .slice none 0 0] 64)).alloc (.cells #[.bool false, .slice none 0 0] 64)) w.heap.size (.slice none 0 0) (X : Int) w' := by
    have h2 : Iz ((w.alloc (.cells #[.bool false, .slice none 0 0] 64)).alloc (.cells #[.bool false, .slice none 0 0] 64)) p0 v0 (X : Int) := It.kept h (S := fun _ => False) (((Chg.refl _ _).alloc _).alloc _) (fun e => e) (fun g hg e => e)
    have := h.lt
    exact intSet (Two.made w).iz h2 (Ap.nil _) (by omega) (by rw [Int.natAbs_natCast]; omega)
  have hpr : Pr w.heap.size ((w.alloc (.cells #[.bool false, .slice none 0 0] 64)).alloc (.cells #[.bool false, .slice none 0 0] 64)) w.heap.size (w.heap.size + 1) (.slice none 0 0) (.slice none 0 0) 0 0 := Pr.of_two (Two.made w)
  have hL0 : Lr .u64 U w ((w.alloc (.cells #[.bool false, .slice none 0 0] 64)).alloc (.cells #[.bool false, .slice none 0 0] 64)) B g n cap R 0 :=
    Lr.chg (S := fun _ => False) (wr := w) ⟨xs, hO, rfl, grownBy_refl _ _⟩ (((Chg.refl _ _).alloc _).alloc _) (fun k e => e.elim) hgl
  obtain ⟨k, hkk⟩ : ∃ k, (dg X).length = k := ⟨_, rfl⟩
  rw [hkk] at hR1 hR2 hpos hk hwl
  obtain ⟨b, hb⟩ : ∃ b, bln X = b := ⟨_, rfl⟩
  rw [hb] at HL hwl
  obtain ⟨wa, hwa⟩ : ∃ wa, (w.alloc (.cells #[.bool false, .slice none 0 0] 64)).alloc (.cells #[.bool false, .slice none 0 0] 64) = wa := ⟨_, rfl⟩
  obtain ⟨N, hN⟩ : ∃ N, w.heap.size = N := ⟨_, rfl⟩
  have HWA := Lib.hid hwa
  have HN := Lib.hid hN
  have HSet := Lib.hid hset
  have HPr := Lib.hid hpr
  have HL0 := Lib.hid hL0
  have HRl := Lib.hid hRl
  have HR1 := Lib.hid hR1
  have HR2 := Lib.hid hR2
  have HPos := Lib.hid hpos
  have HGL := Lib.hid hgl
  have hkb : ((b : Int) + 63) / 64 = (k : Int) := by omega
  have hb7 : b ≤ 6400000 := by omega
  have hkn2 : (k : Int) ≤ (n : Int) := by omega
  clear hset hpr hL0 hRl hR1 hR2 hpos hgl hwa hN h hO hxl hwl hR hkk hb hX
  go_enter Try.func46, Try.ntmps46
  go_wp2_with fail
  refine HL.out.mono ?_
  rintro e w1 ⟨rfl, rfl⟩
  go_wp2_with fail
  refine HS.out.mono ?_
  rintro e w1 ⟨rfl, rfl⟩
  go_wp2_with fail
  refine HSet.out.mono ?_
  rintro e w2 ⟨rfl, hu⟩
  have hs2 : w.heap.size ≤ w2.heap.size := by
    obtain ⟨_, _, i2, _⟩ := hu
    have := i2.size
    simp at this
    omega
  obtain ⟨v1, hp1⟩ := HPr.out.updP (by simp; omega) hu
  have hL1 := HL0.out.chg (HPr.out.chgP hu) (fun k e => e) HGL.out
  have HP1 := Lib.hid hp1
  have HL1 := Lib.hid hL1
  have HS2 := Lib.hid hs2
  have HNew := Lib.hid (newInt1 w2)
  clear hu hs2 hp1 hL1 HSet HPr HL0
  go_wp2_with fail
  refine HNew.out.mono ?_
  rintro e w3 ⟨r, t, rfl, i1, i2, i3, i4⟩
  have HT := Lib.hid (Tri.made HP1.out HS2.out i1 i2 i3 i4)
  have HL2 := Lib.hid (HL1.out.chg (S := fun _ => False) (Chg.of_below i4) (fun k e => e.elim) HGL.out)
  have HLsh := Lib.hid (intLsh (X := 1) i1 (by rw [dg_one (by decide) (by decide)]; decide))
  clear i1 i2 i3 i4 HNew HP1 HL1
  go_wp2_with fail
  refine HLsh.out.mono ?_
  rintro e w4 ⟨rfl, hu⟩
  obtain ⟨t1, ht1⟩ := HT.out.updR HL2.out.size hu
  have HL3 := Lib.hid (HL2.out.chg (HT.out.rot.rot.pq.chgP hu) (fun k e => e) HGL.out)
  have HT1 := Lib.hid ht1
  have HNew := Lib.hid (newInt1 w4)
  clear hu ht1 HT HL2 HLsh
  go_wp2_with fail
  refine HNew.out.mono ?_
  rintro e w5 ⟨s, t2, rfl, i1, i2, i3, i4⟩
  have ht2 := HT1.out.below i4
  have HT2 := Lib.hid ht2
  have HL4 := Lib.hid (HL3.out.chg (S := fun _ => False) (Chg.of_below i4) (fun k e => e.elim) HGL.out)
  have HSub := Lib.hid (intSub_one ht2.pr.iq i1 (fun g hg hg2 => by have := Nt.lt HT1.out.pr.iq.2 g hg; have := i3 g hg2; omega))
  clear i1 i2 i3 i4 ht2 HNew HT1 HL3
  go_wp2_with fail
  refine HSub.out.mono ?_
  rintro e w6 ⟨rfl, hu⟩
  obtain ⟨t3, ht3⟩ := HT2.out.updR HL4.out.size hu
  have HL5 := Lib.hid (HL4.out.chg (HT2.out.rot.rot.pq.chgP hu) (fun k e => e) HGL.out)
  have HT3 := Lib.hid ht3
  clear hu ht3 HT2 HL4 HSub
  go_wp2_with fail
  go_loopw [9] (fun t wr => ∃ (i : Nat) (va ua ta : Value) (zi : Int), i ≤ k ∧ t = .int .i64 (i : Int) ∧ Hid (Lr .u64 U w wr B g n cap R i ∧ Tri w.heap.size wr w.heap.size (w.heap.size + 1) r va ua ta ((X / BB ^ i : Nat) : Int) zi ((BB - 1 : Nat) : Int))) (fun t _ => k - (intOf t).toNat)
  case atStart => exact ⟨0, _, _, _, 0, by omega, rfl, HL5.out, by rw [Nat.pow_zero, Nat.div_one]; exact HT3.out⟩
  case round =>
    clear HT3 HL5
    obtain ⟨i, va, ua, ta, zi, hi, rfl, HI⟩ := hrel
    by_cases hlt : i < k
    · have hT := HI.out.2
      have HAnd := Lib.hid (intAnd hT.pq.iq hT.pq.iz hT.qr.iq (HPos.out i hlt) hT.pq.ap.symm hT.qr.ap)
      have b1 : (i : Int) < (k : Int) := by omega
      have b2 : (i : Int) < (n : Int) := by omega
      clear hT
      go_wp2_with fail
      refine HAnd.out.mono ?_
      rintro e w7 ⟨rfl, hu⟩
      obtain ⟨u1, ht1⟩ := HI.out.2.updQ HI.out.1.size hu
      have HLa := Lib.hid (HI.out.1.chg (HI.out.2.pq.swap.chgP hu) (fun k e => e) HGL.out)
      have HTa := Lib.hid ht1
      have HU := intUint64 ht1.pq.iq
      rw [Nat.mod_mod] at HU
      have HU := Lib.hid HU
      clear hu ht1 HI HAnd
      obtain ⟨⟨u, hcell⟩, hfree⟩ := HLa.out.has i (by omega)
      have hxx := HR1.out i hlt
      obtain ⟨D, hD⟩ : ∃ D, X / BB ^ i % BB = D := ⟨_, rfl⟩
      rw [hD] at HU hxx
      have HD := Lib.hid hD
      have HLb := Lib.hid (HLa.out.put (by omega) HRl.out (D : Int) hxx)
      have HTb := Lib.hid (HTa.out.put g i (.int .u64 (D : Int)) HGL.out)
      have HRs := Lib.hid (intRsh64 HTb.out.pq.iz)
      clear hD hxx
      go_wp2_with fail
      refine HU.out.mono ?_
      rintro e w8 ⟨rfl, rfl⟩
      go_wp2_with fail
      refine HRs.out.mono ?_
      rintro e w9 ⟨rfl, hu⟩
      obtain ⟨v2, ht2⟩ := HTb.out.updP HLb.out.size hu
      have HLc := Lib.hid (HLb.out.chg (HTb.out.pq.chgP hu) (fun k e => e) HGL.out)
      rw [Nat.div_div_eq_div_mul, ← Nat.pow_succ] at ht2
      have HTc := Lib.hid ht2
      clear hu ht2 HRs HU HTa HTb HLa HLb
      go_wp2_with fail
      go_roundw
      case rel => exact ⟨i + 1, _, _, _, _, by omega, by go_num, HLc.out, HTc.out⟩
      case measure => simp [intOf]; omega
    · have hik : i = k := by omega
      subst hik
      have HI1 := Lib.hid HI.out.1
      clear HI
      go_wp2_with fail
      go_loopw [10] (fun t w2 => ∃ j : Nat, i ≤ j ∧ j ≤ n ∧ t = .int .i64 (j : Int) ∧ Hid (Lr .u64 U w w2 B g n cap R j)) (fun t _ => n - (intOf t).toNat)
      case atStart => exact ⟨i, by omega, by omega, rfl, HI1.out⟩
      case round =>
        clear HI1
        obtain ⟨j, hij, hjn, rfl, HI⟩ := hrel
        by_cases hlt2 : j < n
        · have HP := Lib.hid (HI.out.put hlt2 HRl.out 0 (HR2.out j hij))
          obtain ⟨⟨u, hcell⟩, hfree⟩ := HI.out.has j hlt2
          have b1 : (j : Int) < (n : Int) := by omega
          go_wp2_with fail
          go_roundw
          case rel => exact ⟨j + 1, by omega, by omega, by go_num, HP.out⟩
          case measure => simp [intOf]; omega
        · have hjn2 : j = n := by omega
          subst hjn2
          go_wp2_with fail
          go_end0
          exact ⟨rfl, HI.out.all HRl.out⟩

set_option maxHeartbeats 2000000 in
set_option maxRecDepth 100000 in
theorem storeW_zero {w : World} {p0 : Nat} {v0 : Value} {B g n cap : Nat} {xs : List Int} (h : Iz w p0 v0 0) (hO : w.ownsRow B U 1 (.slice (some ⟨g, 0, none⟩) n cap) n (nums .u64 xs)) (hn : n ≤ 100000) :
    Calls Try.prog 46 #[.slice (some ⟨g, 0, none⟩) n cap, .pointer (some ⟨p0, 0, none⟩)] w fun e w' => e = .returned (.tuple #[]) ∧ w'.ownsRow B U 1 (.slice (some ⟨g, 0, none⟩) n cap) n (nums .u64 (List.replicate n 0)) ∧ w.grownBy w' (some g) := by
  have HL := Lib.hid (intBitLen h)
  have HS := Lib.hid (intSign h)
  rw [show bln (Int.natAbs 0) = 0 from rfl] at HL
  rw [show Int.sign 0 = 0 from rfl] at HS
  have HL0 := Lib.hid (show Lr .u64 U w w B g n cap (List.replicate n 0) 0 from ⟨xs, hO, rfl, grownBy_refl _ _⟩)
  have hRl : (List.replicate n (0 : Int)).length = n := by simp
  have hR2 : ∀ i, (List.replicate n (0 : Int)).getD i 0 = 0 := fun i => by
    rw [List.getD_eq_getElem?_getD, List.getElem?_replicate]
    split <;> rfl
  obtain ⟨R, hR⟩ : ∃ R, List.replicate n (0 : Int) = R := ⟨_, rfl⟩
  rw [hR] at HL0 hRl hR2 ⊢
  have HRl := Lib.hid hRl
  have HR2 := Lib.hid hR2
  have hn0 : (0 : Int) ≤ (n : Int) := by omega
  clear hRl hR2 hR h hO
  go_enter Try.func46, Try.ntmps46
  go_wp2_with fail
  refine HL.out.mono ?_
  rintro e w1 ⟨rfl, rfl⟩
  go_wp2_with fail
  refine HS.out.mono ?_
  rintro e w1 ⟨rfl, rfl⟩
  go_wp2_with fail
  go_loopw [10] (fun t w2 => ∃ j : Nat, j ≤ n ∧ t = .int .i64 (j : Int) ∧ Hid (Lr .u64 U w w2 B g n cap R j)) (fun t _ => n - (intOf t).toNat)
  case atStart => exact ⟨0, by omega, rfl, HL0.out⟩
  case round =>
    clear HL0
    obtain ⟨j, hjn, rfl, HI⟩ := hrel
    by_cases hlt2 : j < n
    · have HP := Lib.hid (HI.out.put hlt2 HRl.out 0 (HR2.out j))
      obtain ⟨⟨u, hcell⟩, hfree⟩ := HI.out.has j hlt2
      have b1 : (j : Int) < (n : Int) := by omega
      go_wp2_with fail
      go_roundw
      case rel => exact ⟨j + 1, by omega, by go_num, HP.out⟩
      case measure => simp [intOf]; omega
    · have hjn2 : j = n := by omega
      subst hjn2
      go_wp2_with fail
      go_end0
      exact ⟨rfl, HI.out.all HRl.out⟩

set_option maxHeartbeats 2000000 in
set_option maxRecDepth 100000 in
theorem storeW_no {w : World} {p0 : Nat} {v0 : Value} {X : Nat} {B g n cap : Nat} {xs : List Int} (h : Iz w p0 v0 (X : Int)) (hk : n < (dg X).length) (hkB : (dg X).length ≤ 100000) (hO : w.ownsRow B U 1 (.slice (some ⟨g, 0, none⟩) n cap) n (nums .u64 xs)) :
    Calls Try.prog 46 #[.slice (some ⟨g, 0, none⟩) n cap, .pointer (some ⟨p0, 0, none⟩)] w fun e w' => e = .returned (.tuple #[]) ∧ w'.ownsRow B U 1 (.slice (some ⟨g, 0, none⟩) n cap) n (nums .u64 xs) ∧ w.grownBy w' (some g) := by
  have hwl := words_len X
  have HL := Lib.hid (intBitLen h)
  rw [Int.natAbs_natCast] at HL
  have HO := Lib.hid hO
  obtain ⟨k, hkk⟩ : ∃ k, (dg X).length = k := ⟨_, rfl⟩
  rw [hkk] at hk hwl hkB
  obtain ⟨b, hb⟩ : ∃ b, bln X = b := ⟨_, rfl⟩
  rw [hb] at HL hwl
  have hkb : ((b : Int) + 63) / 64 = (k : Int) := by omega
  have hb7 : b ≤ 6400000 := by omega
  have hkn2 : ¬ (k : Int) ≤ (n : Int) := by omega
  have hkn3 : ¬ (k : Int) < (n : Int) := by omega
  clear h hO hwl hkk hb
  go_enter Try.func46, Try.ntmps46
  go_wp2_with fail
  refine HL.out.mono ?_
  rintro e w1 ⟨rfl, rfl⟩
  go_wp2_with fail
  refine wp_loop_rounds 1 ?_
  rw [rounds_succ]
  go_wp2_with fail
  go_end0
  exact ⟨rfl, HO.out, grownBy_refl _ _⟩

/-- BigInt2Uint64Le. -/
theorem storeW {w : World} {p0 : Nat} {v0 : Value} {X : Nat} {B g n cap : Nat} {xs : List Int} (h : Iz w p0 v0 (X : Int)) (hkB : (dg X).length ≤ 100000) (hO : w.ownsRow B U 1 (.slice (some ⟨g, 0, none⟩) n cap) n (nums .u64 xs)) (hn : n ≤ 100000) :
    Calls Try.prog 46 #[.slice (some ⟨g, 0, none⟩) n cap, .pointer (some ⟨p0, 0, none⟩)] w fun e w' => e = .returned (.tuple #[]) ∧ w'.ownsRow B U 1 (.slice (some ⟨g, 0, none⟩) n cap) n (nums .u64 (stW xs X)) ∧ w.grownBy w' (some g) := by
  have hxl : xs.length = n := by have := hO.1; simpa [nums] using this
  unfold stW
  rw [hxl]
  by_cases hk : (dg X).length ≤ n
  · rw [if_pos hk]
    by_cases hX : X = 0
    · subst hX
      rw [dg_zero]
      exact storeW_zero h hO hn
    · exact storeW_pos h (by omega) hk hO hn
  · rw [if_neg hk]
    exact storeW_no h (by omega) hkB hO
end Go.Proofs.Ythckboojmljeiaa.Wt
namespace Go.Proofs.Ythckboojmljeiaa.Sw
set_option linter.unusedVariables false
set_option linter.unusedSimpArgs false
open Go.RowKit Go.Proofs.YthckboojmljeiaaW.PrintWords Go.Proofs.YthckboojmljeiaaW.PrintLast Go.Proofs.YthckboojmljeiaaW.PrintMore Go.Proofs.Ythckboojmljeiaa.Pl Go.Proofs.Ythckboojmljeiaa.Dg Go.Proofs.Ythckboojmljeiaa.Mem Go.Proofs.Ythckboojmljeiaa.Na Go.Proofs.Ythckboojmljeiaa.Nb Go.Proofs.Ythckboojmljeiaa.Be Go.Proofs.Ythckboojmljeiaa.Ow Go.Proofs.Ythckboojmljeiaa.By Go.Proofs.Ythckboojmljeiaa.Sb Go.Proofs.Ythckboojmljeiaa.Nu Go.Proofs.Ythckboojmljeiaa.In Go.Proofs.Ythckboojmljeiaa.Bl Go.Proofs.Ythckboojmljeiaa.Bn Go.Proofs.Ythckboojmljeiaa.Bs Go.Proofs.Ythckboojmljeiaa.St Go.Proofs.Ythckboojmljeiaa.Wt Go.Proofs.Ythckboojmljeiaa.PFnExactStoreWords

/-! ### The reference -/
theorem short_l0 (l : List Int) (hl : l.length ≤ 100000) : ∀ k, l.length < k → spec_Short.l0 k l = some (strip l) := by
  induction l with
  | nil =>
    intro k hk
    obtain ⟨k, rfl⟩ : ∃ m, k = m + 1 := ⟨k - 1, by omega⟩
    simp [spec_Short.l0, strip]
  | cons x r ih =>
    intro k hk
    obtain ⟨k, rfl⟩ : ∃ m, k = m + 1 := ⟨k - 1, by omega⟩
    simp only [spec_Short.l0]
    simp only [List.length_cons] at hl hk
    rw [if_pos (by simp only [List.length_cons]; omega), if_pos (by simp only [List.length_cons]; omega), show rd (x :: r) 0 = x from by simp [rd]]
    by_cases h : x = 0
    · subst h
      rw [if_pos rfl, if_pos (by simp only [List.length_cons]; omega), List.drop_one, List.tail_cons, ih (by omega) k (by omega)]
      rfl
    · rw [if_neg h]
      simp only [Option.bind_some]
      rw [if_pos (by simp; omega)]
      unfold strip
      rw [List.dropWhile_cons, if_neg (by simpa using h)]
      rfl
theorem short_eq (l : List Int) (hl : l.length ≤ 100000) (k : Nat) (hk : l.length < k) : spec_Short.f k l = some (strip l) := short_l0 l hl k hk
theorem turned_l0 (l : List Int) (hl : l.length ≤ 100000) : ∀ (i k : Nat) (acc : List Int), i ≤ l.length → acc.length + i ≤ 100000 → i < k →
    spec_Turned.l0 k l acc ((i : Int) - 1) = some (acc ++ (l.take i).reverse) := by
  intro i
  induction i with
  | zero =>
    intro k acc _ _ hk
    obtain ⟨k, rfl⟩ : ∃ m, k = m + 1 := ⟨k - 1, by omega⟩
    simp only [spec_Turned.l0]
    rw [if_neg (by omega)]
    simp
  | succ i ih =>
    intro k acc h1 h2 hk
    obtain ⟨k, rfl⟩ : ∃ m, k = m + 1 := ⟨k - 1, by omega⟩
    simp only [spec_Turned.l0]
    rw [show ((i + 1 : Nat) : Int) - 1 = (i : Int) from by omega, if_pos (by omega), if_pos (by omega), if_pos (by omega), if_pos (by omega), w64 (by omega) (by omega), show rd l (i : Int) = l.getD i 0 from by simp [rd]]
    rw [ih k _ (by omega) (by simp; omega) (by omega), take_succ_getD l i (by omega)]
    simp
theorem turned_eq (l : List Int) (hl : l.length ≤ 100000) (k : Nat) (hk : l.length < k) : spec_Turned.f k l = some l.reverse := by
  unfold spec_Turned.f
  rw [w64 (by omega) (by omega), turned_l0 l hl l.length _ [] (by omega) (by simpa using hl) (by omega)]
  simp
theorem words_l0 (l : List Int) (hd : Dig 256 l) (hl : l.length ≤ 100000) (m : Nat) (hm : l.length ≤ 8 * m) (hm2 : m ≤ 100000) : ∀ (r i k : Nat), i + r = l.length → r < k →
    spec_Words.l0 k l (wds m (l.take i)) (i : Int) = some (wds m l) := by
  intro r
  induction r with
  | zero =>
    intro i k hi hk
    obtain ⟨k, rfl⟩ : ∃ m, k = m + 1 := ⟨k - 1, by omega⟩
    simp only [spec_Words.l0]
    rw [if_neg (by omega), List.take_of_length_le (by omega)]
  | succ r ih =>
    intro i k hi hk
    obtain ⟨k, rfl⟩ : ∃ m, k = m + 1 := ⟨k - 1, by omega⟩
    have hil : i < l.length := by omega
    have hw := wds_old_lt m l hd i hil (by omega)
    have hb := hd.get hil
    have hs := wds_step m l i hil (by omega)
    simp only [spec_Words.l0]
    have e1 : Int.tdiv (i : Int) 8 = ((i / 8 : Nat) : Int) := by rw [Int.tdiv_eq_ediv_of_nonneg (by omega)]; omega
    have e2 : Int.tmod (i : Int) 8 = ((i % 8 : Nat) : Int) := by rw [Int.tmod_eq_emod_of_nonneg (by omega)]; omega
    have e3 : wrap64 ((i / 8 : Nat) : Int) = ((i / 8 : Nat) : Int) := w64 (by omega) (by omega)
    have e4 : wrap64 (((i % 8 : Nat) : Int) * 8) = ((8 * (i % 8) : Nat) : Int) := by rw [w64 (by omega) (by omega)]; omega
    have e5 : IntKind.u64.wrap ((8 * (i % 8) : Nat) : Int) = ((8 * (i % 8) : Nat) : Int) := wu64_in (by omega) (by omega)
    have e7 : rd l (i : Int) = l.getD i 0 := by unfold rd; rw [Int.toNat_natCast]
    have hwl := wds_length m (l.take i)
    obtain ⟨x, hx⟩ : ∃ x, l.getD i 0 = x := ⟨_, rfl⟩
    obtain ⟨W, hW⟩ : ∃ W, wds m (l.take i) = W := ⟨_, rfl⟩
    rw [hx] at hb hs e7
    rw [hW] at hw hs hwl ⊢
    have e6 : rd W ((i / 8 : Nat) : Int) = W.getD (i / 8) 0 := by unfold rd; rw [Int.toNat_natCast]
    obtain ⟨o, ho⟩ : ∃ x, W.getD (i / 8) 0 = x := ⟨_, rfl⟩
    rw [ho] at hw hs e6
    obtain ⟨q, hq⟩ : ∃ q, i / 8 = q := ⟨_, rfl⟩
    obtain ⟨t, ht⟩ : ∃ q, i % 8 = q := ⟨_, rfl⟩
    rw [hq] at e1 e3 e6 hs
    rw [ht] at e2 e4 e5 hw hs
    have e8 : Go.bits .or .u64 o (shl .u64 x ((8 * t : Nat) : Int)) = o + 256 ^ t * x := by
      unfold shl
      rw [Int.toNat_natCast, show IntKind.u64.bits = 64 from rfl, Nat.min_eq_left (by omega)]
      exact or_byte _ _ t (by omega) hw.1 hw.2 hb.1 hb.2
    have e9 : IntKind.u64.wrap x = x := wu64_in hb.1 (by omega)
    have c1 : (i : Int) < (l.length : Int) := by omega
    have c2 : (0 : Int) ≤ ((q : Nat) : Int) := by omega
    have c3 : ((q : Nat) : Int) < (W.length : Int) := by omega
    have c4 : (0 : Int) ≤ (i : Int) := by omega
    have c5 : (0 : Int) ≤ ((8 * t : Nat) : Int) := by omega
    have e10 : wrap64 ((i : Int) + 1) = ((i + 1 : Nat) : Int) := by rw [w64 (by omega) (by omega)]; omega
    have hf := ih (i + 1) k (by omega) (by omega)
    rw [hs] at hf
    rw [if_pos c1, e1, e2, e3, e4, e5, e6, e7, e9, e8, e10, if_pos c2, if_pos c3, if_pos c4, if_pos c5, Int.toNat_natCast]
    exact hf
theorem words_eq (l : List Int) (hd : Dig 256 l) (hl : l.length ≤ 100000) (k : Nat) (hk : l.length < k) : spec_Words.f k l = some (wds ((l.length + 7) / 8) l) := by
  unfold spec_Words.f
  have e1 : wrap64 ((l.length : Int) + 7) = ((l.length + 7 : Nat) : Int) := by rw [w64 (by omega) (by omega)]; omega
  have e2 : Int.tdiv ((l.length + 7 : Nat) : Int) 8 = (((l.length + 7) / 8 : Nat) : Int) := by rw [Int.tdiv_eq_ediv_of_nonneg (by omega)]; omega
  have e3 : wrap64 (((l.length + 7) / 8 : Nat) : Int) = (((l.length + 7) / 8 : Nat) : Int) := w64 (by omega) (by omega)
  rw [e1, e2, e3, if_pos (by omega), Int.toNat_natCast, if_pos (by omega)]
  have := words_l0 l hd hl ((l.length + 7) / 8) (by omega) (by omega) l.length 0 k (by omega) hk
  rw [List.take_zero, wds_nil] at this
  exact this
theorem strip_le (l : List Int) : (strip l).length ≤ l.length := (List.dropWhile_sublist _).length_le
/-- The words of a number. -/
theorem words_dg (n : List Int) (hd : Dig 256 n) (X : Nat) (hX : lv 256 n.reverse = (X : Int)) : wds (((strip n).length + 7) / 8) (strip n).reverse = dg X := by
  have h1 := strip_len X n hd hX
  have h2 := words_len X
  have hds := (strip_dig hd).reverse
  refine Sp.lv_inj (B := (BB : Int)) (by decide) (wds_dig _ _ hds) (dg_dig X) ?_ ?_
  · rw [wds_length, ← h2, h1]
    omega
  · rw [wds_lv _ _ (by rw [List.length_reverse]; omega), strip_lv, hX, lv_dg]
theorem sw_fin (buf W : List Int) (hb : buf.length ≤ 10000) (hW : W.length ≤ 10000) : (if (W.length : Int) > (buf.length : Int) then ((some (([] : List Int) : List Int)).bind fun y195 => (if y195.length + buf.length < 17592186044416 then (some (y195 ++ buf)) else (none))) else (if 0 ≤ (wrap64 ((buf.length : Int) - (W.length : Int))) then (if W.length + (wrap64 ((buf.length : Int) - (W.length : Int)) : Int).toNat < 17592186044416 then (some (W ++ List.replicate (wrap64 ((buf.length : Int) - (W.length : Int)) : Int).toNat 0)) else (none)) else (none))) = some (if W.length ≤ buf.length then W ++ List.replicate (buf.length - W.length) 0 else buf) := by
  by_cases h : W.length ≤ buf.length
  · have e : wrap64 ((buf.length : Int) - (W.length : Int)) = ((buf.length - W.length : Nat) : Int) := by rw [w64 (by omega) (by omega)]; omega
    have c1 : ¬ (W.length : Int) > (buf.length : Int) := by omega
    have c2 : (0 : Int) ≤ ((buf.length - W.length : Nat) : Int) := by omega
    have c3 : W.length + (buf.length - W.length) < 17592186044416 := by omega
    rw [if_neg c1, e, if_pos c2, Int.toNat_natCast, if_pos c3, if_pos h]
  · have c1 : (W.length : Int) > (buf.length : Int) := by omega
    have c3 : ([] : List Int).length + buf.length < 17592186044416 := by simp; omega
    rw [if_pos c1, Option.bind_some, if_pos c3, if_neg h, List.nil_append]
theorem storeWords_eq (buf n : List Int) (hd : Dig 256 n) (hb : buf.length ≤ 10000) (hn : n.length ≤ 10000) (X : Nat) (hX : lv 256 n.reverse = (X : Int)) (k : Nat) (hk : n.length < k) : spec_StoreWords.f k buf n = some (stW buf X) := by
  have hsl := strip_le n
  have hwd := words_dg n hd X hX
  have hdl : (dg X).length ≤ 10000 := by
    rw [← hwd, wds_length]
    omega
  have hsd := (strip_dig hd).reverse
  unfold spec_StoreWords.f stW
  have e1 := short_eq n (by omega) k hk
  have e2 := turned_eq (strip n) (by omega) k (by omega)
  have e3 := words_eq (strip n).reverse hsd (by rw [List.length_reverse]; omega) k (by rw [List.length_reverse]; omega)
  rw [List.length_reverse, hwd] at e3
  obtain ⟨W, hW⟩ : ∃ W, dg X = W := ⟨_, rfl⟩
  rw [hW] at e3 hdl ⊢
  rw [e1, Option.bind_some, e2, Option.bind_some, e3, Option.bind_some]
  exact sw_fin buf W hb hdl
/-- A returned slice that reads a list of words. -/
def Rd64 (w : World) (l : List Int) (e : Ending) (w' : World) : Prop := ∃ A c, e = .returned (.slice A l.length c) ∧ l.length ≤ c ∧ Kd.C (Kd.int .u64) w' A l.length l ∧ Below w.heap.size w w'
theorem spec_call (A : Option Addr) (c : Nat) (l : List Int) (A1 : Option Addr) (c1 : Nat) (n : List Int) (w : World) (hr : Kd.C (Kd.int .u64) w A l.length l) (hc : l.length ≤ c) (hl : l.length ≤ 10000) (hr1 : Kd.C (Kd.int .u8) w A1 n.length n) (hc1 : n.length ≤ c1) (hl1 : n.length ≤ 10000) (hd : Dig 256 n) (X : Nat) (hX : lv 256 n.reverse = (X : Int)) :
    Calls Try.prog 34 #[.slice A l.length c, .slice A1 n.length c1] w (Rd64 w (stW l X)) := by
  refine (spec_StoreWords.calls (n.length + 1) A c l A1 c1 n (stW l X) w hr hc hr1 hc1 (storeWords_eq l n hd hl hl1 X hX _ (by omega))).mono ?_
  rintro e w' ⟨v, rfl, h1, h2⟩
  obtain ⟨A2, c2, rfl, h3, h4⟩ := Kd.R_reads h1
  exact ⟨A2, c2, rfl, h3, h4, h2⟩

/-! ### impl.StoreWords -/
theorem lit_row64 (w : World) : (w.alloc (.cells #[] 33)).ownsRow w.heap.size 33 1 (.slice (some ⟨w.heap.size, 0, none⟩) 0 0) 0 (encs (Value.int .u64) []) :=
  ⟨rfl, .inr ⟨w.heap.size, 0, #[], rfl, Nat.le_refl _, heap_alloc_new w _, Nat.le_refl _, by unfold maxLen; omega, rfl, rfl⟩⟩
theorem infoU64 : (Try.prog.info? 33).map (fun i => (i.zero, i.size, i.bytes)) = some (some (.int .u64 0), 1, 8) := by kernel_rfl

set_option maxRecDepth 100000 in
theorem impl_storeW (A : Option Addr) (c : Nat) (l : List Int) (A1 : Option Addr) (c1 : Nat) (n : List Int) (w : World) (hr : Kd.C (Kd.int .u64) w A l.length l) (hc : l.length ≤ c) (hl : l.length ≤ 10000) (hr1 : Kd.C (Kd.int .u8) w A1 n.length n) (hc1 : n.length ≤ c1) (hl1 : n.length ≤ 10000) (hd1 : Dig 256 n) (X : Nat) (hX : lv 256 n.reverse = (X : Int)) :
    Calls Try.prog 33 #[.slice A l.length c, .slice A1 n.length c1] w (Rd64 w (stW l X)) := by
  obtain ⟨wa, hwa⟩ : ∃ wa, w.alloc (.cells #[] 33) = wa := ⟨_, rfl⟩
  have HBa := Lib.hid (show Below w.heap.size w wa from by rw [← hwa]; exact (Below.refl _ _).alloc (Nat.le_refl _) _)
  have HOa := Lib.hid (show wa.ownsRow w.heap.size 33 1 (.slice (some ⟨w.heap.size, 0, none⟩) 0 0) 0 (encs (Value.int .u64) []) from by rw [← hwa]; exact lit_row64 w)
  have HR := Lib.hid (Kd.C_below hr HBa.out)
  have HN := Lib.hid (fun (w2 : World) (hb : Below w.heap.size w w2) => impl_of A1 c1 n false w2 (Kd.C_below hr1 hb) hc1 hd1 (by omega))
  have HZ := Lib.hid (show (dg X).length ≤ 100000 by
    have := words_dg n hd1 X hX
    rw [← this, wds_length]
    have := strip_le n
    omega)
  have HXX := Lib.hid hX
  clear hr hr1 hd1 hc1 hX
  go_enter Try.func33, Try.ntmps33
  go_wp2_with (first | (at_builtin; refine print_append_row_of (w0 := w) (Value.int .u64) (0 : Int) w.heap.size rfl (.tmp 6) (.tmp 7) 29 33 (.int .u64 0) 8 rfl Try.underlying29 infoU64 rfl (by decide) (fun _ => rfl) (.slice (some ⟨w.heap.size, 0, none⟩) 0 0) [] l A l.length c rfl rfl ?aO ?aR ?aB ?aS ?aL ?_; (case aO => exact HOa.out); (case aR => exact Kd.reads_of_C HR.out); (case aB => exact HBa.out); (case aS => exact HBa.out.size); (case aL => simp; omega); intro v1 w3 ho hb hg hat; have HO1 := Lib.hid ho; have HB3 := Lib.hid hb; clear ho hb hg))
  obtain ⟨g, cap, rfl⟩ : ∃ g cap, v1 = .slice (some ⟨g, 0, none⟩) l.length cap := by
    rcases HO1.out.2 with ⟨h, _⟩ | ⟨g, cap, cur, h, _⟩
    · subst h
      rcases hat with h | ⟨b, h, _⟩ <;> cases h
    · exact ⟨g, cap, h⟩
  have HO2 := Lib.hid (show w3.ownsRow w.heap.size 33 1 (.slice (some ⟨g, 0, none⟩) l.length cap) l.length (nums .u64 l) from HO1.out)
  clear hat HO1 hwa
  have hn := HN.out w3 HB3.out
  rw [show (if false = true then -lv 256 n.reverse else lv 256 n.reverse) = lv 256 n.reverse from rfl, HXX.out] at hn
  have HN2 := Lib.hid hn
  clear hn HN
  go_wp2_with fail
  refine HN2.out.mono ?_
  rintro e w4 ⟨p, v, rfl, hz, hp, hv, hb⟩
  have HO3 := Lib.hid (pw_own_below HO2.out hb)
  have HS := Lib.hid (storeW (B := w.heap.size) (g := g) (n := l.length) (cap := cap) (xs := l) hz HZ.out HO3.out (by omega))
  have HB4 := Lib.hid (below_then HB3.out HB3.out.size hb)
  clear hz hp hv hb
  go_wp2_with fail
  refine HS.out.mono ?_
  rintro e w5 ⟨rfl, h1, h2⟩
  have H1 := Lib.hid h1
  have H2 := Lib.hid (below_of_grown HB4.out h2 HB4.out.size (HO2.out.lt g rfl).1)
  clear h1 h2
  go_wp2_with fail
  go_ret
  have hl2 : (stW l X).length = l.length := by
    have := H1.out.1
    simpa [nums] using this
  obtain ⟨A3, c3, h3, h4, h5⟩ := own_reads_of_le (enc := Value.int .u64) (d := (0 : Int)) (xs := stW l X) H1.out
  rw [← hl2] at h3 h4 h5
  refine ⟨A3, c3, ?_, h4, Kd.C_of_reads (h1 := fun _ => rfl) h5, H2.out⟩
  rw [← h3]
  rw [hl2]
  rfl

set_option maxRecDepth 100000 in
theorem law (A : Option Addr) (c : Nat) (l : List Int) (A1 : Option Addr) (c1 : Nat) (n : List Int) (w : World) (hr : Kd.C (Kd.int .u64) w A l.length l) (hc : l.length ≤ c) (hr1 : Kd.C (Kd.int .u8) w A1 n.length n) (hc1 : n.length ≤ c1) (hd1 : Dig 256 n) :
    Calls Try.prog 12 #[.slice A l.length c, .slice A1 n.length c1] w fun e w' => e = .returned (.bool true) ∧ Below w.heap.size w w' := by
  have hlv := (lv_range (B := 256) (by omega) hd1.reverse).1
  obtain ⟨X, hX⟩ := Int.eq_ofNat_of_zero_le hlv
  have HR := Lib.hid hr
  have HC := Lib.hid hc
  have HR1 := Lib.hid hr1
  have HC1 := Lib.hid hc1
  have HD := Lib.hid hd1
  have HX := Lib.hid hX
  clear hr hc hr1 hc1 hd1 hX hlv
  go_enter Try.func12, Try.ntmps12
  by_cases h0 : (2147483647 : Int) < (l.length : Int)
  · go_wp2
    go_ret
    exact ⟨rfl, Below.refl _ _⟩
  by_cases h1 : (2147483647 : Int) < (n.length : Int)
  · go_wp2
    go_ret
    exact ⟨rfl, Below.refl _ _⟩
  by_cases h2 : (4096 : Int) < (l.length : Int)
  · go_wp2
    go_ret
    exact ⟨rfl, Below.refl _ _⟩
  by_cases h3 : (4096 : Int) < (n.length : Int)
  · go_wp2
    go_ret
    exact ⟨rfl, Below.refl _ _⟩
  have HI := Lib.hid (impl_storeW A c l A1 c1 n w HR.out HC.out (by omega) HR1.out HC1.out (by omega) HD.out X HX.out)
  have hl1 : l.length ≤ 4096 := by omega
  have hl2 : n.length ≤ 4096 := by omega
  go_wp2_with fail
  refine HI.out.mono ?_
  rintro e w1 ⟨A2, c2, rfl, hc2, hC2, hb2⟩
  have HS := Lib.hid (spec_call A c l A1 c1 n w1 (Kd.C_below HR.out hb2) HC.out (by omega) (Kd.C_below HR1.out hb2) HC1.out (by omega) HD.out X HX.out)
  have HC2 := Lib.hid hC2
  have HB2 := Lib.hid hb2
  clear hc2 hC2 hb2 HI
  go_wp2_with fail
  refine HS.out.mono ?_
  rintro e w3 ⟨A3, c3, rfl, hc3, hC3, hb3⟩
  have HE := Lib.hid (Be.equal A2 A3 _ c2 c3 (stW l X) w3 (Kd.C_below HC2.out hb3) hC3)
  have HB3 := Lib.hid (below_then HB2.out HB2.out.size hb3)
  clear hC3 hb3 hc3 HS HC2
  go_wp2_with fail
  refine HE.out.mono ?_
  rintro e w4 ⟨rfl, hd4⟩
  have HB4 := Lib.hid (below_then HB3.out HB3.out.size hd4.below)
  clear hd4
  go_wp2
  go_ret
  exact ⟨rfl, HB4.out⟩
end Go.Proofs.Ythckboojmljeiaa.Sw
