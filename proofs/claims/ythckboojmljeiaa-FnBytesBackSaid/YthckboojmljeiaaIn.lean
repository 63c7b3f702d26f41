/- Walks: Int.Set, Int.Neg; impl.of. -/
import Derived.Test.YthckboojmljeiaaNu
import Derived.Test.YthckboojmljeiaaVv
import Derived.Deep.RegionLaw
namespace Go.Proofs.Ythckboojmljeiaa.In
set_option linter.unusedVariables false
set_option linter.unusedSimpArgs false
open Go.RowKit Go.Proofs.YthckboojmljeiaaW.PrintWords Go.Proofs.Ythckboojmljeiaa.Pl Go.Proofs.Ythckboojmljeiaa.Dg Go.Proofs.Ythckboojmljeiaa.Mem Go.Proofs.Ythckboojmljeiaa.Na Go.Proofs.Ythckboojmljeiaa.Nb Go.Proofs.Ythckboojmljeiaa.Nu

theorem size64 : (Try.prog.info? 64).map (fun i => i.size) = some 2 := by kernel_rfl
theorem neqI_same (a : Addr) (w : World) : (binOp .neq 47 (.pointer (some a)) (.pointer (some a))).run Try.prog w = .ok (.bool false) w := by
  obtain ⟨i, hi, _⟩ := Option.map_eq_some_iff.1 size64
  exact Lib.run_neq_ptr_same w a Try.underlying47 hi
theorem neqI_other {w : World} {p q : Nat} {v u : Value} {a b : Bool} {l l' : List Int} (hne : p ≠ q) (h : It w p v a l) (h' : It w q u b l') : (binOp .neq 47 (.pointer (some ⟨p, 0, none⟩)) (.pointer (some ⟨q, 0, none⟩))).run Try.prog w = .ok (.bool true) w := by
  obtain ⟨i, hi, hs⟩ := Option.map_eq_some_iff.1 size64
  exact Vv.run_neq_ptr_other w Try.underlying47 hi (by rw [hs]; decide) (by simp [hne]) h.1 h'.1

theorem cell_far {w1 : World} {p q o : Nat} {x : Value} (h : w1.cell? ⟨q, o, none⟩ = some x) (hne : p ≠ q) (u : Value) : (w1.setCell ⟨p, 1, none⟩ u).cell? ⟨q, o, none⟩ = some x := by
  rw [World.cell?_of_block (w := w1) (Below.heap_setCell w1 ⟨p, 1, none⟩ _ q (fun e => hne e.symm))]
  exact h
theorem upd_drew {w w' : World} {p : Nat} {v : Value} {z : Int} (h : Upd w.drew p v z w') : Upd w p v z w' := by
  obtain ⟨v', h1, h2, h3⟩ := h
  exact ⟨v', h1, ⟨h2.os, h2.tape, h2.output, h2.size, h2.block⟩, h3⟩
theorem intSet_self (p : Nat) (w : World) : Calls Try.prog 59 #[.pointer (some ⟨p, 0, none⟩), .pointer (some ⟨p, 0, none⟩)] w fun e w' => e = .returned (.pointer (some ⟨p, 0, none⟩)) ∧ w = w' := by
  have hne := neqI_same ⟨p, 0, none⟩ w
  go_enter Try.func59, Try.ntmps59
  go_wp2
  go_ret
  exact ⟨rfl, rfl⟩

/-- Another Int is kept. -/
theorem iz_kept {w w' : World} {p q : Nat} {v u : Value} {z x : Int} (hq : Iz w q u x) (hc : Chg (OwnI p v) w w') (hne : q ≠ p) (hv : v.ownBlock ≠ some q) (ha : Ap v u) (hup : u.ownBlock ≠ some p) : Iz w' q u x :=
  It.kept hq hc (by rintro (h | h); exact hne h; exact hv h) (fun g hg => by rintro (h | h); exact hup (by rw [hg, h]); exact ha g h hg)

set_option maxRecDepth 100000 in
theorem intSet {w : World} {p q : Nat} {v u : Value} {z x : Int} (hp : Iz w p v z) (hq : Iz w q u x) (ha : Ap v u) (hne : p ≠ q) (hn : (dg x.natAbs).length ≤ 900000) :
    Calls Try.prog 59 #[.pointer (some ⟨p, 0, none⟩), .pointer (some ⟨q, 0, none⟩)] w fun e w' => e = .returned (.pointer (some ⟨p, 0, none⟩)) ∧ Upd w p v x w' := by
  have HS := Lib.hid (set_any (w := w.drew) hp.2 hq.2 ha hn)
  have HI := Lib.hid hp
  have HQ := Lib.hid hq
  have hpq := neqI_other hne hp hq
  have h1 := hp.abs1
  have hq0 := hq.neg0
  have hq1 := hq.abs1
  have hvq : v.ownBlock ≠ some q := hq.ne_nat hp.2
  have HVQ := Lib.hid hvq
  have HA := Lib.hid ha
  have HN := Lib.hid hn
  obtain ⟨s, hs⟩ : ∃ s, decide (x < 0) = s := ⟨_, rfl⟩
  rw [hs] at hq0
  have HSg := Lib.hid hs
  obtain ⟨A, c, rfl, _⟩ := hp.2.slice
  obtain ⟨B, d, rfl, _⟩ := hq.2.slice
  clear hp hq ha hn hvq hs
  go_enter Try.func59, Try.ntmps59
  go_wp2_with fail
  go_region_law (first | (go_simp; go_at_call 76; refine HS.out.mono ?_; rintro e w1 ⟨v', rfl, h2, h3, h4⟩; obtain ⟨A', cc, rfl, _, _⟩ := h2.slice; obtain ⟨c0, c1, f0, f1⟩ := head_cell (head_kept HI.out.drew h3); have cq0 := h3.cell (show w.drew.cell? ⟨q, 0, none⟩ = some (.bool s) from hq0) HVQ.out; have cq1 := h3.cell (show w.drew.cell? ⟨q, 1, none⟩ = some (.slice B (dg x.natAbs).length d) from hq1) HVQ.out; have cq1s := cell_far cq1 hne (.slice A' (dg x.natAbs).length cc); have cq0s := cell_far cq0 hne (.slice A' (dg x.natAbs).length cc); have HU := Lib.hid (upd_of (z := x) HI.out.drew h2 h3 h4 rfl); clear h2 h3 h4))
  all_goals
    rw [HSg.out] at HU
    go_wp2
    go_ret
    exact ⟨rfl, upd_drew HU.out⟩

theorem neg_upd {w : World} {p : Nat} {v : Value} {z : Int} (h : Iz w p v z) : Upd w p v (-z) (w.setCell ⟨p, 0, none⟩ (.bool (decide (-z < 0)))) := by
  refine ⟨v, ?_, (Chg.refl _ _).set p 0 _ (.inl (.inl rfl)), Fr.refl _ _⟩
  unfold Iz
  rw [Int.natAbs_neg]
  exact It.sign h _
/-- Neg of itself. -/
theorem intNeg {w : World} {p : Nat} {v : Value} {z : Int} (h : Iz w p v z) : Calls Try.prog 52 #[.pointer (some ⟨p, 0, none⟩), .pointer (some ⟨p, 0, none⟩)] w fun e w' => e = .returned (.pointer (some ⟨p, 0, none⟩)) ∧ Upd w p v (-z) w' := by
  have HU := Lib.hid (neg_upd h)
  have HS := Lib.hid (intSet_self p w)
  have h0 := h.neg0
  have h1 := h.abs1
  have hf := h.free 0
  obtain ⟨A, c, rfl, hlc, _⟩ := h.2.slice
  by_cases hz : z = 0
  · subst hz
    have hl : (dg (Int.natAbs 0)).length = 0 := by rw [show Int.natAbs 0 = 0 from rfl, dg_zero]; rfl
    rw [hl] at h1
    rw [show decide ((0 : Int) < 0) = false from rfl] at h0
    rw [show decide (-(0 : Int) < 0) = false from rfl] at HU
    clear h hlc hl
    go_enter Try.func52, Try.ntmps52
    go_wp2_with fail
    refine HS.out.mono ?_
    rintro e w1 ⟨rfl, rfl⟩
    go_wp2_with fail
    go_ret
    exact ⟨rfl, HU.out⟩
  · have hl := dg_len_pos (n := z.natAbs) (by omega)
    obtain ⟨n, hn⟩ : ∃ n, (dg z.natAbs).length = n := ⟨_, rfl⟩
    rw [hn] at h1 hl hlc HU ⊢
    have hb3 : (0 : Int) < (n : Int) := by omega
    by_cases hs : z < 0
    · rw [decide_eq_true hs] at h0
      rw [show decide (-z < 0) = false from decide_eq_false (by omega)] at HU
      clear h hn hs hz
      go_enter Try.func52, Try.ntmps52
      go_wp2_with fail
      refine HS.out.mono ?_
      rintro e w1 ⟨rfl, rfl⟩
      go_wp2_with fail
      go_ret
      exact ⟨rfl, HU.out⟩
    · rw [decide_eq_false hs] at h0
      rw [show decide (-z < 0) = true from decide_eq_true (by omega)] at HU
      clear h hn hs hz
      go_enter Try.func52, Try.ntmps52
      go_wp2_with fail
      refine HS.out.mono ?_
      rintro e w1 ⟨rfl, rfl⟩
      go_wp2_with fail
      go_ret
      exact ⟨rfl, HU.out⟩

/-- Two steps on one Int. -/
theorem upd_trans {w w1 w2 : World} {p : Nat} {v v1 : Value} {z : Int} (hc : Chg (OwnI p v) w w1) (hf : Fr w v v1) (h : Upd w1 p v1 z w2) : Upd w p v z w2 := by
  obtain ⟨v', h1, h2, h3⟩ := h
  refine ⟨v', h1, hc.trans h2 ?_, ?_⟩
  · rintro k hk (h | h)
    · exact .inl h
    · rcases hf with hf | ⟨b, hb, hl⟩
      · exact .inr (hf ▸ h)
      · rw [hb] at h
        cases h
        omega
  · rcases h3 with h3 | ⟨b, hb, hl⟩
    · rcases hf with hf | ⟨b, hb, hl⟩
      · exact .inl (h3.trans hf)
      · exact .inr ⟨b, h3.trans hb, hl⟩
    · exact .inr ⟨b, hb, Nat.le_trans hc.size hl⟩

/-- impl.of. -/
theorem impl_of (A : Option Addr) (c : Nat) (l : List Int) (b : Bool) (w : World) (hr : Kd.C (Kd.int .u8) w A l.length l) (hc : l.length ≤ c) (hd : Dig 256 l) (hl : l.length ≤ 100000) :
    Calls Try.prog 38 #[.slice A l.length c, .bool b] w (NewZ w (if b then - lv 256 l.reverse else lv 256 l.reverse)) := by
  obtain ⟨w1, hw1⟩ : ∃ w1, w.alloc (.cells #[.bool false, .slice none 0 0] 64) = w1 := ⟨_, rfl⟩
  have hb1 : Below w.heap.size w w1 := by rw [← hw1]; exact (Below.refl _ _).alloc (Nat.le_refl _) _
  have hi : It w1 w.heap.size (.slice none 0 0) false [] := by rw [← hw1]; exact It.made w
  have HX := Lib.hid (Sb.intSetBytes (p := w.heap.size) A l.length c l w1 hi (Kd.C_below hr hb1) hc hd hl)
  have HB1 := Lib.hid hb1
  clear hb1 hi hr hc hd
  cases b
  · go_enter Try.func38, Try.ntmps38
    go_wp2_with fail
    refine HX.out.mono ?_
    rintro e w2 ⟨rfl, hu⟩
    have HU := Lib.hid hu
    clear hu hw1
    go_wp2_with fail
    go_ret
    exact new_upd HB1.out (Nat.le_refl _) (fun g h => by cases h) HU.out
  · go_enter Try.func38, Try.ntmps38
    go_wp2_with fail
    refine HX.out.mono ?_
    rintro e w2 ⟨rfl, v', h1, h2, h3⟩
    have HN := Lib.hid (intNeg h1)
    have H2 := Lib.hid h2
    have H3 := Lib.hid h3
    clear h1 h2 h3 hw1
    go_wp2_with fail
    refine HN.out.mono ?_
    rintro e w3 ⟨rfl, hu⟩
    have HU := Lib.hid (upd_trans H2.out H3.out hu)
    clear hu
    go_wp2_with fail
    go_ret
    exact new_upd HB1.out (Nat.le_refl _) (fun g h => by cases h) HU.out
end Go.Proofs.Ythckboojmljeiaa.In
