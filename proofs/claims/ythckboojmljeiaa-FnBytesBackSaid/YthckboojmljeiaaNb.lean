/- Walks: nat.setWord, nat.setUint64, nat.set; Int.SetUint64, Int.SetInt64. -/
import Derived.Test.YthckboojmljeiaaNa
namespace Go.Proofs.Ythckboojmljeiaa.Nb
set_option linter.unusedVariables false
set_option linter.unusedSimpArgs false
open Go.RowKit Go.Proofs.YthckboojmljeiaaW.PrintWords Go.Proofs.Ythckboojmljeiaa.Pl Go.Proofs.Ythckboojmljeiaa.Dg Go.Proofs.Ythckboojmljeiaa.Mem Go.Proofs.Ythckboojmljeiaa.Na

/-- What a nat operation leaves. -/
def NtOut (w : World) (v : Value) (l : List Int) (e : Ending) (w' : World) : Prop := ∃ v', e = .returned v' ∧ Nt w' v' l ∧ Chg (Own v) w w' ∧ Fr w v v'

/-- z[:0]. -/
theorem cut0 {w : World} {A : Option Addr} {n c : Nat} {l : List Int} (h : Nt w (.slice A n c) l) : Nt w (.slice A 0 c) [] := by
  rcases h with ⟨h, h1⟩ | ⟨g, cur, h, h1, h2, h3, h4⟩
  · simp only [Value.slice.injEq] at h
    obtain ⟨rfl, _, rfl⟩ := h
    exact .inl ⟨rfl, rfl⟩
  · simp only [Value.slice.injEq] at h
    obtain ⟨rfl, _, rfl⟩ := h
    exact .inr ⟨g, cur, rfl, h1, Nat.zero_le _, by simp, h4⟩
theorem own_len (A : Option Addr) (n m c d : Nat) : (Value.slice A n c).ownBlock = (Value.slice A m d).ownBlock := by cases A <;> rfl

theorem setWord_zero {w : World} {v : Value} {l : List Int} (h : Nt w v l) : Calls Try.prog 88 #[v, .int .u64 0] w (NtOut w v []) := by
  obtain ⟨A, c, rfl, hlc, hc⟩ := h.slice
  have H := Lib.hid (cut0 h)
  have HF : Fr w (.slice A l.length c) (.slice A 0 c) := .inl (own_len _ _ _ _ _)
  have H2 := Lib.hid HF
  clear h HF
  go_enter Try.func88, Try.ntmps88
  go_wp2
  go_ret
  exact ⟨_, rfl, H.out, Chg.refl _ _, H2.out⟩

theorem take_one (cur : List Int) (x : Int) (h : 1 ≤ cur.length) : (cur.set 0 x).take 1 = [x] := by
  cases cur with
  | nil => simp at h
  | cons y r => simp

theorem setWord_pos {w : World} {v : Value} {l : List Int} (h : Nt w v l) (x : Int) (hx0 : 0 < x) (hx1 : x < (BB : Int)) : Calls Try.prog 88 #[v, .int .u64 x] w (NtOut w v [x]) := by
  have hm := make_any h 1 (by omega) (by omega)
  have HM := Lib.hid hm
  have hb : (x == 0) = false := by rw [beq_eq_false_iff_ne]; omega
  clear hm h hx1
  go_enter Try.func88, Try.ntmps88
  go_wp2_with fail
  refine HM.out.mono ?_
  rintro e w1 ⟨g, cur, rfl, hr, h1, h2, hk⟩
  have hcell := hr.has 0 (by omega)
  obtain ⟨u, hcell⟩ := hcell
  have hfree := hr.free 0
  have hp := hr.put 0 x
  have HP := Lib.hid hp
  have HK := Lib.hid hk
  have HL := Lib.hid h1
  have hcl : (0 : Int) < (cur.length : Int) := by omega
  clear hr hp hk h1
  go_wp2
  go_ret
  refine ⟨_, rfl, .inr ⟨g, cur.set 0 x, by simp, HP.out, by simp; exact HL.out, by rw [show ([x] : List Int).length = 1 from rfl, take_one _ _ HL.out], by rw [List.length_set]; exact h2⟩, HK.out.chg.set g 0 _ HK.out.ok, HK.out.fr rfl⟩

theorem setWord_any {w : World} {v : Value} {l : List Int} (h : Nt w v l) (x : Int) (hx0 : 0 ≤ x) (hx1 : x < (BB : Int)) : Calls Try.prog 88 #[v, .int .u64 x] w (NtOut w v (dg x.toNat)) := by
  by_cases h0 : x = 0
  · subst h0
    rw [show (0 : Int).toNat = 0 from rfl, dg_zero]
    exact setWord_zero h
  · have e : dg x.toNat = [x] := by rw [dg_one (by omega) (by omega)]; congr 1; omega
    rw [e]
    exact setWord_pos h x (by omega) hx1

theorem setUint64_any {w : World} {v : Value} {l : List Int} (h : Nt w v l) (x : Int) (hx0 : 0 ≤ x) (hx1 : x < (BB : Int)) : Calls Try.prog 71 #[v, .int .u64 x] w (NtOut w v (dg x.toNat)) := by
  have H := Lib.hid (setWord_any h x hx0 hx1)
  clear h hx1
  go_enter Try.func71, Try.ntmps71
  go_wp2_with fail
  refine H.out.mono ?_
  rintro e w1 ⟨v', rfl, h1, h2, h3⟩
  have H1 := Lib.hid h1
  have H2 := Lib.hid h2
  have H3 := Lib.hid h3
  clear h1 h2 h3
  go_wp2
  go_ret
  exact ⟨_, rfl, H1.out, H2.out, H3.out⟩

/-! ### Ints -/
theorem head_ne {w : World} {p : Nat} {neg : Bool} {v v' : Value} {l' : List Int} (h : w.heap[p]? = some (.cells #[.bool neg, v] 64 (0, 0))) (h1 : Nt w v' l') : v'.ownBlock ≠ some p := by
  intro e
  rcases h1 with ⟨rfl, _⟩ | ⟨g, cur, rfl, h1, _⟩
  · cases e
  · cases e
    rw [h1] at h
    injection h with h
    injection h with _ h3
    cases h3
/-- The Int's own two cells behind an operation on its nat. -/
theorem head_kept {w w1 : World} {p : Nat} {neg : Bool} {v : Value} {l : List Int} (h : It w p v neg l) (hc : Chg (Own v) w w1) : w1.heap[p]? = some (.cells #[.bool neg, v] 64 (0, 0)) :=
  (hc.block p h.lt h.ne).trans h.1
theorem head_cell {w : World} {p : Nat} {neg : Bool} {v : Value} (h : w.heap[p]? = some (.cells #[.bool neg, v] 64 (0, 0))) : w.cell? ⟨p, 0, none⟩ = some (.bool neg) ∧ w.cell? ⟨p, 1, none⟩ = some v ∧ w.frozen? ⟨p, 0, none⟩ = false ∧ w.frozen? ⟨p, 1, none⟩ = false :=
  ⟨by rw [cell_of_row w p 0 _ 64 (0, 0) h]; rfl, by rw [cell_of_row w p 1 _ 64 (0, 0) h]; rfl, frozen_of_row w p 0 _ 64 h, frozen_of_row w p 1 _ 64 h⟩
abbrev OwnI (p : Nat) (v : Value) : Nat → Prop := fun k => k = p ∨ v.ownBlock = some k
theorem own_chg {w w1 : World} {p : Nat} {v : Value} (h : Chg (Own v) w w1) : Chg (OwnI p v) w w1 := h.mono (fun k _ h => .inr h)
/-- The new nat laid in, then the new sign. -/
theorem lay_sign {w w1 : World} {p : Nat} {neg : Bool} {v v' : Value} {l l' : List Int} (h : It w p v neg l) (h1 : Nt w1 v' l') (hc : Chg (Own v) w w1) (b : Bool) :
    It ((w1.setCell ⟨p, 1, none⟩ v').setCell ⟨p, 0, none⟩ (.bool b)) p v' b l' ∧ Chg (OwnI p v) w ((w1.setCell ⟨p, 1, none⟩ v').setCell ⟨p, 0, none⟩ (.bool b)) :=
  ⟨(It.lay (head_kept h hc) h1 (head_ne (head_kept h hc) h1)).sign b, ((own_chg hc).set p 1 _ (.inl (.inl rfl))).set p 0 _ (.inl (.inl rfl))⟩
theorem upd_of {w w1 : World} {p : Nat} {neg : Bool} {v v' : Value} {l l' : List Int} {z : Int} (h : It w p v neg l) (h1 : Nt w1 v' l') (hc : Chg (Own v) w w1) (hf : Fr w v v') (hz : l' = dg z.natAbs) :
    Upd w p v z ((w1.setCell ⟨p, 1, none⟩ v').setCell ⟨p, 0, none⟩ (.bool (decide (z < 0)))) := by
  obtain ⟨i1, i2⟩ := lay_sign h h1 hc (decide (z < 0))
  subst hz
  exact ⟨v', i1, i2, hf⟩

theorem intSetUint64 {w : World} {p : Nat} {v : Value} {neg : Bool} {l : List Int} (h : It w p v neg l) (x : Int) (hx0 : 0 ≤ x) (hx1 : x < (BB : Int)) :
    Calls Try.prog 53 #[.pointer (some ⟨p, 0, none⟩), .int .u64 x] w fun e w' => e = .returned (.pointer (some ⟨p, 0, none⟩)) ∧ Upd w p v x w' := by
  have H := Lib.hid (setUint64_any h.2 x hx0 hx1)
  have HI := Lib.hid h
  have h1 := h.abs1
  clear h hx1
  go_enter Try.func53, Try.ntmps53
  go_wp2_with fail
  refine H.out.mono ?_
  rintro e w1 ⟨v', rfl, h2, h3, h4⟩
  obtain ⟨A', cc, rfl, _, _⟩ := h2.slice
  obtain ⟨c0, c1, f0, f1⟩ := head_cell (head_kept HI.out h3)
  have HU := Lib.hid (upd_of (z := x) HI.out h2 h3 h4 (by congr 1; omega))
  rw [show decide (x < 0) = false from decide_eq_false (by omega)] at HU
  clear h2 h3 h4
  go_wp2
  go_ret
  exact ⟨rfl, HU.out⟩

/-! ### nat.set -/
theorem set_nil {w : World} {v : Value} {l : List Int} (h : Nt w v l) (B : Option Addr) (d : Nat) : Calls Try.prog 76 #[v, .slice B 0 d] w (NtOut w v []) := by
  obtain ⟨A, c, rfl, hlc, hc⟩ := h.slice
  have H := Lib.hid (cut0 h)
  have HF : Fr w (.slice A l.length c) (.slice A 0 c) := .inl (own_len _ _ _ _ _)
  have H2 := Lib.hid HF
  have HM := Lib.hid (make_room A l.length c 0 w (by omega) (by omega))
  clear h HF
  go_enter Try.func76, Try.ntmps76
  go_wp2_with fail
  refine HM.out.mono ?_
  rintro e w1 ⟨rfl, rfl⟩
  go_wp2_with (first | (refine wpList_copy_nothing rfl (.tmp 9) (.tmp 10) 62 62 rfl 74 Try.underlying62 (by kernel_rfl) A B 0 c 0 d rfl rfl rfl ?_))
  go_ret
  exact ⟨_, rfl, H.out, Chg.refl _ _, H2.out⟩

theorem copy_src {w : World} {lu : List Int} {n gu : Nat} (hl : lu.length = n) (hs : ∀ j, j < n → w.cell? ⟨gu, j, none⟩ = some (.int .u64 (lu.getD j 0))) : ∀ j v, (lu.map (Value.int .u64))[j]? = some v → w.cell? ((⟨gu, 0, none⟩ : Addr).add j) = some v := by
  intro j v hv
  rw [List.getElem?_map] at hv
  obtain ⟨x, hx, rfl⟩ := Option.map_eq_some_iff.1 hv
  have hj : j < lu.length := (List.getElem?_eq_some_iff.1 hx).1
  rw [add_plain, hs j (by omega), List.getD_eq_getElem?_getD, hx]
  rfl
theorem set_other {w : World} {v : Value} {l lu : List Int} {gu cu : Nat} (h : Nt w v l) (n : Nat) (hl : lu.length = n) (h0 : 0 < n) (hn : n ≤ 900000) (hs : ∀ j, j < n → w.cell? ⟨gu, j, none⟩ = some (.int .u64 (lu.getD j 0))) (ha : ¬ Own v gu) (hgu : gu < w.heap.size) :
    Calls Try.prog 76 #[v, .slice (some ⟨gu, 0, none⟩) n cu] w (NtOut w v lu) := by
  have HM := Lib.hid (make_any h n h0 hn)
  have HS := Lib.hid hs
  have HA := Lib.hid ha
  have HL := Lib.hid hl
  clear h hs ha hl
  go_enter Try.func76, Try.ntmps76
  go_wp2_with fail
  refine HM.out.mono ?_
  rintro e w1 ⟨g, cur, rfl, hr, h1, h2, hk⟩
  have HR := Lib.hid hr
  have HK := Lib.hid hk
  have HC := Lib.hid h1
  clear hr hk h1
  obtain ⟨new, hnew⟩ : ∃ new, lu ++ cur.drop n = new := ⟨_, rfl⟩
  have hlu := HL.out
  have hrow : ((cur.map (Value.int .u64)).toArray.toList.take 0 ++ (lu.map (Value.int .u64) ++ (cur.map (Value.int .u64)).toArray.toList.drop (0 + (lu.map (Value.int .u64)).length))).toArray = (new.map (Value.int .u64)).toArray := by
    rw [← hnew]
    simp [hlu]
  have hlen : new.length = cur.length := by have := HC.out; rw [← hnew]; simp; omega
  have htake : new.take n = lu := by rw [← hnew]; exact List.take_left' hlu
  have HLen := Lib.hid hlen
  have HTake := Lib.hid htake
  have HRow := Lib.hid hrow
  clear hlu hrow hlen htake hnew
  have HR2 := Lib.hid (HR.out.row new)
  have HC2 := Lib.hid (HK.out.chg.setRow g (new.map (Value.int .u64)).toArray HK.out.ok)
  go_wp2_with (first | (refine wpList_copy_own rfl (.tmp 9) (.tmp 10) 62 62 rfl 74 Try.underlying62 (by kernel_rfl) g 0 n cur.length ⟨gu, 0, none⟩ n cu rfl rfl (cur.map (Value.int .u64)).toArray 74 HR.out (lu.map (Value.int .u64)) ?hn ?hsrc ?hfit ?h1 ?_; (case hn => have := HL.out; simp [this]); (case hsrc => exact copy_src HL.out (fun j hj => HK.out.chg.cell (HS.out j hj) HA.out)); (case hfit => have := HL.out; have := HC.out; simp; omega); (case h1 => intro v hv; obtain ⟨x, _, rfl⟩ := List.mem_map.1 hv; rfl); rw [HRow.out]))
  go_ret
  have e : lu.length = n := HL.out
  exact ⟨.slice (some ⟨g, 0, none⟩) n cur.length, rfl, .inr ⟨g, new, by rw [e, HLen.out], HR2.out, by rw [HLen.out, e]; exact HC.out, by rw [e]; exact HTake.out, by rw [HLen.out]; exact h2⟩, HC2.out, HK.out.fr rfl⟩

/-- z.set(z). -/
theorem set_self {w : World} {v : Value} {l : List Int} (h : Nt w v l) : Calls Try.prog 76 #[v, v] w fun e w' => e = .returned v ∧ w = w' := by
  obtain ⟨A, c, rfl, hlc, hc⟩ := h.slice
  have HM := Lib.hid (make_room A l.length c (l.length : Int) w (by omega) (by omega))
  rcases h with ⟨h, rfl⟩ | ⟨g, cur, h, h1, h2, h3, h4⟩
  · simp only [Value.slice.injEq] at h
    obtain ⟨rfl, _, rfl⟩ := h
    clear hlc hc
    go_enter Try.func76, Try.ntmps76
    go_wp2_with fail
    refine HM.out.mono ?_
    rintro e w1 ⟨rfl, rfl⟩
    go_wp2_with (first | (refine wpList_copy_nothing rfl (.tmp 9) (.tmp 10) 62 62 rfl 74 Try.underlying62 (by kernel_rfl) none none 0 0 0 0 rfl rfl rfl ?_))
    go_ret
    exact ⟨rfl, rfl⟩
  · simp only [Value.slice.injEq] at h
    obtain ⟨rfl, _, rfl⟩ := h
    obtain ⟨n, hn⟩ : ∃ n, l.length = n := ⟨_, rfl⟩
    rw [hn] at HM hlc h3
    have hs := Nt.cells (w := w) (l := l) (.inr ⟨g, cur, rfl, h1, h2, by rw [hn]; exact h3, h4⟩) rfl
    rw [hn] at h2 hs ⊢
    have e1 : (Int.ofNat n).toNat = n := by simp
    have hrow : ((cur.map (Value.int .u64)).toArray.toList.take 0 ++ (l.map (Value.int .u64) ++ (cur.map (Value.int .u64)).toArray.toList.drop (0 + (l.map (Value.int .u64)).length))).toArray = (cur.map (Value.int .u64)).toArray := by
      have e2 : (cur.map (Value.int .u64)) = (cur.take n).map (Value.int .u64) ++ (cur.map (Value.int .u64)).drop n := by
        rw [List.map_take, List.take_append_drop]
      rw [h3] at e2
      simp only [List.take_zero, List.nil_append, List.length_map, hn, Nat.zero_add]
      rw [← e2]
    have hself : w.setRow g (cur.map (Value.int .u64)).toArray = w := setRow_self w g _ 74 (0, 0) h1
    have HRow := Lib.hid hrow
    have HSelf := Lib.hid hself
    have HR := Lib.hid h1
    have HL := Lib.hid hn
    have HS := Lib.hid hs
    have HC := Lib.hid h2
    clear hrow hself h1 hn hs h2 hlc h3 e1
    go_enter Try.func76, Try.ntmps76
    go_wp2_with fail
    refine HM.out.mono ?_
    rintro e w1 ⟨rfl, rfl⟩
    rw [Int.toNat_natCast]
    go_wp2_with (first | (refine wpList_copy_own rfl (.tmp 9) (.tmp 10) 62 62 rfl 74 Try.underlying62 (by kernel_rfl) g 0 n cur.length ⟨g, 0, none⟩ n cur.length rfl rfl (cur.map (Value.int .u64)).toArray 74 HR.out (l.map (Value.int .u64)) ?hn ?hsrc ?hfit ?h1 ?_; (case hn => have := HL.out; simp [this]); (case hsrc => exact copy_src HL.out HS.out); (case hfit => have := HL.out; have := HC.out; simp; omega); (case h1 => intro v hv; obtain ⟨x, _, rfl⟩ := List.mem_map.1 hv; rfl); rw [HRow.out, HSelf.out]))
    go_ret
    exact ⟨rfl, rfl⟩

/-- nat.set. -/
theorem set_any {w : World} {v u : Value} {l lu : List Int} (h : Nt w v l) (hu : Nt w u lu) (ha : Ap v u) (hn : lu.length ≤ 900000) : Calls Try.prog 76 #[v, u] w (NtOut w v lu) := by
  by_cases h0 : lu = []
  · subst h0
    obtain ⟨B, d, rfl, _⟩ := hu.slice
    exact set_nil h B d
  · have hl : 0 < lu.length := List.length_pos_iff.2 h0
    rcases hu with ⟨_, h1⟩ | ⟨g, cur, rfl, h1, h2, h3, h4⟩
    · exact absurd h1 h0
    · exact set_other h lu.length rfl hl hn (Nt.cells (w := w) (l := lu) (.inr ⟨g, cur, rfl, h1, h2, h3, h4⟩) rfl) (fun e => ha g e rfl) h1.lt
end Go.Proofs.Ythckboojmljeiaa.Nb
