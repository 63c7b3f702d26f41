/- Walks: Int.Lsh by 64, Int.Add of numbers not below 0; Walks: rshVU_g, rshVU in place; nat.rsh of itself, by 64 and by less than 64; Walks: Int.Rsh, Int.And with 2^64 - 1, Int.Uint64, NewInt(1); Walks: low64, Int.Uint64, Int.Int64, Int.Bit(0), Int.SetInt64, NewInt(1). -/
import Derived.Test.YthckboojmljeiaaMge
import Derived.Test.YthckboojmljeiaaMgb
import Derived.Deep.RegionLaw
import Derived.BigQuiet
import Derived.Deep.QuietTactic
import Derived.Test.YthckboojmljeiaaMga
import Derived.BigRegion
namespace Go.Proofs.Ythckboojmljeiaa.Ia
set_option linter.unusedVariables false
set_option linter.unusedSimpArgs false
open Go.RowKit Go.Proofs.YthckboojmljeiaaW.PrintWords Go.Proofs.Ythckboojmljeiaa.Pl Go.Proofs.Ythckboojmljeiaa.Dg Go.Proofs.Ythckboojmljeiaa.Mem Go.Proofs.Ythckboojmljeiaa.Na Go.Proofs.Ythckboojmljeiaa.Nb Go.Proofs.Ythckboojmljeiaa.Nu Go.Proofs.Ythckboojmljeiaa.In Go.Proofs.Ythckboojmljeiaa.Ls Go.Proofs.Ythckboojmljeiaa.Sm

theorem upd_pos {w w1 : World} {p : Nat} {neg : Bool} {v v' : Value} {l : List Int} {Z : Nat} (h : It w p v neg l) (h1 : Nt w1 v' (dg Z)) (hc : Chg (Own v) w w1) (hf : Fr w v v') :
    Upd w p v (Z : Int) ((w1.setCell ⟨p, 1, none⟩ v').setCell ⟨p, 0, none⟩ (.bool false)) := by
  have := upd_of (z := (Z : Int)) h h1 hc hf (by rw [Int.natAbs_natCast])
  rwa [show decide ((Z : Int) < 0) = false from decide_eq_false (by omega)] at this

theorem upd_dd {w w' : World} {p : Nat} {v : Value} {z : Int} {k : Nat} (h : Upd (w.drewN k).drew p v z w') : Upd w p v z w' := by
  obtain ⟨v', h1, h2, h3⟩ := h
  exact ⟨v', h1, ⟨h2.os, h2.tape, h2.output, h2.size, h2.block⟩, h3⟩
set_option maxRecDepth 100000 in
theorem intLsh {w : World} {p : Nat} {v : Value} {X : Nat} (h : Iz w p v (X : Int)) (hl : (dg X).length ≤ 800000) :
    Calls Try.prog 54 #[.pointer (some ⟨p, 0, none⟩), .pointer (some ⟨p, 0, none⟩), .int .u64 64] w fun e w' => e = .returned (.pointer (some ⟨p, 0, none⟩)) ∧ Upd w p v ((X * BB : Nat) : Int) w' := by
  have HI := Lib.hid h
  have h0 := h.neg0
  have h1 := h.abs1
  have h2 : Nt w.drew v (dg X) := h.2
  have HS := Lib.hid (lsh_any h2 hl)
  rw [show decide ((X : Int) < 0) = false from decide_eq_false (by omega)] at h0
  obtain ⟨A, c, rfl, _⟩ := h.2.slice
  rw [Int.natAbs_natCast] at h1 HI HS
  clear h h2
  go_enter Try.func54, Try.ntmps54
  go_wp2_with fail
  go_region_law (first | (go_simp; go_at_call 72; refine HS.out.mono ?_; rintro e w1 ⟨v', rfl, h2, h3, h4⟩; obtain ⟨A', cc, rfl, _, _⟩ := h2.slice; obtain ⟨c0, c1, f0, f1⟩ := head_cell (head_kept HI.out.drew h3); have HU := Lib.hid (upd_pos HI.out.drew h2 h3 h4); rw [show decide ((X : Int) < 0) = false from decide_eq_false (by omega)] at c0; clear h2 h3 h4))
  all_goals
    go_wp2
    go_ret
    exact ⟨rfl, upd_drew HU.out⟩

set_option maxRecDepth 100000 in
set_option maxHeartbeats 2000000 in
theorem intAdd {w : World} {p q : Nat} {v u : Value} {X Y : Nat} (h : Iz w p v (X : Int)) (hq : Iz w q u (Y : Int)) (ha : Ap v u) (hY : Y < BB) (hl : (dg X).length ≤ 800000) :
    Calls Try.prog 55 #[.pointer (some ⟨p, 0, none⟩), .pointer (some ⟨p, 0, none⟩), .pointer (some ⟨q, 0, none⟩)] w fun e w' => e = .returned (.pointer (some ⟨p, 0, none⟩)) ∧ Upd w p v ((X + Y : Nat) : Int) w' := by
  have HI := Lib.hid h
  have HQ := Lib.hid hq
  have h0 := h.neg0
  have h1 := h.abs1
  have hq0 := hq.neg0
  have hq1 := hq.abs1
  have h2 : Nt w v (dg X) := h.2
  have hq2 : Nt w u (dg Y) := hq.2
  have HS := Lib.hid (fun k => add_any (w := (w.drewN k).drew) h2 hq2 ha hY hl)
  rw [show decide ((X : Int) < 0) = false from decide_eq_false (by omega)] at h0
  rw [show decide ((Y : Int) < 0) = false from decide_eq_false (by omega)] at hq0
  obtain ⟨A, c, rfl, _⟩ := h.2.slice
  obtain ⟨B, d, rfl, _⟩ := hq.2.slice
  rw [Int.natAbs_natCast] at h1 HI HS
  rw [Int.natAbs_natCast] at hq1 HQ HS
  clear h h2 hq hq2 ha hY
  go_enter Try.func55, Try.ntmps55
  go_wp2_with fail
  go_quiet (fail)
  go_wp2_with fail
  go_region_law (first | (go_simp; go_at_call 73; refine (HS.out nq).mono ?_; rintro e w1 ⟨v', rfl, h2, h3, h4⟩; obtain ⟨A', cc, rfl, _, _⟩ := h2.slice; have hi : It (w.drewN nq).drew p (.slice A (dg X).length c) (decide ((X : Int) < 0)) (dg X) := HI.out; obtain ⟨c0, c1, f0, f1⟩ := head_cell (head_kept hi h3); have HU := Lib.hid (upd_pos hi h2 h3 h4); rw [show decide ((X : Int) < 0) = false from decide_eq_false (by omega)] at c0; clear h2 h3 h4 hi))
  all_goals
    by_cases hz : (0 : Int) < ((dg (X + Y)).length : Int)
    · go_wp2_with fail
      go_ret
      refine ⟨rfl, ?_⟩
      have hU := upd_dd HU.out
      first
        | exact hU
        | (rw [Int.natAbs_natCast]; exact hU)
        | (rw [Int.natCast_add] at hU; exact hU)
    · go_wp2_with fail
      go_ret
      refine ⟨rfl, ?_⟩
      have hU := upd_dd HU.out
      first
        | exact hU
        | (rw [Int.natAbs_natCast]; exact hU)
        | (rw [Int.natCast_add] at hU; exact hU)
end Go.Proofs.Ythckboojmljeiaa.Ia
namespace Go.Proofs.Ythckboojmljeiaa.Rs
set_option linter.unusedVariables false
set_option linter.unusedSimpArgs false
open Go.RowKit Go.Proofs.YthckboojmljeiaaW.PrintWords Go.Proofs.Ythckboojmljeiaa.Pl Go.Proofs.Ythckboojmljeiaa.Dg Go.Proofs.Ythckboojmljeiaa.Mem Go.Proofs.Ythckboojmljeiaa.Na Go.Proofs.Ythckboojmljeiaa.Nb Go.Proofs.Ythckboojmljeiaa.Sm Go.Proofs.Ythckboojmljeiaa.Ls Go.Proofs.Ythckboojmljeiaa.Rp Go.Proofs.Ythckboojmljeiaa.Vw

theorem u64_mask (n : Nat) (hn : n ≤ 64) (x : Int) (h0 : 0 ≤ x) (h1 : x < 2 ^ 64) : bits .and .u64 x (2 ^ n - 1) = x % 2 ^ n := bits_mask .u64 64 (by decide) wraps_u64 n hn x h0 h1
theorem u64_and63 {x : Int} (h0 : 0 ≤ x) (h1 : x < 64) : bits .and .u64 x 63 = x := by
  have := u64_mask 6 (by decide) x h0 (by omega)
  rw [show (2 : Int) ^ 6 - 1 = 63 from rfl] at this
  rw [this]
  omega
theorem copy_src1 {w : World} {lu : List Int} {n gu o : Nat} (hl : lu.length = n) (hs : ∀ j, j < n → w.cell? ⟨gu, o + j, none⟩ = some (.int .u64 (lu.getD j 0))) : ∀ j v, (lu.map (Value.int .u64))[j]? = some v → w.cell? ((⟨gu, o, none⟩ : Addr).add j) = some v := by
  intro j v hv
  rw [List.getElem?_map] at hv
  obtain ⟨x, hx, rfl⟩ := Option.map_eq_some_iff.1 hv
  have hj : j < lu.length := (List.getElem?_eq_some_iff.1 hx).1
  have e : (⟨gu, o, none⟩ : Addr).add j = ⟨gu, o + j, none⟩ := by unfold Addr.add; split <;> simp_all
  rw [e, hs j (by omega), List.getD_eq_getElem?_getD, hx]
  rfl
theorem cut_any {w : World} {v : Value} {l : List Int} {A : Option Addr} {n c : Nat} (h : Nt w v l) (hv : v = .slice A n c) : Nt w (.slice A 0 c) [] := cut0 (hv ▸ h)

/-- rsh to nothing. -/
theorem rsh_none {w : World} {v : Value} {l : List Int} (h : Nt w v l) (hl : l.length ≤ 1) : Calls Try.prog 79 #[v, v, .int .u64 64] w (NtOut w v []) := by
  obtain ⟨A, c, rfl, hlc, hc⟩ := h.slice
  have H := Lib.hid (cut0 h)
  have HF : Fr w (.slice A l.length c) (.slice A 0 c) := .inl (own_len _ _ _ _ _)
  have H2 := Lib.hid HF
  obtain ⟨n, hn⟩ : ∃ n, l.length = n := ⟨_, rfl⟩
  rw [hn] at hl hlc H2 ⊢
  have hn1 : (n : Int) - 1 ≤ 0 := by omega
  clear h HF hn
  go_enter Try.func79, Try.ntmps79
  go_wp2
  go_ret
  exact ⟨_, rfl, H.out, Chg.refl _ _, H2.out⟩
theorem rsh_none' {w : World} {v : Value} (s : Nat) (h : Nt w v []) (h1 : 1 ≤ s) (h2 : s < 64) : Calls Try.prog 79 #[v, v, .int .u64 (s : Int)] w (NtOut w v []) := by
  obtain ⟨A, c, rfl, hlc, hc⟩ := h.slice
  have H := Lib.hid (cut0 h)
  have e1 : (s : Int) / 64 = 0 := by omega
  have e2 : ((s : Int) == 0) = false := by rw [beq_eq_false_iff_ne]; omega
  clear h
  go_enter Try.func79, Try.ntmps79
  go_wp2
  go_ret
  exact ⟨_, rfl, H.out, Chg.refl _ _, Fr.refl _ _⟩

set_option maxHeartbeats 1000000 in
set_option maxRecDepth 100000 in
theorem rsh_word {w : World} {gx m : Nat} {cux : List Int} {X : Nat} (hlen : (dg X).length = m) (hm : 1 < m) (hR : Rw w gx cux) (hl : m ≤ cux.length) (hl2 : cux.length ≤ 1000000) (ht : cux.take m = dg X) :
    Calls Try.prog 79 #[.slice (some ⟨gx, 0, none⟩) m cux.length, .slice (some ⟨gx, 0, none⟩) m cux.length, .int .u64 64] w (NtOut w (.slice (some ⟨gx, 0, none⟩) m cux.length) (dg (X / BB))) := by
  obtain ⟨xs, hxs⟩ : ∃ xs, dg (X / BB) = xs := ⟨_, rfl⟩
  have hxl : xs.length = m - 1 := by rw [← hxs, ← dg_tail, List.length_drop, hlen]
  have hsrc : ∀ j, j < m - 1 → w.cell? ⟨gx, 1 + j, none⟩ = some (.int .u64 (xs.getD j 0)) := fun j hj => by
    rw [hR.cell (1 + j) (by omega), ← hxs, ← dg_tail, ← ht, List.getD_eq_getElem?_getD, List.getD_eq_getElem?_getD, List.getElem?_drop, List.getElem?_take, if_pos (by omega)]
  have HSrc := Lib.hid hsrc
  obtain ⟨new, hnew⟩ : ∃ new, xs ++ cux.drop (m - 1) = new := ⟨_, rfl⟩
  have hrow : ((cux.map (Value.int .u64)).toArray.toList.take 0 ++ (xs.map (Value.int .u64) ++ (cux.map (Value.int .u64)).toArray.toList.drop (0 + (xs.map (Value.int .u64)).length))).toArray = (new.map (Value.int .u64)).toArray := by
    rw [← hnew]
    simp [hxl]
  have hnl : new.length = cux.length := by rw [← hnew]; simp; omega
  have HT := Lib.hid (show new.take (m - 1) = xs by rw [← hnew]; exact List.take_left' hxl)
  have HD := Lib.hid (show DW xs by rw [← hxs]; exact dg_dig _)
  have HV := Lib.hid (show (lv (BB : Int) xs).toNat = X / BB by rw [← hxs, lv_dg, Int.toNat_natCast])
  have HRow := Lib.hid hrow
  have HNl := Lib.hid hnl
  have HRn := Lib.hid (hR.row new)
  have HR := Lib.hid hR
  have HXL := Lib.hid hxl
  have HXS := Lib.hid hxs
  have HL2 := Lib.hid hl2
  have HM := Lib.hid (make_room (some ⟨gx, 0, none⟩) m cux.length ((m : Int) - 1) w (by omega) (by omega))
  have b6 : (m : Int) ≤ 1000000 := by omega
  clear hR hsrc hrow hnew hnl hxl hxs hlen ht hl2
  have b1 : ¬ ((m : Int) - 1 ≤ 0) := by omega
  have b2 : (m : Int) - ((m : Int) - 1) = 1 := by omega
  have b3 : ((m : Int) - 1).toNat = m - 1 := by omega
  have b4 : (1 : Int) ≤ (m : Int) := by omega
  have b5 : (m : Int) ≤ (cux.length : Int) := by omega
  have q1 : ¬ cux.length = 1 := by omega
  go_enter Try.func79, Try.ntmps79
  go_wp2_with fail
  refine HM.out.mono ?_
  rintro e w1 ⟨rfl, rfl⟩
  rw [b3]
  go_wp2_with (first | (refine wpList_copy_own rfl (.tmp 40) (.tmp 45) 62 62 rfl 74 Try.underlying62 (by kernel_rfl) gx 0 (m - 1) cux.length ⟨gx, 1, none⟩ (m - 1) (cux.length - 1) rfl rfl (cux.map (Value.int .u64)).toArray 74 HR.out (xs.map (Value.int .u64)) ?hn ?hsrc ?hfit ?h1 ?_; (case hn => have := HXL.out; simp [this]); (case hsrc => exact copy_src1 HXL.out HSrc.out); (case hfit => have := HXL.out; simp; omega); (case h1 => intro v hv; obtain ⟨x, _, rfl⟩ := List.mem_map.1 hv; rfl); rw [HRow.out]))
  have hns := norm_fin (w := w) (v := .slice (some ⟨gx, 0, none⟩) m cux.length) (m := m - 1) (l := xs) (Z := X / BB) HRn.out (by rw [HNl.out]; omega) (by rw [HNl.out]; exact HL2.out) HT.out HD.out HV.out ((Chg.refl _ _).setRow gx _ (.inl rfl)) (.inl rfl)
  rw [HNl.out] at hns
  refine hns.mono ?_
  rintro e w4 ⟨v', rfl, h1, h2, h3⟩
  have H1 := Lib.hid h1
  have H2 := Lib.hid h2
  have H3 := Lib.hid h3
  clear h1 h2 h3 hns
  go_wp2
  go_ret
  exact ⟨_, rfl, H1.out, H2.out, H3.out⟩

theorem or_words (A B s sh : Nat) (hA : A < BB) (hs : s + sh = 64) : bits .or .u64 ((A : Int) / 2 ^ s) (IntKind.u64.wrap ((B : Int) * 2 ^ sh)) = ((A / 2 ^ s + (B * 2 ^ sh) % BB : Nat) : Int) := by
  have hB : BB = 2 ^ s * 2 ^ sh := by rw [← Nat.pow_add, hs]; rfl
  have hp : 0 < 2 ^ s := Nat.pow_pos (by decide)
  have hp2 : 0 < 2 ^ sh := Nat.pow_pos (by decide)
  have e1 : (A : Int) / 2 ^ s = ((A / 2 ^ s : Nat) : Int) := by exact_mod_cast rfl
  have e2 : IntKind.u64.wrap ((B : Int) * 2 ^ sh) = (((B * 2 ^ sh) % BB : Nat) : Int) := by
    have e3 : ((B : Int) * 2 ^ sh) = ((B * 2 ^ sh : Nat) : Int) := by push_cast; rfl
    obtain ⟨M, hM⟩ : ∃ M, B * 2 ^ sh = M := ⟨_, rfl⟩
    rw [e3, hM, wu64, BB_eq]
    omega
  have h1 : A / 2 ^ s < 2 ^ sh := by rw [Nat.div_lt_iff_lt_mul hp, Nat.mul_comm, ← hB]; exact hA
  have h2 : (B * 2 ^ sh) % BB % 2 ^ sh = 0 := by
    rw [hB, Nat.mul_mod_mul_right, Nat.mul_mod_left]
  have h3 : (B * 2 ^ sh) % BB < 2 ^ 64 := Nat.mod_lt _ BB_pos
  have h4 : A / 2 ^ s < 2 ^ 64 := Nat.lt_of_le_of_lt (Nat.div_le_self _ _) hA
  rw [e1, e2]
  obtain ⟨a, ha⟩ : ∃ a, A / 2 ^ s = a := ⟨_, rfl⟩
  obtain ⟨b, hb⟩ : ∃ b, (B * 2 ^ sh) % BB = b := ⟨_, rfl⟩
  rw [ha] at h1 h4 ⊢
  rw [hb] at h2 h3 ⊢
  rw [u64_or_comm (a : Int) (b : Int) (by omega) (by exact_mod_cast h4) (by omega) (by exact_mod_cast h3), u64_or_add sh (b : Int) (a : Int) (by omega) (by exact_mod_cast h3) (by exact_mod_cast h2) (by omega) (by exact_mod_cast h1) (by exact_mod_cast h4)]
  omega

theorem getD_take {l : List Int} {n i : Nat} (h : i < n) : (l.take n).getD i 0 = l.getD i 0 := by
  rw [List.getD_eq_getElem?_getD, List.getD_eq_getElem?_getD, List.getElem?_take, if_pos h]
set_option maxHeartbeats 1000000 in
set_option maxRecDepth 100000 in
theorem rshVU_g (g n cz cx s : Nat) (cur : List Int) (X : Nat) (w : World) (h : Rw w g cur) (h0 : 0 < n) (hn : n ≤ cur.length) (hc : cur.length ≤ 1000000) (hX : cur.take n = digs n X) (hlt : X < BB ^ n) (hs1 : 1 ≤ s) (hs2 : s < 64) :
    Calls Try.prog 106 #[.slice (some ⟨g, 0, none⟩) n cz, .slice (some ⟨g, 0, none⟩) n cx, .int .u64 (s : Int)] w fun e w' => (∃ c, e = .returned (.int .u64 c)) ∧ Rw w' g (lay cur 0 n (digs n (X / 2 ^ s))) ∧ Chg (At g) w w' := by
  obtain ⟨sh, hsh⟩ : ∃ sh, s + sh = 64 := ⟨64 - s, by omega⟩
  have hg : ∀ j, j < n → cur.getD j 0 = ((X / BB ^ j % BB : Nat) : Int) := fun j hj => by rw [← digs_get n X j hj, ← hX, getD_take hj]
  have hA : ∀ j, X / BB ^ j % BB < BB := fun j => Nat.mod_lt _ BB_pos
  have hOr : ∀ j, bits .or .u64 (((X / BB ^ j % BB : Nat) : Int) / 2 ^ s) (IntKind.u64.wrap (((X / BB ^ (j + 1) % BB : Nat) : Int) * 2 ^ sh)) = ((X / 2 ^ s / BB ^ j % BB : Nat) : Int) := fun j => by
    rw [or_words _ _ s sh (hA j) hsh, shr_get X s j (by omega) hs2, show 64 - s = sh from by omega]
  have hTop : (((X / BB ^ (n - 1) % BB : Nat) : Int) / 2 ^ s) = ((X / 2 ^ s / BB ^ (n - 1) % BB : Nat) : Int) := by
    rw [shr_top X s (n - 1) (by rw [show n - 1 + 1 = n from by omega]; exact hlt)]
    exact_mod_cast rfl
  obtain ⟨T, hT⟩ : ∃ T, digs n (X / 2 ^ s) = T := ⟨_, rfl⟩
  have hTl : T.length = n := by rw [← hT, digs_length]
  have hTg : ∀ j, j < n → T.getD j 0 = ((X / 2 ^ s / BB ^ j % BB : Nat) : Int) := fun j hj => by rw [← hT, digs_get _ _ _ hj]
  rw [hT]
  have HH := Lib.hid h
  have HG := Lib.hid hg
  have HOr := Lib.hid hOr
  have HTop := Lib.hid hTop
  have HTL := Lib.hid hTl
  have HTG := Lib.hid hTg
  have HN := Lib.hid hn
  have a0 : ((s : Int) == 0) = false := by rw [beq_eq_false_iff_ne]; omega
  have a1 : ((n : Int) == 0) = false := by rw [beq_eq_false_iff_ne]; omega
  have a2 : bits .and .u64 (s : Int) 63 = (s : Int) := u64_and63 (by omega) (by omega)
  have a3 : (64 : Int) - (s : Int) = (sh : Int) := by omega
  have a4 : bits .and .u64 (sh : Int) 63 = (sh : Int) := u64_and63 (by omega) (by omega)
  have a5 : (0 : Int) < (n : Int) := by omega
  have a6 : (sh : Int) ≤ 64 := by omega
  have a7 : (s : Int) ≤ 64 := by omega
  have a8 : (n : Int) ≤ 1000000 := by omega
  have hcell0 := h.cell 0 (by omega)
  clear h hg hOr hTop hTl hTg hX hlt hA hT hc
  go_enter Try.func106, Try.ntmps106
  go_wp2_with fail
  go_outline
  go_loopw [8] (fun t wr => ∃ j : Nat, j < n ∧ t = .int .i64 ((j : Int) + 1) ∧ Hid (Rw wr g (lay cur 0 j T)) ∧ Hid (Chg (At g) w wr)) (fun t _ => n - (intOf t).toNat)
  case atStart => exact ⟨0, by omega, rfl, by rw [lay_zero]; exact HH.out, Chg.refl _ _⟩
  case round =>
    obtain ⟨j, hj, rfl, HRw, HCh⟩ := hrel
    have hll : (lay cur 0 j T).length = cur.length := lay_length _ _ _ _ (by have := HTL.out; omega) (by have := HN.out; omega)
    have hfree := HRw.out.free j
    have hcj := HRw.out.cell j (by have := HN.out; omega)
    rw [lay_get cur 0 j T (by have := HTL.out; omega) j (by omega) (by have := HN.out; omega), HG.out j hj] at hcj
    by_cases hlt : j + 1 < n
    · have hcj1 := HRw.out.cell (j + 1) (by have := HN.out; omega)
      rw [lay_get cur 0 j T (by have := HTL.out; omega) (j + 1) (by omega) (by have := HN.out; omega), HG.out (j + 1) hlt] at hcj1
      have hor := HOr.out j
      have hput := HRw.out.put j (T.getD j 0)
      have hls := lay_succ cur 0 j T (by have := HTL.out; omega) (by have := HN.out; omega)
      rw [Nat.zero_add] at hls
      rw [hls, HTG.out j hj] at hput
      obtain ⟨A, hA⟩ : ∃ A, X / BB ^ j % BB = A := ⟨_, rfl⟩
      obtain ⟨B, hB⟩ : ∃ B, X / BB ^ (j + 1) % BB = B := ⟨_, rfl⟩
      obtain ⟨C, hC⟩ : ∃ B, X / 2 ^ s / BB ^ j % BB = B := ⟨_, rfl⟩
      rw [hA] at hcj hor
      rw [hB] at hcj1 hor
      rw [hC] at hor hput
      have HPut := Lib.hid hput
      have b1 : (j : Int) + 1 < (n : Int) := by omega
      have b2 : ((j : Int) + 1).toNat = j + 1 := by omega
      have b3 : (j : Int) < (n : Int) := by omega
      clear hput hls hA hB hC hll
      go_wp2_with fail
      go_region
      go_wp2
      go_roundw
      case rel => exact ⟨j + 1, by omega, by go_num, HPut.out.drew, (at_set HCh.out).drew⟩
      case measure => simp [intOf]; omega
    · have hn1 : n = j + 1 := by omega
      have htop := HTop.out
      have hput := HRw.out.put j (T.getD j 0)
      have hls := lay_succ cur 0 j T (by have := HTL.out; omega) (by have := HN.out; omega)
      rw [Nat.zero_add] at hls
      rw [hls, HTG.out j hj] at hput
      rw [show n - 1 = j from by omega] at htop
      obtain ⟨A, hA⟩ : ∃ A, X / BB ^ j % BB = A := ⟨_, rfl⟩
      obtain ⟨C, hC⟩ : ∃ B, X / 2 ^ s / BB ^ j % BB = B := ⟨_, rfl⟩
      rw [hA] at hcj htop
      rw [hC] at htop hput
      have HPut := Lib.hid hput
      have b1 : ¬ ((j : Int) + 1 < (n : Int)) := by omega
      have b2 : (n : Int) - 1 = (j : Int) := by omega
      have b3 : (j : Int) < (n : Int) := by omega
      have HN1 := Lib.hid hn1
      clear hput hls hA hC hll hn1
      go_wp2
      go_ret
      refine ⟨⟨_, rfl⟩, ?_, at_set HCh.out⟩
      rw [HN1.out]
      exact HPut.out
theorem rshVU (g n cz cx s : Nat) (cur : List Int) (X : Nat) (w : World) (h : Rw w g cur) (h0 : 0 < n) (hn : n ≤ cur.length) (hc : cur.length ≤ 1000000) (hX : cur.take n = digs n X) (hlt : X < BB ^ n) (hs1 : 1 ≤ s) (hs2 : s < 64) :
    Calls Try.prog 96 #[.slice (some ⟨g, 0, none⟩) n cz, .slice (some ⟨g, 0, none⟩) n cx, .int .u64 (s : Int)] w fun e w' => (∃ c, e = .returned (.int .u64 c)) ∧ Rw w' g (lay cur 0 n (digs n (X / 2 ^ s))) ∧ Chg (At g) w w' := by
  have H := Lib.hid (rshVU_g g n cz cx s cur X w h h0 hn hc hX hlt hs1 hs2)
  clear h hX hlt hn hc
  go_enter Try.func96, Try.ntmps96
  go_wp2_with fail
  refine H.out.mono ?_
  rintro e w1 ⟨⟨c, rfl⟩, h1, h2⟩
  have H1 := Lib.hid h1
  have H2 := Lib.hid h2
  clear h1 h2
  go_wp2
  go_ret
  exact ⟨⟨c, rfl⟩, H1.out, H2.out⟩

set_option maxHeartbeats 1000000 in
set_option maxRecDepth 100000 in
theorem rsh_bits {w : World} {gx m s : Nat} {cux : List Int} {X : Nat} (hlen : (dg X).length = m) (hm : 0 < m) (hR : Rw w gx cux) (hl : m ≤ cux.length) (hl2 : cux.length ≤ 1000000) (ht : cux.take m = dg X) (hs1 : 1 ≤ s) (hs2 : s < 64) :
    Calls Try.prog 79 #[.slice (some ⟨gx, 0, none⟩) m cux.length, .slice (some ⟨gx, 0, none⟩) m cux.length, .int .u64 (s : Int)] w (NtOut w (.slice (some ⟨gx, 0, none⟩) m cux.length) (dg (X / 2 ^ s))) := by
  have hlt : X < BB ^ m := by rw [← hlen]; exact dg_lt X
  have HV := Lib.hid (rshVU gx m cux.length cux.length s cux X w hR hm hl hl2 (by rw [ht, ← hlen, digs_dg]) hlt hs1 hs2)
  have HM := Lib.hid (make_room (some ⟨gx, 0, none⟩) m cux.length (m : Int) w (by omega) (by omega))
  have hX2 : X / 2 ^ s < BB ^ m := Nat.lt_of_le_of_lt (Nat.div_le_self _ _) hlt
  have HD := Lib.hid (digs_dig m (X / 2 ^ s))
  have HVal := Lib.hid (digs_val m (X / 2 ^ s) hX2)
  have HTk := Lib.hid (show (lay cux 0 m (digs m (X / 2 ^ s))).take m = digs m (X / 2 ^ s) by
    unfold lay
    rw [List.take_zero, List.nil_append, show (digs m (X / 2 ^ s)).take m = digs m (X / 2 ^ s) from List.take_of_length_le (by rw [digs_length]; omega)]
    exact List.take_left' (digs_length _ _))
  have HLl := Lib.hid (show (lay cux 0 m (digs m (X / 2 ^ s))).length = cux.length from lay_length _ _ _ _ (by rw [digs_length]; omega) (by omega))
  have HL2 := Lib.hid hl2
  have HL := Lib.hid hl
  obtain ⟨Z, hZ⟩ : ∃ Z, X / 2 ^ s = Z := ⟨_, rfl⟩
  rw [hZ] at HV HD HVal HTk HLl ⊢
  have e1 : (s : Int) / 64 = 0 := by omega
  have e2 : ((s : Int) == 0) = false := by rw [beq_eq_false_iff_ne]; omega
  have e3 : (s : Int) % 64 = (s : Int) := by omega
  have e4 : (m : Int) ≤ 1000000 := by omega
  have e5 : ¬ ((m : Int) ≤ 0) := by omega
  have e6 : (m : Int) ≤ (cux.length : Int) := by omega
  have q1 : ¬ cux.length = 1 ∨ cux.length = 1 := by omega
  clear hR hlen ht hl2 hlt hX2 hZ
  go_enter Try.func79, Try.ntmps79
  go_wp2_with fail
  refine HM.out.mono ?_
  rintro e w1 ⟨rfl, rfl⟩
  rw [Int.toNat_natCast]
  go_wp2_with fail
  refine HV.out.mono ?_
  rintro e w2 ⟨⟨c, rfl⟩, h1, h2⟩
  have h3 : Chg (At gx) w w2 := ⟨h2.os, h2.tape, h2.output, h2.size, h2.block⟩
  have hns := norm_fin (w := w) (v := .slice (some ⟨gx, 0, none⟩) m cux.length) (m := m) (l := digs m Z) (Z := Z) h1 (by rw [HLl.out]; exact HL.out) (by rw [HLl.out]; exact HL2.out) HTk.out HD.out HVal.out (h3.mono (S' := Own (.slice (some ⟨gx, 0, none⟩) m cux.length)) (fun k _ e => by have e : k = gx := e; subst e; rfl)) (.inl rfl)
  rw [HLl.out] at hns
  have HNS := Lib.hid hns
  clear hns h1 h2 h3
  go_wp2_with fail
  refine HNS.out.mono ?_
  rintro e w4 ⟨v', rfl, h1, h2, h3⟩
  have H1 := Lib.hid h1
  have H2 := Lib.hid h2
  have H3 := Lib.hid h3
  clear h1 h2 h3
  go_wp2
  go_ret
  exact ⟨_, rfl, H1.out, H2.out, H3.out⟩

/-- nat.rsh by 64, of itself. -/
theorem rsh_64 {w : World} {v : Value} {X : Nat} (h : Nt w v (dg X)) : Calls Try.prog 79 #[v, v, .int .u64 64] w (NtOut w v (dg (X / BB))) := by
  by_cases hl : (dg X).length ≤ 1
  · have hX := dg_lt X
    have h1 : X < BB := by
      have := Nat.pow_le_pow_right BB_pos hl
      rw [Nat.pow_one] at this
      omega
    rw [Nat.div_eq_of_lt h1, dg_zero]
    exact rsh_none h hl
  · rcases h with ⟨_, h1⟩ | ⟨gx, cux, rfl, h1, h2, h3, h4⟩
    · rw [h1] at hl; exact absurd (by simp) hl
    · exact rsh_word rfl (by omega) h1 h2 h4 h3
/-- nat.rsh by less, of itself. -/
theorem rsh_any {w : World} {v : Value} {X : Nat} (s : Nat) (h : Nt w v (dg X)) (hs1 : 1 ≤ s) (hs2 : s < 64) : Calls Try.prog 79 #[v, v, .int .u64 (s : Int)] w (NtOut w v (dg (X / 2 ^ s))) := by
  by_cases hX : X = 0
  · subst hX
    rw [Nat.zero_div]
    rw [dg_zero] at h ⊢
    exact rsh_none' s h hs1 hs2
  · rcases h with ⟨_, h1⟩ | ⟨gx, cux, rfl, h1, h2, h3, h4⟩
    · exact absurd (dg_nil.1 h1) hX
    · exact rsh_bits rfl (dg_len_pos (by omega)) h1 h2 h4 h3 hs1 hs2
end Go.Proofs.Ythckboojmljeiaa.Rs
namespace Go.Proofs.Ythckboojmljeiaa.Ir
set_option linter.unusedVariables false
set_option linter.unusedSimpArgs false
open Go.RowKit Go.Proofs.YthckboojmljeiaaW.PrintWords Go.Proofs.Ythckboojmljeiaa.Pl Go.Proofs.Ythckboojmljeiaa.Dg Go.Proofs.Ythckboojmljeiaa.Mem Go.Proofs.Ythckboojmljeiaa.Na Go.Proofs.Ythckboojmljeiaa.Nb Go.Proofs.Ythckboojmljeiaa.Nu Go.Proofs.Ythckboojmljeiaa.In Go.Proofs.Ythckboojmljeiaa.Sm Go.Proofs.Ythckboojmljeiaa.Ls Go.Proofs.Ythckboojmljeiaa.Rp Go.Proofs.Ythckboojmljeiaa.Rs Go.Proofs.Ythckboojmljeiaa.Ia Go.Proofs.Ythckboojmljeiaa.Vw

set_option maxRecDepth 100000 in
theorem intRsh_of {w : World} {p : Nat} {v : Value} {X Y : Nat} (s : Int) (h : Iz w p v (X : Int)) (hs : Calls Try.prog 79 #[v, v, .int .u64 s] w.drew (NtOut w.drew v (dg Y))) :
    Calls Try.prog 64 #[.pointer (some ⟨p, 0, none⟩), .pointer (some ⟨p, 0, none⟩), .int .u64 s] w fun e w' => e = .returned (.pointer (some ⟨p, 0, none⟩)) ∧ Upd w p v (Y : Int) w' := by
  have HI := Lib.hid h
  have h0 := h.neg0
  have h1 := h.abs1
  have HS := Lib.hid hs
  rw [show decide ((X : Int) < 0) = false from decide_eq_false (by omega)] at h0
  obtain ⟨A, c, rfl, _⟩ := h.2.slice
  rw [Int.natAbs_natCast] at h1 HI HS
  clear h hs
  go_enter Try.func64, Try.ntmps64
  go_wp2_with fail
  go_region_law (first | (go_simp; go_at_call 79; refine HS.out.mono ?_; rintro e w1 ⟨v', rfl, h2, h3, h4⟩; obtain ⟨A', cc, rfl, _, _⟩ := h2.slice; obtain ⟨c0, c1, f0, f1⟩ := head_cell (head_kept HI.out.drew h3); have HU := Lib.hid (upd_pos HI.out.drew h2 h3 h4); rw [show decide ((X : Int) < 0) = false from decide_eq_false (by omega)] at c0; clear h2 h3 h4))
  all_goals
    go_wp2
    go_ret
    exact ⟨rfl, upd_drew HU.out⟩
theorem intRsh64 {w : World} {p : Nat} {v : Value} {X : Nat} (h : Iz w p v (X : Int)) :
    Calls Try.prog 64 #[.pointer (some ⟨p, 0, none⟩), .pointer (some ⟨p, 0, none⟩), .int .u64 64] w fun e w' => e = .returned (.pointer (some ⟨p, 0, none⟩)) ∧ Upd w p v ((X / BB : Nat) : Int) w' :=
  intRsh_of 64 h (rsh_64 (w := w.drew) h.2)
theorem intRsh {w : World} {p : Nat} {v : Value} {X : Nat} (s : Nat) (h : Iz w p v (X : Int)) (hs1 : 1 ≤ s) (hs2 : s < 64) :
    Calls Try.prog 64 #[.pointer (some ⟨p, 0, none⟩), .pointer (some ⟨p, 0, none⟩), .int .u64 (s : Int)] w fun e w' => e = .returned (.pointer (some ⟨p, 0, none⟩)) ∧ Upd w p v ((X / 2 ^ s : Nat) : Int) w' :=
  intRsh_of (s : Int) h (rsh_any (w := w.drew) s h.2 hs1 hs2)

theorem mask_all (T : Nat) (h : T < BB) : bits .and .u64 (T : Int) 18446744073709551615 = (T : Int) := by
  have h2 : (T : Int) < 2 ^ 64 := by exact_mod_cast h
  have := u64_mask 64 (by decide) (T : Int) (by omega) h2
  rw [show (2 : Int) ^ 64 - 1 = 18446744073709551615 from rfl] at this
  rw [this]
  omega
theorem one_val (T : Nat) (h : T < BB) : DW [(T : Int)] ∧ (lv (BB : Int) [(T : Int)]).toNat = T :=
  ⟨Dig.mk (by omega) (by exact_mod_cast h) (Dig.nil _), by simp [lv]⟩

set_option maxHeartbeats 1000000 in
set_option maxRecDepth 100000 in
theorem and_cells {w : World} {v : Value} {l : List Int} {gx gy m cx cy T : Nat} (h : Nt w v l) (hm : 0 < m) (hmB : m ≤ 1000000) (hx : w.cell? ⟨gx, 0, none⟩ = some (.int .u64 (T : Int))) (hy : w.cell? ⟨gy, 0, none⟩ = some (.int .u64 18446744073709551615))
    (hgx : ¬ Own v gx) (hgy : ¬ Own v gy) (hT : T < BB) :
    Calls Try.prog 82 #[v, .slice (some ⟨gx, 0, none⟩) m cx, .slice (some ⟨gy, 0, none⟩) 1 cy] w (NtOut w v (dg T)) := by
  have HM := Lib.hid (make_any h 1 (by omega) (by omega))
  have HX := Lib.hid hx
  have HY := Lib.hid hy
  have HGX := Lib.hid hgx
  have HGY := Lib.hid hgy
  have hand := mask_all T hT
  have HD := Lib.hid (one_val T hT)
  have c1 : (0 : Int) < (m : Int) := by omega
  have c2 : (m : Int) ≤ 1000000 := by omega
  clear h hx hy hgx hgy hT
  by_cases hm1 : (1 : Int) < (m : Int)
  · go_enter Try.func82, Try.ntmps82
    go_wp2_with fail
    refine HM.out.mono ?_
    rintro e w1 ⟨g, cur, rfl, hr, h1, h2, hk⟩
    have HR := Lib.hid hr
    have HK := Lib.hid hk
    have HC := Lib.hid h1
    have HC2 := Lib.hid h2
    have hx1 := HK.out.chg.cell HX.out HGX.out
    have hy1 := HK.out.chg.cell HY.out HGY.out
    have hfr := hr.free 0
    obtain ⟨u0, hu0⟩ := hr.has 0 (by omega)
    have HX1 := Lib.hid hx1
    have HY1 := Lib.hid hy1
    have HP := Lib.hid (hr.put 0 (T : Int))
    clear hr hk h1 h2 hx1 hy1 hu0 hfr
    go_wp2_with fail
    go_loopw [9] (fun t wr => (t = .int .i64 0 ∧ wr = w1) ∨ (t = .int .i64 1 ∧ Hid (Rw wr g (cur.set 0 (T : Int))) ∧ Hid (Chg (Own v) w wr))) (fun t _ => 1 - (intOf t).toNat)
    case atStart => exact .inl ⟨rfl, rfl⟩
    case round =>
      rcases hrel with ⟨rfl, rfl⟩ | ⟨rfl, HRw, HCh⟩
      · have hx1 := HX1.out
        have hy1 := HY1.out
        have hfr := HR.out.free 0
        obtain ⟨u0, hu0⟩ := HR.out.has 0 (by have := HC.out; omega)
        go_wp2_with fail
        go_region
        go_wp2
        go_roundw
        case rel => exact .inr ⟨by go_num, HP.out.drew, (HK.out.chg.set g 0 _ HK.out.ok).drew⟩
        case measure => simp [intOf]
      · go_wp2_with fail
        have hns := norm_fin (w := w) (v := v) (m := 1) (row := cur.set 0 (T : Int)) (l := [(T : Int)]) (Z := T) HRw.out (by rw [List.length_set]; exact HC.out) (by rw [List.length_set]; exact HC2.out) (take_one cur _ HC.out) HD.out.1 HD.out.2 HCh.out HK.out.ok
        rw [List.length_set] at hns
        refine hns.mono ?_
        rintro e w3 ⟨v', rfl, h1, h2, h3⟩
        have H1 := Lib.hid h1
        have H2 := Lib.hid h2
        have H3 := Lib.hid h3
        clear h1 h2 h3 hns
        go_wp2
        go_ret
        exact ⟨_, rfl, H1.out, H2.out, H3.out⟩
  · obtain rfl : m = 1 := by omega
    go_enter Try.func82, Try.ntmps82
    go_wp2_with fail
    refine HM.out.mono ?_
    rintro e w1 ⟨g, cur, rfl, hr, h1, h2, hk⟩
    have HR := Lib.hid hr
    have HK := Lib.hid hk
    have HC := Lib.hid h1
    have HC2 := Lib.hid h2
    have hx1 := HK.out.chg.cell HX.out HGX.out
    have hy1 := HK.out.chg.cell HY.out HGY.out
    have HX1 := Lib.hid hx1
    have HY1 := Lib.hid hy1
    have HP := Lib.hid (hr.put 0 (T : Int))
    clear hr hk h1 h2 hx1 hy1
    go_wp2_with fail
    go_loopw [9] (fun t wr => (t = .int .i64 0 ∧ wr = w1) ∨ (t = .int .i64 1 ∧ Hid (Rw wr g (cur.set 0 (T : Int))) ∧ Hid (Chg (Own v) w wr))) (fun t _ => 1 - (intOf t).toNat)
    case atStart => exact .inl ⟨rfl, rfl⟩
    case round =>
      rcases hrel with ⟨rfl, rfl⟩ | ⟨rfl, HRw, HCh⟩
      · have hx1 := HX1.out
        have hy1 := HY1.out
        have hfr := HR.out.free 0
        obtain ⟨u0, hu0⟩ := HR.out.has 0 (by have := HC.out; omega)
        go_wp2_with fail
        go_region
        go_wp2
        go_roundw
        case rel => exact .inr ⟨by go_num, HP.out.drew, (HK.out.chg.set g 0 _ HK.out.ok).drew⟩
        case measure => simp [intOf]
      · go_wp2_with fail
        have hns := norm_fin (w := w) (v := v) (m := 1) (row := cur.set 0 (T : Int)) (l := [(T : Int)]) (Z := T) HRw.out (by rw [List.length_set]; exact HC.out) (by rw [List.length_set]; exact HC2.out) (take_one cur _ HC.out) HD.out.1 HD.out.2 HCh.out HK.out.ok
        rw [List.length_set] at hns
        refine hns.mono ?_
        rintro e w3 ⟨v', rfl, h1, h2, h3⟩
        have H1 := Lib.hid h1
        have H2 := Lib.hid h2
        have H3 := Lib.hid h3
        clear h1 h2 h3 hns
        go_wp2
        go_ret
        exact ⟨_, rfl, H1.out, H2.out, H3.out⟩

theorem bb1 : BB - 1 = 18446744073709551615 := rfl
theorem nt_head {w : World} {u : Value} {X : Nat} (h : Nt w u (dg X)) (hX : 0 < X) : ∃ g c, u = .slice (some ⟨g, 0, none⟩) (dg X).length c ∧ w.cell? ⟨g, 0, none⟩ = some (.int .u64 ((X % BB : Nat) : Int)) ∧ (dg X).length ≤ 1000000 := by
  rcases h with ⟨_, h1⟩ | ⟨g, cur, rfl, h1, h2, h3, h4⟩
  · exact absurd (dg_nil.1 h1) (by omega)
  · have hp := dg_len_pos hX
    refine ⟨g, cur.length, rfl, ?_, by omega⟩
    rw [h1.cell 0 (by omega), ← dg_head hX, ← h3, getD_take (by omega)]
theorem and_any {w : World} {v u t : Value} {l : List Int} {X : Nat} (h : Nt w v l) (hu : Nt w u (dg X)) (ht : Nt w t (dg (BB - 1))) (hX : 0 < X) (ha : Ap v u) (hb : Ap v t) : Calls Try.prog 82 #[v, u, t] w (NtOut w v (dg (X % BB))) := by
  obtain ⟨gx, cx, rfl, h1, h2⟩ := nt_head hu hX
  obtain ⟨gy, cy, rfl, h3, _⟩ := nt_head ht (by decide)
  have e : (dg (BB - 1)).length = 1 := by rw [dg_one (by decide) (by decide)]; rfl
  rw [e]
  refine and_cells h (dg_len_pos hX) h2 h1 ?_ (fun e => ha gx e rfl) (fun e => hb gy e rfl) (Nat.mod_lt _ BB_pos)
  rw [h3]
  rfl

set_option maxRecDepth 100000 in
set_option maxHeartbeats 1000000 in
theorem intAnd {w : World} {p q r : Nat} {v u t : Value} {z : Int} {X : Nat} (h : Iz w p v z) (hq : Iz w q u (X : Int)) (hr : Iz w r t ((BB - 1 : Nat) : Int)) (hX : 0 < X) (ha : Ap v u) (hb : Ap v t) :
    Calls Try.prog 67 #[.pointer (some ⟨p, 0, none⟩), .pointer (some ⟨q, 0, none⟩), .pointer (some ⟨r, 0, none⟩)] w fun e w' => e = .returned (.pointer (some ⟨p, 0, none⟩)) ∧ Upd w p v ((X % BB : Nat) : Int) w' := by
  have HI := Lib.hid h
  have h0 := h.neg0
  have h1 := h.abs1
  have hq0 := hq.neg0
  have hq1 := hq.abs1
  have hr0 := hr.neg0
  have hr1 := hr.abs1
  have h2 := h.2
  have hq2 : Nt w u (dg X) := hq.2
  have hr2 : Nt w t (dg (BB - 1)) := hr.2
  have HS := Lib.hid (fun k => and_any (w := (w.drewN k).drew) h2 hq2 hr2 hX ha hb)
  obtain ⟨sg, hsg⟩ : ∃ sg, decide (z < 0) = sg := ⟨_, rfl⟩
  obtain ⟨L, hL⟩ : ∃ L, dg z.natAbs = L := ⟨_, rfl⟩
  unfold Iz at HI
  rw [hsg] at h0 HI
  rw [hL] at h2 HI
  rw [show decide ((X : Int) < 0) = false from decide_eq_false (by omega)] at hq0
  rw [show decide (((BB - 1 : Nat) : Int) < 0) = false from decide_eq_false (by omega)] at hr0
  obtain ⟨A, c, rfl, _⟩ := h2.slice
  obtain ⟨B, d, rfl, _⟩ := hq2.slice
  obtain ⟨D, f, rfl, _⟩ := hr2.slice
  obtain ⟨Z, hZ⟩ : ∃ Z, X % BB = Z := ⟨_, rfl⟩
  rw [hZ] at HS ⊢
  clear h h2 hq hq2 hr hr2 ha hb hZ hsg hL hX
  go_enter Try.func67, Try.ntmps67
  go_wp2_with fail
  go_quiet (fail)
  go_wp2_with fail
  go_region_law (first | (go_simp; go_at_call 82; refine (HS.out _).mono ?_; rintro e w1 ⟨v', rfl, h2, h3, h4⟩; obtain ⟨A', cc, rfl, _, _⟩ := h2.slice; obtain ⟨c0, c1, f0, f1⟩ := head_cell (head_kept (p := p) (neg := sg) (l := L) (by exact HI.out) h3); have HU := Lib.hid (upd_pos (p := p) (neg := sg) (l := L) (by exact HI.out) h2 h3 h4); clear h2 h3 h4))
  all_goals
    go_wp2
    go_ret
    exact ⟨rfl, upd_dd HU.out⟩
end Go.Proofs.Ythckboojmljeiaa.Ir
namespace Go.Proofs.Ythckboojmljeiaa.Ni
set_option linter.unusedVariables false
set_option linter.unusedSimpArgs false
open Go.RowKit Go.Proofs.YthckboojmljeiaaW.PrintWords Go.Proofs.Ythckboojmljeiaa.Pl Go.Proofs.Ythckboojmljeiaa.Dg Go.Proofs.Ythckboojmljeiaa.Mem Go.Proofs.Ythckboojmljeiaa.Na Go.Proofs.Ythckboojmljeiaa.Nb Go.Proofs.Ythckboojmljeiaa.Nu Go.Proofs.Ythckboojmljeiaa.In Go.Proofs.Ythckboojmljeiaa.Sm Go.Proofs.Ythckboojmljeiaa.Ls Go.Proofs.Ythckboojmljeiaa.Rp Go.Proofs.Ythckboojmljeiaa.Rs Go.Proofs.Ythckboojmljeiaa.Ia Go.Proofs.Ythckboojmljeiaa.Ir

theorem low64_any {w : World} {v : Value} {X : Nat} (h : Nt w v (dg X)) : Calls Try.prog 80 #[v] w fun e w' => e = .returned (.int .u64 ((X % BB : Nat) : Int)) ∧ w = w' := by
  by_cases hX : X = 0
  · subst hX
    rw [dg_zero] at h
    obtain ⟨A, c, rfl, _⟩ := h.slice
    go_enter Try.func80, Try.ntmps80
    go_wp2
    go_ret
    exact ⟨rfl, rfl⟩
  · obtain ⟨g, c, rfl, h1, h2⟩ := nt_head h (by omega)
    have hp := dg_len_pos (n := X) (by omega)
    obtain ⟨m, hm⟩ : ∃ m, (dg X).length = m := ⟨_, rfl⟩
    rw [hm] at hp h2 ⊢
    obtain ⟨T, hT⟩ : ∃ T, X % BB = T := ⟨_, rfl⟩
    rw [hT] at h1 ⊢
    have a1 : ((m : Int) == 0) = false := by rw [beq_eq_false_iff_ne]; omega
    have a2 : (0 : Int) < (m : Int) := by omega
    clear h hm hT
    go_enter Try.func80, Try.ntmps80
    go_wp2
    go_ret
    exact ⟨rfl, rfl⟩
theorem intUint64 {w : World} {p : Nat} {v : Value} {X : Nat} (h : Iz w p v (X : Int)) : Calls Try.prog 68 #[.pointer (some ⟨p, 0, none⟩)] w fun e w' => e = .returned (.int .u64 ((X % BB : Nat) : Int)) ∧ w = w' := by
  have H := Lib.hid (low64_any (X := X) h.2)
  have h1 := h.abs1
  obtain ⟨A, c, rfl, _⟩ := h.2.slice
  clear h
  go_enter Try.func68, Try.ntmps68
  go_wp2_with fail
  refine H.out.mono ?_
  rintro e w1 ⟨rfl, rfl⟩
  go_wp2
  go_ret
  exact ⟨rfl, rfl⟩
theorem intInt64 {w : World} {p : Nat} {v : Value} {X : Nat} (h : Iz w p v (X : Int)) (hX : X < 9223372036854775808) : Calls Try.prog 65 #[.pointer (some ⟨p, 0, none⟩)] w fun e w' => e = .returned (.int .i64 (X : Int)) ∧ w = w' := by
  have H := Lib.hid (low64_any (X := X) h.2)
  rw [Nat.mod_eq_of_lt (Nat.lt_trans hX (by decide))] at H
  have h0 := h.neg0
  have h1 := h.abs1
  rw [show decide ((X : Int) < 0) = false from decide_eq_false (by omega)] at h0
  obtain ⟨A, c, rfl, _⟩ := h.2.slice
  have hX' : (X : Int) < 9223372036854775808 := by omega
  clear h hX
  go_enter Try.func65, Try.ntmps65
  go_wp2_with fail
  refine H.out.mono ?_
  rintro e w1 ⟨rfl, rfl⟩
  go_wp2
  go_ret
  exact ⟨rfl, rfl⟩
theorem and_one (T : Nat) (h : T < BB) : bits .and .u64 (T : Int) 1 = ((T % 2 : Nat) : Int) := by
  have h2 : (T : Int) < 2 ^ 64 := by exact_mod_cast h
  have := u64_mask 1 (by decide) (T : Int) (by omega) h2
  rw [show (2 : Int) ^ 1 - 1 = 1 from rfl] at this
  rw [this]
  omega
/-- The lowest bit. -/
theorem intBit0 {w : World} {p : Nat} {v : Value} {X : Nat} (h : Iz w p v (X : Int)) (hX : 0 < X) : Calls Try.prog 60 #[.pointer (some ⟨p, 0, none⟩), .int .i64 0] w fun e w' => e = .returned (.int .u64 ((X % 2 : Nat) : Int)) ∧ w = w' := by
  have h1 := h.abs1
  obtain ⟨g, c, rfl, h2, h3⟩ := nt_head (X := X) h.2 hX
  have hp := dg_len_pos (n := X) hX
  obtain ⟨m, hm⟩ : ∃ m, (dg X).length = m := ⟨_, rfl⟩
  rw [hm] at hp h1 h3
  have hand := and_one (X % BB) (Nat.mod_lt _ BB_pos)
  rw [show X % BB % 2 = X % 2 from by rw [BB_eq]; omega] at hand
  obtain ⟨T, hT⟩ : ∃ T, X % BB = T := ⟨_, rfl⟩
  obtain ⟨R, hR⟩ : ∃ T, X % 2 = T := ⟨_, rfl⟩
  rw [hT] at h2 hand
  rw [hR] at hand ⊢
  have a1 : ((m : Int) == 0) = false := by rw [beq_eq_false_iff_ne]; omega
  have a2 : (0 : Int) < (m : Int) := by omega
  clear h hm hT hR hX
  go_enter Try.func60, Try.ntmps60
  go_wp2
  go_ret
  exact ⟨rfl, rfl⟩

set_option maxRecDepth 100000 in
theorem setInt64_pos {w : World} {p : Nat} {v : Value} {z : Int} (h : Iz w p v z) (Y : Nat) (hY : Y ≤ 4294967296) :
    Calls Try.prog 62 #[.pointer (some ⟨p, 0, none⟩), .int .i64 (Y : Int)] w fun e w' => e = .returned (.pointer (some ⟨p, 0, none⟩)) ∧ Upd w p v (Y : Int) w' := by
  have H := Lib.hid (setUint64_any h.2 (Y : Int) (by omega) (by rw [BB_eq]; omega))
  have HI := Lib.hid h
  have h1 := h.abs1
  have hy : (Y : Int) ≤ 4294967296 := by omega
  have hn : ¬ ((Y : Int) < 0) := by omega
  clear h hY
  rw [Int.toNat_natCast] at H
  go_enter Try.func62, Try.ntmps62
  go_wp2_with fail
  refine H.out.mono ?_
  rintro e w1 ⟨v', rfl, h2, h3, h4⟩
  obtain ⟨A', cc, rfl, _, _⟩ := h2.slice
  obtain ⟨c0, c1, f0, f1⟩ := head_cell (head_kept HI.out h3)
  have HU := Lib.hid (upd_pos HI.out h2 h3 h4)
  clear h2 h3 h4
  go_wp2
  go_ret
  exact ⟨rfl, HU.out⟩
set_option maxRecDepth 100000 in
theorem setInt64_neg {w : World} {p : Nat} {v : Value} {z : Int} (h : Iz w p v z) (Y : Nat) (hY0 : 0 < Y) (hY : Y ≤ 4294967296) :
    Calls Try.prog 62 #[.pointer (some ⟨p, 0, none⟩), .int .i64 (-(Y : Int))] w fun e w' => e = .returned (.pointer (some ⟨p, 0, none⟩)) ∧ Upd w p v (-(Y : Int)) w' := by
  have H := Lib.hid (setUint64_any h.2 (Y : Int) (by omega) (by rw [BB_eq]; omega))
  have HI := Lib.hid h
  have h1 := h.abs1
  have hy : (Y : Int) ≤ 4294967296 := by omega
  have hy0 : 0 < (Y : Int) := by omega
  have hn : (-(Y : Int) < 0) := by omega
  clear h hY hY0
  rw [Int.toNat_natCast] at H
  go_enter Try.func62, Try.ntmps62
  go_wp2_with fail
  refine H.out.mono ?_
  rintro e w1 ⟨v', rfl, h2, h3, h4⟩
  obtain ⟨A', cc, rfl, _, _⟩ := h2.slice
  obtain ⟨c0, c1, f0, f1⟩ := head_cell (head_kept HI.out h3)
  have HU := Lib.hid (upd_of (z := -(Y : Int)) HI.out h2 h3 h4 (by rw [Int.natAbs_neg, Int.natAbs_natCast]))
  rw [show decide (-(Y : Int) < 0) = true from decide_eq_true (by omega)] at HU
  clear h2 h3 h4
  go_wp2
  go_ret
  exact ⟨rfl, HU.out⟩
theorem setInt64 {w : World} {p : Nat} {v : Value} {z : Int} (h : Iz w p v z) (x : Int) (h1 : -4294967296 ≤ x) (h2 : x ≤ 4294967296) :
    Calls Try.prog 62 #[.pointer (some ⟨p, 0, none⟩), .int .i64 x] w fun e w' => e = .returned (.pointer (some ⟨p, 0, none⟩)) ∧ Upd w p v x w' := by
  by_cases h0 : 0 ≤ x
  · obtain ⟨Y, rfl⟩ := Int.eq_ofNat_of_zero_le h0
    exact setInt64_pos h Y (by omega)
  · have hx : x = -((-x).toNat : Int) := by omega
    rw [hx]
    exact setInt64_neg h (-x).toNat (by omega) (by omega)

theorem own_ge (k n c : Nat) : ∀ g, (Value.slice (some ⟨k, 0, none⟩) n c).ownBlock = some g → k ≤ g := fun g hg => by
  have e : k = g := by injection hg
  omega
theorem newInt1 (w : World) : Calls Try.prog 66 #[.int .i64 1] w (NewZ w 1) := by
  have hd : dg (Int.natAbs 1) = [1] := by rw [show Int.natAbs 1 = 1 from rfl, dg_one (by decide) (by decide)]; rfl
  have h1 : Rw (w.alloc (.cells #[.int .u64 1] 74)) w.heap.size [1] := heap_alloc_new w _
  obtain ⟨w1, hw1⟩ : ∃ w1, w.alloc (.cells #[.int .u64 1] 74) = w1 := ⟨_, rfl⟩
  have hb : Below w.heap.size w w1 := by rw [← hw1]; exact (Below.refl _ _).alloc (Nat.le_refl _) _
  rw [hw1] at h1
  have hs : w1.heap.size = w.heap.size + 1 := by rw [← hw1]; simp
  obtain ⟨w2, hw2⟩ : ∃ w2, w1.alloc (.cells #[.bool false, .slice (some ⟨w.heap.size, 0, none⟩) 1 1] 64) = w2 := ⟨_, rfl⟩
  have hZ : NewZ w 1 (.returned (.pointer (some ⟨w1.heap.size, 0, none⟩))) w2 := by
    refine ⟨w1.heap.size, .slice (some ⟨w.heap.size, 0, none⟩) 1 1, rfl, ⟨?_, .inr ⟨w.heap.size, [1], ?_, ?_, ?_, ?_, ?_⟩⟩, by omega, own_ge w.heap.size 1 1, ?_⟩
    · rw [← hw2]; exact heap_alloc_new w1 _
    · rw [hd]; rfl
    · rw [← hw2]; exact h1.alloc _
    · rw [hd]; simp
    · rw [hd]; rfl
    · simp
    · rw [← hw2]; exact hb.alloc (by omega) _
  rw [hs] at hZ
  have HZ := Lib.hid hZ
  clear hb hZ h1 hd
  go_enter Try.func66, Try.ntmps66
  go_wp2
  go_ret
  exact HZ.out
end Go.Proofs.Ythckboojmljeiaa.Ni
