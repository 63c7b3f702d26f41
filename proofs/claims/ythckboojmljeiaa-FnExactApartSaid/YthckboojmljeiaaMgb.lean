/- Memory: blocks of words, numbers (nat) and Ints at pointers; Walks: nat.make, nat.norm, nat.setWord, nat.setUint64, nat.set; Walks: nat.setWord, nat.setUint64, nat.set; Int.SetUint64, Int.SetInt64; Walks: math/bits: Add64, Sub64, Add, Sub, Len64, Len; nat.bitLen; Walks: addVV, subVV at one word; addVW, subVW; rshVU; Walks: addVW, subVW, in place and from one row into another; Walk: addVW from one row into another; Walk: nat.add with itself as receiver, and a number of one word; Walk: nat.lsh by 64, of itself; Walk: nat.sub with itself as receiver, and a number of one word that is not greater. -/
import Derived.Test.YthckboojmljeiaaProg
import Derived.Test.YthckboojmljeiaaMga
import Derived.Test.YthckboojmljeiaaWNEv
import Derived.WalkKit
import Derived.WalkSpells
import Derived.WalkLawsBesides
import Derived.Below
import Derived.KernelRfl
import Derived.IntWalk
import Derived.Outline
import Derived.BigQuiet
import Derived.Deep.QuietTactic
import Derived.LoopTactic
import Derived.Lib.Hide
import Derived.StillTailTactics
import Derived.Laws.OwnMore
import Derived.Laws.MakeOwn
import Derived.Laws.CopyOwn
import Derived.Laws.Externs
import Derived.Lib.Builder
import Derived.Lib.SliceRun
namespace Go.Proofs.Ythckboojmljeiaa.Mem
set_option linter.unusedVariables false
set_option linter.unusedSimpArgs false
open Go.RowKit Go.Proofs.YthckboojmljeiaaW.PrintWords Go.Proofs.Ythckboojmljeiaa.Pl Go.Proofs.Ythckboojmljeiaa.Dg

/-! ### 1. Frames -/
/-- Of what was there only blocks in S have turned. -/
structure Chg (S : Nat → Prop) (w w' : World) : Prop where
  os : w'.os = w.os
  tape : w'.tape = w.tape
  output : w'.output = w.output
  size : w.heap.size ≤ w'.heap.size
  block : ∀ k, k < w.heap.size → ¬ S k → w'.heap[k]? = w.heap[k]?
variable {S S' : Nat → Prop} {w w' w1 w2 : World}
theorem Chg.refl (S : Nat → Prop) (w : World) : Chg S w w := ⟨rfl, rfl, rfl, Nat.le_refl _, fun _ _ _ => rfl⟩
theorem Chg.mono (h : Chg S w w') (hs : ∀ k, k < w.heap.size → S k → S' k) : Chg S' w w' := ⟨h.os, h.tape, h.output, h.size, fun k hk hn => h.block k hk (fun h1 => hn (hs k hk h1))⟩
/-- Two steps; the second may turn what the first made. -/
theorem Chg.trans (h : Chg S w w1) (h2 : Chg S' w1 w2) (hs : ∀ k, k < w.heap.size → S' k → S k) : Chg S w w2 :=
  ⟨h2.os.trans h.os, h2.tape.trans h.tape, h2.output.trans h.output, Nat.le_trans h.size h2.size, fun k hk hn => (h2.block k (Nat.lt_of_lt_of_le hk h.size) (fun h1 => hn (hs k hk h1))).trans (h.block k hk hn)⟩
theorem Chg.alloc (h : Chg S w w1) (o : Obj) : Chg S w (w1.alloc o) :=
  h.trans (S' := fun _ => False) ⟨rfl, rfl, rfl, by simp, fun k hk _ => Below.heap_alloc _ _ _ hk⟩ (fun _ _ h => h.elim)
theorem Chg.drew (h : Chg S w w1) : Chg S w w1.drew := ⟨h.os, h.tape, h.output, h.size, h.block⟩
theorem Chg.drewN (h : Chg S w w1) (n : Nat) : Chg S w (w1.drewN n) := ⟨h.os, h.tape, h.output, h.size, h.block⟩
theorem Chg.set (h : Chg S w w1) (g o : Nat) (u : Value) (hg : S g ∨ w.heap.size ≤ g) : Chg S w (w1.setCell ⟨g, o, none⟩ u) :=
  h.trans (S' := fun k => k = g) ⟨rfl, rfl, rfl, by simp [World.setCell], fun k hk hn => Below.heap_setCell _ _ _ _ hn⟩ (fun k hk e => by subst e; rcases hg with hg | hg; exact hg; omega)
theorem Chg.setRow (h : Chg S w w1) (g : Nat) (cs : Array Value) (hg : S g ∨ w.heap.size ≤ g) : Chg S w (w1.setRow g cs) :=
  h.trans (S' := fun k => k = g) ⟨rfl, rfl, rfl, by simp [World.setRow], fun k hk hn => setRow_other _ _ _ _ hn⟩ (fun k hk e => by subst e; rcases hg with hg | hg; exact hg; omega)
theorem Chg.below (h : Chg (fun _ => False) w w') : Below w.heap.size w w' := ⟨h.os, h.tape, h.output, h.size, fun k hk => h.block k hk (fun h => h)⟩
theorem Chg.of_below (h : Below w.heap.size w w') : Chg S w w' := ⟨h.os, h.tape, h.output, h.size, fun k hk _ => h.block k hk⟩
theorem Chg.of_drn {q : Nat} (h : w' = w.drewN q) : Chg S w w' := by subst h; exact (Chg.refl S w).drewN q
/-- What lies from B on may turn; below B all is as it was. -/
theorem Chg.toBelow {B : Nat} (h : Chg S w w') (hs : ∀ k, S k → B ≤ k) (hB : B ≤ w.heap.size) : Below B w w' :=
  ⟨h.os, h.tape, h.output, h.size, fun k hk => h.block k (by omega) (fun h1 => by have := hs k h1; omega)⟩
theorem Chg.cell (h : Chg S w w') {g o : Nat} {v : Value} (hc : w.cell? ⟨g, o, none⟩ = some v) (hg : ¬ S g) : w'.cell? ⟨g, o, none⟩ = some v :=
  (World.cell?_of_block (w := w) (h.block g (World.block_lt_of_cell? w _ hc) hg)).trans hc

/-! ### 2. A block of words -/
/-- Block g is a row of words: all of it. -/
def Rw (w : World) (g : Nat) (cur : List Int) : Prop := w.heap[g]? = some (.cells (cur.map (Value.int .u64)).toArray 74 (0, 0))
variable {g : Nat} {cur : List Int}
theorem Rw.lt (h : Rw w g cur) : g < w.heap.size := (Array.getElem?_eq_some_iff.1 h).1
theorem Rw.cell (h : Rw w g cur) (i : Nat) (hi : i < cur.length) : w.cell? ⟨g, i, none⟩ = some (.int .u64 (cur.getD i 0)) := by
  rw [cell_of_row w g i _ 74 (0, 0) h]
  simp [List.getElem?_eq_getElem hi, List.getD_eq_getElem?_getD]
theorem Rw.has (h : Rw w g cur) (i : Nat) (hi : i < cur.length) : ∃ v, w.cell? ⟨g, i, none⟩ = some (.int .u64 v) := ⟨_, h.cell i hi⟩
theorem Rw.free (h : Rw w g cur) (i : Nat) : w.frozen? ⟨g, i, none⟩ = false := frozen_of_row w g i _ 74 h
theorem Rw.put (h : Rw w g cur) (i : Nat) (x : Int) : Rw (w.setCell ⟨g, i, none⟩ (.int .u64 x)) g (cur.set i x) := by
  unfold Rw
  rw [heap_setCell_same w g i _ 74 _ h]
  simp [List.map_set]
theorem Rw.kept (h : Rw w g cur) (hc : Chg S w w') (hg : ¬ S g) : Rw w' g cur := (hc.block g h.lt hg).trans h
theorem Rw.setOther (h : Rw w g cur) (g' o : Nat) (u : Value) (hg : g ≠ g') : Rw (w.setCell ⟨g', o, none⟩ u) g cur := (Below.heap_setCell w ⟨g', o, none⟩ u g hg).trans h
theorem Rw.alloc (h : Rw w g cur) (o : Obj) : Rw (w.alloc o) g cur := (Below.heap_alloc w o g h.lt).trans h
theorem Rw.drew (h : Rw w g cur) : Rw w.drew g cur := h
theorem Rw.drewN (h : Rw w g cur) (n : Nat) : Rw (w.drewN n) g cur := h
theorem Rw.made (w : World) (c : Nat) : Rw (w.alloc (.cells (madeCells #[.int .u64 0] c) 74)) w.heap.size (List.replicate c 0) := by
  unfold Rw
  rw [heap_alloc_new]
  congr 1
  have : madeCells #[.int .u64 0] c = ((List.replicate c (0 : Int)).map (Value.int .u64)).toArray := by
    apply Array.toList_inj.1
    rw [toList_madeCells_one]
    simp
  rw [this]
theorem Rw.row (h : Rw w g cur) (new : List Int) : Rw (w.setRow g (new.map (Value.int .u64)).toArray) g new := setRow_heap w g _ _ 74 (0, 0) h
theorem Rw.inj (h : Rw w g cur) {cur' : List Int} (h' : Rw w g cur') : cur = cur' := by
  unfold Rw at h h'
  rw [h] at h'
  injection h' with h'
  injection h' with h1
  have h2 := congrArg Array.toList h1
  simp only at h2
  have : ∀ a b : List Int, a.map (Value.int .u64) = b.map (Value.int .u64) → a = b := by
    intro a
    induction a with
    | nil => intro b hb; cases b with | nil => rfl | cons y b => cases hb
    | cons x a ih =>
      intro b hb
      cases b with
      | nil => cases hb
      | cons y b =>
        simp only [List.map_cons, List.cons.injEq, Value.int.injEq, true_and] at hb
        rw [hb.1, ih b hb.2]
  exact this _ _ h2

/-! ### 3. A nat -/
/-- v is a nat that holds the words l. -/
def Nt (w : World) (v : Value) (l : List Int) : Prop :=
  (v = .slice none 0 0 ∧ l = []) ∨ ∃ g cur, v = .slice (some ⟨g, 0, none⟩) l.length cur.length ∧ Rw w g cur ∧ l.length ≤ cur.length ∧ cur.take l.length = l ∧ cur.length ≤ 1000000
theorem Nt.kept {v : Value} {l : List Int} (h : Nt w v l) (hc : Chg S w w') (hv : ∀ g, v.ownBlock = some g → ¬ S g) : Nt w' v l := by
  rcases h with h | ⟨g, cur, rfl, h1, h2⟩
  · exact .inl h
  · exact .inr ⟨g, cur, rfl, h1.kept hc (hv g rfl), h2⟩
theorem Nt.drewN {v : Value} {l : List Int} (h : Nt w v l) (n : Nat) : Nt (w.drewN n) v l := h
theorem Nt.lt {v : Value} {l : List Int} (h : Nt w v l) : ∀ g, v.ownBlock = some g → g < w.heap.size := by
  intro g hg
  rcases h with ⟨rfl, _⟩ | ⟨g', cur, rfl, h1, h2⟩
  · cases hg
  · cases hg; exact h1.lt
theorem Nt.slice {v : Value} {l : List Int} (h : Nt w v l) : ∃ A c, v = .slice A l.length c ∧ l.length ≤ c ∧ (c : Int) ≤ 1000000 := by
  rcases h with ⟨rfl, rfl⟩ | ⟨g', cur, rfl, h1, h2, h3, h4⟩
  · exact ⟨none, 0, rfl, Nat.le_refl _, by decide⟩
  · exact ⟨_, _, rfl, h2, by omega⟩
theorem Nt.cells {v : Value} {l : List Int} (h : Nt w v l) {g n c : Nat} (hv : v = .slice (some ⟨g, 0, none⟩) n c) : ∀ j, j < l.length → w.cell? ⟨g, j, none⟩ = some (.int .u64 (l.getD j 0)) := by
  intro j hj
  rcases h with ⟨rfl, rfl⟩ | ⟨g', cur, rfl, h1, h2, h3, h4⟩
  · cases hv
  · simp only [Value.slice.injEq, Option.some.injEq, Addr.mk.injEq, and_true] at hv
    obtain ⟨rfl, _, _⟩ := hv
    rw [h1.cell j (by omega), ← h3, List.getD_eq_getElem?_getD, List.getD_eq_getElem?_getD, List.getElem?_take, if_pos (by omega)]
/-- As the printed contracts read it. -/
theorem Nt.c {v : Value} {l : List Int} (h : Nt w v l) : ∃ A c, v = .slice A l.length c ∧ l.length ≤ c ∧ Kd.C (Kd.int .u64) w A l.length l := by
  rcases h with ⟨rfl, rfl⟩ | ⟨g, cur, rfl, h1, h2, h3, h4⟩
  · exact ⟨none, 0, rfl, Nat.le_refl _, Kd.C_nil _ _⟩
  · refine ⟨_, _, rfl, h2, Kd.C_of_reads (h1 := fun _ => rfl) (d := (0 : Int)) ⟨rfl, by omega, fun _ => ⟨_, rfl, fun j hj => ?_⟩⟩⟩
    rw [add_plain]
    exact Nt.cells (.inr ⟨g, cur, rfl, h1, h2, h3, h4⟩) rfl j hj

/-! ### 4. An Int -/
/-- At block p lies an Int: its sign, its nat v that holds l. -/
def It (w : World) (p : Nat) (v : Value) (neg : Bool) (l : List Int) : Prop := w.heap[p]? = some (.cells #[.bool neg, v] 64 (0, 0)) ∧ Nt w v l
variable {p : Nat} {v : Value} {neg : Bool} {l : List Int}
theorem It.lt (h : It w p v neg l) : p < w.heap.size := (Array.getElem?_eq_some_iff.1 h.1).1
theorem It.neg0 (h : It w p v neg l) : w.cell? ⟨p, 0, none⟩ = some (.bool neg) := by rw [cell_of_row w p 0 _ 64 (0, 0) h.1]; rfl
theorem It.abs1 (h : It w p v neg l) : w.cell? ⟨p, 1, none⟩ = some v := by rw [cell_of_row w p 1 _ 64 (0, 0) h.1]; rfl
theorem It.free (h : It w p v neg l) (i : Nat) : w.frozen? ⟨p, i, none⟩ = false := frozen_of_row w p i _ 64 h.1
theorem It.ne (h : It w p v neg l) : v.ownBlock ≠ some p := by
  intro e
  rcases h.2 with ⟨rfl, _⟩ | ⟨g, cur, rfl, h1, _⟩
  · cases e
  · cases e
    have h2 := h.1
    rw [h1] at h2
    injection h2 with h2
    injection h2 with _ h3
    cases h3
theorem It.ne_row (h : It w p v neg l) {g : Nat} {cur : List Int} (h1 : Rw w g cur) : g ≠ p := by
  rintro rfl
  have h2 := h.1
  rw [h1] at h2
  injection h2 with h2
  injection h2 with _ h3
  cases h3
theorem It.ne_nat (h : It w p v neg l) {v' : Value} {l' : List Int} (h1 : Nt w v' l') : v'.ownBlock ≠ some p := by
  intro e
  rcases h1 with ⟨rfl, _⟩ | ⟨g, cur, rfl, h1, _⟩
  · cases e
  · cases e
    exact h.ne_row h1 rfl
theorem It.kept (h : It w p v neg l) (hc : Chg S w w') (hp : ¬ S p) (hv : ∀ g, v.ownBlock = some g → ¬ S g) : It w' p v neg l := ⟨(hc.block p h.lt hp).trans h.1, h.2.kept hc hv⟩
theorem It.drewN (h : It w p v neg l) (n : Nat) : It (w.drewN n) p v neg l := h
theorem It.drew (h : It w p v neg l) : It w.drew p v neg l := h
/-- A new nat is laid in. -/
theorem It.lay (h1 : w.heap[p]? = some (.cells #[.bool neg, v] 64 (0, 0))) {v' : Value} {l' : List Int} (h2 : Nt w v' l') (hne : v'.ownBlock ≠ some p) : It (w.setCell ⟨p, 1, none⟩ v') p v' neg l' := by
  refine ⟨?_, ?_⟩
  · rw [heap_setCell_same w p 1 _ 64 _ h1]
    rfl
  · refine h2.kept (S := fun k => k = p) ((Chg.refl _ _).set p 1 v' (.inl rfl)) (fun g hg e => hne (by rw [hg, e]))
/-- A new sign is laid in. -/
theorem It.sign (h : It w p v neg l) (b : Bool) : It (w.setCell ⟨p, 0, none⟩ (.bool b)) p v b l := by
  refine ⟨?_, ?_⟩
  · rw [heap_setCell_same w p 0 _ 64 _ h.1]
    rfl
  · exact h.2.kept (S := fun k => k = p) ((Chg.refl _ _).set p 0 (.bool b) (.inl rfl)) (fun g hg e => h.ne (by rw [hg, e]))
/-- A new one. -/
theorem It.made (w : World) : It (w.alloc (.cells #[.bool false, .slice none 0 0] 64)) w.heap.size (.slice none 0 0) false [] := ⟨heap_alloc_new w _, .inl ⟨rfl, rfl⟩⟩

/-- The Int at p is the whole number z. -/
def Iz (w : World) (p : Nat) (v : Value) (z : Int) : Prop := It w p v (decide (z < 0)) (dg z.natAbs)
/-- Where the new nat lies: where the old one lay, or in new memory. -/
def Fr (w : World) (v v' : Value) : Prop := v'.ownBlock = v.ownBlock ∨ ∃ b, v'.ownBlock = some b ∧ w.heap.size ≤ b
theorem Fr.refl (w : World) (v : Value) : Fr w v v := .inl rfl
/-- What an operation on the Int at p leaves. -/
def Upd (w : World) (p : Nat) (v : Value) (z : Int) (w' : World) : Prop := ∃ v', Iz w' p v' z ∧ Chg (fun k => k = p ∨ v.ownBlock = some k) w w' ∧ Fr w v v'
/-- Two values whose memory is apart. -/
def Ap (v v' : Value) : Prop := ∀ g, v.ownBlock = some g → v'.ownBlock ≠ some g
theorem Ap.symm {v v' : Value} (h : Ap v v') : Ap v' v := fun g h1 h2 => h g h2 h1
theorem Ap.nil (v : Value) : Ap (.slice none 0 0) v := fun g h => by cases h
theorem Ap.fr {v v' u : Value} (h : Ap v u) (hf : Fr w v v') (hu : ∀ g, u.ownBlock = some g → g < w.heap.size) : Ap v' u := by
  intro g h1 h2
  rcases hf with hf | ⟨b, hb, hl⟩
  · exact h g (by rw [← hf]; exact h1) h2
  · rw [hb] at h1
    cases h1
    have := hu _ h2
    omega
end Go.Proofs.Ythckboojmljeiaa.Mem
namespace Go.Proofs.Ythckboojmljeiaa.Na
set_option linter.unusedVariables false
set_option linter.unusedSimpArgs false
open Go.RowKit Go.Proofs.YthckboojmljeiaaW.PrintWords Go.Proofs.Ythckboojmljeiaa.Pl Go.Proofs.Ythckboojmljeiaa.Dg Go.Proofs.Ythckboojmljeiaa.Mem

theorem info74 : (Try.prog.info? 74).map (fun i => (i.zero, i.size, i.bytes)) = some (some (.int .u64 0), 1, 8) := by kernel_rfl
/-- A make of words. -/
theorem run_mk (l c : Int) (w : World) (h0 : 0 ≤ l) (hlc : l ≤ c) (hc : c ≤ 1000000000) :
    (Instr.makeSlice 62 (.int .i64 l) (.int .i64 c)).run Try.prog w = .ok (.slice (some ⟨w.heap.size, 0, none⟩) l.toNat c.toNat) (w.alloc (.cells (madeCells #[.int .u64 0] c.toNat) 74)) := by
  obtain ⟨i, hi, hz, hs, hb⟩ := info_parts info74
  have := run_make (P := Try.prog) w 62 74 i (.int .u64 0) Try.underlying62 hi hz .i64 .i64 l c h0 hlc (by rw [hb]; omega) (by omega)
  rw [hs, Nat.mul_one] at this
  exact this
theorem make_room (A : Option Addr) (m cap : Nat) (n : Int) (w : World) (h0 : 0 ≤ n) (h : n ≤ cap) :
    Calls Try.prog 84 #[.slice A m cap, .int .i64 n] w fun e w' => e = .returned (.slice A n.toNat cap) ∧ w = w' := by
  go_enter Try.func84, Try.ntmps84
  go_wp2
  go_ret
  exact ⟨rfl, rfl⟩
theorem make_one (A : Option Addr) (m cap : Nat) (w : World) (h : (cap : Int) < 1) :
    Calls Try.prog 84 #[.slice A m cap, .int .i64 1] w fun e w' => e = .returned (.slice (some ⟨w.heap.size, 0, none⟩) 1 1) ∧ w.alloc (.cells (madeCells #[.int .u64 0] 1) 74) = w' := by
  have hmk := fun w => run_mk 1 1 w (by omega) (by omega) (by omega)
  go_enter Try.func84, Try.ntmps84
  go_wp2
  go_ret
  exact ⟨rfl, rfl⟩
theorem make_more (A : Option Addr) (m cap : Nat) (n : Int) (w : World) (h : (cap : Int) < n) (h1 : 1 < n) (hn : n ≤ 100000000) :
    Calls Try.prog 84 #[.slice A m cap, .int .i64 n] w fun e w' => e = .returned (.slice (some ⟨w.heap.size, 0, none⟩) n.toNat (n + 4).toNat) ∧ w.alloc (.cells (madeCells #[.int .u64 0] (n + 4).toNat) 74) = w' := by
  have hmk := fun w => run_mk n (n + 4) w (by omega) (by omega) (by omega)
  have h2 : (n == 1) = false := by rw [beq_eq_false_iff_ne]; omega
  go_enter Try.func84, Try.ntmps84
  go_wp2
  go_ret
  exact ⟨rfl, rfl⟩

/-- What make leaves: the old row where it has room, else a new one. -/
def Mk (w : World) (v : Value) (w' : World) (g : Nat) (cur : List Int) : Prop :=
  (w = w' ∧ v.ownBlock = some g) ∨ (w.heap.size = g ∧ ∃ c, cur = List.replicate c 0 ∧ w.alloc (.cells (madeCells #[.int .u64 0] c) 74) = w')
/-- The blocks of a value. -/
abbrev Own (v : Value) : Nat → Prop := fun k => v.ownBlock = some k
theorem Mk.chg {w w' : World} {v : Value} {g : Nat} {cur : List Int} (h : Mk w v w' g cur) : Chg (Own v) w w' := by
  rcases h with ⟨rfl, _⟩ | ⟨_, c, _, rfl⟩
  · exact Chg.refl _ _
  · exact (Chg.refl _ _).alloc _
theorem Mk.ok {w w' : World} {v : Value} {g : Nat} {cur : List Int} (h : Mk w v w' g cur) : Own v g ∨ w.heap.size ≤ g := by
  rcases h with ⟨_, h⟩ | ⟨h, _⟩
  · exact .inl h
  · exact .inr (by omega)
theorem Mk.fr {w w' : World} {v v' : Value} {g : Nat} {cur : List Int} (h : Mk w v w' g cur) (hv : v'.ownBlock = some g) : Fr w v v' := by
  rcases h with ⟨_, h⟩ | ⟨h, _⟩
  · exact .inl (hv.trans h.symm)
  · exact .inr ⟨g, hv, by omega⟩
theorem Mk.ap {w w' : World} {v u : Value} {g : Nat} {cur : List Int} (h : Mk w v w' g cur) (ha : Ap v u) (hu : ∀ k, u.ownBlock = some k → k < w.heap.size) : u.ownBlock ≠ some g := by
  intro e
  rcases h with ⟨_, h⟩ | ⟨h, _⟩
  · exact ha g h e
  · have := hu g e
    omega
theorem make_any {w : World} {v : Value} {l : List Int} (hv : Nt w v l) (n : Nat) (h0 : 0 < n) (hn : n ≤ 900000) :
    Calls Try.prog 84 #[v, .int .i64 (n : Int)] w fun e w' => ∃ g cur, e = .returned (.slice (some ⟨g, 0, none⟩) n cur.length) ∧ Rw w' g cur ∧ n ≤ cur.length ∧ cur.length ≤ 1000000 ∧ Mk w v w' g cur := by
  obtain ⟨A, cap, hA, hlc, hc⟩ := hv.slice
  by_cases hr : (n : Int) ≤ cap
  · rw [hA]
    refine (make_room A l.length cap (n : Int) w (by omega) hr).mono ?_
    rintro e w' ⟨rfl, rfl⟩
    rcases hv with ⟨rfl, rfl⟩ | ⟨g, cur, rfl, h1, h2, h3, h4⟩
    · simp only [Value.slice.injEq] at hA
      omega
    · simp only [Value.slice.injEq] at hA
      obtain ⟨rfl, _, rfl⟩ := hA
      exact ⟨g, cur, rfl, h1, by omega, h4, .inl ⟨rfl, rfl⟩⟩
  · rw [hA]
    by_cases h1 : n = 1
    · subst h1
      refine (make_one A l.length cap w (by omega)).mono ?_
      rintro e w' ⟨rfl, rfl⟩
      exact ⟨w.heap.size, List.replicate 1 0, rfl, Rw.made w 1, by simp, by simp, .inr ⟨rfl, 1, rfl, rfl⟩⟩
    · refine (make_more A l.length cap (n : Int) w (by omega) (by omega) (by omega)).mono ?_
      rintro e w' ⟨rfl, rfl⟩
      have e1 : ((n : Int) + 4).toNat = n + 4 := by omega
      rw [e1]
      exact ⟨w.heap.size, List.replicate (n + 4) 0, by simp, Rw.made w _, by simp, by simp; omega, .inr ⟨rfl, _, rfl, rfl⟩⟩

set_option maxHeartbeats 400000 in
theorem norm_any (g cap : Nat) (l : List Int) (w : World) (hl : l.length ≤ cap) (hn : (cap : Int) ≤ 1000000000)
    (hc : ∀ j, j < l.length → w.cell? ⟨g, j, none⟩ = some (.int .u64 (l.getD j 0))) :
    Calls Try.prog 86 #[.slice (some ⟨g, 0, none⟩) l.length cap] w fun e w' => ∃ i, e = .returned (.slice (some ⟨g, 0, none⟩) i cap) ∧ i ≤ l.length ∧ (∀ j, i ≤ j → l.getD j 0 = 0) ∧ (i = 0 ∨ l.getD (i - 1) 0 ≠ 0) ∧ w = w' := by
  have hC := Lib.hid hc
  clear hc
  go_enter Try.func86, Try.ntmps86
  go_wp2
  go_loop [3] (fun t => ∃ i : Nat, t = .int .i64 (i : Int) ∧ i ≤ l.length ∧ (∀ j, i ≤ j → l.getD j 0 = 0)) (fun t => (intOf t).toNat)
  case atStart => exact ⟨l.length, rfl, Nat.le_refl _, fun j hj => by rw [List.getD_eq_getElem?_getD, List.getElem?_eq_none hj]; rfl⟩
  case round =>
    obtain ⟨i, rfl, hi, hz⟩ := hrel
    have HZ := Lib.hid hz
    clear hz
    by_cases h0 : 0 < i
    · have hcell := hC.out (i - 1) (by omega)
      obtain ⟨x, hx⟩ : ∃ x, l.getD (i - 1) 0 = x := ⟨_, rfl⟩
      rw [hx] at hcell
      have HX := Lib.hid hx
      clear hx
      by_cases hz1 : x = 0
      · subst hz1
        go_wp2
        go_round
        case rel => exact ⟨i - 1, by congr 1; omega, by omega, fun j hj => (by by_cases e : j = i - 1; (· rw [e]; exact HX.out); exact HZ.out j (by omega))⟩
        case measure => simp [intOf]; omega
      · have hb : (x == 0) = false := by simpa using hz1
        have H1 := Lib.hid hz1
        clear hz1
        go_wp2
        go_ret
        exact ⟨i, rfl, hi, HZ.out, .inr (by rw [← List.getD_eq_getElem?_getD, HX.out]; exact H1.out), rfl⟩
    · go_wp2
      go_ret
      exact ⟨i, rfl, hi, HZ.out, .inl (by omega), rfl⟩

/-- What norm leaves: the digits of the number. -/
theorem norm_dg (g n : Nat) (cur : List Int) (w : World) (h : Rw w g cur) (hn : n ≤ cur.length) (hc : cur.length ≤ 1000000) (hd : DW (cur.take n)) :
    Calls Try.prog 86 #[.slice (some ⟨g, 0, none⟩) n cur.length] w fun e w' => ∃ v, e = .returned v ∧ Nt w v (dg (lv (BB : Int) (cur.take n)).toNat) ∧ v.ownBlock = some g ∧ w = w' := by
  have hl : (cur.take n).length = n := by rw [List.length_take]; omega
  have := norm_any g cur.length (cur.take n) w (by omega) (by omega) (fun j hj => by
    rw [h.cell j (by omega), List.getD_eq_getElem?_getD, List.getD_eq_getElem?_getD, List.getElem?_take, if_pos (by omega)])
  rw [hl] at this
  refine this.mono ?_
  rintro e w' ⟨i, rfl, hi, hz, h0, rfl⟩
  have ht := take_norm hd i (by omega) hz h0
  have hil : (dg (lv (BB : Int) (cur.take n)).toNat).length = i := by rw [← ht, List.length_take, hl]; omega
  refine ⟨_, rfl, .inr ⟨g, cur, by rw [hil], h, by omega, ?_, hc⟩, rfl, rfl⟩
  rw [hil, ← ht, List.take_take, Nat.min_eq_left (by omega)]
end Go.Proofs.Ythckboojmljeiaa.Na
namespace Go.Proofs.Ythckboojmljeiaa.Nb
set_option linter.unusedVariables false
set_option linter.unusedSimpArgs false
open Go.RowKit Go.Proofs.YthckboojmljeiaaW.PrintWords Go.Proofs.Ythckboojmljeiaa.Pl Go.Proofs.Ythckboojmljeiaa.Dg Go.Proofs.Ythckboojmljeiaa.Mem Go.Proofs.Ythckboojmljeiaa.Na

/-- What a nat operation leaves. -/
def NtOut (w : World) (v : Value) (l : List Int) (e : Ending) (w' : World) : Prop := ∃ v', e = .returned v' ∧ Nt w' v' l ∧ Chg (Own v) w w' ∧ Fr w v v'

/-- z[:0]. -/
theorem cut0 {w : World} {A : Option Addr} {n c : Nat} {l : List Int} (h : Nt w (.slice A n c) l) : Nt w (.slice A 0 c) [] := by
  rcases h with ⟨h, h1⟩ | ⟨g, cur, h, h1, h2, h3, h4⟩
  · simp only [Value.slice.injEq] at h
    obtain ⟨rfl, _, rfl⟩ := h
    exact .inl ⟨rfl, rfl⟩
  · simp only [Value.slice.injEq] at h
    obtain ⟨rfl, _, rfl⟩ := h
    exact .inr ⟨g, cur, rfl, h1, Nat.zero_le _, by simp, h4⟩
theorem own_len (A : Option Addr) (n m c d : Nat) : (Value.slice A n c).ownBlock = (Value.slice A m d).ownBlock := by cases A <;> rfl

theorem setWord_zero {w : World} {v : Value} {l : List Int} (h : Nt w v l) : Calls Try.prog 88 #[v, .int .u64 0] w (NtOut w v []) := by
  obtain ⟨A, c, rfl, hlc, hc⟩ := h.slice
  have H := Lib.hid (cut0 h)
  have HF : Fr w (.slice A l.length c) (.slice A 0 c) := .inl (own_len _ _ _ _ _)
  have H2 := Lib.hid HF
  clear h HF
  go_enter Try.func88, Try.ntmps88
  go_wp2
  go_ret
  exact ⟨_, rfl, H.out, Chg.refl _ _, H2.out⟩

theorem take_one (cur : List Int) (x : Int) (h : 1 ≤ cur.length) : (cur.set 0 x).take 1 = [x] := by
  cases cur with
  | nil => simp at h
  | cons y r => simp

theorem setWord_pos {w : World} {v : Value} {l : List Int} (h : Nt w v l) (x : Int) (hx0 : 0 < x) (hx1 : x < (BB : Int)) : Calls Try.prog 88 #[v, .int .u64 x] w (NtOut w v [x]) := by
  have hm := make_any h 1 (by omega) (by omega)
  have HM := Lib.hid hm
  have hb : (x == 0) = false := by rw [beq_eq_false_iff_ne]; omega
  clear hm h hx1
  go_enter Try.func88, Try.ntmps88
  go_wp2_with fail
  refine HM.out.mono ?_
  rintro e w1 ⟨g, cur, rfl, hr, h1, h2, hk⟩
  have hcell := hr.has 0 (by omega)
  obtain ⟨u, hcell⟩ := hcell
  have hfree := hr.free 0
  have hp := hr.put 0 x
  have HP := Lib.hid hp
  have HK := Lib.hid hk
  have HL := Lib.hid h1
  have hcl : (0 : Int) < (cur.length : Int) := by omega
  clear hr hp hk h1
  go_wp2
  go_ret
  refine ⟨_, rfl, .inr ⟨g, cur.set 0 x, by simp, HP.out, by simp; exact HL.out, by rw [show ([x] : List Int).length = 1 from rfl, take_one _ _ HL.out], by rw [List.length_set]; exact h2⟩, HK.out.chg.set g 0 _ HK.out.ok, HK.out.fr rfl⟩

theorem setWord_any {w : World} {v : Value} {l : List Int} (h : Nt w v l) (x : Int) (hx0 : 0 ≤ x) (hx1 : x < (BB : Int)) : Calls Try.prog 88 #[v, .int .u64 x] w (NtOut w v (dg x.toNat)) := by
  by_cases h0 : x = 0
  · subst h0
    rw [show (0 : Int).toNat = 0 from rfl, dg_zero]
    exact setWord_zero h
  · have e : dg x.toNat = [x] := by rw [dg_one (by omega) (by omega)]; congr 1; omega
    rw [e]
    exact setWord_pos h x (by omega) hx1

theorem setUint64_any {w : World} {v : Value} {l : List Int} (h : Nt w v l) (x : Int) (hx0 : 0 ≤ x) (hx1 : x < (BB : Int)) : Calls Try.prog 71 #[v, .int .u64 x] w (NtOut w v (dg x.toNat)) := by
  have H := Lib.hid (setWord_any h x hx0 hx1)
  clear h hx1
  go_enter Try.func71, Try.ntmps71
  go_wp2_with fail
  refine H.out.mono ?_
  rintro e w1 ⟨v', rfl, h1, h2, h3⟩
  have H1 := Lib.hid h1
  have H2 := Lib.hid h2
  have H3 := Lib.hid h3
  clear h1 h2 h3
  go_wp2
  go_ret
  exact ⟨_, rfl, H1.out, H2.out, H3.out⟩

/-! ### Ints -/
theorem head_ne {w : World} {p : Nat} {neg : Bool} {v v' : Value} {l' : List Int} (h : w.heap[p]? = some (.cells #[.bool neg, v] 64 (0, 0))) (h1 : Nt w v' l') : v'.ownBlock ≠ some p := by
  intro e
  rcases h1 with ⟨rfl, _⟩ | ⟨g, cur, rfl, h1, _⟩
  · cases e
  · cases e
    rw [h1] at h
    injection h with h
    injection h with _ h3
    cases h3
/-- The Int's own two cells behind an operation on its nat. -/
theorem head_kept {w w1 : World} {p : Nat} {neg : Bool} {v : Value} {l : List Int} (h : It w p v neg l) (hc : Chg (Own v) w w1) : w1.heap[p]? = some (.cells #[.bool neg, v] 64 (0, 0)) :=
  (hc.block p h.lt h.ne).trans h.1
theorem head_cell {w : World} {p : Nat} {neg : Bool} {v : Value} (h : w.heap[p]? = some (.cells #[.bool neg, v] 64 (0, 0))) : w.cell? ⟨p, 0, none⟩ = some (.bool neg) ∧ w.cell? ⟨p, 1, none⟩ = some v ∧ w.frozen? ⟨p, 0, none⟩ = false ∧ w.frozen? ⟨p, 1, none⟩ = false :=
  ⟨by rw [cell_of_row w p 0 _ 64 (0, 0) h]; rfl, by rw [cell_of_row w p 1 _ 64 (0, 0) h]; rfl, frozen_of_row w p 0 _ 64 h, frozen_of_row w p 1 _ 64 h⟩
abbrev OwnI (p : Nat) (v : Value) : Nat → Prop := fun k => k = p ∨ v.ownBlock = some k
theorem own_chg {w w1 : World} {p : Nat} {v : Value} (h : Chg (Own v) w w1) : Chg (OwnI p v) w w1 := h.mono (fun k _ h => .inr h)
/-- The new nat laid in, then the new sign. -/
theorem lay_sign {w w1 : World} {p : Nat} {neg : Bool} {v v' : Value} {l l' : List Int} (h : It w p v neg l) (h1 : Nt w1 v' l') (hc : Chg (Own v) w w1) (b : Bool) :
    It ((w1.setCell ⟨p, 1, none⟩ v').setCell ⟨p, 0, none⟩ (.bool b)) p v' b l' ∧ Chg (OwnI p v) w ((w1.setCell ⟨p, 1, none⟩ v').setCell ⟨p, 0, none⟩ (.bool b)) :=
  ⟨(It.lay (head_kept h hc) h1 (head_ne (head_kept h hc) h1)).sign b, ((own_chg hc).set p 1 _ (.inl (.inl rfl))).set p 0 _ (.inl (.inl rfl))⟩
theorem upd_of {w w1 : World} {p : Nat} {neg : Bool} {v v' : Value} {l l' : List Int} {z : Int} (h : It w p v neg l) (h1 : Nt w1 v' l') (hc : Chg (Own v) w w1) (hf : Fr w v v') (hz : l' = dg z.natAbs) :
    Upd w p v z ((w1.setCell ⟨p, 1, none⟩ v').setCell ⟨p, 0, none⟩ (.bool (decide (z < 0)))) := by
  obtain ⟨i1, i2⟩ := lay_sign h h1 hc (decide (z < 0))
  subst hz
  exact ⟨v', i1, i2, hf⟩

theorem intSetUint64 {w : World} {p : Nat} {v : Value} {neg : Bool} {l : List Int} (h : It w p v neg l) (x : Int) (hx0 : 0 ≤ x) (hx1 : x < (BB : Int)) :
    Calls Try.prog 53 #[.pointer (some ⟨p, 0, none⟩), .int .u64 x] w fun e w' => e = .returned (.pointer (some ⟨p, 0, none⟩)) ∧ Upd w p v x w' := by
  have H := Lib.hid (setUint64_any h.2 x hx0 hx1)
  have HI := Lib.hid h
  have h1 := h.abs1
  clear h hx1
  go_enter Try.func53, Try.ntmps53
  go_wp2_with fail
  refine H.out.mono ?_
  rintro e w1 ⟨v', rfl, h2, h3, h4⟩
  obtain ⟨A', cc, rfl, _, _⟩ := h2.slice
  obtain ⟨c0, c1, f0, f1⟩ := head_cell (head_kept HI.out h3)
  have HU := Lib.hid (upd_of (z := x) HI.out h2 h3 h4 (by congr 1; omega))
  rw [show decide (x < 0) = false from decide_eq_false (by omega)] at HU
  clear h2 h3 h4
  go_wp2
  go_ret
  exact ⟨rfl, HU.out⟩

/-! ### nat.set -/
theorem set_nil {w : World} {v : Value} {l : List Int} (h : Nt w v l) (B : Option Addr) (d : Nat) : Calls Try.prog 76 #[v, .slice B 0 d] w (NtOut w v []) := by
  obtain ⟨A, c, rfl, hlc, hc⟩ := h.slice
  have H := Lib.hid (cut0 h)
  have HF : Fr w (.slice A l.length c) (.slice A 0 c) := .inl (own_len _ _ _ _ _)
  have H2 := Lib.hid HF
  have HM := Lib.hid (make_room A l.length c 0 w (by omega) (by omega))
  clear h HF
  go_enter Try.func76, Try.ntmps76
  go_wp2_with fail
  refine HM.out.mono ?_
  rintro e w1 ⟨rfl, rfl⟩
  go_wp2_with (first | (refine wpList_copy_nothing rfl (.tmp 9) (.tmp 10) 62 62 rfl 74 Try.underlying62 (by kernel_rfl) A B 0 c 0 d rfl rfl rfl ?_))
  go_ret
  exact ⟨_, rfl, H.out, Chg.refl _ _, H2.out⟩

theorem copy_src {w : World} {lu : List Int} {n gu : Nat} (hl : lu.length = n) (hs : ∀ j, j < n → w.cell? ⟨gu, j, none⟩ = some (.int .u64 (lu.getD j 0))) : ∀ j v, (lu.map (Value.int .u64))[j]? = some v → w.cell? ((⟨gu, 0, none⟩ : Addr).add j) = some v := by
  intro j v hv
  rw [List.getElem?_map] at hv
  obtain ⟨x, hx, rfl⟩ := Option.map_eq_some_iff.1 hv
  have hj : j < lu.length := (List.getElem?_eq_some_iff.1 hx).1
  rw [add_plain, hs j (by omega), List.getD_eq_getElem?_getD, hx]
  rfl
theorem set_other {w : World} {v : Value} {l lu : List Int} {gu cu : Nat} (h : Nt w v l) (n : Nat) (hl : lu.length = n) (h0 : 0 < n) (hn : n ≤ 900000) (hs : ∀ j, j < n → w.cell? ⟨gu, j, none⟩ = some (.int .u64 (lu.getD j 0))) (ha : ¬ Own v gu) (hgu : gu < w.heap.size) :
    Calls Try.prog 76 #[v, .slice (some ⟨gu, 0, none⟩) n cu] w (NtOut w v lu) := by
  have HM := Lib.hid (make_any h n h0 hn)
  have HS := Lib.hid hs
  have HA := Lib.hid ha
  have HL := Lib.hid hl
  clear h hs ha hl
  go_enter Try.func76, Try.ntmps76
  go_wp2_with fail
  refine HM.out.mono ?_
  rintro e w1 ⟨g, cur, rfl, hr, h1, h2, hk⟩
  have HR := Lib.hid hr
  have HK := Lib.hid hk
  have HC := Lib.hid h1
  clear hr hk h1
  obtain ⟨new, hnew⟩ : ∃ new, lu ++ cur.drop n = new := ⟨_, rfl⟩
  have hlu := HL.out
  have hrow : ((cur.map (Value.int .u64)).toArray.toList.take 0 ++ (lu.map (Value.int .u64) ++ (cur.map (Value.int .u64)).toArray.toList.drop (0 + (lu.map (Value.int .u64)).length))).toArray = (new.map (Value.int .u64)).toArray := by
    rw [← hnew]
    simp [hlu]
  have hlen : new.length = cur.length := by have := HC.out; rw [← hnew]; simp; omega
  have htake : new.take n = lu := by rw [← hnew]; exact List.take_left' hlu
  have HLen := Lib.hid hlen
  have HTake := Lib.hid htake
  have HRow := Lib.hid hrow
  clear hlu hrow hlen htake hnew
  have HR2 := Lib.hid (HR.out.row new)
  have HC2 := Lib.hid (HK.out.chg.setRow g (new.map (Value.int .u64)).toArray HK.out.ok)
  go_wp2_with (first | (refine wpList_copy_own rfl (.tmp 9) (.tmp 10) 62 62 rfl 74 Try.underlying62 (by kernel_rfl) g 0 n cur.length ⟨gu, 0, none⟩ n cu rfl rfl (cur.map (Value.int .u64)).toArray 74 HR.out (lu.map (Value.int .u64)) ?hn ?hsrc ?hfit ?h1 ?_; (case hn => have := HL.out; simp [this]); (case hsrc => exact copy_src HL.out (fun j hj => HK.out.chg.cell (HS.out j hj) HA.out)); (case hfit => have := HL.out; have := HC.out; simp; omega); (case h1 => intro v hv; obtain ⟨x, _, rfl⟩ := List.mem_map.1 hv; rfl); rw [HRow.out]))
  go_ret
  have e : lu.length = n := HL.out
  exact ⟨.slice (some ⟨g, 0, none⟩) n cur.length, rfl, .inr ⟨g, new, by rw [e, HLen.out], HR2.out, by rw [HLen.out, e]; exact HC.out, by rw [e]; exact HTake.out, by rw [HLen.out]; exact h2⟩, HC2.out, HK.out.fr rfl⟩

/-- z.set(z). -/
theorem set_self {w : World} {v : Value} {l : List Int} (h : Nt w v l) : Calls Try.prog 76 #[v, v] w fun e w' => e = .returned v ∧ w = w' := by
  obtain ⟨A, c, rfl, hlc, hc⟩ := h.slice
  have HM := Lib.hid (make_room A l.length c (l.length : Int) w (by omega) (by omega))
  rcases h with ⟨h, rfl⟩ | ⟨g, cur, h, h1, h2, h3, h4⟩
  · simp only [Value.slice.injEq] at h
    obtain ⟨rfl, _, rfl⟩ := h
    clear hlc hc
    go_enter Try.func76, Try.ntmps76
    go_wp2_with fail
    refine HM.out.mono ?_
    rintro e w1 ⟨rfl, rfl⟩
    go_wp2_with (first | (refine wpList_copy_nothing rfl (.tmp 9) (.tmp 10) 62 62 rfl 74 Try.underlying62 (by kernel_rfl) none none 0 0 0 0 rfl rfl rfl ?_))
    go_ret
    exact ⟨rfl, rfl⟩
  · simp only [Value.slice.injEq] at h
    obtain ⟨rfl, _, rfl⟩ := h
    obtain ⟨n, hn⟩ : ∃ n, l.length = n := ⟨_, rfl⟩
    rw [hn] at HM hlc h3
    have hs := Nt.cells (w := w) (l := l) (.inr ⟨g, cur, rfl, h1, h2, by rw [hn]; exact h3, h4⟩) rfl
    rw [hn] at h2 hs ⊢
    have e1 : (Int.ofNat n).toNat = n := by simp
    have hrow : ((cur.map (Value.int .u64)).toArray.toList.take 0 ++ (l.map (Value.int .u64) ++ (cur.map (Value.int .u64)).toArray.toList.drop (0 + (l.map (Value.int .u64)).length))).toArray = (cur.map (Value.int .u64)).toArray := by
      have e2 : (cur.map (Value.int .u64)) = (cur.take n).map (Value.int .u64) ++ (cur.map (Value.int .u64)).drop n := by
        rw [List.map_take, List.take_append_drop]
      rw [h3] at e2
      simp only [List.take_zero, List.nil_append, List.length_map, hn, Nat.zero_add]
      rw [← e2]
    have hself : w.setRow g (cur.map (Value.int .u64)).toArray = w := setRow_self w g _ 74 (0, 0) h1
    have HRow := Lib.hid hrow
    have HSelf := Lib.hid hself
    have HR := Lib.hid h1
    have HL := Lib.hid hn
    have HS := Lib.hid hs
    have HC := Lib.hid h2
    clear hrow hself h1 hn hs h2 hlc h3 e1
    go_enter Try.func76, Try.ntmps76
    go_wp2_with fail
    refine HM.out.mono ?_
    rintro e w1 ⟨rfl, rfl⟩
    rw [Int.toNat_natCast]
    go_wp2_with (first | (refine wpList_copy_own rfl (.tmp 9) (.tmp 10) 62 62 rfl 74 Try.underlying62 (by kernel_rfl) g 0 n cur.length ⟨g, 0, none⟩ n cur.length rfl rfl (cur.map (Value.int .u64)).toArray 74 HR.out (l.map (Value.int .u64)) ?hn ?hsrc ?hfit ?h1 ?_; (case hn => have := HL.out; simp [this]); (case hsrc => exact copy_src HL.out HS.out); (case hfit => have := HL.out; have := HC.out; simp; omega); (case h1 => intro v hv; obtain ⟨x, _, rfl⟩ := List.mem_map.1 hv; rfl); rw [HRow.out, HSelf.out]))
    go_ret
    exact ⟨rfl, rfl⟩

/-- nat.set. -/
theorem set_any {w : World} {v u : Value} {l lu : List Int} (h : Nt w v l) (hu : Nt w u lu) (ha : Ap v u) (hn : lu.length ≤ 900000) : Calls Try.prog 76 #[v, u] w (NtOut w v lu) := by
  by_cases h0 : lu = []
  · subst h0
    obtain ⟨B, d, rfl, _⟩ := hu.slice
    exact set_nil h B d
  · have hl : 0 < lu.length := List.length_pos_iff.2 h0
    rcases hu with ⟨_, h1⟩ | ⟨g, cur, rfl, h1, h2, h3, h4⟩
    · exact absurd h1 h0
    · exact set_other h lu.length rfl hl hn (Nt.cells (w := w) (l := lu) (.inr ⟨g, cur, rfl, h1, h2, h3, h4⟩) rfl) (fun e => ha g e rfl) h1.lt
end Go.Proofs.Ythckboojmljeiaa.Nb
namespace Go.Proofs.Ythckboojmljeiaa.Bi
set_option linter.unusedVariables false
set_option linter.unusedSimpArgs false
open Go.RowKit Go.Proofs.YthckboojmljeiaaW.PrintWords Go.Proofs.Ythckboojmljeiaa.Pl Go.Proofs.Ythckboojmljeiaa.Dg Go.Proofs.Ythckboojmljeiaa.Mem

theorem bbI : (BB : Int) = 18446744073709551616 := rfl

/-- A sum's word and carry, a difference's word and borrow. -/
def sumW (x y c : Int) : Int := (x + y + c) % (BB : Int)
def sumC (x y c : Int) : Int := (x + y + c) / (BB : Int)
def difW (x y b : Int) : Int := (x - y - b) % (BB : Int)
def difC (x y b : Int) : Int := if x < y + b then 1 else 0

theorem add64 (x y c : Int) (hx : 0 ≤ x) (hy : 0 ≤ y) (hc0 : 0 ≤ c) (hc : c ≤ 1) (w : World) :
    (callFunc 108 #[.int .u64 x, .int .u64 y, .int .u64 c]).run Try.prog w = .ok (.value (.tuple #[.int .u64 (sumW x y c), .int .u64 (sumC x y c)])) w := by
  rw [run_callFunc_extern Try.func108 (by kernel_rfl) (by kernel_rfl) (by kernel_rfl) (e := add64Entry) (by kernel_rfl), run_add64 x y c hx hy hc0 hc]
  rfl

/-- The model's entry for math/bits.Sub64. -/
def sub64Entry : Array Value → Sem Value := fun args => do
  let (x, y, b) ← Extern.MathBitsCarry.three "Sub64" args
  pure (Extern.MathBitsCarry.pair ((x + Extern.MathBitsCarry.m64 - y - b) % Extern.MathBitsCarry.m64) (if x < y + b then 1 else 0))
theorem run_sub64 {P : Program} (x y b : Nat) (hb : b ≤ 1) (w : World) :
    (sub64Entry #[.int .u64 x, .int .u64 y, .int .u64 b]).run P w =
      .ok (.tuple #[.int .u64 (((x + BB - y - b) % BB : Nat) : Int), .int .u64 ((if x < y + b then 1 else 0 : Nat) : Int)]) w := by
  have : b = 0 ∨ b = 1 := by omega
  rcases this with rfl | rfl <;> rfl
theorem sub64 (x y c : Int) (hx : 0 ≤ x) (hx1 : x < (BB : Int)) (hy : 0 ≤ y) (hy1 : y < (BB : Int)) (hc0 : 0 ≤ c) (hc : c ≤ 1) (w : World) :
    (callFunc 110 #[.int .u64 x, .int .u64 y, .int .u64 c]).run Try.prog w = .ok (.value (.tuple #[.int .u64 (difW x y c), .int .u64 (difC x y c)])) w := by
  obtain ⟨X, rfl⟩ := Int.eq_ofNat_of_zero_le hx
  obtain ⟨Y, rfl⟩ := Int.eq_ofNat_of_zero_le hy
  obtain ⟨C, rfl⟩ := Int.eq_ofNat_of_zero_le hc0
  rw [run_callFunc_extern Try.func110 (by kernel_rfl) (by kernel_rfl) (by kernel_rfl) (e := sub64Entry) (by kernel_rfl), run_sub64 X Y C (by omega)]
  have e1 : (((X + BB - Y - C) % BB : Nat) : Int) = difW X Y C := by
    unfold difW
    rw [bbI] at *
    have hB : BB = 18446744073709551616 := rfl
    rw [hB]
    omega
  have e2 : ((if X < Y + C then 1 else 0 : Nat) : Int) = difC X Y C := by
    unfold difC
    by_cases h : X < Y + C
    · rw [if_pos h, if_pos (by omega)]; rfl
    · rw [if_neg h, if_neg (by omega)]; rfl
  rw [e1, e2]
  rfl

theorem add_any (x y c : Int) (hx : 0 ≤ x) (hy : 0 ≤ y) (hc0 : 0 ≤ c) (hc : c ≤ 1) (w : World) :
    Calls Try.prog 103 #[.int .u64 x, .int .u64 y, .int .u64 c] w fun e w' => e = .returned (.tuple #[.int .u64 (sumW x y c), .int .u64 (sumC x y c)]) ∧ w = w' := by
  have ha := add64 x y c hx hy hc0 hc
  obtain ⟨s, hs⟩ : ∃ s, sumW x y c = s := ⟨_, rfl⟩
  obtain ⟨k, hk⟩ : ∃ s, sumC x y c = s := ⟨_, rfl⟩
  rw [hs, hk] at ha ⊢
  clear hs hk
  go_enter Try.func103, Try.ntmps103
  go_wp2
  go_ret2
  exact ⟨rfl, rfl⟩
theorem sub_any (x y c : Int) (hx : 0 ≤ x) (hx1 : x < (BB : Int)) (hy : 0 ≤ y) (hy1 : y < (BB : Int)) (hc0 : 0 ≤ c) (hc : c ≤ 1) (w : World) :
    Calls Try.prog 105 #[.int .u64 x, .int .u64 y, .int .u64 c] w fun e w' => e = .returned (.tuple #[.int .u64 (difW x y c), .int .u64 (difC x y c)]) ∧ w = w' := by
  have ha := sub64 x y c hx hx1 hy hy1 hc0 hc
  obtain ⟨s, hs⟩ : ∃ s, difW x y c = s := ⟨_, rfl⟩
  obtain ⟨k, hk⟩ : ∃ s, difC x y c = s := ⟨_, rfl⟩
  rw [hs, hk] at ha ⊢
  clear hs hk
  go_enter Try.func105, Try.ntmps105
  go_wp2
  go_ret2
  exact ⟨rfl, rfl⟩

end Go.Proofs.Ythckboojmljeiaa.Bi
namespace Go.Proofs.Ythckboojmljeiaa.Vv
set_option linter.unusedVariables false
set_option linter.unusedSimpArgs false
open Go.RowKit Go.Proofs.YthckboojmljeiaaW.PrintWords Go.Proofs.Ythckboojmljeiaa.Pl Go.Proofs.Ythckboojmljeiaa.Dg Go.Proofs.Ythckboojmljeiaa.Mem Go.Proofs.Ythckboojmljeiaa.Na Go.Proofs.Ythckboojmljeiaa.Bi

theorem neq_same (a : Addr) (w : World) : (binOp .neq 99 (.pointer (some a)) (.pointer (some a))).run Try.prog w = .ok (.bool false) w := by
  obtain ⟨i, hi, _⟩ := info_parts info74
  exact Lib.run_neq_ptr_same w a Try.underlying99 hi
theorem run_neq_ptr_other {P : Program} (w : World) {tp te : TypeId} {j : TypeInfo} {a b : Addr} {ca cb : Array Value} {ta tb : TypeId} (hp : P.underlying tp = some (.pointer te)) (hte : P.info? te = some j) (hsz : j.size ≠ 0)
    (hne : a ≠ b) (ha : w.heap[a.block]? = some (.cells ca ta (0, 0))) (hb : w.heap[b.block]? = some (.cells cb tb (0, 0))) :
    (binOp .neq tp (.pointer (some a)) (.pointer (some b))).run P w = .ok (.bool true) w := by
  have h : ∀ d : Nat, (Op.equalIn (d + 1) tp (.pointer (some a)) (.pointer (some b))).run P w = .ok false w := fun d => by
    simp [Op.equalIn, run_underlying hp, sizeOf, typeInfo, hte, hsz, run_sameAddr_other w hne ha hb]
  simp only [binOp]
  simp [Op.equal, Op.maxDepth, h 9999]
theorem neq_other {w : World} {g g' o o' : Nat} {cur cur' : List Int} (hne : g ≠ g') (h : Rw w g cur) (h' : Rw w g' cur') : (binOp .neq 99 (.pointer (some ⟨g, o, none⟩)) (.pointer (some ⟨g', o', none⟩))).run Try.prog w = .ok (.bool true) w := by
  obtain ⟨i, hi, _, hs, _⟩ := info_parts info74
  exact run_neq_ptr_other w Try.underlying99 hi (by rw [hs]; decide) (by simp [hne]) h h'

set_option maxHeartbeats 400000 in
theorem addVVg (gz gx gy cz cx cy : Nat) (x y u : Int) (w : World) (hx : w.cell? ⟨gx, 0, none⟩ = some (.int .u64 x)) (hy : w.cell? ⟨gy, 0, none⟩ = some (.int .u64 y)) (hz : w.cell? ⟨gz, 0, none⟩ = some (.int .u64 u)) (hf : w.frozen? ⟨gz, 0, none⟩ = false)
    (hx0 : 0 ≤ x) (hy0 : 0 ≤ y) :
    Calls Try.prog 102 #[.slice (some ⟨gz, 0, none⟩) 1 cz, .slice (some ⟨gx, 0, none⟩) 1 cx, .slice (some ⟨gy, 0, none⟩) 1 cy] w fun e w' =>
      e = .returned (.int .u64 (sumC x y 0)) ∧ ∃ q, w' = (w.setCell ⟨gz, 0, none⟩ (.int .u64 (sumW x y 0))).drewN q := by
  have H := Lib.hid (fun w => add_any x y 0 hx0 hy0 (by omega) (by omega) w)
  obtain ⟨s, hs⟩ : ∃ s, sumW x y 0 = s := ⟨_, rfl⟩
  obtain ⟨k, hk⟩ : ∃ s, sumC x y 0 = s := ⟨_, rfl⟩
  rw [hs, hk] at H ⊢
  clear hs hk
  have HQ := Lib.hid (fun n => ((H.out (w.drewN n)).mono (fun e w' h => ⟨h.1, h.2.symm⟩) : Calls Try.prog 103 #[.int .u64 x, .int .u64 y, .int .u64 0] (w.drewN n) fun e w' => e = .returned (.tuple #[.int .u64 s, .int .u64 k]) ∧ w' = w.drewN n))
  clear H
  go_enter Try.func102, Try.ntmps102
  go_wp2_with fail
  refine wp_loop_rounds 2 ?_
  rw [rounds_succ]
  go_wp2_with fail
  go_quiet ((go_at_call 103; exact Calls.quiet_of_same (HQ.out _)))
  go_wp2_with fail
  rw [rounds_succ]
  go_wp2_with fail
  go_ret
  exact ⟨rfl, _, rfl⟩
set_option maxHeartbeats 400000 in
theorem subVVg (gz gx gy cz cx cy : Nat) (x y u : Int) (w : World) (hx : w.cell? ⟨gx, 0, none⟩ = some (.int .u64 x)) (hy : w.cell? ⟨gy, 0, none⟩ = some (.int .u64 y)) (hz : w.cell? ⟨gz, 0, none⟩ = some (.int .u64 u)) (hf : w.frozen? ⟨gz, 0, none⟩ = false)
    (hx0 : 0 ≤ x) (hx1 : x < (BB : Int)) (hy0 : 0 ≤ y) (hy1 : y < (BB : Int)) :
    Calls Try.prog 104 #[.slice (some ⟨gz, 0, none⟩) 1 cz, .slice (some ⟨gx, 0, none⟩) 1 cx, .slice (some ⟨gy, 0, none⟩) 1 cy] w fun e w' =>
      e = .returned (.int .u64 (difC x y 0)) ∧ ∃ q, w' = (w.setCell ⟨gz, 0, none⟩ (.int .u64 (difW x y 0))).drewN q := by
  have H := Lib.hid (fun w => sub_any x y 0 hx0 hx1 hy0 hy1 (by omega) (by omega) w)
  obtain ⟨s, hs⟩ : ∃ s, difW x y 0 = s := ⟨_, rfl⟩
  obtain ⟨k, hk⟩ : ∃ s, difC x y 0 = s := ⟨_, rfl⟩
  rw [hs, hk] at H ⊢
  clear hs hk hx1 hy1
  have HQ := Lib.hid (fun n => ((H.out (w.drewN n)).mono (fun e w' h => ⟨h.1, h.2.symm⟩) : Calls Try.prog 105 #[.int .u64 x, .int .u64 y, .int .u64 0] (w.drewN n) fun e w' => e = .returned (.tuple #[.int .u64 s, .int .u64 k]) ∧ w' = w.drewN n))
  clear H
  go_enter Try.func104, Try.ntmps104
  go_wp2_with fail
  refine wp_loop_rounds 2 ?_
  rw [rounds_succ]
  go_wp2_with fail
  go_quiet ((go_at_call 105; exact Calls.quiet_of_same (HQ.out _)))
  go_wp2_with fail
  rw [rounds_succ]
  go_wp2_with fail
  go_ret
  exact ⟨rfl, _, rfl⟩
theorem addVV (gz gx gy cz cx cy : Nat) (x y u : Int) (w : World) (hx : w.cell? ⟨gx, 0, none⟩ = some (.int .u64 x)) (hy : w.cell? ⟨gy, 0, none⟩ = some (.int .u64 y)) (hz : w.cell? ⟨gz, 0, none⟩ = some (.int .u64 u)) (hf : w.frozen? ⟨gz, 0, none⟩ = false)
    (hx0 : 0 ≤ x) (hy0 : 0 ≤ y) :
    Calls Try.prog 92 #[.slice (some ⟨gz, 0, none⟩) 1 cz, .slice (some ⟨gx, 0, none⟩) 1 cx, .slice (some ⟨gy, 0, none⟩) 1 cy] w fun e w' =>
      e = .returned (.int .u64 (sumC x y 0)) ∧ ∃ q, w' = (w.setCell ⟨gz, 0, none⟩ (.int .u64 (sumW x y 0))).drewN q := by
  have H := Lib.hid (addVVg gz gx gy cz cx cy x y u w hx hy hz hf hx0 hy0)
  obtain ⟨s, hs⟩ : ∃ s, sumW x y 0 = s := ⟨_, rfl⟩
  obtain ⟨k, hk⟩ : ∃ s, sumC x y 0 = s := ⟨_, rfl⟩
  rw [hs, hk] at H ⊢
  clear hs hk hx hy hz hf
  go_enter Try.func92, Try.ntmps92
  go_wp2_with fail
  refine H.out.mono ?_
  rintro e w1 ⟨rfl, hq⟩
  have HQ := Lib.hid hq
  clear hq
  go_wp2
  go_ret
  exact ⟨rfl, HQ.out⟩

theorem subVV (gz gx gy cz cx cy : Nat) (x y u : Int) (w : World) (hx : w.cell? ⟨gx, 0, none⟩ = some (.int .u64 x)) (hy : w.cell? ⟨gy, 0, none⟩ = some (.int .u64 y)) (hz : w.cell? ⟨gz, 0, none⟩ = some (.int .u64 u)) (hf : w.frozen? ⟨gz, 0, none⟩ = false)
    (hx0 : 0 ≤ x) (hx1 : x < (BB : Int)) (hy0 : 0 ≤ y) (hy1 : y < (BB : Int)) :
    Calls Try.prog 94 #[.slice (some ⟨gz, 0, none⟩) 1 cz, .slice (some ⟨gx, 0, none⟩) 1 cx, .slice (some ⟨gy, 0, none⟩) 1 cy] w fun e w' =>
      e = .returned (.int .u64 (difC x y 0)) ∧ ∃ q, w' = (w.setCell ⟨gz, 0, none⟩ (.int .u64 (difW x y 0))).drewN q := by
  have H := Lib.hid (subVVg gz gx gy cz cx cy x y u w hx hy hz hf hx0 hx1 hy0 hy1)
  obtain ⟨s, hs⟩ : ∃ s, difW x y 0 = s := ⟨_, rfl⟩
  obtain ⟨k, hk⟩ : ∃ s, difC x y 0 = s := ⟨_, rfl⟩
  rw [hs, hk] at H ⊢
  clear hs hk hx hy hz hf
  go_enter Try.func94, Try.ntmps94
  go_wp2_with fail
  refine H.out.mono ?_
  rintro e w1 ⟨rfl, hq⟩
  have HQ := Lib.hid hq
  clear hq
  go_wp2
  go_ret
  exact ⟨rfl, HQ.out⟩

end Go.Proofs.Ythckboojmljeiaa.Vv
namespace Go.Proofs.Ythckboojmljeiaa.Vw
set_option linter.unusedVariables false
set_option linter.unusedSimpArgs false
open Go.RowKit Go.Proofs.YthckboojmljeiaaW.PrintWords Go.Proofs.Ythckboojmljeiaa.Pl Go.Proofs.Ythckboojmljeiaa.Dg Go.Proofs.Ythckboojmljeiaa.Mem Go.Proofs.Ythckboojmljeiaa.Na Go.Proofs.Ythckboojmljeiaa.Bi Go.Proofs.Ythckboojmljeiaa.Vv Go.Proofs.Ythckboojmljeiaa.Ad

abbrev At (g : Nat) : Nat → Prop := fun k => k = g
theorem at_set {g o : Nat} {w w1 : World} {u : Value} (h : Chg (At g) w w1) : Chg (At g) w (w1.setCell ⟨g, o, none⟩ u) := h.set g o u (.inl rfl)
theorem lay_get (cur : List Int) (o i : Nat) (r : List Int) (hr : i ≤ r.length) (j : Nat) (hj : o + i ≤ j) (ho : o + i ≤ cur.length) : (lay cur o i r).getD j 0 = cur.getD j 0 := by
  unfold lay
  have h1 : (cur.take o).length = o := by rw [List.length_take]; omega
  have h2 : (r.take i).length = i := by rw [List.length_take]; omega
  rw [List.getD_eq_getElem?_getD, List.getD_eq_getElem?_getD, List.getElem?_append_right (by omega), List.getElem?_append_right (by omega), h1, h2, List.getElem?_drop, show o + i + (j - o - i) = j from by omega]

/-- What a row operation leaves. -/
def RowOut (w : World) (g : Nat) (new : List Int) (c : Int) (e : Ending) (w' : World) : Prop := e = .returned (.int .u64 c) ∧ Rw w' g new ∧ Chg (At g) w w'

theorem seg_get (cur : List Int) (o n j : Nat) (hj : j < n) : ((cur.drop o).take n).getD j 0 = cur.getD (o + j) 0 := by
  rw [List.getD_eq_getElem?_getD, List.getD_eq_getElem?_getD, List.getElem?_take, if_pos hj, List.getElem?_drop]

set_option maxHeartbeats 1000000 in
set_option maxRecDepth 100000 in
theorem addVW_same (g o n cz cx : Nat) (cur : List Int) (y : Int) (w : World) (h : Rw w g cur) (h0 : 0 < n) (ho : o + n ≤ cur.length) (hc : cur.length ≤ 1000000) (hd : DW ((cur.drop o).take n)) (hy0 : 0 ≤ y) (hy1 : y ≤ 1) :
    Calls Try.prog 93 #[.slice (some ⟨g, o, none⟩) n cz, .slice (some ⟨g, o, none⟩) n cx, .int .u64 y] w (RowOut w g (lay cur o n (addl ((cur.drop o).take n) y).1) (addl ((cur.drop o).take n) y).2) := by
  obtain ⟨xs, hxs⟩ : ∃ xs, (cur.drop o).take n = xs := ⟨_, rfl⟩
  have hxl : xs.length = n := by rw [← hxs, List.length_take, List.length_drop]; omega
  have hxg : ∀ j, j < n → cur.getD (o + j) 0 = xs.getD j 0 := fun j hj => by rw [← hxs, seg_get _ _ _ _ hj]
  have hxd : ∀ i, xs.drop i = (cur.drop (o + i)).take (n - i) := fun i => by rw [← hxs, List.drop_take, List.drop_drop]
  rw [hxs] at hd ⊢
  have hrl := addl_length xs y
  have hst0 := addl_step xs y 0 (by omega)
  have hrest := fun i => addl_rest xs y i hd
  have hstep := fun i => addl_step xs y i
  obtain ⟨r, hr⟩ : ∃ r, (addl xs y).1 = r := ⟨_, rfl⟩
  rw [hr] at hrl hst0 ⊢
  have hx0 := hd.get (i := 0) (by omega)
  have hcell := h.cell o (by omega)
  rw [show cur.getD o 0 = xs.getD 0 0 from hxg 0 h0] at hcell
  obtain ⟨x, hx⟩ : ∃ x, xs.getD 0 0 = x := ⟨_, rfl⟩
  rw [hx] at hcell hx0 hst0
  have HA := Lib.hid (add_any x y 0 hx0.1 hy0 (by omega) (by omega) w)
  have hfree := h.free o
  have hq : sumC x y 0 = 0 ∨ sumC x y 0 = 1 := by unfold sumC; rw [Ad.bbI] at *; omega
  have hs : sumW x y 0 = r.getD 0 0 := by rw [hst0.2]; simp [sumW, addl]
  have hk : sumC x y 0 = (addl (xs.take 1) y).2 := by rw [hst0.1]; simp [sumC, addl]
  have hp := h.put o (r.getD 0 0)
  rw [show cur.set o (r.getD 0 0) = lay cur o 1 r from by have := lay_succ cur o 0 r (by omega) (by omega); rw [lay_zero, Nat.add_zero] at this; exact this] at hp
  obtain ⟨s, hs2⟩ : ∃ s, sumW x y 0 = s := ⟨_, rfl⟩
  obtain ⟨k, hk2⟩ : ∃ s, sumC x y 0 = s := ⟨_, rfl⟩
  rw [hs2] at hs HA
  rw [hk2] at hk HA hq
  rw [← hs] at hp
  have HP := Lib.hid hp
  have HK := Lib.hid hk
  have HR := Lib.hid hrl
  have HRest := Lib.hid hrest
  have HStep := Lib.hid hstep
  have HXG := Lib.hid hxg
  have HXD := Lib.hid hxd
  have HXL := Lib.hid hxl
  have HD := Lib.hid hd
  have HRR := Lib.hid hr
  have hlr : ∀ i, i ≤ n → (addl (xs.take i) y).2 = 0 → lay cur o i r = lay cur o n r ∧ (addl xs y).2 = 0 := fun i hi h1 => by
    obtain ⟨a, b⟩ := hrest i h1
    exact ⟨lay_rest cur o i n r (by omega) hi ho (by rw [← hr, a, hxd]), b⟩
  have HLR := Lib.hid hlr
  have hn0 : ((n : Int) == 0) = false := by rw [beq_eq_false_iff_ne]; omega
  have hn1 : (0 : Int) < (n : Int) := by omega
  clear h hd hxl hxg hxd hx hx0 hrl hst0 hrest hstep hr hs hk hp hs2 hk2 hxs hlr hy0 hy1
  rcases hq with hq | hq
  · subst hq
    have HF := Lib.hid (HLR.out 1 (by omega) HK.out.symm)
    rw [HF.out.2]
    go_enter Try.func93, Try.ntmps93
    go_wp2_with fail
    refine HA.out.mono ?_
    rintro e w1 ⟨rfl, rfl⟩
    go_wp2_with fail
    have hne := fun a : Nat => neq_same ⟨g, o, none⟩ ((w.setCell ⟨g, o, none⟩ (.int .u64 s)).drewN a)
    go_quiet (fail)
    clear hne
    go_wp2
    go_ret
    refine ⟨rfl, ?_, ?_⟩
    · rw [← HF.out.1]; exact HP.out.drewN _
    · exact (at_set (Chg.refl _ _)).drewN _
  · subst hq
    go_enter Try.func93, Try.ntmps93
    go_wp2_with fail
    refine HA.out.mono ?_
    rintro e w1 ⟨rfl, rfl⟩
    go_wp2_with fail
    go_outline
    go_loopw [9] (fun t wr => ∃ i : Nat, 1 ≤ i ∧ i ≤ n ∧ t = .int .i64 (i : Int) ∧ Hid (Rw wr g (lay cur o i r)) ∧ Hid ((addl (xs.take i) y).2 = 1) ∧ Hid (Chg (At g) w wr)) (fun t _ => n - (intOf t).toNat)
    case atStart => exact ⟨1, by omega, by omega, rfl, HP.out, HK.out.symm, (Chg.refl _ _).set g o _ (.inl rfl)⟩
    case round =>
      obtain ⟨i, hi1, hi, rfl, HRw, HCy, HCh⟩ := hrel
      by_cases hlt : i < n
      · have hst := HStep.out i (by rw [HXL.out]; exact hlt)
        rw [HCy.out, HRR.out] at hst
        have hll : (lay cur o i r).length = cur.length := lay_length _ _ _ _ (by have := HR.out; have := HXL.out; omega) (by omega)
        have hcell := HRw.out.cell (o + i) (by omega)
        rw [lay_get cur o i r (by have := HR.out; have := HXL.out; omega) (o + i) (by omega) (by omega), HXG.out i hlt] at hcell
        have hfree := HRw.out.free (o + i)
        have hxi := HD.out.get (i := i) (by rw [HXL.out]; exact hlt)
        obtain ⟨x', hx'⟩ : ∃ x, xs.getD i 0 = x := ⟨_, rfl⟩
        rw [hx'] at hcell hst hxi
        have hput := HRw.out.put (o + i) (r.getD i 0)
        rw [lay_succ cur o i r (by have := HR.out; have := HXL.out; omega) (by omega)] at hput
        have b1 : (i : Int) < (n : Int) := by omega
        obtain ⟨ri, hri⟩ : ∃ x, r.getD i 0 = x := ⟨_, rfl⟩
        rw [hri] at hst hput
        have HPut := Lib.hid hput
        clear hri hput hx' hll
        by_cases hmax : x' = 18446744073709551615
        · have hb : (x' != 18446744073709551615) = false := by rw [hmax]; rfl
          have hz : ri = 0 := by rw [hst.2, hmax]; rfl
          rw [hz] at HPut
          have HC2 := Lib.hid (show (addl (xs.take (i + 1)) y).2 = 1 by rw [hst.1, hmax]; rfl)
          clear hmax hz hst hxi
          go_wp2
          go_roundw
          case rel => exact ⟨i + 1, by omega, by omega, by go_num, HPut.out, HC2.out, at_set HCh.out⟩
          case measure => simp [intOf]; omega
        · have hb : (x' != 18446744073709551615) = true := by rw [bne_iff_ne]; exact hmax
          have hw : IntKind.u64.wrap (x' + 1) = ri := by rw [wu64, hst.2]; rfl
          have hc0 : (addl (xs.take (i + 1)) y).2 = 0 := by rw [hst.1]; rw [Ad.bbI] at *; omega
          have HF := Lib.hid (HLR.out (i + 1) (by omega) hc0)
          clear hmax hst hxi hc0
          have hne := fun a : Nat => neq_same ⟨g, o, none⟩ ((wr.setCell ⟨g, o + i, none⟩ (.int .u64 ri)).drewN a)
          go_wp2
          go_quiet (fail)
          clear hne
          go_wp2
          go_ret
          refine ⟨by rw [HF.out.2]; rfl, ?_, ?_⟩
          · rw [← HF.out.1]; exact HPut.out.drewN _
          · exact (at_set HCh.out).drewN _
      · have : i = n := by omega
        subst this
        rw [List.take_of_length_le (by rw [HXL.out]; exact Nat.le_refl _)] at HCy
        go_wp2
        go_ret
        exact ⟨by rw [HCy.out]; rfl, HRw.out, HCh.out⟩
set_option maxHeartbeats 1000000 in
set_option maxRecDepth 100000 in
theorem subVW_same (g o n cz cx : Nat) (cur : List Int) (y : Int) (w : World) (h : Rw w g cur) (h0 : 0 < n) (ho : o + n ≤ cur.length) (hc : cur.length ≤ 1000000) (hd : DW ((cur.drop o).take n)) (hy0 : 0 ≤ y) (hy1 : y ≤ 1) :
    Calls Try.prog 95 #[.slice (some ⟨g, o, none⟩) n cz, .slice (some ⟨g, o, none⟩) n cx, .int .u64 y] w (RowOut w g (lay cur o n (subl ((cur.drop o).take n) y).1) (subl ((cur.drop o).take n) y).2) := by
  obtain ⟨xs, hxs⟩ : ∃ xs, (cur.drop o).take n = xs := ⟨_, rfl⟩
  have hxl : xs.length = n := by rw [← hxs, List.length_take, List.length_drop]; omega
  have hxg : ∀ j, j < n → cur.getD (o + j) 0 = xs.getD j 0 := fun j hj => by rw [← hxs, seg_get _ _ _ _ hj]
  have hxd : ∀ i, xs.drop i = (cur.drop (o + i)).take (n - i) := fun i => by rw [← hxs, List.drop_take, List.drop_drop]
  rw [hxs] at hd ⊢
  have hrl := subl_length xs y
  have hst0 := subl_step xs y 0 (by omega)
  have hrest := fun i => subl_rest xs y i hd
  have hstep := fun i => subl_step xs y i
  obtain ⟨r, hr⟩ : ∃ r, (subl xs y).1 = r := ⟨_, rfl⟩
  rw [hr] at hrl hst0 ⊢
  have hx0 := hd.get (i := 0) (by omega)
  have hcell := h.cell o (by omega)
  rw [show cur.getD o 0 = xs.getD 0 0 from hxg 0 h0] at hcell
  obtain ⟨x, hx⟩ : ∃ x, xs.getD 0 0 = x := ⟨_, rfl⟩
  rw [hx] at hcell hx0 hst0
  have HA := Lib.hid (sub_any x y 0 hx0.1 hx0.2 hy0 (by rw [Ad.bbI]; omega) (by omega) (by omega) w)
  have hfree := h.free o
  have hq : difC x y 0 = 0 ∨ difC x y 0 = 1 := by unfold difC; split <;> omega
  have hs : difW x y 0 = r.getD 0 0 := by rw [hst0.2]; simp [difW, subl]
  have hk : difC x y 0 = (subl (xs.take 1) y).2 := by rw [hst0.1]; simp [difC, subl]
  have hp := h.put o (r.getD 0 0)
  rw [show cur.set o (r.getD 0 0) = lay cur o 1 r from by have := lay_succ cur o 0 r (by omega) (by omega); rw [lay_zero, Nat.add_zero] at this; exact this] at hp
  obtain ⟨s, hs2⟩ : ∃ s, difW x y 0 = s := ⟨_, rfl⟩
  obtain ⟨k, hk2⟩ : ∃ s, difC x y 0 = s := ⟨_, rfl⟩
  rw [hs2] at hs HA
  rw [hk2] at hk HA hq
  rw [← hs] at hp
  have HP := Lib.hid hp
  have HK := Lib.hid hk
  have HR := Lib.hid hrl
  have HRest := Lib.hid hrest
  have HStep := Lib.hid hstep
  have HXG := Lib.hid hxg
  have HXD := Lib.hid hxd
  have HXL := Lib.hid hxl
  have HD := Lib.hid hd
  have HRR := Lib.hid hr
  have hlr : ∀ i, i ≤ n → (subl (xs.take i) y).2 = 0 → lay cur o i r = lay cur o n r ∧ (subl xs y).2 = 0 := fun i hi h1 => by
    obtain ⟨a, b⟩ := hrest i h1
    exact ⟨lay_rest cur o i n r (by omega) hi ho (by rw [← hr, a, hxd]), b⟩
  have HLR := Lib.hid hlr
  have hn0 : ((n : Int) == 0) = false := by rw [beq_eq_false_iff_ne]; omega
  have hn1 : (0 : Int) < (n : Int) := by omega
  clear h hd hxl hxg hxd hx hx0 hrl hst0 hrest hstep hr hs hk hp hs2 hk2 hxs hlr hy0 hy1
  rcases hq with hq | hq
  · subst hq
    have HF := Lib.hid (HLR.out 1 (by omega) HK.out.symm)
    rw [HF.out.2]
    go_enter Try.func95, Try.ntmps95
    go_wp2_with fail
    refine HA.out.mono ?_
    rintro e w1 ⟨rfl, rfl⟩
    go_wp2_with fail
    have hne := fun a : Nat => neq_same ⟨g, o, none⟩ ((w.setCell ⟨g, o, none⟩ (.int .u64 s)).drewN a)
    go_quiet (fail)
    clear hne
    go_wp2
    go_ret
    refine ⟨rfl, ?_, ?_⟩
    · rw [← HF.out.1]; exact HP.out.drewN _
    · exact (at_set (Chg.refl _ _)).drewN _
  · subst hq
    go_enter Try.func95, Try.ntmps95
    go_wp2_with fail
    refine HA.out.mono ?_
    rintro e w1 ⟨rfl, rfl⟩
    go_wp2_with fail
    go_outline
    go_loopw [9] (fun t wr => ∃ i : Nat, 1 ≤ i ∧ i ≤ n ∧ t = .int .i64 (i : Int) ∧ Hid (Rw wr g (lay cur o i r)) ∧ Hid ((subl (xs.take i) y).2 = 1) ∧ Hid (Chg (At g) w wr)) (fun t _ => n - (intOf t).toNat)
    case atStart => exact ⟨1, by omega, by omega, rfl, HP.out, HK.out.symm, (Chg.refl _ _).set g o _ (.inl rfl)⟩
    case round =>
      obtain ⟨i, hi1, hi, rfl, HRw, HCy, HCh⟩ := hrel
      by_cases hlt : i < n
      · have hst := HStep.out i (by rw [HXL.out]; exact hlt)
        rw [HCy.out, HRR.out] at hst
        have hll : (lay cur o i r).length = cur.length := lay_length _ _ _ _ (by have := HR.out; have := HXL.out; omega) (by omega)
        have hcell := HRw.out.cell (o + i) (by omega)
        rw [lay_get cur o i r (by have := HR.out; have := HXL.out; omega) (o + i) (by omega) (by omega), HXG.out i hlt] at hcell
        have hfree := HRw.out.free (o + i)
        have hxi := HD.out.get (i := i) (by rw [HXL.out]; exact hlt)
        obtain ⟨x', hx'⟩ : ∃ x, xs.getD i 0 = x := ⟨_, rfl⟩
        rw [hx'] at hcell hst hxi
        have hput := HRw.out.put (o + i) (r.getD i 0)
        rw [lay_succ cur o i r (by have := HR.out; have := HXL.out; omega) (by omega)] at hput
        have b1 : (i : Int) < (n : Int) := by omega
        obtain ⟨ri, hri⟩ : ∃ x, r.getD i 0 = x := ⟨_, rfl⟩
        rw [hri] at hst hput
        have HPut := Lib.hid hput
        clear hri hput hx' hll
        by_cases hmax : x' = 0
        · have hb : (x' != 0) = false := by rw [hmax]; rfl
          have hz : ri = 18446744073709551615 := by rw [hst.2, hmax]; rfl
          rw [hz] at HPut
          have HC2 := Lib.hid (show (subl (xs.take (i + 1)) y).2 = 1 by rw [hst.1, hmax]; rfl)
          clear hmax hz hst hxi
          go_wp2
          go_roundw
          case rel => exact ⟨i + 1, by omega, by omega, by go_num, HPut.out, HC2.out, at_set HCh.out⟩
          case measure => simp [intOf]; omega
        · have hb : (x' != 0) = true := by rw [bne_iff_ne]; exact hmax
          have hw : IntKind.u64.wrap (x' - 1) = ri := by rw [wu64, hst.2]; rfl
          have hc0 : (subl (xs.take (i + 1)) y).2 = 0 := by rw [hst.1, if_neg (by omega)]
          have HF := Lib.hid (HLR.out (i + 1) (by omega) hc0)
          clear hmax hst hxi hc0
          have hne := fun a : Nat => neq_same ⟨g, o, none⟩ ((wr.setCell ⟨g, o + i, none⟩ (.int .u64 ri)).drewN a)
          go_wp2
          go_quiet (fail)
          clear hne
          go_wp2
          go_ret
          refine ⟨by rw [HF.out.2]; rfl, ?_, ?_⟩
          · rw [← HF.out.1]; exact HPut.out.drewN _
          · exact (at_set HCh.out).drewN _
      · have : i = n := by omega
        subst this
        rw [List.take_of_length_le (by rw [HXL.out]; exact Nat.le_refl _)] at HCy
        go_wp2
        go_ret
        exact ⟨by rw [HCy.out]; rfl, HRw.out, HCh.out⟩
end Go.Proofs.Ythckboojmljeiaa.Vw
namespace Go.Proofs.Ythckboojmljeiaa.Vw
set_option linter.unusedVariables false
set_option linter.unusedSimpArgs false
open Go.RowKit Go.Proofs.YthckboojmljeiaaW.PrintWords Go.Proofs.Ythckboojmljeiaa.Pl Go.Proofs.Ythckboojmljeiaa.Dg Go.Proofs.Ythckboojmljeiaa.Mem Go.Proofs.Ythckboojmljeiaa.Na Go.Proofs.Ythckboojmljeiaa.Bi Go.Proofs.Ythckboojmljeiaa.Vv Go.Proofs.Ythckboojmljeiaa.Ad

theorem lay_lay (cur : List Int) (o i n : Nat) (r xs : List Int) (hr : r.length = n) (hx : xs.length = n) (hi : i ≤ n) (ho : o + n ≤ cur.length) (h : r.drop i = xs.drop i) : lay (lay cur o i r) (o + i) (n - i) (xs.drop i) = lay cur o n r := by
  have h1 : (cur.take o).length = o := by rw [List.length_take]; omega
  have h2 : (r.take i).length = i := by rw [List.length_take]; omega
  have e1 : (lay cur o i r).take (o + i) = cur.take o ++ r.take i := by
    unfold lay
    rw [← List.append_assoc, List.take_left' (by rw [List.length_append, h1, h2])]
  have e2 : (lay cur o i r).drop (o + i + (n - i)) = cur.drop (o + n) := by
    unfold lay
    rw [← List.append_assoc, List.drop_append, List.drop_of_length_le (by rw [List.length_append, h1, h2]; omega), List.length_append, h1, h2, List.drop_drop, List.nil_append, show o + i + (o + i + (n - i) - (o + i)) = o + n from by omega]
  show (lay cur o i r).take (o + i) ++ ((xs.drop i).take (n - i) ++ (lay cur o i r).drop (o + i + (n - i))) = _
  rw [e1, e2, show (xs.drop i).take (n - i) = xs.drop i from List.take_of_length_le (by rw [List.length_drop]; omega), ← h]
  unfold lay
  rw [show r.take n = r from List.take_of_length_le (by omega)]
  conv => rhs; rw [← List.take_append_drop i r]
  simp only [List.append_assoc]

theorem cop_fit (cur : List Int) (o i n : Nat) (r xs : List Int) (hr : r.length = xs.length) (hx : xs.length = n) (hi : i ≤ n) (ho : o + n ≤ cur.length) :
    o + i + ((xs.drop i).map (Value.int .u64)).length ≤ ((lay cur o i r).map (Value.int .u64)).toArray.size ∧
    (((lay cur o i r).map (Value.int .u64)).toArray.toList.take (o + i) ++ ((xs.drop i).map (Value.int .u64) ++ ((lay cur o i r).map (Value.int .u64)).toArray.toList.drop (o + i + ((xs.drop i).map (Value.int .u64)).length))).toArray = ((lay (lay cur o i r) (o + i) (n - i) (xs.drop i)).map (Value.int .u64)).toArray := by
  have hl := lay_length cur o i r (by omega) (by omega)
  refine ⟨by simp [hl]; omega, ?_⟩
  congr 1
  show _ = ((lay cur o i r).take (o + i) ++ ((xs.drop i).take (n - i) ++ (lay cur o i r).drop (o + i + (n - i)))).map (Value.int .u64)
  rw [show (xs.drop i).take (n - i) = xs.drop i from List.take_of_length_le (by rw [List.length_drop]; omega)]
  simp [hx]
theorem cop_src {w : World} {gx ox : Nat} {cux xs : List Int} (i n : Nat) (h : Rw w gx cux) (hx : xs.length = n) (ho : ox + n ≤ cux.length) (hg : ∀ j, j < n → cux.getD (ox + j) 0 = xs.getD j 0) :
    ∀ j v, ((xs.drop i).map (Value.int .u64))[j]? = some v → w.cell? ((⟨gx, ox + i, none⟩ : Addr).add j) = some v := by
  intro j v hv
  rw [List.getElem?_map] at hv
  obtain ⟨x, hxx, rfl⟩ := Option.map_eq_some_iff.1 hv
  rw [List.getElem?_drop] at hxx
  have hj : i + j < xs.length := (List.getElem?_eq_some_iff.1 hxx).1
  have e : (⟨gx, ox + i, none⟩ : Addr).add j = ⟨gx, ox + (i + j), none⟩ := by rw [← Nat.add_assoc]; unfold Addr.add; split <;> simp_all
  rw [e, h.cell _ (by omega), hg (i + j) (by omega), List.getD_eq_getElem?_getD, hxx]
  rfl
set_option maxHeartbeats 1000000 in
set_option maxRecDepth 100000 in
theorem addVW_diff (g o gx ox n cz cx : Nat) (cur cux : List Int) (y : Int) (w : World) (h : Rw w g cur) (hX : Rw w gx cux) (hg : g ≠ gx) (hcz : n < cz) (hcx : n ≤ cx) (h0 : 0 < n) (ho : o + n ≤ cur.length) (hox : ox + n ≤ cux.length) (hc : cur.length ≤ 1000000) (hd : DW ((cux.drop ox).take n)) (hy0 : 0 ≤ y) (hy1 : y ≤ 1) :
    Calls Try.prog 93 #[.slice (some ⟨g, o, none⟩) n cz, .slice (some ⟨gx, ox, none⟩) n cx, .int .u64 y] w (RowOut w g (lay cur o n (addl ((cux.drop ox).take n) y).1) (addl ((cux.drop ox).take n) y).2) := by
  obtain ⟨xs, hxs⟩ : ∃ xs, (cux.drop ox).take n = xs := ⟨_, rfl⟩
  have hxl : xs.length = n := by rw [← hxs, List.length_take, List.length_drop]; omega
  have hxg : ∀ j, j < n → cux.getD (ox + j) 0 = xs.getD j 0 := fun j hj => by rw [← hxs, seg_get _ _ _ _ hj]
  rw [hxs] at hd ⊢
  have hrl := addl_length xs y
  have hst0 := addl_step xs y 0 (by omega)
  have hrest := fun i => addl_rest xs y i hd
  have hstep := fun i => addl_step xs y i
  obtain ⟨r, hr⟩ : ∃ r, (addl xs y).1 = r := ⟨_, rfl⟩
  rw [hr] at hrl hst0 ⊢
  have hx0 := hd.get (i := 0) (by omega)
  have hcell := hX.cell ox (by omega)
  rw [show cux.getD ox 0 = xs.getD 0 0 from hxg 0 h0] at hcell
  obtain ⟨zz, hzc⟩ := h.has o (by omega)
  obtain ⟨x, hx⟩ : ∃ x, xs.getD 0 0 = x := ⟨_, rfl⟩
  rw [hx] at hcell hx0 hst0
  have HA := Lib.hid (add_any x y 0 hx0.1 hy0 (by omega) (by omega) w)
  have hfree := h.free o
  have hq : sumC x y 0 = 0 ∨ sumC x y 0 = 1 := by unfold sumC; rw [Ad.bbI] at *; omega
  have hs : sumW x y 0 = r.getD 0 0 := by rw [hst0.2]; simp [sumW, addl]
  have hk : sumC x y 0 = (addl (xs.take 1) y).2 := by rw [hst0.1]; simp [sumC, addl]
  have hp := h.put o (r.getD 0 0)
  rw [show cur.set o (r.getD 0 0) = lay cur o 1 r from by have := lay_succ cur o 0 r (by omega) (by omega); rw [lay_zero, Nat.add_zero] at this; exact this] at hp
  obtain ⟨s, hs2⟩ : ∃ s, sumW x y 0 = s := ⟨_, rfl⟩
  obtain ⟨k, hk2⟩ : ∃ s, sumC x y 0 = s := ⟨_, rfl⟩
  rw [hs2] at hs HA
  rw [hk2] at hk HA hq
  rw [← hs] at hp
  have HP := Lib.hid hp
  have HK := Lib.hid hk
  have HR := Lib.hid hrl
  have HRest := Lib.hid hrest
  have HStep := Lib.hid hstep
  have HXG := Lib.hid hxg
  have HXL := Lib.hid hxl
  have HD := Lib.hid hd
  have HRR := Lib.hid hr
  have hlr : ∀ i, i ≤ n → (addl (xs.take i) y).2 = 0 → lay (lay cur o i r) (o + i) (n - i) (xs.drop i) = lay cur o n r ∧ (addl xs y).2 = 0 := fun i hi h1 => by
    obtain ⟨a, b⟩ := hrest i h1
    rw [hr] at a
    exact ⟨lay_lay cur o i n r xs (by omega) hxl hi ho a, b⟩
  have HLR := Lib.hid hlr
  have HG := Lib.hid hg
  have HX := Lib.hid hX
  have hn0 : ((n : Int) == 0) = false := by rw [beq_eq_false_iff_ne]; omega
  have hn1 : (0 : Int) < (n : Int) := by omega
  clear h hX hg hd hxl hxg hx hx0 hrl hst0 hrest hstep hr hs hk hp hs2 hk2 hxs hlr hy0 hy1
  rcases hq with hq | hq
  · subst hq
    have HF := Lib.hid (HLR.out 1 (by omega) HK.out.symm)
    rw [HF.out.2]
    have HP2 := Lib.hid (HP.out.row (lay (lay cur o 1 r) (o + 1) (n - 1) (xs.drop 1)))
    have hne := fun a : Nat => neq_other (o := o) (o' := ox) HG.out (HP.out.drewN a) ((HX.out.setOther g o (.int .u64 s) HG.out.symm).drewN a)
    have HPd := Lib.hid (fun a => HP.out.drewN a)
    by_cases hn1' : n = 1
    · have HN := Lib.hid hn1'
      have q1 : ¬ cz = 1 := by omega
      have q3 : (1 : Int) ≤ (n : Int) := by omega
      have q4 : (n : Int) = 1 := by omega
      clear hn1' q4
      by_cases q2 : cx = 1
      all_goals
        go_enter Try.func93, Try.ntmps93
        go_wp2_with fail
        refine HA.out.mono ?_
        rintro e w1 ⟨rfl, rfl⟩
        go_wp2_with fail
        go_quiet (fail)
        clear hne
        go_wp2_with fail
        go_still_tail 4, (by kernel_rfl)
        refine wpList_copy_nothing rfl (.tmp 40) (.tmp 42) 61 61 rfl 74 Try.underlying61 (by kernel_rfl) _ _ _ _ _ _ rfl rfl (by rw [HN.out]; rfl) ?_
        go_wp2
        go_ret
        refine ⟨rfl, ?_, ?_⟩
        · rw [HN.out]; exact (HP.out.drewN _).drew
        · exact ((at_set (Chg.refl _ _)).drewN _).drew
    · have q1 : ¬ cz = 1 := by omega
      have q2 : ¬ cx = 1 := by omega
      have q3 : (1 : Int) ≤ (n : Int) := by omega
      have hfit := cop_fit cur o 1 n r xs HR.out HXL.out (by omega) ho
      have HFit := Lib.hid hfit.1
      have HRow := Lib.hid hfit.2
      have HSrc := Lib.hid (cop_src 1 n (HX.out.setOther g o (.int .u64 s) HG.out.symm) HXL.out hox HXG.out)
      rw [HF.out.1] at HRow
      clear hfit
      go_enter Try.func93, Try.ntmps93
      go_wp2_with fail
      refine HA.out.mono ?_
      rintro e w1 ⟨rfl, rfl⟩
      go_wp2_with fail
      go_quiet (fail)
      clear hne
      go_wp2_with fail
      go_still_tail 4, (by kernel_rfl)
      refine wpList_copy_own rfl (.tmp 40) (.tmp 42) 61 61 rfl 74 Try.underlying61 (by kernel_rfl) g (o + 1) (n - 1) (cz - 1) ⟨gx, ox + 1, none⟩ (n - 1) (cx - 1) rfl rfl ((lay cur o 1 r).map (Value.int .u64)).toArray 74 HP.out ((xs.drop 1).map (Value.int .u64)) ?hn HSrc.out HFit.out ?h1 ?_
      case hn => have := HXL.out; simp [this]
      case h1 => intro v hv; obtain ⟨x, _, rfl⟩ := List.mem_map.1 hv; rfl
      rw [HRow.out]
      go_wp2
      go_ret
      have hch := (at_set (g := g) (o := o) (u := .int .u64 s) (Chg.refl (At g) w)).setRow g ((lay cur o n r).map (Value.int .u64)).toArray (.inl rfl)
      exact ⟨rfl, HP.out.row (lay cur o n r), hch.os, hch.tape, hch.output, hch.size, hch.block⟩
  · subst hq
    go_enter Try.func93, Try.ntmps93
    go_wp2_with fail
    refine HA.out.mono ?_
    rintro e w1 ⟨rfl, rfl⟩
    go_wp2_with fail
    go_loopw [9] (fun t wr => ∃ i : Nat, 1 ≤ i ∧ i ≤ n ∧ t = .int .i64 (i : Int) ∧ Hid (Rw wr g (lay cur o i r)) ∧ Hid ((addl (xs.take i) y).2 = 1) ∧ Hid (Chg (At g) w wr)) (fun t _ => n - (intOf t).toNat)
    case atStart => exact ⟨1, by omega, by omega, rfl, HP.out, HK.out.symm, at_set (Chg.refl _ _)⟩
    case round =>
      obtain ⟨i, hi1, hi, rfl, HRw, HCy, HCh⟩ := hrel
      by_cases hlt : i < n
      · have hst := HStep.out i (by rw [HXL.out]; exact hlt)
        rw [HCy.out, HRR.out] at hst
        have hll : (lay cur o i r).length = cur.length := lay_length _ _ _ _ (by have := HR.out; have := HXL.out; omega) (by omega)
        have HX2 := Lib.hid (HX.out.kept HCh.out HG.out.symm)
        have hcell := HX2.out.cell (ox + i) (by omega)
        rw [HXG.out i hlt] at hcell
        obtain ⟨zz', hzc'⟩ := HRw.out.has (o + i) (by omega)
        have hfree := HRw.out.free (o + i)
        have hxi := HD.out.get (i := i) (by rw [HXL.out]; exact hlt)
        obtain ⟨x', hx'⟩ : ∃ x, xs.getD i 0 = x := ⟨_, rfl⟩
        rw [hx'] at hcell hst hxi
        have hput := HRw.out.put (o + i) (r.getD i 0)
        rw [lay_succ cur o i r (by have := HR.out; have := HXL.out; omega) (by omega)] at hput
        have b1 : (i : Int) < (n : Int) := by omega
        obtain ⟨ri, hri⟩ : ∃ x, r.getD i 0 = x := ⟨_, rfl⟩
        rw [hri] at hst hput
        have HPut := Lib.hid hput
        clear hri hput hx' hll
        by_cases hmax : x' = 18446744073709551615
        · have hb : (x' != 18446744073709551615) = false := by rw [hmax]; rfl
          have hz : ri = 0 := by rw [hst.2, hmax]; rfl
          rw [hz] at HPut
          have HC2 := Lib.hid (show (addl (xs.take (i + 1)) y).2 = 1 by rw [hst.1, hmax]; rfl)
          clear hmax hz hst hxi
          go_wp2
          go_roundw
          case rel => exact ⟨i + 1, by omega, by omega, by go_num, HPut.out, HC2.out, at_set HCh.out⟩
          case measure => simp [intOf]; omega
        · have hb : (x' != 18446744073709551615) = true := by rw [bne_iff_ne]; exact hmax
          have hw : IntKind.u64.wrap (x' + 1) = ri := by rw [wu64, hst.2]; rfl
          have hc0 : (addl (xs.take (i + 1)) y).2 = 0 := by rw [hst.1]; rw [Ad.bbI] at *; omega
          have HF := Lib.hid (HLR.out (i + 1) (by omega) hc0)
          clear hmax hst hxi hc0
          have hne := fun a : Nat => neq_other (o := o) (o' := ox) HG.out (HPut.out.drewN a) ((HX2.out.setOther g (o + i) (.int .u64 ri) HG.out.symm).drewN a)
          have w1 : IntKind.i64.wrap ((i : Int) + 1) = (i : Int) + 1 := IntWalk.i64_in _ (by omega)
          have b2 : ((i : Int) + 1).toNat = i + 1 := by omega
          have b3 : (0 : Int) ≤ (i : Int) + 1 := by omega
          have b4 : (i : Int) + 1 ≤ (n : Int) := by omega
          have q1 : ¬ cz = i + 1 := by omega
          by_cases hend : i + 1 = n
          · have HN := Lib.hid hend.symm
            clear hend
            by_cases q2 : cx = i + 1
            all_goals
              go_wp2_with fail
              go_quiet (fail)
              clear hne
              go_wp2_with fail
              go_still_tail 8, (by kernel_rfl)
              refine wpList_copy_nothing rfl (.tmp 69) (.tmp 73) 61 61 rfl 74 Try.underlying61 (by kernel_rfl) _ _ _ _ _ _ rfl rfl (by rw [HN.out, Nat.sub_self]; rfl) ?_
              go_wp2
              go_ret
              refine ⟨by rw [HF.out.2]; rfl, ?_, ?_⟩
              · rw [HN.out]; exact (HPut.out.drewN _).drew
              · exact ((at_set HCh.out).drewN _).drew
          · have q2 : ¬ cx = i + 1 := by omega
            have hfit := cop_fit cur o (i + 1) n r xs HR.out HXL.out (by omega) ho
            have HFit := Lib.hid hfit.1
            have HRow := Lib.hid hfit.2
            have HSrc := Lib.hid (cop_src (i + 1) n (HX2.out.setOther g (o + i) (.int .u64 ri) HG.out.symm) HXL.out hox HXG.out)
            rw [HF.out.1] at HRow
            clear hfit
            go_wp2_with fail
            go_quiet (fail)
            clear hne
            go_wp2_with fail
            go_still_tail 8, (by kernel_rfl)
            refine wpList_copy_own rfl (.tmp 69) (.tmp 73) 61 61 rfl 74 Try.underlying61 (by kernel_rfl) g (o + (i + 1)) (n - (i + 1)) (cz - (i + 1)) ⟨gx, ox + (i + 1), none⟩ (n - (i + 1)) (cx - (i + 1)) rfl rfl ((lay cur o (i + 1) r).map (Value.int .u64)).toArray 74 HPut.out ((xs.drop (i + 1)).map (Value.int .u64)) ?hn HSrc.out HFit.out ?h1 ?_
            case hn => have := HXL.out; simp [this]
            case h1 => intro v hv; obtain ⟨x, _, rfl⟩ := List.mem_map.1 hv; rfl
            rw [HRow.out]
            go_wp2
            go_ret
            have hch := (at_set (g := g) (o := o + i) (u := .int .u64 ri) HCh.out).setRow g ((lay cur o n r).map (Value.int .u64)).toArray (.inl rfl)
            exact ⟨by rw [HF.out.2]; rfl, HPut.out.row (lay cur o n r), hch.os, hch.tape, hch.output, hch.size, hch.block⟩
      · have : i = n := by omega
        subst this
        rw [List.take_of_length_le (by rw [HXL.out]; exact Nat.le_refl _)] at HCy
        go_wp2
        go_ret
        exact ⟨by rw [HCy.out]; rfl, HRw.out, HCh.out⟩

end Go.Proofs.Ythckboojmljeiaa.Vw
namespace Go.Proofs.Ythckboojmljeiaa.Sm
set_option linter.unusedVariables false
set_option linter.unusedSimpArgs false
open Go.RowKit Go.Proofs.YthckboojmljeiaaW.PrintWords Go.Proofs.Ythckboojmljeiaa.Pl Go.Proofs.Ythckboojmljeiaa.Dg Go.Proofs.Ythckboojmljeiaa.Mem Go.Proofs.Ythckboojmljeiaa.Na Go.Proofs.Ythckboojmljeiaa.Nb Go.Proofs.Ythckboojmljeiaa.Bi Go.Proofs.Ythckboojmljeiaa.Vv Go.Proofs.Ythckboojmljeiaa.Vw Go.Proofs.Ythckboojmljeiaa.Ad

/-- What the row holds behind the loops: the sum's digits and its carry. -/
theorem row_sum (cur : List Int) (m : Nat) (s c : Int) (r : List Int) (hm : 0 < m) (hc : m + 1 ≤ cur.length) (hr : r.length = m - 1) :
    ((lay (cur.set 0 s) 1 (m - 1) r).set m c).take (m + 1) = (s :: r) ++ [c] := by
  have hl : (lay (cur.set 0 s) 1 (m - 1) r).length = cur.length := by rw [lay_length _ _ _ _ (by omega) (by rw [List.length_set]; omega), List.length_set]
  have e : (lay (cur.set 0 s) 1 (m - 1) r).take m = s :: r := by
    obtain ⟨y, t, rfl⟩ : ∃ y t, cur = y :: t := by
      cases cur with
      | nil => simp at hc
      | cons y t => exact ⟨y, t, rfl⟩
    simp only [List.set_cons_zero]
    unfold lay
    rw [List.take_succ_cons, List.take_zero, show r.take (m - 1) = r from List.take_of_length_le (by omega), ← List.append_assoc]
    exact List.take_left' (by simp; omega)
  rw [take_succ_getD _ m (by rw [List.length_set, hl]; omega), List.take_set, List.set_eq_of_length_le (by rw [e]; simp; omega), e, List.getD_eq_getElem?_getD, List.getElem?_set_self (by rw [hl]; omega)]
  rfl
theorem row_one (cur : List Int) (s c : Int) (hc : 2 ≤ cur.length) : ((cur.set 0 s).set 1 c).take 2 = [s] ++ [c] := by
  cases cur with
  | nil => simp at hc
  | cons y t =>
    cases t with
    | nil => simp at hc
    | cons z t => rfl

theorem sum_digits (X : Nat) (hX : 0 < X) (Y : Int) (hY0 : 0 ≤ Y) (hY1 : Y < (BB : Int)) (x0 : Int) (xs : List Int) (hx : dg X = x0 :: xs) :
    DW (((sumW x0 Y 0) :: (addl xs (sumC x0 Y 0)).1) ++ [(addl xs (sumC x0 Y 0)).2]) ∧ (lv (BB : Int) (((sumW x0 Y 0) :: (addl xs (sumC x0 Y 0)).1) ++ [(addl xs (sumC x0 Y 0)).2])).toNat = X + Y.toNat ∧ 0 ≤ sumC x0 Y 0 ∧ sumC x0 Y 0 ≤ 1 := by
  have hd := dg_dig X
  rw [hx] at hd
  obtain ⟨⟨h0, h1⟩, h2⟩ := hd.cons
  have hq : 0 ≤ sumC x0 Y 0 ∧ sumC x0 Y 0 ≤ 1 := by unfold sumC; rw [Ad.bbI] at *; omega
  have hc := addl_carry xs _ h2 hq.1 hq.2
  have e : ((sumW x0 Y 0) :: (addl xs (sumC x0 Y 0)).1, (addl xs (sumC x0 Y 0)).2) = addl (x0 :: xs) Y := by simp [addl, sumW, sumC]
  have e1 : (sumW x0 Y 0) :: (addl xs (sumC x0 Y 0)).1 = (addl (x0 :: xs) Y).1 := by rw [← e]
  have e2 : (addl xs (sumC x0 Y 0)).2 = (addl (x0 :: xs) Y).2 := by rw [← e]
  refine ⟨?_, ?_, hq⟩
  · rw [e1]
    exact (addl_dig _ _).append (Dig.mk hc.1 (by rw [Ad.bbI]; omega) (Dig.nil _))
  · rw [e1, e2, lv_append]
    have hv := addl_val (x0 :: xs) Y
    rw [addl_length]
    simp only [lv, Int.mul_zero, Int.add_zero] at hv ⊢
    have hl := lv_dg X
    rw [hx] at hl
    simp only [lv] at hl
    omega

/-- y.abs of one word. -/
theorem add_swap {w : World} {v u : Value} {lu : List Int} (h : Nt w v []) (hu : Nt w u lu) (ha : Ap v u) (hn : lu.length = 1) : Calls Try.prog 73 #[v, u, v] w (NtOut w v lu) := by
  have H := Lib.hid (set_any h hu ha (by omega))
  obtain ⟨A, c, rfl, _⟩ := h.slice
  obtain ⟨B, d, rfl, _⟩ := hu.slice
  rw [hn] at H ⊢
  clear h hu ha hn
  go_enter Try.func73, Try.ntmps73
  go_wp2_with fail
  refine H.out.mono ?_
  rintro e w1 ⟨v', rfl, h1, h2, h3⟩
  have H1 := Lib.hid h1
  have H2 := Lib.hid h2
  have H3 := Lib.hid h3
  clear h1 h2 h3
  go_wp2
  go_ret
  exact ⟨_, rfl, H1.out, H2.out, H3.out⟩

theorem add_00 {w : World} {v : Value} (h : Nt w v []) (B : Option Addr) (d : Nat) : Calls Try.prog 73 #[v, v, .slice B 0 d] w (NtOut w v []) := by
  obtain ⟨A, c, rfl, _, hc⟩ := h.slice
  have H := Lib.hid (cut0 h)
  have H2 := Lib.hid (Fr.refl w (.slice A 0 c))
  clear h
  go_enter Try.func73, Try.ntmps73
  go_wp2
  go_ret
  exact ⟨_, rfl, H.out, Chg.refl _ _, H2.out⟩

theorem add_01 {w : World} {v u : Value} {lu : List Int} (h : Nt w v []) (hu : Nt w u lu) (ha : Ap v u) (hn : lu.length = 1) : Calls Try.prog 73 #[v, v, u] w (NtOut w v lu) := by
  have H := Lib.hid (add_swap h hu ha hn)
  obtain ⟨A, c, rfl, _⟩ := h.slice
  obtain ⟨B, d, rfl, _⟩ := hu.slice
  rw [hn] at H ⊢
  clear h hu ha hn
  go_enter Try.func73, Try.ntmps73
  go_wp2_with fail
  refine H.out.mono ?_
  rintro e w1 ⟨v', rfl, h1, h2, h3⟩
  have H1 := Lib.hid h1
  have H2 := Lib.hid h2
  have H3 := Lib.hid h3
  clear h1 h2 h3
  go_wp2
  go_ret
  exact ⟨_, rfl, H1.out, H2.out, H3.out⟩

theorem add_10 {w : World} {v : Value} {l : List Int} (h : Nt w v l) (h0 : 0 < l.length) (B : Option Addr) (d : Nat) : Calls Try.prog 73 #[v, v, .slice B 0 d] w (NtOut w v l) := by
  have H := Lib.hid (set_self h)
  have HV := Lib.hid h
  obtain ⟨A, c, rfl, _⟩ := h.slice
  have hb : ((l.length : Int) == 0) = false := by rw [beq_eq_false_iff_ne]; omega
  have hb2 : (l.length == 0) = false := by rw [beq_eq_false_iff_ne]; omega
  have hb3 : (0 : Int) < (l.length : Int) := by omega
  obtain ⟨n, hn⟩ : ∃ n, l.length = n := ⟨_, rfl⟩
  rw [hn] at H HV hb hb2 hb3 ⊢
  clear h hn
  go_enter Try.func73, Try.ntmps73
  go_wp2_with fail
  refine H.out.mono ?_
  rintro e w1 ⟨rfl, rfl⟩
  go_wp2
  go_ret
  exact ⟨_, rfl, HV.out, Chg.refl _ _, Fr.refl _ _⟩

theorem Mk.old {w w' : World} {v : Value} {g : Nat} {cur : List Int} (h : Mk w v w' g cur) {g' : Nat} {c' : List Int} (hr : Rw w g' c') : Rw w' g' c' := by
  rcases h with ⟨rfl, _⟩ | ⟨_, c, _, rfl⟩
  · exact hr
  · exact hr.alloc _
theorem Mk.sep {w w' : World} {v : Value} {g : Nat} {cur : List Int} (h : Mk w v w' g cur) {gx : Nat} (hv : v.ownBlock = some gx) (hl : gx < w.heap.size) : g = gx ∨ (g ≠ gx ∧ w.heap.size ≤ g) := by
  rcases h with ⟨_, h⟩ | ⟨h, _⟩
  · rw [hv] at h
    injection h with h
    exact .inl h.symm
  · exact .inr ⟨by omega, by omega⟩
/-- addVV at one word, what it leaves. -/
theorem addVV_out {w : World} {gz gx gy cz cx cy : Nat} {x y u : Int} {cur : List Int} (hr : Rw w gz cur) (hl : 0 < cur.length) (hx : w.cell? ⟨gx, 0, none⟩ = some (.int .u64 x)) (hy : w.cell? ⟨gy, 0, none⟩ = some (.int .u64 y)) (hx0 : 0 ≤ x) (hy0 : 0 ≤ y) :
    Calls Try.prog 92 #[.slice (some ⟨gz, 0, none⟩) 1 cz, .slice (some ⟨gx, 0, none⟩) 1 cx, .slice (some ⟨gy, 0, none⟩) 1 cy] w (RowOut w gz (cur.set 0 (sumW x y 0)) (sumC x y 0)) := by
  obtain ⟨u, hu⟩ := hr.has 0 hl
  refine (addVV gz gx gy cz cx cy x y u w hx hy hu (hr.free 0) hx0 hy0).mono ?_
  rintro e w' ⟨rfl, q, rfl⟩
  exact ⟨rfl, (hr.put 0 _).drewN q, (at_set (Chg.refl _ _)).drewN q⟩
/-- The end of add: the carry laid on top, noughts off. -/
theorem norm_sum {w w3 : World} {v : Value} {g m : Nat} {row : List Int} {c : Int} {l : List Int} {Z : Nat} (hr : Rw w3 g row) (hm : m + 1 ≤ row.length) (hl : row.length ≤ 1000000) (ht : (row.set m c).take (m + 1) = l) (hd : DW l) (hz : (lv (BB : Int) l).toNat = Z) (hc : Chg (Own v) w w3) (hok : Own v g ∨ w.heap.size ≤ g) :
    Calls Try.prog 86 #[.slice (some ⟨g, 0, none⟩) (m + 1) row.length] (w3.setCell ⟨g, m, none⟩ (.int .u64 c)) (NtOut w v (dg Z)) := by
  have hp := hr.put m c
  have := norm_dg g (m + 1) (row.set m c) _ hp (by rw [List.length_set]; exact hm) (by rw [List.length_set]; exact hl) (by rw [ht]; exact hd)
  rw [List.length_set, ht, hz] at this
  refine this.mono ?_
  rintro e w' ⟨v', rfl, h1, h2, rfl⟩
  refine ⟨v', rfl, h1, hc.set g m _ hok, ?_⟩
  rcases hok with h | h
  · exact .inl (h2.trans h.symm)
  · exact .inr ⟨g, h2, h⟩
theorem At.own {w w1 w2 : World} {v : Value} {g : Nat} (h : Chg (Own v) w w1) (h2 : Chg (At g) w1 w2) (hok : Own v g ∨ w.heap.size ≤ g) : Chg (Own v) w w2 :=
  h.trans h2 (fun k hk e => by
    have e : k = g := e
    subst e
    rcases hok with h | h
    · exact h
    · omega)

set_option maxHeartbeats 1000000 in
set_option maxRecDepth 100000 in
theorem add_one {w : World} {gx gy cy : Nat} {cux : List Int} {X : Nat} {Y : Int} (hX : 0 < X) (hlen : (dg X).length = 1) (hR : Rw w gx cux) (hl : 1 ≤ cux.length) (hl2 : cux.length ≤ 1000000) (ht : cux.take 1 = dg X) (hy : w.cell? ⟨gy, 0, none⟩ = some (.int .u64 Y)) (hne : gy ≠ gx) (hcy : 1 ≤ cy) (hY0 : 0 ≤ Y) (hY1 : Y < (BB : Int)) :
    Calls Try.prog 73 #[.slice (some ⟨gx, 0, none⟩) 1 cux.length, .slice (some ⟨gx, 0, none⟩) 1 cux.length, .slice (some ⟨gy, 0, none⟩) 1 cy] w (NtOut w (.slice (some ⟨gx, 0, none⟩) 1 cux.length) (dg (X + Y.toNat))) := by
  obtain ⟨x0, xs, hx⟩ : ∃ x0 xs, dg X = x0 :: xs := by cases h : dg X with | nil => rw [h] at hlen; cases hlen | cons a b => exact ⟨a, b, rfl⟩
  obtain rfl : xs = [] := by rw [hx] at hlen; simpa using hlen
  have hN : Nt w (.slice (some ⟨gx, 0, none⟩) 1 cux.length) (dg X) := .inr ⟨gx, cux, by rw [hlen], hR, by omega, by rw [hlen]; exact ht, hl2⟩
  obtain ⟨s1, s2, s3, s4⟩ := sum_digits X hX Y hY0 hY1 x0 [] hx
  have hxc := hR.cell 0 (by omega)
  have hx0 : cux.getD 0 0 = x0 := by
    have := congrArg (fun l => l.getD 0 0) (ht.trans hx)
    rw [List.getD_eq_getElem?_getD, List.getElem?_take, if_pos (by omega), ← List.getD_eq_getElem?_getD] at this
    simpa using this
  rw [hx0] at hxc
  have hxd := dg_dig X
  rw [hx] at hxd
  have hxr := hxd.cons.1
  have HM := Lib.hid (make_any hN 2 (by omega) (by omega))
  have HXC := Lib.hid hR
  have HY := Lib.hid hy
  have HYlt := Lib.hid (World.block_lt_of_cell? w _ hy)
  have HX0 := Lib.hid hx0
  have HXR := Lib.hid hxr
  have HY0 := Lib.hid hY0
  have HS1 := Lib.hid s1
  have HS2 := Lib.hid s2
  have HL := Lib.hid hl
  clear hN hR hxc hxd hxr hx ht hlen hy hx0 hl2 hY0 hY1 s1 s2 s3 s4
  simp only [addl] at HS1 HS2
  obtain ⟨s, hs⟩ : ∃ s, sumW x0 Y 0 = s := ⟨_, rfl⟩
  obtain ⟨k, hk⟩ : ∃ s, sumC x0 Y 0 = s := ⟨_, rfl⟩
  have HSS := Lib.hid hs
  have HKK := Lib.hid hk
  rw [hs, hk] at HS1 HS2
  clear hs hk
  have hc1 : (1 : Int) ≤ (cux.length : Int) := by omega
  have hc2 : (1 : Int) ≤ (cy : Int) := by omega
  go_enter Try.func73, Try.ntmps73
  go_wp2_with fail
  refine HM.out.mono ?_
  rintro e w1 ⟨g, cur, rfl, hr, h1, h2, hk⟩
  have HR := Lib.hid hr
  have HK := Lib.hid hk
  have HC := Lib.hid h1
  have HC2 := Lib.hid h2
  have hc3 : (1 : Int) ≤ (cur.length : Int) := by omega
  have hc4 : (1 : Int) < (cur.length : Int) := by omega
  clear hr hk h1 h2
  go_wp2_with fail
  go_still_tail 9, (by kernel_rfl)
  change wpList _ _ _ _ _ w1.drew
  go_wp2_with fail
  refine (addVV_out (w := w1.drew) (cur := cur) (x := x0) (y := Y) (u := 0) HR.out.drew (by have := HC.out; omega) (by have := (Mk.old HK.out HXC.out).cell 0 HL.out; rw [HX0.out] at this; exact this) (HK.out.chg.cell HY.out (fun e => hne (by cases e; rfl))) HXR.out.1 HY0.out).mono ?_
  rw [HSS.out, HKK.out]
  rintro e w2 ⟨rfl, hq1, hq2⟩
  have HQ1 := Lib.hid hq1
  have HQ2 := Lib.hid (At.own HK.out.chg.drew hq2 HK.out.ok)
  obtain ⟨u', hcell⟩ := hq1.has 1 (by rw [List.length_set]; have := HC.out; omega)
  have hfree := hq1.free 1
  clear hq1 hq2
  go_wp2_with fail
  have hns := norm_sum (m := 1) (row := cur.set 0 s) (c := k) (l := [s] ++ [k]) HQ1.out (by rw [List.length_set]; exact HC.out) (by rw [List.length_set]; exact HC2.out) (row_one cur s k HC.out) HS1.out HS2.out HQ2.out HK.out.ok
  rw [List.length_set] at hns
  refine hns.mono ?_
  rintro e w3 ⟨v', rfl, h1, h2, h3⟩
  have H1 := Lib.hid h1
  have H2 := Lib.hid h2
  have H3 := Lib.hid h3
  clear h1 h2 h3 hns
  go_wp2
  go_ret
  exact ⟨_, rfl, H1.out, H2.out, H3.out⟩

theorem head_tail (cux : List Int) (m : Nat) (x0 : Int) (xs : List Int) (h : cux.take m = x0 :: xs) (hm : 0 < m) : cux.getD 0 0 = x0 ∧ (cux.drop 1).take (m - 1) = xs := by
  cases cux with
  | nil => simp at h
  | cons y t =>
    obtain ⟨j, rfl⟩ : ∃ j, m = j + 1 := ⟨m - 1, by omega⟩
    rw [List.take_succ_cons] at h
    injection h with h1 h2
    subst h1 h2
    simp

set_option maxHeartbeats 2000000 in
set_option maxRecDepth 100000 in
theorem add_many {w : World} {gx gy cy m : Nat} {cux : List Int} {X : Nat} {Y : Int} (hX : 0 < X) (hlen : (dg X).length = m) (hm : 1 < m) (hR : Rw w gx cux) (hl : m ≤ cux.length) (hl2 : cux.length ≤ 1000000) (hmb : m ≤ 800000) (ht : cux.take m = dg X) (hy : w.cell? ⟨gy, 0, none⟩ = some (.int .u64 Y)) (hne : gy ≠ gx) (hcy : 1 ≤ cy) (hY0 : 0 ≤ Y) (hY1 : Y < (BB : Int)) :
    Calls Try.prog 73 #[.slice (some ⟨gx, 0, none⟩) m cux.length, .slice (some ⟨gx, 0, none⟩) m cux.length, .slice (some ⟨gy, 0, none⟩) 1 cy] w (NtOut w (.slice (some ⟨gx, 0, none⟩) m cux.length) (dg (X + Y.toNat))) := by
  obtain ⟨x0, xs, hx⟩ : ∃ x0 xs, dg X = x0 :: xs := by cases h : dg X with | nil => rw [h] at hlen; simp at hlen; omega | cons a b => exact ⟨a, b, rfl⟩
  have hxl : xs.length = m - 1 := by rw [hx] at hlen; simp at hlen; omega
  have hN : Nt w (.slice (some ⟨gx, 0, none⟩) m cux.length) (dg X) := .inr ⟨gx, cux, by rw [hlen], hR, by omega, by rw [hlen]; exact ht, hl2⟩
  obtain ⟨s1, s2, s3, s4⟩ := sum_digits X hX Y hY0 hY1 x0 xs hx
  have hxc := hR.cell 0 (by omega)
  obtain ⟨hx0, hxt⟩ := head_tail cux m x0 xs (ht.trans hx) (by omega)
  rw [hx0] at hxc
  have hxd := dg_dig X
  rw [hx] at hxd
  have hxr := hxd.cons.1
  have hrl := addl_length xs (sumC x0 Y 0)
  rw [hxl] at hrl
  have HM := Lib.hid (make_any hN (m + 1) (by omega) (by omega))
  have HXC := Lib.hid hR
  have HY := Lib.hid hy
  have HX0 := Lib.hid hx0
  have HXT := Lib.hid hxt
  have HXR := Lib.hid hxr
  have HXD := Lib.hid hxd.cons.2
  have HY0 := Lib.hid hY0
  have HS1 := Lib.hid s1
  have HS2 := Lib.hid s2
  have HS3 := Lib.hid s3
  have HS4 := Lib.hid s4
  have HL := Lib.hid hl
  have HXlt := Lib.hid hR.lt
  obtain ⟨s, hs⟩ : ∃ s, sumW x0 Y 0 = s := ⟨_, rfl⟩
  obtain ⟨k, hk⟩ : ∃ s, sumC x0 Y 0 = s := ⟨_, rfl⟩
  have HSS := Lib.hid hs
  have HKK := Lib.hid hk
  rw [hs, hk] at HS1 HS2
  rw [hk] at HS3 HS4 hrl
  have HRL := Lib.hid hrl
  obtain ⟨R, hRR⟩ : ∃ R, (addl xs k).1 = R := ⟨_, rfl⟩
  obtain ⟨C, hCC⟩ : ∃ C, (addl xs k).2 = C := ⟨_, rfl⟩
  have HRR := Lib.hid hRR
  have HCC := Lib.hid hCC
  rw [hRR, hCC] at HS1 HS2
  rw [hRR] at HRL
  clear hN hR hxc hxd hxr hx ht hlen hy hx0 hxt hl2 hY0 hY1 s1 s2 s3 s4 hs hk hrl hRR hCC
  have hc1 : (1 : Int) ≤ (cux.length : Int) := by omega
  have hc2 : (1 : Int) ≤ (cy : Int) := by omega
  have hm0 : ((m : Int) == 0) = false := by rw [beq_eq_false_iff_ne]; omega
  have hm1 : (1 : Int) < (m : Int) := by omega
  have hm2 : (1 : Int) ≤ (m : Int) := by omega
  have hm3 : (m : Int) ≤ (cux.length : Int) := by omega
  have q1 : ¬ cux.length = 1 := by omega
  go_enter Try.func73, Try.ntmps73
  go_wp2_with fail
  refine HM.out.mono ?_
  rintro e w1 ⟨g, cur, rfl, hr, h1, h2, hk⟩
  have HR := Lib.hid hr
  have HK := Lib.hid hk
  have HC := Lib.hid h1
  have HC2 := Lib.hid h2
  have hc3 : (1 : Int) ≤ (cur.length : Int) := by omega
  have hc4 : (m : Int) < (cur.length : Int) := by omega
  have hc5 : (m : Int) ≤ (cur.length : Int) := by omega
  have hc6 : (m : Int) < (m : Int) + 1 := by omega
  have q2 : ¬ cur.length = 1 := by omega
  clear hr hk h1 h2
  go_wp2_with fail
  go_still_tail 9, (by kernel_rfl)
  change wpList _ _ _ _ _ w1.drew
  go_wp2_with fail
  refine (addVV_out (w := w1.drew) (cur := cur) (x := x0) (y := Y) (u := 0) HR.out.drew (by have := HC.out; omega) (by have := (Mk.old HK.out HXC.out).cell 0 (by have := HL.out; omega); rw [HX0.out] at this; exact this) (HK.out.chg.cell HY.out (fun e => hne (by cases e; rfl))) HXR.out.1 HY0.out).mono ?_
  rw [HSS.out, HKK.out]
  rintro e w2 ⟨rfl, hq1, hq2⟩
  have hsep := Mk.sep (gx := gx) HK.out rfl HXlt.out
  have HQ1 := Lib.hid hq1
  have HQX := Lib.hid (fun (e : g ≠ gx) => ((Mk.old HK.out HXC.out).drew.kept hq2 (fun h => e h.symm) : Rw w2 gx cux))
  have HQ2 := Lib.hid (At.own HK.out.chg.drew hq2 HK.out.ok)
  have HSep := Lib.hid hsep
  have HEq := Lib.hid (fun (e : g = gx) (hw : w1.heap.size = w.heap.size) => hw)
  have hcw : Calls Try.prog 93 #[.slice (some ⟨g, 1, none⟩) (m - 1) (cur.length - 1), .slice (some ⟨gx, 1, none⟩) (m - 1) (cux.length - 1), .int .u64 k] w2.drew (RowOut w2.drew g (lay (cur.set 0 s) 1 (m - 1) R) C) := by
    rcases hsep with e | ⟨e, e2⟩
    · subst e
      have hcc : cur = cux := (HR.out).inj (Mk.old HK.out HXC.out)
      have hxs : ((cur.set 0 s).drop 1).take (m - 1) = xs := by
        rw [← HXT.out, ← hcc]
        cases cur with
        | nil => rfl
        | cons a b => rfl
      have := addVW_same g 1 (m - 1) (cur.length - 1) (cux.length - 1) (cur.set 0 s) k w2.drew hq1.drew (by omega) (by rw [List.length_set]; have := HC.out; omega) (by rw [List.length_set]; exact HC2.out) (by rw [hxs]; exact HXD.out) HS3.out HS4.out
      rw [hxs, HRR.out, HCC.out] at this
      exact this
    · have := addVW_diff g 1 gx 1 (m - 1) (cur.length - 1) (cux.length - 1) (cur.set 0 s) cux k w2.drew hq1.drew (HQX.out e).drew e (by have := HC.out; omega) (by omega) (by omega) (by rw [List.length_set]; have := HC.out; omega) (by omega) (by rw [List.length_set]; exact HC2.out) (by rw [HXT.out]; exact HXD.out) HS3.out HS4.out
      rw [HXT.out, HRR.out, HCC.out] at this
      exact this
  have HCW := Lib.hid hcw
  clear hq1 hq2 hsep hcw
  go_wp2_with fail
  go_still_tail 8, (by kernel_rfl)
  change wpList _ _ _ _ _ w2.drew
  go_wp2_with fail
  refine HCW.out.mono ?_
  rintro e w3 ⟨rfl, hq3, hq4⟩
  have hll : (lay (cur.set 0 s) 1 (m - 1) R).length = cur.length := by rw [lay_length _ _ _ _ (by have := HRL.out; omega) (by rw [List.length_set]; have := HC.out; omega), List.length_set]
  have hns := norm_sum (m := m) (row := lay (cur.set 0 s) 1 (m - 1) R) (c := C) (l := (s :: R) ++ [C]) hq3 (by rw [hll]; exact HC.out) (by rw [hll]; exact HC2.out) (row_sum cur m s C R (by omega) HC.out HRL.out) HS1.out HS2.out (At.own HQ2.out.drew hq4 HK.out.ok) HK.out.ok
  rw [hll] at hns
  have HNS := Lib.hid hns
  obtain ⟨u', hcell⟩ := hq3.has m (by rw [hll]; have := HC.out; omega)
  have hfree := hq3.free m
  clear hq3 hq4 hns hll
  go_wp2_with fail
  refine HNS.out.mono ?_
  rintro e w4 ⟨v', rfl, h1, h2, h3⟩
  have H1 := Lib.hid h1
  have H2 := Lib.hid h2
  have H3 := Lib.hid h3
  clear h1 h2 h3
  go_wp2
  go_ret
  exact ⟨_, rfl, H1.out, H2.out, H3.out⟩

/-- nat.add: z.add(z, y), y of at most one word. -/
theorem add_any {w : World} {v u : Value} {X Y : Nat} (h : Nt w v (dg X)) (hu : Nt w u (dg Y)) (ha : Ap v u) (hY : Y < BB) (hl : (dg X).length ≤ 800000) : Calls Try.prog 73 #[v, v, u] w (NtOut w v (dg (X + Y))) := by
  by_cases hY0 : Y = 0
  · subst hY0
    rw [dg_zero] at hu
    rw [Nat.add_zero]
    obtain ⟨B, d, rfl, _⟩ := hu.slice
    by_cases hX0 : X = 0
    · subst hX0
      rw [dg_zero] at h ⊢
      exact add_00 h B d
    · exact add_10 h (dg_len_pos (by omega)) B d
  · have hy1 := dg_one (n := Y) (by omega) hY
    by_cases hX0 : X = 0
    · subst hX0
      rw [dg_zero] at h
      rw [Nat.zero_add]
      exact add_01 h hu ha (by rw [hy1]; rfl)
    · rcases h with ⟨_, h1⟩ | ⟨gx, cux, rfl, h1, h2, h3, h4⟩
      · exact absurd (dg_nil.1 h1) hX0
      · rcases hu with ⟨_, h5⟩ | ⟨gy, cuy, rfl, h5, h6, h7, h8⟩
        · exact absurd (dg_nil.1 h5) hY0
        · rw [hy1] at h6 h7 ⊢
          have hc := h5.cell 0 (by simp at h6; omega)
          have hcy : cuy.getD 0 0 = (Y : Int) := by
            cases cuy with
            | nil => simp at h6
            | cons a b => simp at h7; simp [h7]
          rw [hcy] at hc
          have hne : gy ≠ gx := fun e => ha gx rfl (by rw [e]; rfl)
          have e1 : ([(Y : Int)] : List Int).length = 1 := rfl
          rw [e1]
          by_cases hm : (dg X).length = 1
          · have := add_one (w := w) (gx := gx) (gy := gy) (cy := cuy.length) (cux := cux) (X := X) (Y := (Y : Int)) (by omega) hm h1 (by omega) h4 (by rw [← hm]; exact h3) hc hne (by simp at h6; omega) (by omega) (by exact_mod_cast hY)
            rw [Int.toNat_natCast] at this
            rw [hm]
            exact this
          · have hp := dg_len_pos (n := X) (by omega)
            have := add_many (w := w) (gx := gx) (gy := gy) (cy := cuy.length) (m := (dg X).length) (cux := cux) (X := X) (Y := (Y : Int)) (by omega) rfl (by omega) h1 h2 h4 hl h3 hc hne (by simp at h6; omega) (by omega) (by exact_mod_cast hY)
            rw [Int.toNat_natCast] at this
            exact this
end Go.Proofs.Ythckboojmljeiaa.Sm
namespace Go.Proofs.Ythckboojmljeiaa.Ls
set_option linter.unusedVariables false
set_option linter.unusedSimpArgs false
open Go.RowKit Go.Proofs.YthckboojmljeiaaW.PrintWords Go.Proofs.Ythckboojmljeiaa.Pl Go.Proofs.Ythckboojmljeiaa.Dg Go.Proofs.Ythckboojmljeiaa.Mem Go.Proofs.Ythckboojmljeiaa.Na Go.Proofs.Ythckboojmljeiaa.Nb Go.Proofs.Ythckboojmljeiaa.Sm

theorem zero74 (w : World) : (zeroValue 74).run Try.prog w = .ok (.int .u64 0) w := by
  obtain ⟨i, hi, hz, _⟩ := info_parts info74
  simp [zeroValue, typeInfo, hi, hz]
theorem clear1 (w : World) (g c : Nat) (u : Int) (hc : w.cell? ⟨g, 0, none⟩ = some (.int .u64 u)) (hf : w.frozen? ⟨g, 0, none⟩ = false) :
    (Builtin.clear_ #[62] 0 #[.slice (some ⟨g, 0, none⟩) 1 c]).run Try.prog w = .ok (.tuple #[]) (w.setCell ⟨g, 0, none⟩ (.int .u64 0)) := by
  refine Lib.run_clear_slice w 62 74 0 (.int .u64 0) Try.underlying62 zero74 rfl rfl g 0 1 c (by omega) ?_ ?_
  · intro j hj
    obtain rfl : j = 0 := by omega
    rw [Nat.add_zero, hc]
    rfl
  · intro j hj
    obtain rfl : j = 0 := by omega
    exact hf
theorem norm_fin {w w3 : World} {v : Value} {g m : Nat} {row : List Int} {l : List Int} {Z : Nat} (hr : Rw w3 g row) (hm : m ≤ row.length) (hl : row.length ≤ 1000000) (ht : row.take m = l) (hd : DW l) (hz : (lv (BB : Int) l).toNat = Z) (hc : Chg (Own v) w w3) (hok : Own v g ∨ w.heap.size ≤ g) :
    Calls Try.prog 86 #[.slice (some ⟨g, 0, none⟩) m row.length] w3 (NtOut w v (dg Z)) := by
  have := norm_dg g m row _ hr hm hl (by rw [ht]; exact hd)
  rw [ht, hz] at this
  refine this.mono ?_
  rintro e w' ⟨v', rfl, h1, h2, rfl⟩
  refine ⟨v', rfl, h1, hc, ?_⟩
  rcases hok with h | h
  · exact .inl (h2.trans h.symm)
  · exact .inr ⟨g, h2, h⟩
theorem lsh_zero {w : World} {v : Value} (h : Nt w v []) : Calls Try.prog 72 #[v, v, .int .u64 64] w (NtOut w v []) := by
  obtain ⟨A, c, rfl, _, hc⟩ := h.slice
  have H := Lib.hid (cut0 h)
  clear h
  go_enter Try.func72, Try.ntmps72
  go_wp2
  go_ret
  exact ⟨_, rfl, H.out, Chg.refl _ _, Fr.refl _ _⟩

/-- The words moved up by one. -/
def upRow (cur : List Int) (m : Nat) (xs : List Int) : List Int := lay cur 1 m xs
theorem up_take (cur : List Int) (m : Nat) (xs : List Int) (hx : xs.length = m) (hl : m + 2 ≤ cur.length) : (((lay cur 1 m xs).set (m + 1) 0).set 0 0).take (m + 2) = [0] ++ (xs ++ [0]) := by
  have hll := lay_length cur 1 m xs (by omega) (by omega)
  obtain ⟨a, t, rfl⟩ : ∃ a t, cur = a :: t := by
    cases cur with
    | nil => simp at hl
    | cons a t => exact ⟨a, t, rfl⟩
  have e : lay (a :: t) 1 m xs = a :: (xs ++ t.drop m) := by
    unfold lay
    rw [show xs.take m = xs from List.take_of_length_le (by omega), show 1 + m = m + 1 from by omega]
    simp
  rw [e, List.set_cons_succ, List.set_cons_zero, List.take_succ_cons, List.set_append_right _ _ (by omega), hx, Nat.sub_self]
  have hd : 0 < (t.drop m).length := by rw [List.length_drop]; simp at hl; omega
  obtain ⟨y, s, hs⟩ : ∃ y s, t.drop m = y :: s := by
    cases h : t.drop m with
    | nil => rw [h] at hd; simp at hd
    | cons y s => exact ⟨y, s, rfl⟩
  rw [hs, List.set_cons_zero, List.take_append, List.take_of_length_le (by omega), hx]
  simp
theorem up_val (X : Nat) : DW ([0] ++ (dg X ++ [0])) ∧ (lv (BB : Int) ([0] ++ (dg X ++ [0]))).toNat = X * BB := by
  refine ⟨(Dig.mk (by omega) (by decide) (Dig.nil _)).append ((dg_dig X).append (Dig.mk (by omega) (by decide) (Dig.nil _))), ?_⟩
  rw [lv_append, lv_append, lv_dg]
  simp only [lv]
  rw [show ([0] : List Int).length = 1 from rfl]
  have : (0 + (BB : Int) * 0 + (BB : Int) ^ 1 * ((X : Int) + (BB : Int) ^ (dg X).length * (0 + (BB : Int) * 0))) = ((X * BB : Nat) : Int) := by
    rw [Int.mul_zero, Int.add_zero, Int.mul_zero, Int.add_zero, Int.zero_add, Int.pow_succ, Int.pow_zero, Int.one_mul, Int.mul_comm]
    exact_mod_cast rfl
  rw [this, Int.toNat_natCast]

set_option maxHeartbeats 1000000 in
set_option maxRecDepth 100000 in
theorem lsh_pos {w : World} {gx m : Nat} {cux : List Int} {X : Nat} (hX : 0 < X) (hlen : (dg X).length = m) (hR : Rw w gx cux) (hl : m ≤ cux.length) (hl2 : cux.length ≤ 1000000) (hmb : m ≤ 800000) (ht : cux.take m = dg X) :
    Calls Try.prog 72 #[.slice (some ⟨gx, 0, none⟩) m cux.length, .slice (some ⟨gx, 0, none⟩) m cux.length, .int .u64 64] w (NtOut w (.slice (some ⟨gx, 0, none⟩) m cux.length) (dg (X * BB))) := by
  have hN : Nt w (.slice (some ⟨gx, 0, none⟩) m cux.length) (dg X) := .inr ⟨gx, cux, by rw [hlen], hR, by omega, by rw [hlen]; exact ht, hl2⟩
  have h0 : 0 < m := by rw [← hlen]; exact dg_len_pos hX
  have HM := Lib.hid (make_any hN (m + 2) (by omega) (by omega))
  rw [show ((m + 2 : Nat) : Int) = (m : Int) + 1 + 1 from by omega] at HM
  have HXC := Lib.hid hR
  have HT := Lib.hid ht
  have HL := Lib.hid hlen
  have HXL := Lib.hid hl
  clear hN hR ht hlen hl2
  have hm0 : ((m : Int) == 0) = false := by rw [beq_eq_false_iff_ne]; omega
  have c1 : (m : Int) + 1 - (m : Int) = 1 := by omega
  go_enter Try.func72, Try.ntmps72
  go_wp2_with fail
  refine HM.out.mono ?_
  rintro e w1 ⟨g, cur, rfl, hr, h1, h2, hk⟩
  have HR := Lib.hid hr
  have HK := Lib.hid hk
  have HC := Lib.hid h1
  have HC2 := Lib.hid h2
  have b1 : (1 : Int) ≤ (m : Int) + 1 := by omega
  have b2 : (m : Int) + 1 ≤ (m : Int) + 2 := by omega
  have b3 : (m : Int) + 1 < (m : Int) + 2 := by omega
  have b4 : (m : Int) + 1 ≤ (cur.length : Int) := by omega
  have b5 : ((m : Int) + 1).toNat = m + 1 := by omega
  have q1 : ¬ cur.length = 1 := by omega
  have hsrc : ∀ j, j < m → w1.cell? ⟨gx, j, none⟩ = some (.int .u64 ((dg X).getD j 0)) := fun j hj => by
    rw [(Mk.old HK.out HXC.out).cell j (by have := HXL.out; omega), ← HT.out, List.getD_eq_getElem?_getD, List.getD_eq_getElem?_getD, List.getElem?_take, if_pos hj]
  have HSrc := Lib.hid hsrc
  obtain ⟨new, hnew⟩ : ∃ new, lay cur 1 m (dg X) = new := ⟨_, rfl⟩
  have hlx := HL.out
  have hrow : ((cur.map (Value.int .u64)).toArray.toList.take 1 ++ ((dg X).map (Value.int .u64) ++ (cur.map (Value.int .u64)).toArray.toList.drop (1 + ((dg X).map (Value.int .u64)).length))).toArray = (new.map (Value.int .u64)).toArray := by
    rw [← hnew]
    unfold lay
    rw [List.take_of_length_le (show (dg X).length ≤ m by omega)]
    simp [hlx]
  have hnl : new.length = cur.length := by rw [← hnew]; exact lay_length _ _ _ _ (by omega) (by omega)
  have HRow := Lib.hid hrow
  have HNew := Lib.hid hnew
  have HNl := Lib.hid hnl
  have hRn := HR.out.row new
  have HRn := Lib.hid hRn
  obtain ⟨u, hcell⟩ := hRn.has (m + 1) (by omega)
  have hfree := hRn.free (m + 1)
  have hR3 := hRn.put (m + 1) 0
  obtain ⟨u0, hcell0⟩ := hR3.has 0 (by rw [List.length_set]; omega)
  have hfree0 := hR3.free 0
  have HR3 := Lib.hid (hR3.put 0 0)
  have hcl : (Builtin.clear_ #[62] 0 #[.slice (some ⟨g, 0, none⟩) 1 cur.length]).run Try.prog ((w1.setRow g (new.map (Value.int .u64)).toArray).setCell ⟨g, m + 1, none⟩ (.int .u64 0)) = .ok (.tuple #[]) (((w1.setRow g (new.map (Value.int .u64)).toArray).setCell ⟨g, m + 1, none⟩ (.int .u64 0)).setCell ⟨g, 0, none⟩ (.int .u64 0)) :=
    clear1 _ g cur.length u0 hcell0 hfree0
  clear hr hk h1 h2 hrow hnew hnl hsrc hlx hRn hR3
  go_wp2_with (first | (refine wpList_copy_own rfl (.tmp 46) (.tmp 47) 62 62 rfl 74 Try.underlying62 (by kernel_rfl) g 1 m (cur.length - 1) ⟨gx, 0, none⟩ m cux.length rfl rfl (cur.map (Value.int .u64)).toArray 74 HR.out ((dg X).map (Value.int .u64)) ?hn ?hsrc ?hfit ?h1 ?_; (case hn => have := HL.out; simp [this]); (case hsrc => exact copy_src HL.out HSrc.out); (case hfit => have := HL.out; have := HC.out; simp; omega); (case h1 => intro v hv; obtain ⟨x, _, rfl⟩ := List.mem_map.1 hv; rfl); rw [HRow.out]))
  have hlen3 : ((new.set (m + 1) 0).set 0 0).length = cur.length := by rw [List.length_set, List.length_set]; exact HNl.out
  have hns := norm_fin (w := w) (v := .slice (some ⟨gx, 0, none⟩) m cux.length) (m := m + 2) (l := [0] ++ (dg X ++ [0])) (Z := X * BB) HR3.out (by rw [hlen3]; exact HC.out) (by rw [hlen3]; exact HC2.out) (by rw [← HNew.out]; exact up_take cur m (dg X) HL.out HC.out) (up_val X).1 (up_val X).2 (((HK.out.chg.setRow g _ HK.out.ok).set g (m + 1) _ HK.out.ok).set g 0 _ HK.out.ok) HK.out.ok
  rw [hlen3] at hns
  refine hns.mono ?_
  rintro e w4 ⟨v', rfl, h1, h2, h3⟩
  have H1 := Lib.hid h1
  have H2 := Lib.hid h2
  have H3 := Lib.hid h3
  clear h1 h2 h3 hns hlen3
  go_wp2
  go_ret
  exact ⟨_, rfl, H1.out, H2.out, H3.out⟩

/-- nat.lsh by 64, of itself. -/
theorem lsh_any {w : World} {v : Value} {X : Nat} (h : Nt w v (dg X)) (hl : (dg X).length ≤ 800000) : Calls Try.prog 72 #[v, v, .int .u64 64] w (NtOut w v (dg (X * BB))) := by
  by_cases hX : X = 0
  · subst hX
    rw [Nat.zero_mul]
    rw [dg_zero] at h ⊢
    exact lsh_zero h
  · rcases h with ⟨_, h1⟩ | ⟨gx, cux, rfl, h1, h2, h3, h4⟩
    · exact absurd (dg_nil.1 h1) hX
    · exact lsh_pos (by omega) rfl h1 h2 h4 hl h3
end Go.Proofs.Ythckboojmljeiaa.Ls
namespace Go.Proofs.Ythckboojmljeiaa.Sd
set_option linter.unusedVariables false
set_option linter.unusedSimpArgs false
open Go.RowKit Go.Proofs.YthckboojmljeiaaW.PrintWords Go.Proofs.Ythckboojmljeiaa.Pl Go.Proofs.Ythckboojmljeiaa.Dg Go.Proofs.Ythckboojmljeiaa.Mem Go.Proofs.Ythckboojmljeiaa.Na Go.Proofs.Ythckboojmljeiaa.Nb Go.Proofs.Ythckboojmljeiaa.Bi Go.Proofs.Ythckboojmljeiaa.Vv Go.Proofs.Ythckboojmljeiaa.Vw Go.Proofs.Ythckboojmljeiaa.Ad Go.Proofs.Ythckboojmljeiaa.Sm Go.Proofs.Ythckboojmljeiaa.Ls

theorem row_take (cur : List Int) (m : Nat) (s : Int) (r : List Int) (hm : 0 < m) (hc : m ≤ cur.length) (hr : r.length = m - 1) : (lay (cur.set 0 s) 1 (m - 1) r).take m = s :: r := by
  obtain ⟨y, t, rfl⟩ : ∃ y t, cur = y :: t := by
    cases cur with
    | nil => simp at hc; omega
    | cons y t => exact ⟨y, t, rfl⟩
  simp only [List.set_cons_zero]
  unfold lay
  rw [List.take_succ_cons, List.take_zero, show r.take (m - 1) = r from List.take_of_length_le (by omega), ← List.append_assoc]
  exact List.take_left' (by simp; omega)

theorem subl_borrow (l : List Int) (c : Int) (h0 : 0 ≤ c) (h1 : c ≤ 1) : 0 ≤ (subl l c).2 ∧ (subl l c).2 ≤ 1 := by
  induction l generalizing c with
  | nil => exact ⟨h0, h1⟩
  | cons x r ih =>
    simp only [subl]
    split
    · exact ih 1 (by omega) (by omega)
    · exact ih 0 (by omega) (by omega)
theorem dif_digits (X : Nat) (Y : Int) (hY0 : 0 ≤ Y) (hY1 : Y < (BB : Int)) (hYX : Y ≤ (X : Int)) (x0 : Int) (xs : List Int) (hx : dg X = x0 :: xs) :
    DW ((difW x0 Y 0) :: (subl xs (difC x0 Y 0)).1) ∧ (lv (BB : Int) ((difW x0 Y 0) :: (subl xs (difC x0 Y 0)).1)).toNat = X - Y.toNat ∧ (subl xs (difC x0 Y 0)).2 = 0 ∧ 0 ≤ difC x0 Y 0 ∧ difC x0 Y 0 ≤ 1 := by
  have hd := dg_dig X
  have hl := lv_dg X
  rw [hx] at hd hl
  obtain ⟨⟨h0, h1⟩, h2⟩ := hd.cons
  have hq : 0 ≤ difC x0 Y 0 ∧ difC x0 Y 0 ≤ 1 := by unfold difC; split <;> omega
  have hv := subl_val xs (difC x0 Y 0) h2 hq.1 hq.2
  have hsd := subl_dig xs (difC x0 Y 0)
  have hr := lv_range (B := (BB : Int)) (by decide) hsd
  rw [subl_length] at hr
  have hB : (0 : Int) < (BB : Int) := by decide
  have hW0 : 0 ≤ difW x0 Y 0 ∧ difW x0 Y 0 < (BB : Int) := by unfold difW; exact ⟨Int.emod_nonneg _ (by decide), Int.emod_lt_of_pos _ hB⟩
  have hWv : difW x0 Y 0 = x0 - Y + (BB : Int) * difC x0 Y 0 := by
    unfold difW difC
    rw [Ad.bbI] at *
    split <;> omega
  have hk : (subl xs (difC x0 Y 0)).2 = 0 ∨ (subl xs (difC x0 Y 0)).2 = 1 := by
    have := subl_borrow xs (difC x0 Y 0) hq.1 hq.2
    omega
  obtain ⟨q, hqq⟩ : ∃ q, difC x0 Y 0 = q := ⟨_, rfl⟩
  rw [hqq] at hv hsd hr hWv hk hq ⊢
  obtain ⟨d, hdd⟩ : ∃ d, difW x0 Y 0 = d := ⟨_, rfl⟩
  rw [hdd] at hW0 hWv ⊢
  obtain ⟨V, hV⟩ : ∃ V, lv (BB : Int) (subl xs q).1 = V := ⟨_, rfl⟩
  obtain ⟨L, hL⟩ : ∃ L, lv (BB : Int) xs = L := ⟨_, rfl⟩
  simp only [lv, hL, hV] at hl hv hr ⊢
  obtain ⟨P, hP⟩ : ∃ P, (BB : Int) ^ xs.length = P := ⟨_, rfl⟩
  rw [hP] at hv hr
  have hPp : 1 ≤ P := by
    rw [← hP]
    exact Int.pow_pos hB
  have e1 : (BB : Int) * V = (BB : Int) * L - (BB : Int) * q + (BB : Int) * (P * (subl xs q).2) := by
    have : V = L - q + P * (subl xs q).2 := by omega
    rw [this, Int.mul_add, Int.mul_sub]
  have hk0 : (subl xs q).2 = 0 := by
    rcases hk with hk | hk
    · exact hk
    · exfalso
      rw [hk, Int.mul_one] at e1
      have e2 : (BB : Int) * V ≤ (BB : Int) * (P - 1) := Int.mul_le_mul_of_nonneg_left (by omega) (by omega)
      rw [Int.mul_sub, Int.mul_one] at e2
      omega
  refine ⟨Dig.mk hW0.1 hW0.2 hsd, ?_, hk0, hq⟩
  rw [hk0, Int.mul_zero, Int.mul_zero, Int.add_zero] at e1
  omega

theorem sub_00 {w : World} {v : Value} (h : Nt w v []) (B : Option Addr) (d : Nat) : Calls Try.prog 75 #[v, v, .slice B 0 d] w (NtOut w v []) := by
  obtain ⟨A, c, rfl, _, hc⟩ := h.slice
  have H := Lib.hid (cut0 h)
  have H2 := Lib.hid (Fr.refl w (.slice A 0 c))
  clear h
  go_enter Try.func75, Try.ntmps75
  go_wp2
  go_ret
  exact ⟨_, rfl, H.out, Chg.refl _ _, H2.out⟩

theorem sub_10 {w : World} {v : Value} {l : List Int} (h : Nt w v l) (h0 : 0 < l.length) (B : Option Addr) (d : Nat) : Calls Try.prog 75 #[v, v, .slice B 0 d] w (NtOut w v l) := by
  have H := Lib.hid (set_self h)
  have HV := Lib.hid h
  obtain ⟨A, c, rfl, _⟩ := h.slice
  have hb : ((l.length : Int) == 0) = false := by rw [beq_eq_false_iff_ne]; omega
  have hb2 : (l.length == 0) = false := by rw [beq_eq_false_iff_ne]; omega
  have hb3 : (0 : Int) < (l.length : Int) := by omega
  obtain ⟨n, hn⟩ : ∃ n, l.length = n := ⟨_, rfl⟩
  rw [hn] at H HV hb hb2 hb3 ⊢
  clear h hn
  go_enter Try.func75, Try.ntmps75
  go_wp2_with fail
  refine H.out.mono ?_
  rintro e w1 ⟨rfl, rfl⟩
  go_wp2
  go_ret
  exact ⟨_, rfl, HV.out, Chg.refl _ _, Fr.refl _ _⟩

/-- subVV at one word, what it leaves. -/
theorem subVV_out {w : World} {gz gy cz cx cy : Nat} {x y : Int} {cur : List Int} (hr : Rw w gz cur) (hl : 0 < cur.length) (hx : cur.getD 0 0 = x) (hy : w.cell? ⟨gy, 0, none⟩ = some (.int .u64 y)) (hx0 : 0 ≤ x) (hx1 : x < (BB : Int)) (hy0 : 0 ≤ y) (hy1 : y < (BB : Int)) :
    Calls Try.prog 94 #[.slice (some ⟨gz, 0, none⟩) 1 cz, .slice (some ⟨gz, 0, none⟩) 1 cx, .slice (some ⟨gy, 0, none⟩) 1 cy] w (RowOut w gz (cur.set 0 (difW x y 0)) (difC x y 0)) := by
  have hc := hr.cell 0 hl
  rw [hx] at hc
  refine (subVV gz gz gy cz cx cy x y x w hc hy hc (hr.free 0) hx0 hx1 hy0 hy1).mono ?_
  rintro e w' ⟨rfl, q, rfl⟩
  exact ⟨rfl, (hr.put 0 _).drewN q, (at_set (Chg.refl _ _)).drewN q⟩

set_option maxHeartbeats 2000000 in
set_option maxRecDepth 100000 in
theorem sub_one {w : World} {gx gy cy : Nat} {cux : List Int} {X : Nat} {Y : Int} (hX : 0 < X) (hlen : (dg X).length = 1) (hR : Rw w gx cux) (hl : 1 ≤ cux.length) (hl2 : cux.length ≤ 1000000) (ht : cux.take 1 = dg X) (hy : w.cell? ⟨gy, 0, none⟩ = some (.int .u64 Y)) (hne : gy ≠ gx) (hcy : 1 ≤ cy) (hY0 : 0 ≤ Y) (hY1 : Y < (BB : Int)) (hYX : Y ≤ (X : Int)) :
    Calls Try.prog 75 #[.slice (some ⟨gx, 0, none⟩) 1 cux.length, .slice (some ⟨gx, 0, none⟩) 1 cux.length, .slice (some ⟨gy, 0, none⟩) 1 cy] w (NtOut w (.slice (some ⟨gx, 0, none⟩) 1 cux.length) (dg (X - Y.toNat))) := by
  obtain ⟨x0, xs, hx⟩ : ∃ x0 xs, dg X = x0 :: xs := by cases h : dg X with | nil => rw [h] at hlen; cases hlen | cons a b => exact ⟨a, b, rfl⟩
  obtain rfl : xs = [] := by rw [hx] at hlen; simpa using hlen
  obtain ⟨s1, s2, s3, s4, s5⟩ := dif_digits X Y hY0 hY1 hYX x0 [] hx
  obtain ⟨hx0, _⟩ := head_tail cux 1 x0 [] (ht.trans hx) (by omega)
  have hxd := dg_dig X
  rw [hx] at hxd
  have hxr := hxd.cons.1
  simp only [subl] at s1 s2 s3
  have HM := Lib.hid (make_room (some ⟨gx, 0, none⟩) 1 cux.length 1 w (by omega) (by omega))
  have HR := Lib.hid hR
  have HSub := Lib.hid (fun q => subVV_out (w := (w.drewN q)) (cz := cux.length) (cx := cux.length) (cy := cy) hR (by omega) hx0 hy hxr.1 hxr.2 hY0 hY1)
  rw [s3] at HSub
  have HS1 := Lib.hid s1
  have HS2 := Lib.hid s2
  have HL := Lib.hid hl
  have HL2 := Lib.hid hl2
  obtain ⟨s, hs⟩ : ∃ s, difW x0 Y 0 = s := ⟨_, rfl⟩
  rw [hs] at HSub HS1 HS2
  clear hR hxd hxr hx ht hlen hy hx0 hl2 hY0 hY1 s1 s2 s3 s4 s5 hs hYX
  have hc1 : (1 : Int) ≤ (cux.length : Int) := by omega
  have hc2 : (1 : Int) ≤ (cy : Int) := by omega
  go_enter Try.func75, Try.ntmps75
  go_wp2_with fail
  refine HM.out.mono ?_
  rintro e w1 ⟨rfl, rfl⟩
  rw [show (1 : Int).toNat = 1 from rfl]
  go_wp2_with fail
  go_still_tail 9, (by kernel_rfl)
  change wpList _ _ _ _ _ w.drew
  go_wp2_with fail
  refine (HSub.out 1).mono ?_
  rintro e w2 ⟨rfl, hq1, hq2⟩
  have hq3 : Chg (At gx) w w2 := ⟨hq2.os, hq2.tape, hq2.output, hq2.size, hq2.block⟩
  have HQ1 := Lib.hid hq1
  have HQ2 := Lib.hid (hq3.mono (S' := Own (.slice (some ⟨gx, 0, none⟩) 1 cux.length)) (fun k _ e => by have e : k = gx := e; subst e; rfl))
  clear hq1 hq2 hq3
  go_wp2_with fail
  have hns := norm_fin (w := w) (v := .slice (some ⟨gx, 0, none⟩) 1 cux.length) (m := 1) (row := cux.set 0 s) (l := [s]) HQ1.out (by rw [List.length_set]; exact HL.out) (by rw [List.length_set]; exact HL2.out) (take_one cux s HL.out) HS1.out HS2.out HQ2.out (.inl rfl)
  rw [List.length_set] at hns
  refine hns.mono ?_
  rintro e w3 ⟨v', rfl, h1, h2, h3⟩
  have H1 := Lib.hid h1
  have H2 := Lib.hid h2
  have H3 := Lib.hid h3
  clear h1 h2 h3 hns
  go_wp2
  go_ret
  exact ⟨_, rfl, H1.out, H2.out, H3.out⟩

set_option maxHeartbeats 2000000 in
set_option maxRecDepth 100000 in
theorem sub_many {w : World} {gx gy cy m : Nat} {cux : List Int} {X : Nat} {Y : Int} (hX : 0 < X) (hlen : (dg X).length = m) (hm : 1 < m) (hR : Rw w gx cux) (hl : m ≤ cux.length) (hl2 : cux.length ≤ 1000000) (ht : cux.take m = dg X) (hy : w.cell? ⟨gy, 0, none⟩ = some (.int .u64 Y)) (hne : gy ≠ gx) (hcy : 1 ≤ cy) (hY0 : 0 ≤ Y) (hY1 : Y < (BB : Int)) (hYX : Y ≤ (X : Int)) :
    Calls Try.prog 75 #[.slice (some ⟨gx, 0, none⟩) m cux.length, .slice (some ⟨gx, 0, none⟩) m cux.length, .slice (some ⟨gy, 0, none⟩) 1 cy] w (NtOut w (.slice (some ⟨gx, 0, none⟩) m cux.length) (dg (X - Y.toNat))) := by
  obtain ⟨x0, xs, hx⟩ : ∃ x0 xs, dg X = x0 :: xs := by cases h : dg X with | nil => rw [h] at hlen; simp at hlen; omega | cons a b => exact ⟨a, b, rfl⟩
  have hxl : xs.length = m - 1 := by rw [hx] at hlen; simp at hlen; omega
  obtain ⟨s1, s2, s3, s4, s5⟩ := dif_digits X Y hY0 hY1 hYX x0 xs hx
  obtain ⟨hx0, hxt⟩ := head_tail cux m x0 xs (ht.trans hx) (by omega)
  have hxd := dg_dig X
  rw [hx] at hxd
  have hxr := hxd.cons.1
  have hrl := subl_length xs (difC x0 Y 0)
  rw [hxl] at hrl
  have HM := Lib.hid (make_room (some ⟨gx, 0, none⟩) m cux.length (m : Int) w (by omega) (by omega))
  have HR := Lib.hid hR
  have HSub := Lib.hid (fun q => subVV_out (w := (w.drewN q)) (cz := cux.length) (cx := cux.length) (cy := cy) hR (by omega) hx0 hy hxr.1 hxr.2 hY0 hY1)
  have hxs : ((cux.set 0 (difW x0 Y 0)).drop 1).take (m - 1) = xs := by
    rw [← hxt]
    cases cux with
    | nil => rfl
    | cons a b => rfl
  have HXS := Lib.hid hxs
  have HXD := Lib.hid hxd.cons.2
  obtain ⟨s, hs⟩ : ∃ s, difW x0 Y 0 = s := ⟨_, rfl⟩
  obtain ⟨k, hk⟩ : ∃ s, difC x0 Y 0 = s := ⟨_, rfl⟩
  rw [hk] at HSub s1 s2 s3 s4 s5 hrl
  rw [hs] at HSub s1 s2 HXS
  have HS1 := Lib.hid s1
  have HS2 := Lib.hid s2
  have HS3 := Lib.hid s3
  have HS4 := Lib.hid s4
  have HS5 := Lib.hid s5
  obtain ⟨R, hRR⟩ : ∃ R, (subl xs k).1 = R := ⟨_, rfl⟩
  rw [hRR] at HS1 HS2 hrl
  have HRR := Lib.hid hRR
  have HRL := Lib.hid hrl
  have HL := Lib.hid hl
  have HL2 := Lib.hid hl2
  clear hR hxd hxr hx ht hlen hy hx0 hxt hl2 hY0 hY1 s1 s2 s3 s4 s5 hs hk hrl hRR hYX hxs hxl
  have hc1 : (1 : Int) ≤ (cux.length : Int) := by omega
  have hc2 : (1 : Int) ≤ (cy : Int) := by omega
  have hm0 : ((m : Int) == 0) = false := by rw [beq_eq_false_iff_ne]; omega
  have hm1 : (1 : Int) < (m : Int) := by omega
  have hm2 : (1 : Int) ≤ (m : Int) := by omega
  have hm3 : (m : Int) ≤ (cux.length : Int) := by omega
  have q1 : ¬ cux.length = 1 := by omega
  go_enter Try.func75, Try.ntmps75
  go_wp2_with fail
  refine HM.out.mono ?_
  rintro e w1 ⟨rfl, rfl⟩
  rw [Int.toNat_natCast]
  go_wp2_with fail
  go_still_tail 9, (by kernel_rfl)
  change wpList _ _ _ _ _ w.drew
  go_wp2_with fail
  refine (HSub.out 1).mono ?_
  rintro e w2 ⟨rfl, hq1, hq2⟩
  have hq3 : Chg (At gx) w w2 := ⟨hq2.os, hq2.tape, hq2.output, hq2.size, hq2.block⟩
  have hq4 : Chg (Own (.slice (some ⟨gx, 0, none⟩) m cux.length)) w w2 := hq3.mono (fun k _ e => by have e : k = gx := e; subst e; rfl)
  have HQ2 := Lib.hid hq4
  have hcw := subVW_same gx 1 (m - 1) (cux.length - 1) (cux.length - 1) (cux.set 0 s) k w2.drew hq1.drew (by omega) (by rw [List.length_set]; have := HL.out; omega) (by rw [List.length_set]; exact HL2.out) (by rw [HXS.out]; exact HXD.out) HS4.out HS5.out
  rw [HXS.out, HRR.out, HS3.out] at hcw
  have HCW := Lib.hid hcw
  clear hq1 hq2 hq3 hq4 hcw
  go_wp2_with fail
  go_still_tail 7, (by kernel_rfl)
  change wpList _ _ _ _ _ w2.drew
  go_wp2_with fail
  refine HCW.out.mono ?_
  rintro e w3 ⟨rfl, hq3, hq4⟩
  have hll : (lay (cux.set 0 s) 1 (m - 1) R).length = cux.length := by rw [lay_length _ _ _ _ (by have := HRL.out; omega) (by rw [List.length_set]; have := HL.out; omega), List.length_set]
  have hq5 : Chg (Own (.slice (some ⟨gx, 0, none⟩) m cux.length)) w w3 := HQ2.out.drew.trans hq4 (fun k _ e => by have e : k = gx := e; subst e; rfl)
  have hns := norm_fin (w := w) (v := .slice (some ⟨gx, 0, none⟩) m cux.length) (m := m) (row := lay (cux.set 0 s) 1 (m - 1) R) (l := s :: R) hq3 (by rw [hll]; exact HL.out) (by rw [hll]; exact HL2.out) (row_take cux m s R (by omega) HL.out HRL.out) HS1.out HS2.out hq5 (.inl rfl)
  rw [hll] at hns
  have HNS := Lib.hid hns
  clear hq3 hq4 hns hll hq5
  go_wp2_with fail
  refine HNS.out.mono ?_
  rintro e w4 ⟨v', rfl, h1, h2, h3⟩
  have H1 := Lib.hid h1
  have H2 := Lib.hid h2
  have H3 := Lib.hid h3
  clear h1 h2 h3
  go_wp2
  go_ret
  exact ⟨_, rfl, H1.out, H2.out, H3.out⟩

/-- nat.sub: z.sub(z, y), y of at most one word, not greater. -/
theorem sub_any {w : World} {v u : Value} {X Y : Nat} (h : Nt w v (dg X)) (hu : Nt w u (dg Y)) (ha : Ap v u) (hY : Y < BB) (hYX : Y ≤ X) : Calls Try.prog 75 #[v, v, u] w (NtOut w v (dg (X - Y))) := by
  by_cases hY0 : Y = 0
  · subst hY0
    rw [dg_zero] at hu
    rw [Nat.sub_zero]
    obtain ⟨B, d, rfl, _⟩ := hu.slice
    by_cases hX0 : X = 0
    · subst hX0
      rw [dg_zero] at h ⊢
      exact sub_00 h B d
    · exact sub_10 h (dg_len_pos (by omega)) B d
  · have hy1 := dg_one (n := Y) (by omega) hY
    rcases h with ⟨_, h1⟩ | ⟨gx, cux, rfl, h1, h2, h3, h4⟩
    · exact absurd (dg_nil.1 h1) (by omega)
    · rcases hu with ⟨_, h5⟩ | ⟨gy, cuy, rfl, h5, h6, h7, h8⟩
      · exact absurd (dg_nil.1 h5) hY0
      · rw [hy1] at h6 h7 ⊢
        have hc := h5.cell 0 (by simp at h6; omega)
        have hcy : cuy.getD 0 0 = (Y : Int) := by
          cases cuy with
          | nil => simp at h6
          | cons a b => simp at h7; simp [h7]
        rw [hcy] at hc
        have hne : gy ≠ gx := fun e => ha gx rfl (by rw [e]; rfl)
        have e1 : ([(Y : Int)] : List Int).length = 1 := rfl
        rw [e1]
        by_cases hm : (dg X).length = 1
        · have := sub_one (w := w) (gx := gx) (gy := gy) (cy := cuy.length) (cux := cux) (X := X) (Y := (Y : Int)) (by omega) hm h1 (by omega) h4 (by rw [← hm]; exact h3) hc hne (by simp at h6; omega) (by omega) (by exact_mod_cast hY) (by omega)
          rw [Int.toNat_natCast] at this
          rw [hm]
          exact this
        · have hp := dg_len_pos (n := X) (by omega)
          have := sub_many (w := w) (gx := gx) (gy := gy) (cy := cuy.length) (m := (dg X).length) (cux := cux) (X := X) (Y := (Y : Int)) (by omega) rfl (by omega) h1 h2 h4 h3 hc hne (by simp at h6; omega) (by omega) (by exact_mod_cast hY) (by omega)
          rw [Int.toNat_natCast] at this
          exact this
end Go.Proofs.Ythckboojmljeiaa.Sd
