/- Memory: blocks of words, numbers (nat) and Ints at pointers. -/
import Derived.Test.YthckboojmljeiaaProg
import Derived.Test.YthckboojmljeiaaDg
import Derived.Test.YthckboojmljeiaaWNEv
import Derived.WalkKit
import Derived.WalkSpells
import Derived.WalkLawsBesides
import Derived.Below
import Derived.KernelRfl
import Derived.IntWalk
import Derived.Outline
import Derived.BigQuiet
import Derived.Deep.QuietTactic
import Derived.LoopTactic
import Derived.Lib.Hide
import Derived.StillTailTactics
import Derived.Laws.OwnMore
import Derived.Laws.MakeOwn
import Derived.Laws.CopyOwn
namespace Go.Proofs.Ythckboojmljeiaa.Mem
set_option linter.unusedVariables false
set_option linter.unusedSimpArgs false
open Go.RowKit Go.Proofs.YthckboojmljeiaaW.PrintWords Go.Proofs.Ythckboojmljeiaa.Pl Go.Proofs.Ythckboojmljeiaa.Dg

/-! ### 1. Frames -/
/-- Of what was there only blocks in S have turned. -/
structure Chg (S : Nat → Prop) (w w' : World) : Prop where
  os : w'.os = w.os
  tape : w'.tape = w.tape
  output : w'.output = w.output
  size : w.heap.size ≤ w'.heap.size
  block : ∀ k, k < w.heap.size → ¬ S k → w'.heap[k]? = w.heap[k]?
variable {S S' : Nat → Prop} {w w' w1 w2 : World}
theorem Chg.refl (S : Nat → Prop) (w : World) : Chg S w w := ⟨rfl, rfl, rfl, Nat.le_refl _, fun _ _ _ => rfl⟩
theorem Chg.mono (h : Chg S w w') (hs : ∀ k, k < w.heap.size → S k → S' k) : Chg S' w w' := ⟨h.os, h.tape, h.output, h.size, fun k hk hn => h.block k hk (fun h1 => hn (hs k hk h1))⟩
/-- Two steps; the second may turn what the first made. -/
theorem Chg.trans (h : Chg S w w1) (h2 : Chg S' w1 w2) (hs : ∀ k, k < w.heap.size → S' k → S k) : Chg S w w2 :=
  ⟨h2.os.trans h.os, h2.tape.trans h.tape, h2.output.trans h.output, Nat.le_trans h.size h2.size, fun k hk hn => (h2.block k (Nat.lt_of_lt_of_le hk h.size) (fun h1 => hn (hs k hk h1))).trans (h.block k hk hn)⟩
theorem Chg.alloc (h : Chg S w w1) (o : Obj) : Chg S w (w1.alloc o) :=
  h.trans (S' := fun _ => False) ⟨rfl, rfl, rfl, by simp, fun k hk _ => Below.heap_alloc _ _ _ hk⟩ (fun _ _ h => h.elim)
theorem Chg.drew (h : Chg S w w1) : Chg S w w1.drew := ⟨h.os, h.tape, h.output, h.size, h.block⟩
theorem Chg.drewN (h : Chg S w w1) (n : Nat) : Chg S w (w1.drewN n) := ⟨h.os, h.tape, h.output, h.size, h.block⟩
theorem Chg.set (h : Chg S w w1) (g o : Nat) (u : Value) (hg : S g ∨ w.heap.size ≤ g) : Chg S w (w1.setCell ⟨g, o, none⟩ u) :=
  h.trans (S' := fun k => k = g) ⟨rfl, rfl, rfl, by simp [World.setCell], fun k hk hn => Below.heap_setCell _ _ _ _ hn⟩ (fun k hk e => by subst e; rcases hg with hg | hg; exact hg; omega)
theorem Chg.setRow (h : Chg S w w1) (g : Nat) (cs : Array Value) (hg : S g ∨ w.heap.size ≤ g) : Chg S w (w1.setRow g cs) :=
  h.trans (S' := fun k => k = g) ⟨rfl, rfl, rfl, by simp [World.setRow], fun k hk hn => setRow_other _ _ _ _ hn⟩ (fun k hk e => by subst e; rcases hg with hg | hg; exact hg; omega)
theorem Chg.below (h : Chg (fun _ => False) w w') : Below w.heap.size w w' := ⟨h.os, h.tape, h.output, h.size, fun k hk => h.block k hk (fun h => h)⟩
theorem Chg.of_below (h : Below w.heap.size w w') : Chg S w w' := ⟨h.os, h.tape, h.output, h.size, fun k hk _ => h.block k hk⟩
theorem Chg.of_drn {q : Nat} (h : w' = w.drewN q) : Chg S w w' := by subst h; exact (Chg.refl S w).drewN q
/-- What lies from B on may turn; below B all is as it was. -/
theorem Chg.toBelow {B : Nat} (h : Chg S w w') (hs : ∀ k, S k → B ≤ k) (hB : B ≤ w.heap.size) : Below B w w' :=
  ⟨h.os, h.tape, h.output, h.size, fun k hk => h.block k (by omega) (fun h1 => by have := hs k h1; omega)⟩
theorem Chg.cell (h : Chg S w w') {g o : Nat} {v : Value} (hc : w.cell? ⟨g, o, none⟩ = some v) (hg : ¬ S g) : w'.cell? ⟨g, o, none⟩ = some v :=
  (World.cell?_of_block (w := w) (h.block g (World.block_lt_of_cell? w _ hc) hg)).trans hc

/-! ### 2. A block of words -/
/-- Block g is a row of words: all of it. -/
def Rw (w : World) (g : Nat) (cur : List Int) : Prop := w.heap[g]? = some (.cells (cur.map (Value.int .u64)).toArray 74 (0, 0))
variable {g : Nat} {cur : List Int}
theorem Rw.lt (h : Rw w g cur) : g < w.heap.size := (Array.getElem?_eq_some_iff.1 h).1
theorem Rw.cell (h : Rw w g cur) (i : Nat) (hi : i < cur.length) : w.cell? ⟨g, i, none⟩ = some (.int .u64 (cur.getD i 0)) := by
  rw [cell_of_row w g i _ 74 (0, 0) h]
  simp [List.getElem?_eq_getElem hi, List.getD_eq_getElem?_getD]
theorem Rw.has (h : Rw w g cur) (i : Nat) (hi : i < cur.length) : ∃ v, w.cell? ⟨g, i, none⟩ = some (.int .u64 v) := ⟨_, h.cell i hi⟩
theorem Rw.free (h : Rw w g cur) (i : Nat) : w.frozen? ⟨g, i, none⟩ = false := frozen_of_row w g i _ 74 h
theorem Rw.put (h : Rw w g cur) (i : Nat) (x : Int) : Rw (w.setCell ⟨g, i, none⟩ (.int .u64 x)) g (cur.set i x) := by
  unfold Rw
  rw [heap_setCell_same w g i _ 74 _ h]
  simp [List.map_set]
theorem Rw.kept (h : Rw w g cur) (hc : Chg S w w') (hg : ¬ S g) : Rw w' g cur := (hc.block g h.lt hg).trans h
theorem Rw.setOther (h : Rw w g cur) (g' o : Nat) (u : Value) (hg : g ≠ g') : Rw (w.setCell ⟨g', o, none⟩ u) g cur := (Below.heap_setCell w ⟨g', o, none⟩ u g hg).trans h
theorem Rw.alloc (h : Rw w g cur) (o : Obj) : Rw (w.alloc o) g cur := (Below.heap_alloc w o g h.lt).trans h
theorem Rw.drew (h : Rw w g cur) : Rw w.drew g cur := h
theorem Rw.drewN (h : Rw w g cur) (n : Nat) : Rw (w.drewN n) g cur := h
theorem Rw.made (w : World) (c : Nat) : Rw (w.alloc (.cells (madeCells #[.int .u64 0] c) 74)) w.heap.size (List.replicate c 0) := by
  unfold Rw
  rw [heap_alloc_new]
  congr 1
  have : madeCells #[.int .u64 0] c = ((List.replicate c (0 : Int)).map (Value.int .u64)).toArray := by
    apply Array.toList_inj.1
    rw [toList_madeCells_one]
    simp
  rw [this]
theorem Rw.row (h : Rw w g cur) (new : List Int) : Rw (w.setRow g (new.map (Value.int .u64)).toArray) g new := setRow_heap w g _ _ 74 (0, 0) h
theorem Rw.inj (h : Rw w g cur) {cur' : List Int} (h' : Rw w g cur') : cur = cur' := by
  unfold Rw at h h'
  rw [h] at h'
  injection h' with h'
  injection h' with h1
  have h2 := congrArg Array.toList h1
  simp only at h2
  have : ∀ a b : List Int, a.map (Value.int .u64) = b.map (Value.int .u64) → a = b := by
    intro a
    induction a with
    | nil => intro b hb; cases b with | nil => rfl | cons y b => cases hb
    | cons x a ih =>
      intro b hb
      cases b with
      | nil => cases hb
      | cons y b =>
        simp only [List.map_cons, List.cons.injEq, Value.int.injEq, true_and] at hb
        rw [hb.1, ih b hb.2]
  exact this _ _ h2

/-! ### 3. A nat -/
/-- v is a nat that holds the words l. -/
def Nt (w : World) (v : Value) (l : List Int) : Prop :=
  (v = .slice none 0 0 ∧ l = []) ∨ ∃ g cur, v = .slice (some ⟨g, 0, none⟩) l.length cur.length ∧ Rw w g cur ∧ l.length ≤ cur.length ∧ cur.take l.length = l ∧ cur.length ≤ 1000000
theorem Nt.kept {v : Value} {l : List Int} (h : Nt w v l) (hc : Chg S w w') (hv : ∀ g, v.ownBlock = some g → ¬ S g) : Nt w' v l := by
  rcases h with h | ⟨g, cur, rfl, h1, h2⟩
  · exact .inl h
  · exact .inr ⟨g, cur, rfl, h1.kept hc (hv g rfl), h2⟩
theorem Nt.drewN {v : Value} {l : List Int} (h : Nt w v l) (n : Nat) : Nt (w.drewN n) v l := h
theorem Nt.lt {v : Value} {l : List Int} (h : Nt w v l) : ∀ g, v.ownBlock = some g → g < w.heap.size := by
  intro g hg
  rcases h with ⟨rfl, _⟩ | ⟨g', cur, rfl, h1, h2⟩
  · cases hg
  · cases hg; exact h1.lt
theorem Nt.slice {v : Value} {l : List Int} (h : Nt w v l) : ∃ A c, v = .slice A l.length c ∧ l.length ≤ c ∧ (c : Int) ≤ 1000000 := by
  rcases h with ⟨rfl, rfl⟩ | ⟨g', cur, rfl, h1, h2, h3, h4⟩
  · exact ⟨none, 0, rfl, Nat.le_refl _, by decide⟩
  · exact ⟨_, _, rfl, h2, by omega⟩
theorem Nt.cells {v : Value} {l : List Int} (h : Nt w v l) {g n c : Nat} (hv : v = .slice (some ⟨g, 0, none⟩) n c) : ∀ j, j < l.length → w.cell? ⟨g, j, none⟩ = some (.int .u64 (l.getD j 0)) := by
  intro j hj
  rcases h with ⟨rfl, rfl⟩ | ⟨g', cur, rfl, h1, h2, h3, h4⟩
  · cases hv
  · simp only [Value.slice.injEq, Option.some.injEq, Addr.mk.injEq, and_true] at hv
    obtain ⟨rfl, _, _⟩ := hv
    rw [h1.cell j (by omega), ← h3, List.getD_eq_getElem?_getD, List.getD_eq_getElem?_getD, List.getElem?_take, if_pos (by omega)]
/-- As the printed contracts read it. -/
theorem Nt.c {v : Value} {l : List Int} (h : Nt w v l) : ∃ A c, v = .slice A l.length c ∧ l.length ≤ c ∧ Kd.C (Kd.int .u64) w A l.length l := by
  rcases h with ⟨rfl, rfl⟩ | ⟨g, cur, rfl, h1, h2, h3, h4⟩
  · exact ⟨none, 0, rfl, Nat.le_refl _, Kd.C_nil _ _⟩
  · refine ⟨_, _, rfl, h2, Kd.C_of_reads (h1 := fun _ => rfl) (d := (0 : Int)) ⟨rfl, by omega, fun _ => ⟨_, rfl, fun j hj => ?_⟩⟩⟩
    rw [add_plain]
    exact Nt.cells (.inr ⟨g, cur, rfl, h1, h2, h3, h4⟩) rfl j hj

/-! ### 4. An Int -/
/-- At block p lies an Int: its sign, its nat v that holds l. -/
def It (w : World) (p : Nat) (v : Value) (neg : Bool) (l : List Int) : Prop := w.heap[p]? = some (.cells #[.bool neg, v] 64 (0, 0)) ∧ Nt w v l
variable {p : Nat} {v : Value} {neg : Bool} {l : List Int}
theorem It.lt (h : It w p v neg l) : p < w.heap.size := (Array.getElem?_eq_some_iff.1 h.1).1
theorem It.neg0 (h : It w p v neg l) : w.cell? ⟨p, 0, none⟩ = some (.bool neg) := by rw [cell_of_row w p 0 _ 64 (0, 0) h.1]; rfl
theorem It.abs1 (h : It w p v neg l) : w.cell? ⟨p, 1, none⟩ = some v := by rw [cell_of_row w p 1 _ 64 (0, 0) h.1]; rfl
theorem It.free (h : It w p v neg l) (i : Nat) : w.frozen? ⟨p, i, none⟩ = false := frozen_of_row w p i _ 64 h.1
theorem It.ne (h : It w p v neg l) : v.ownBlock ≠ some p := by
  intro e
  rcases h.2 with ⟨rfl, _⟩ | ⟨g, cur, rfl, h1, _⟩
  · cases e
  · cases e
    have h2 := h.1
    rw [h1] at h2
    injection h2 with h2
    injection h2 with _ h3
    cases h3
theorem It.ne_row (h : It w p v neg l) {g : Nat} {cur : List Int} (h1 : Rw w g cur) : g ≠ p := by
  rintro rfl
  have h2 := h.1
  rw [h1] at h2
  injection h2 with h2
  injection h2 with _ h3
  cases h3
theorem It.ne_nat (h : It w p v neg l) {v' : Value} {l' : List Int} (h1 : Nt w v' l') : v'.ownBlock ≠ some p := by
  intro e
  rcases h1 with ⟨rfl, _⟩ | ⟨g, cur, rfl, h1, _⟩
  · cases e
  · cases e
    exact h.ne_row h1 rfl
theorem It.kept (h : It w p v neg l) (hc : Chg S w w') (hp : ¬ S p) (hv : ∀ g, v.ownBlock = some g → ¬ S g) : It w' p v neg l := ⟨(hc.block p h.lt hp).trans h.1, h.2.kept hc hv⟩
theorem It.drewN (h : It w p v neg l) (n : Nat) : It (w.drewN n) p v neg l := h
theorem It.drew (h : It w p v neg l) : It w.drew p v neg l := h
/-- A new nat is laid in. -/
theorem It.lay (h1 : w.heap[p]? = some (.cells #[.bool neg, v] 64 (0, 0))) {v' : Value} {l' : List Int} (h2 : Nt w v' l') (hne : v'.ownBlock ≠ some p) : It (w.setCell ⟨p, 1, none⟩ v') p v' neg l' := by
  refine ⟨?_, ?_⟩
  · rw [heap_setCell_same w p 1 _ 64 _ h1]
    rfl
  · refine h2.kept (S := fun k => k = p) ((Chg.refl _ _).set p 1 v' (.inl rfl)) (fun g hg e => hne (by rw [hg, e]))
/-- A new sign is laid in. -/
theorem It.sign (h : It w p v neg l) (b : Bool) : It (w.setCell ⟨p, 0, none⟩ (.bool b)) p v b l := by
  refine ⟨?_, ?_⟩
  · rw [heap_setCell_same w p 0 _ 64 _ h.1]
    rfl
  · exact h.2.kept (S := fun k => k = p) ((Chg.refl _ _).set p 0 (.bool b) (.inl rfl)) (fun g hg e => h.ne (by rw [hg, e]))
/-- A new one. -/
theorem It.made (w : World) : It (w.alloc (.cells #[.bool false, .slice none 0 0] 64)) w.heap.size (.slice none 0 0) false [] := ⟨heap_alloc_new w _, .inl ⟨rfl, rfl⟩⟩

/-- The Int at p is the whole number z. -/
def Iz (w : World) (p : Nat) (v : Value) (z : Int) : Prop := It w p v (decide (z < 0)) (dg z.natAbs)
/-- Where the new nat lies: where the old one lay, or in new memory. -/
def Fr (w : World) (v v' : Value) : Prop := v'.ownBlock = v.ownBlock ∨ ∃ b, v'.ownBlock = some b ∧ w.heap.size ≤ b
theorem Fr.refl (w : World) (v : Value) : Fr w v v := .inl rfl
/-- What an operation on the Int at p leaves. -/
def Upd (w : World) (p : Nat) (v : Value) (z : Int) (w' : World) : Prop := ∃ v', Iz w' p v' z ∧ Chg (fun k => k = p ∨ v.ownBlock = some k) w w' ∧ Fr w v v'
/-- Two values whose memory is apart. -/
def Ap (v v' : Value) : Prop := ∀ g, v.ownBlock = some g → v'.ownBlock ≠ some g
theorem Ap.symm {v v' : Value} (h : Ap v v') : Ap v' v := fun g h1 h2 => h g h2 h1
theorem Ap.nil (v : Value) : Ap (.slice none 0 0) v := fun g h => by cases h
theorem Ap.fr {v v' u : Value} (h : Ap v u) (hf : Fr w v v') (hu : ∀ g, u.ownBlock = some g → g < w.heap.size) : Ap v' u := by
  intro g h1 h2
  rcases hf with hf | ⟨b, hb, hl⟩
  · exact h g (by rw [← hf]; exact h1) h2
  · rw [hb] at h1
    cases h1
    have := hu _ h2
    omega
end Go.Proofs.Ythckboojmljeiaa.Mem
