/- Two Ints that were made anew and lie apart. -/
import Derived.Test.YthckboojmljeiaaIn
namespace Go.Proofs.Ythckboojmljeiaa.Tw
set_option linter.unusedVariables false
set_option linter.unusedSimpArgs false
open Go.RowKit Go.Proofs.YthckboojmljeiaaW.PrintWords Go.Proofs.Ythckboojmljeiaa.Pl Go.Proofs.Ythckboojmljeiaa.Dg Go.Proofs.Ythckboojmljeiaa.Mem Go.Proofs.Ythckboojmljeiaa.Na Go.Proofs.Ythckboojmljeiaa.Nb Go.Proofs.Ythckboojmljeiaa.Nu Go.Proofs.Ythckboojmljeiaa.In

structure Two (w wr : World) (p q : Nat) (v u : Value) (z y : Int) : Prop where
  iz : Iz wr p v z
  iq : Iz wr q u y
  ap : Ap v u
  ne : p ≠ q
  below : Below w.heap.size w wr
  np : w.heap.size ≤ p
  nq : w.heap.size ≤ q
  nv : ∀ g, v.ownBlock = some g → w.heap.size ≤ g
  nu : ∀ g, u.ownBlock = some g → w.heap.size ≤ g
variable {w wr w2 : World} {p q : Nat} {v u : Value} {z y x : Int}
theorem Two.swap (h : Two w wr p q v u z y) : Two w wr q p u v y z := ⟨h.iq, h.iz, h.ap.symm, fun e => h.ne e.symm, h.below, h.nq, h.np, h.nu, h.nv⟩
theorem Two.updP (h : Two w wr p q v u z y) (hu : Upd wr p v x w2) : ∃ v', Two w w2 p q v' u x y := by
  obtain ⟨v', h1, h2, h3⟩ := hu
  have hlu : ∀ g, u.ownBlock = some g → g < wr.heap.size := fun g hg => Nt.lt h.iq.2 g hg
  refine ⟨v', h1, iz_kept (z := z) h.iq h2 (fun e => h.ne e.symm) (h.iq.ne_nat h.iz.2) h.ap (h.iz.ne_nat h.iq.2), h.ap.fr h3 hlu, h.ne, below_chg h.below h2 ?_, h.np, h.nq, ?_, h.nu⟩
  · rintro k (rfl | hk)
    · exact h.np
    · exact h.nv k hk
  · intro g hg
    rcases h3 with h3 | ⟨b, hb, hl⟩
    · exact h.nv g (by rw [← h3]; exact hg)
    · rw [hb] at hg
      cases hg
      exact Nat.le_trans h.below.size hl
theorem Two.updQ (h : Two w wr p q v u z y) (hu : Upd wr q u x w2) : ∃ u', Two w w2 p q v u' z x := by
  obtain ⟨u', h1⟩ := h.swap.updP hu
  exact ⟨u', h1.swap⟩
theorem Two.drewN (h : Two w wr p q v u z y) (k : Nat) : Two w (wr.drewN k) p q v u z y := ⟨h.iz, h.iq, h.ap, h.ne, pw_below_drewN h.below k, h.np, h.nq, h.nv, h.nu⟩
/-- Two new Ints. -/
theorem Two.made (w : World) : Two w ((w.alloc (.cells #[.bool false, .slice none 0 0] 64)).alloc (.cells #[.bool false, .slice none 0 0] 64)) w.heap.size (w.heap.size + 1) (.slice none 0 0) (.slice none 0 0) 0 0 := by
  have h1 := iz_made w
  have h2 := iz_made (w.alloc (.cells #[.bool false, .slice none 0 0] 64))
  have hs : (w.alloc (.cells #[.bool false, .slice none 0 0] 64)).heap.size = w.heap.size + 1 := by simp
  rw [hs] at h2
  refine ⟨?_, h2, Ap.nil _, by omega, ?_, Nat.le_refl _, by omega, (fun g h => by cases h), (fun g h => by cases h)⟩
  · exact It.kept h1 (S := fun _ => False) ((Chg.refl _ _).alloc _) (fun h => h) (fun g h => by cases h)
  · exact ((Below.refl _ _).alloc (Nat.le_refl _) _).alloc (by simp) _
end Go.Proofs.Ythckboojmljeiaa.Tw
