/-
  The clones, by induction: over the depth of the table, then over the depth of the tree.
-/
import Derived.Test.YbulkavsoSbranch
import Derived.Test.YbulkavsoNgo2
namespace Go.Proofs.Ybulkavso
open Go.RowKit

theorem sclone_law (n : Nat) (hc : CloneLaw n) : ScloneLaw n := by
  intro m
  induction m with
  | zero => intro w b o S F Rt Fk p0 s1 p2 hT; exact hT.elim
  | succ m ih =>
    intro w b o S F Rt Fk p0 s1 p2 hT hF hk c0 c1 c2
    rcases hT with ⟨s, c, ⟨l0, l1, l2⟩, hS⟩ | ⟨bb, ab, k, pos, P, lo, ch, Sf, Ff, ⟨l0, l1, l2⟩, hb, ⟨cs, ha, hcs⟩, fb, fa, hne, hk2, hp, hPk, hTf, h1, h2, h3, h4, h5⟩
    · rw [l0] at c0
      rw [l1] at c1
      rw [l2] at c2
      cases c0
      cases c1
      cases c2
      have hx := hk _ _ ((hS _ _).2 ⟨rfl, rfl⟩)
      exact sclone_leaf n m hc _ _ w S Rt _ hS hx.1 hx.2
    · rw [l0] at c0
      rw [l1] at c1
      rw [l2] at c2
      cases c0
      cases c1
      cases c2
      refine sclone_branch n m bb ab k pos P lo ch Sf S Rt cs w hb ha hcs hk2 hPk.small hp hPk h3 h4 h5 (fun i hi => ?_)
      obtain ⟨p0, s1, p2, a0, a1, a2⟩ := (hTf i hi).slot
      have hcell : ∀ j, w.cell? ⟨ab, j, none⟩ = cs[j]? := fun j => by simp [World.cell?, ha]
      refine ⟨p0, s1, p2, by rw [← hcell]; exact a0, by rw [← hcell]; exact a1, by rw [← hcell]; exact a2, fun w2 hb2 => ?_⟩
      have habl : ab < w.heap.size := (Array.getElem?_eq_some_iff.1 ha).1
      have hbk := hb2.block ab habl
      exact ih w2 ab (3 * i) (Sf i) (Ff i) Rt Fk p0 s1 p2 (Tri.move m (hTf i hi) (fun j _ => cell_block hbk _) (fun x hx => hb2.block x (hF x (h1 i x hi hx).1)))
        (fun x hx => Nat.lt_of_lt_of_le (hF x (h1 i x hi hx).1) hb2.size)
        (fun t c ht => ⟨NodeT.move n (hk t c ((h3 t c).2 ⟨i, hi, ht⟩)).1 (fun x hx => hb2.block x ((hk t c ((h3 t c).2 ⟨i, hi, ht⟩)).2 x hx)), fun x hx => Nat.lt_of_lt_of_le ((hk t c ((h3 t c).2 ⟨i, hi, ht⟩)).2 x hx) hb2.size⟩)
        ((cell_block hbk _).trans a0) ((cell_block hbk _).trans a1) ((cell_block hbk _).trans a2)

theorem clone_law : ∀ n, CloneLaw n := by
  intro n
  induction n with
  | zero => intro w b R F hT; exact hT.elim
  | succ n ih => exact clone_step n ih (sclone_law n ih)

end Go.Proofs.Ybulkavso
