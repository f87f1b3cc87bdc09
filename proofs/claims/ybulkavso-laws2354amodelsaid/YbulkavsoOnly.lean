/-
  The blocks of a tree that are cells: they are all it needs. No program here, only worlds.
-/
import Derived.Test.YbulkavsoWay
namespace Go.Proofs.Ybulkavso
open Go.RowKit

/-- Block x holds cells. -/
def IsC (w : World) (x : Nat) : Prop := ∃ (cs : Array Value) (t : Nat), w.heap[x]? = some (.cells cs t)

theorem IsC.lt {w : World} {x : Nat} (h : IsC w x) : x < w.heap.size := by
  obtain ⟨cs, t, h⟩ := h
  exact (Array.getElem?_eq_some_iff.1 h).1

theorem IsC.move {w w' : World} {x : Nat} (h : IsC w x) (hk : w'.heap[x]? = w.heap[x]?) : IsC w' x := by
  obtain ⟨cs, t, h⟩ := h
  exact ⟨cs, t, hk.trans h⟩

theorem Tri.only : ∀ (n : Nat) {w : World} {b o : Nat} {S : ByteArray → Nat → Prop} {F : Nat → Prop}, Tri n w b o S F → Tri n w b o S (fun x => F x ∧ IsC w x) := by
  intro n
  induction n with
  | zero => intro w b o S F h; exact h.elim
  | succ n ih =>
    intro w b o S F h
    rcases h with h | ⟨bb, ab, k, pos, P, lo, ch, Sf, Ff, hs, hb, ⟨cs, ha, hcs⟩, fb, fa, hne, hk, hp, hP, hT, h1, h2, h3, h4, h5⟩
    · exact .inl h
    · exact .inr ⟨bb, ab, k, pos, P, lo, ch, Sf, fun i x => Ff i x ∧ IsC w x, hs, hb, ⟨cs, ha, hcs⟩, ⟨fb, _, _, hb⟩, ⟨fa, _, _, ha⟩, hne, hk, hp, hP, fun i hi => ih (hT i hi),
        fun i x hi hx => ⟨⟨(h1 i x hi hx.1).1, hx.2⟩, (h1 i x hi hx.1).2⟩, fun i j x hi hj hx hx' => h2 i j x hi hj hx.1 hx'.1, h3, h4, h5⟩

theorem NodeT.only : ∀ (n : Nat) {w : World} {b : Nat} {R : Tell} {F : Nat → Prop}, NodeT n w b R F → NodeT n w b R (fun x => F x ∧ IsC w x) := by
  intro n
  induction n with
  | zero => intro w b R F h; exact h.elim
  | succ n ih =>
    intro w b R F ⟨Ch, Fk, F0, ⟨f0, sp, pp, cp, g1, g2, g3, g4, g5⟩, h2, h3, h4, h5, h6, h7⟩
    refine ⟨Ch, fun k x => Fk k x ∧ IsC w x, fun x => F0 x ∧ IsC w x, ⟨⟨f0, _, _, g1⟩, sp, pp, cp, g1, g2, g3, g4, ?_⟩, h2, fun k d hk => ih (h3 k d hk), h4, fun x hx => ⟨h5 x hx.1, hx.2⟩,
      fun k d x hk hx => ⟨⟨(h6 k d x hk hx.1).1, hx.2⟩, fun e => (h6 k d x hk hx.1).2 e.1⟩, fun k k' d d' x hd hd' hx hx' => h7 k k' d d' x hd hd' hx.1 hx'.1⟩
    rcases g5 with g5 | ⟨tb, m, Ft, e1, ⟨cs, e2⟩, e3, e4, e5, e6, e7⟩
    · exact .inl g5
    · exact .inr ⟨tb, m, fun x => Ft x ∧ IsC w x, e1, ⟨cs, e2⟩, Tri.only m e3, fun e => e4 e.1, ⟨e5, _, _, e2⟩, e6, fun x hx => ⟨⟨(e7 x hx.1).1, hx.2⟩, (e7 x hx.1).2⟩⟩

end Go.Proofs.Ybulkavso
