/-
  What a walk down a tree of the router leaves, and the route set there. No program here, only worlds.
-/
import Derived.Test.YbulkavsoRout
namespace Go.Proofs.Ybulkavso
open Go.RowKit

/-- What the tree tells, r at k. -/
def supd (R : Tell) (k : List Key) (r : Nat) : Tell := fun q => if q = k then some r else R q

theorem WalkOk.cell {W w' : World} {b d : Nat} {R : Tell} {F : Nat → Prop} {p : List Key} (h : WalkOk W w' b R F p d) : ∃ u1 u2 u3, w'.heap[d]? = some (.cells #[ptrO (R p), u1, u2, u3] 54) := by
  obtain ⟨_, F', nd, Fd, _, hat⟩ := h
  obtain ⟨_, sp, pp, cp, hc⟩ := hat.2.1.cells
  simp only [List.append_nil] at hc
  exact ⟨_, _, _, hc⟩

theorem WalkOk.set {W w' : World} {b d : Nat} {R : Tell} {F : Nat → Prop} {p : List Key} (h : WalkOk W w' b R F p d) (r : Nat) :
    Upd W (w'.setCell ⟨d, 0, none⟩ (.pointer (some ⟨r, 0, none⟩))) F ∧ ∃ n Fm, NodeT n (w'.setCell ⟨d, 0, none⟩ (.pointer (some ⟨r, 0, none⟩))) b (supd R p r) Fm ∧ ∀ x, Fm x → F x ∨ New W (w'.setCell ⟨d, 0, none⟩ (.pointer (some ⟨r, 0, none⟩))) x := by
  obtain ⟨hu, F', nd, Fd, hF', hat⟩ := h
  obtain ⟨hd, _⟩ := hat.2.1.cells
  have hu4 : Upd w' (w'.setCell ⟨d, 0, none⟩ (.pointer (some ⟨r, 0, none⟩))) Fd :=
    ⟨rfl, rfl, rfl, by simp, fun x _ hx => heap_set_other _ (fun e => hx (e ▸ hd))⟩
  obtain ⟨m, hm⟩ := hat.2.2 _ nd (supd R p r) Fd hu4 (NodeT.setRoute hat.2.1 (some r) (by simp [supd]) (fun k q => by simp [supd])) (fun x hx => .inl hx) (fun q hq => by
    have := hq []
    simp only [List.append_nil] at this
    simp [supd, this])
  refine ⟨hu.trans hu4 (fun x hx => hF' x (hat.1 x hx)), m, _, hm, ?_⟩
  rintro x (hx | hx)
  · rcases hF' x hx with e | e
    · exact .inl e
    · exact .inr ⟨e.1, by simpa using e.2⟩
  · have h1 := hx.1
    have h2 := hx.2
    simp at h2
    omega

theorem WalkOk.keep {W w' : World} {b d : Nat} {R : Tell} {F : Nat → Prop} {p : List Key} (h : WalkOk W w' b R F p d) :
    Upd W w' F ∧ ∃ n Fm, NodeT n w' b R Fm ∧ ∀ x, Fm x → F x ∨ New W w' x := by
  obtain ⟨hu, F', nd, Fd, hF', hat⟩ := h
  obtain ⟨m, hm⟩ := hat.whole
  exact ⟨hu, m, F', hm, hF'⟩

/-- The router as it is told: which methods have a tree, what the trees tell; all its blocks among F and those laid since w. -/
def Told (w w' : World) (rt : Nat) (R : Nat → Tell) (has : Nat → Bool) (F : Nat → Nat → Prop) (root : Nat → Option Nat) : Prop :=
  ∃ F', Rout w' rt root R F' ∧ (∀ j, j < 5 → (root j = none ↔ has j = false)) ∧ Upd w w' (FR rt F) ∧ ∀ j x, F' j x → F j x ∨ New w w' x

theorem Told.start {w : World} {rt : Nat} {R : Nat → Tell} {has : Nat → Bool} {F : Nat → Nat → Prop} {root : Nat → Option Nat} (h : Rout w rt root R F) (hh : ∀ j, j < 5 → (root j = none ↔ has j = false)) : Told w w rt R has F root :=
  ⟨F, h, hh, Upd.refl _ _, fun _ _ e => .inl e⟩

theorem Told.below {w w' w2 : World} {rt : Nat} {R : Nat → Tell} {has : Nat → Bool} {F : Nat → Nat → Prop} {root : Nat → Option Nat} (h : Told w w' rt R has F root) (hb : Below w'.heap.size w' w2) : Told w w2 rt R has F root := by
  obtain ⟨F', h1, h2, h3, h4⟩ := h
  have hs := hb.size
  refine ⟨F', h1.below hb, h2, h3.trans (Upd.of_below hb (FR rt F)) (fun x hx => .inl hx), fun j x e => ?_⟩
  rcases h4 j x e with e | e
  · exact .inl e
  · exact .inr ⟨e.1, by have := e.2; omega⟩

/-- Told from a world whose new blocks are no one's. -/
theorem Told.from {w w1 w' : World} {rt : Nat} {R : Nat → Tell} {has : Nat → Bool} {F : Nat → Nat → Prop} {root : Nat → Option Nat} (h : Told w1 w' rt R has F root) (hb : Below w.heap.size w w1) : Told w w' rt R has F root := by
  obtain ⟨F', h1, h2, h3, h4⟩ := h
  have hs := hb.size
  refine ⟨F', h1, h2, (Upd.of_below hb (FR rt F)).trans h3 (fun x hx => .inl hx), fun j x e => ?_⟩
  rcases h4 j x e with e | e
  · exact .inl e
  · exact .inr ⟨by have := e.1; omega, e.2⟩

/-- Tree m turned. -/
theorem Told.turn {w w1 w' : World} {rt m b n : Nat} {R R' : Nat → Tell} {has : Nat → Bool} {F F1 : Nat → Nat → Prop} {root : Nat → Option Nat} {Fm : Nat → Prop} (h1 : Rout w1 rt root R F1) (h2 : ∀ j, j < 5 → (root j = none ↔ has j = false)) (h3 : Upd w w1 (FR rt F)) (h4 : ∀ j x, F1 j x → F j x ∨ New w w1 x)
    (hr : root m = some b) (hu : Upd w1 w' (F1 m)) (hT : NodeT n w' b (R' m) Fm) (hF : ∀ x, Fm x → F1 m x ∨ New w1 w' x) (hR : ∀ j, j ≠ m → R' j = R j) : Told w w' rt R' has F root := by
  obtain ⟨F', g1, g2⟩ := h1.turn hr hu hT hF hR
  have hs := h3.size
  have hs' := hu.size
  refine ⟨F', g1, h2, h3.trans hu (fun x hx => ?_), fun j x e => ?_⟩
  · rcases h4 m x hx with e | e
    · exact .inl (.inr ⟨m, e⟩)
    · exact .inr e
  · rcases g2 j x e with e | e
    · rcases h4 j x e with e | e
      · exact .inl e
      · exact .inr ⟨e.1, by have := e.2; omega⟩
    · exact .inr ⟨by have := e.1; omega, e.2⟩

/-- What the trees tell behind a store of r at k for method m. -/
def stoR (R : Nat → Tell) (has : Nat → Bool) (m : Nat) (k : List Key) (r : Nat) : Nat → Tell :=
  if m = 0 then fun j => if j = 0 then supd (R 0) k r else if has j = true then (fun q => if q = k ∧ R j k = none then some r else R j q) else R j
  else fun j => if j = m then supd (if has m = true then R m else R 0) k r else R j
def stoH (has : Nat → Bool) (m : Nat) : Nat → Bool := fun j => if j = m then true else has j

end Go.Proofs.Ybulkavso
