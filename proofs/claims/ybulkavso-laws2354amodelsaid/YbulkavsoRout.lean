/-
  The router in memory: its block, its map, its five trees. No program here, only worlds.
-/
import Derived.Test.YbulkavsoOnly
import Derived.Test.YbulkavsoModel
namespace Go.Proofs.Ybulkavso
open Go.RowKit

/-- The router's cells: ms the methods' names as they stand, root the roots of the trees (0: any, 1: GET, 2: POST, 3: HEAD, 4: X, in the map). -/
def rcells (c0 c1 c2 c3 : Value) (ms : Nat → ByteArray) (root : Nat → Option Nat) (mo : Option Nat) : Array Value :=
  #[c0, c1, c2, c3, .string (ms 1), ptrO (root 1), .string (ms 2), ptrO (root 2), .string ⟨#[]⟩, .pointer none, .string ⟨#[]⟩, .pointer none, .string ⟨#[]⟩, .pointer none, .string (ms 3), ptrO (root 3),
    .string ⟨#[]⟩, .pointer none, .string ⟨#[]⟩, .pointer none, .string ⟨#[]⟩, .pointer none, .map mo, ptrO (root 0)]

/-- The map of the other methods: none, or the one method X. -/
def MapIs (w : World) (mo : Option Nat) (r4 : Option Nat) : Prop :=
  (r4 = none ∧ mo = none) ∨ ∃ b mb, r4 = some b ∧ mo = some mb ∧ w.heap[mb]? = some (.map #[⟨.string ⟨#[88]⟩, .pointer (some ⟨b, 0, none⟩), 0⟩] 1)

/-- The router at block rt: roots, what the trees tell, their blocks. -/
structure Rout (w : World) (rt : Nat) (root : Nat → Option Nat) (R : Nat → Tell) (F : Nat → Nat → Prop) : Prop where
  obj : ∃ c0 c1 c2 c3 ms mo, w.heap[rt]? = some (.cells (rcells c0 c1 c2 c3 ms root mo) 34) ∧ MapIs w mo (root 4)
  tree : ∀ m, m < 5 → ∀ b, root m = some b → ∃ n, NodeT n w b (R m) (F m)
  bare : ∀ m, m < 5 → root m = none → ∀ q, R m q = none
  isc : ∀ m x, F m x → IsC w x ∧ x ≠ rt
  dis : ∀ m m' x, F m x → F m' x → m = m'

/-- All that is the router's. -/
def FR (rt : Nat) (F : Nat → Nat → Prop) (x : Nat) : Prop := x = rt ∨ ∃ m, F m x

theorem MapIs.move {w w' : World} {mo r4 : Option Nat} (h : MapIs w mo r4) (hk : ∀ x, x < w.heap.size → ¬ IsC w x → w'.heap[x]? = w.heap[x]?) : MapIs w' mo r4 := by
  rcases h with h | ⟨b, mb, h1, h2, h3⟩
  · exact .inl h
  · refine .inr ⟨b, mb, h1, h2, (hk mb (Array.getElem?_eq_some_iff.1 h3).1 ?_).trans h3⟩
    rintro ⟨cs, t, e⟩
    rw [h3] at e
    cases e

theorem Rout.move {w w' : World} {rt : Nat} {root : Nat → Option Nat} {R : Nat → Tell} {F : Nat → Nat → Prop} (h : Rout w rt root R F) (hk : ∀ x, x < w.heap.size → (FR rt F x ∨ ¬ IsC w x) → w'.heap[x]? = w.heap[x]?) : Rout w' rt root R F := by
  obtain ⟨⟨c0, c1, c2, c3, ms, mo, h1, h2⟩, h3, h4, h5, h6⟩ := h
  have hx : ∀ m x, F m x → w'.heap[x]? = w.heap[x]? := fun m x e => hk x (h5 m x e).1.lt (.inl (.inr ⟨m, e⟩))
  refine ⟨⟨c0, c1, c2, c3, ms, mo, (hk rt (Array.getElem?_eq_some_iff.1 h1).1 (.inl (.inl rfl))).trans h1, h2.move (fun x hl hc => hk x hl (.inr hc))⟩, fun m hm b hb => ?_, h4, fun m x e => ⟨(h5 m x e).1.move (hx m x e), (h5 m x e).2⟩, h6⟩
  obtain ⟨n, hn⟩ := h3 m hm b hb
  exact ⟨n, NodeT.move n hn (fun x e => hx m x e)⟩

theorem Rout.lt {w : World} {rt : Nat} {root : Nat → Option Nat} {R : Nat → Tell} {F : Nat → Nat → Prop} (h : Rout w rt root R F) : rt < w.heap.size := by
  obtain ⟨c0, c1, c2, c3, ms, mo, h1, h2⟩ := h.obj
  exact (Array.getElem?_eq_some_iff.1 h1).1

theorem Rout.isR {w : World} {rt : Nat} {root : Nat → Option Nat} {R : Nat → Tell} {F : Nat → Nat → Prop} (h : Rout w rt root R F) {x : Nat} (hx : FR rt F x) : IsC w x := by
  rcases hx with rfl | ⟨m, e⟩
  · obtain ⟨c0, c1, c2, c3, ms, mo, h1, h2⟩ := h.obj
    exact ⟨_, _, h1⟩
  · exact (h.isc m x e).1

theorem Rout.below {w w' : World} {rt : Nat} {root : Nat → Option Nat} {R : Nat → Tell} {F : Nat → Nat → Prop} (h : Rout w rt root R F) (hb : Below w.heap.size w w') : Rout w' rt root R F :=
  h.move (fun x hx _ => hb.block x hx)

/-- Tree m turned, no other block of the router. -/
theorem Rout.turn {w w' : World} {rt m b n : Nat} {root : Nat → Option Nat} {R R' : Nat → Tell} {F : Nat → Nat → Prop} {Fm : Nat → Prop} (h : Rout w rt root R F) (hr : root m = some b) (hu : Upd w w' (F m)) (hT : NodeT n w' b (R' m) Fm) (hF : ∀ x, Fm x → F m x ∨ New w w' x)
    (hR : ∀ j, j ≠ m → R' j = R j) : ∃ F', Rout w' rt root R' F' ∧ ∀ j x, F' j x → F j x ∨ New w w' x := by
  have hm := h.isc m
  have hrt := h.lt
  obtain ⟨⟨c0, c1, c2, c3, ms, mo, h1, h2⟩, h3, h4, h5, h6⟩ := h
  have hs := hu.size
  refine ⟨fun j x => (j = m ∧ Fm x ∧ IsC w' x) ∨ (j ≠ m ∧ F j x), ⟨⟨c0, c1, c2, c3, ms, mo, (hu.block rt hrt (fun e => (hm rt e).2 rfl)).trans h1, h2.move (fun x hl hc => hu.block x hl (fun e => hc (hm x e).1))⟩, ?_, ?_, ?_, ?_⟩, ?_⟩
  · intro j hj b' hb'
    by_cases e : j = m
    · subst e
      rw [hr] at hb'
      cases hb'
      exact ⟨n, (NodeT.only n hT).congr (fun _ => rfl) (fun x hx => .inl ⟨rfl, hx⟩)⟩
    · obtain ⟨n', hn'⟩ := h3 j hj b' hb'
      rw [hR j e]
      exact ⟨n', (NodeT.move n' hn' (fun x hx => hu.block x (h5 j x hx).1.lt (fun e' => e (h6 j m x hx e')))).congr (fun _ => rfl) (fun x hx => .inr ⟨e, hx⟩)⟩
  · intro j hj hn q
    by_cases e : j = m
    · subst e
      rw [hr] at hn
      cases hn
    · rw [hR j e]
      exact h4 j hj hn q
  · rintro j x (⟨rfl, e1, e2⟩ | ⟨e1, e2⟩)
    · refine ⟨e2, ?_⟩
      rcases hF x e1 with e | e
      · exact (hm x e).2
      · have := e.1; omega
    · exact ⟨(h5 j x e2).1.move (hu.block x (h5 j x e2).1.lt (fun e' => e1 (h6 j m x e2 e'))), (h5 j x e2).2⟩
  · rintro j j' x (⟨rfl, e1, e2⟩ | ⟨e1, e2⟩) (⟨rfl, e3, e4⟩ | ⟨e3, e4⟩)
    · rfl
    · rcases hF x e1 with e | e
      · exact h6 _ _ x e e4
      · have := (h5 j' x e4).1.lt; have := e.1; omega
    · rcases hF x e3 with e | e
      · exact h6 _ _ x e2 e
      · have := (h5 j x e2).1.lt; have := e.1; omega
    · exact h6 j j' x e2 e4
  · rintro j x (⟨rfl, e1, e2⟩ | ⟨e1, e2⟩)
    · exact hF x e1
    · exact .inl e2

/-- A new root for m, its tree made of new blocks. -/
theorem Rout.plant {w w' : World} {rt m b n : Nat} {root root' : Nat → Option Nat} {R R' : Nat → Tell} {F : Nat → Nat → Prop} (h : Rout w rt root R F) (hu : Upd w w' (fun x => x = rt)) (hrt' : ∃ c0 c1 c2 c3 ms mo, w'.heap[rt]? = some (.cells (rcells c0 c1 c2 c3 ms root' mo) 34) ∧ MapIs w' mo (root' 4))
    (hr : root' m = some b) (hro : ∀ j, j ≠ m → root' j = root j) (hT : NodeT n w' b (R' m) (New w w')) (hR : ∀ j, j ≠ m → R' j = R j) : ∃ F', Rout w' rt root' R' F' ∧ (∀ j x, F' j x → F j x ∨ New w w' x) := by
  have hrt := h.lt
  obtain ⟨_, h3, h4, h5, h6⟩ := h
  refine ⟨fun j x => (j = m ∧ New w w' x ∧ IsC w' x) ∨ (j ≠ m ∧ F j x), ⟨hrt', ?_, ?_, ?_, ?_⟩, ?_⟩
  · intro j hj b' hb'
    by_cases e : j = m
    · subst e
      rw [hr] at hb'
      cases hb'
      exact ⟨n, (NodeT.only n hT).congr (fun _ => rfl) (fun x hx => .inl ⟨rfl, hx⟩)⟩
    · rw [hro j e] at hb'
      obtain ⟨n', hn'⟩ := h3 j hj b' hb'
      rw [hR j e]
      exact ⟨n', (NodeT.move n' hn' (fun x hx => hu.block x (h5 j x hx).1.lt (fun e' => (h5 j x hx).2 e'))).congr (fun _ => rfl) (fun x hx => .inr ⟨e, hx⟩)⟩
  · intro j hj hn q
    by_cases e : j = m
    · subst e
      rw [hr] at hn
      cases hn
    · rw [hro j e] at hn
      rw [hR j e]
      exact h4 j hj hn q
  · rintro j x (⟨rfl, e1, e2⟩ | ⟨e1, e2⟩)
    · exact ⟨e2, by have := e1.1; omega⟩
    · exact ⟨(h5 j x e2).1.move (hu.block x (h5 j x e2).1.lt (fun e' => (h5 j x e2).2 e')), (h5 j x e2).2⟩
  · rintro j j' x (⟨rfl, e1, e2⟩ | ⟨e1, e2⟩) (⟨rfl, e3, e4⟩ | ⟨e3, e4⟩)
    · rfl
    · have := (h5 j' x e4).1.lt; have := e1.1; omega
    · have := (h5 j x e2).1.lt; have := e3.1; omega
    · exact h6 j j' x e2 e4
  · rintro j x (⟨rfl, e1, e2⟩ | ⟨e1, e2⟩)
    · exact .inr e1
    · exact .inl e2

end Go.Proofs.Ybulkavso
