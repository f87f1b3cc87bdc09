/-
  The tree of nodes in memory: 'NodeT n w b R F': at block b of world w lies a node tree of depth at most n that tells R (for a path of keys the block of the route that ends there, or none), its own blocks among F. No program here, only worlds.
-/
import Derived.Test.YbulkavsoAt
import Derived.Below
namespace Go.Proofs.Ybulkavso
open Go.RowKit

/-- What a segment is to the tree: a static text, a parameter, a catch-all. -/
abbrev Key := Nat × ByteArray
def kS (t : ByteArray) : Key := (0, t)
def kP : Key := (1, ⟨#[]⟩)
def kC : Key := (2, ⟨#[]⟩)

abbrev Tell := List Key → Option Nat

def ptrO (o : Option Nat) : Value := .pointer (o.map fun c => ⟨c, 0, none⟩)

/-- From w to w' only the blocks F and new blocks have turned. -/
structure Upd (w w' : World) (F : Nat → Prop) : Prop where
  os : w'.os = w.os
  tape : w'.tape = w.tape
  output : w'.output = w.output
  size : w.heap.size ≤ w'.heap.size
  block : ∀ x, x < w.heap.size → ¬ F x → w'.heap[x]? = w.heap[x]?

/-- The blocks that are new. -/
def New (w w' : World) (x : Nat) : Prop := w.heap.size ≤ x ∧ x < w'.heap.size

theorem Upd.refl (w : World) (F : Nat → Prop) : Upd w w F := ⟨rfl, rfl, rfl, Nat.le_refl _, fun _ _ _ => rfl⟩
theorem Upd.mono {w w' : World} {F F' : Nat → Prop} (h : Upd w w' F) (hF : ∀ x, F x → F' x) : Upd w w' F' := ⟨h.os, h.tape, h.output, h.size, fun x hx hn => h.block x hx (fun e => hn (hF x e))⟩
theorem Upd.trans {w w2 w3 : World} {F F' : Nat → Prop} (h : Upd w w2 F) (h' : Upd w2 w3 F') (hF : ∀ x, F' x → F x ∨ New w w2 x) : Upd w w3 F :=
  ⟨h'.os.trans h.os, h'.tape.trans h.tape, h'.output.trans h.output, Nat.le_trans h.size h'.size, fun x hx hn => (h'.block x (Nat.lt_of_lt_of_le hx h.size) (fun e => by
    rcases hF x e with e' | e'
    · exact hn e'
    · have := e'.1; omega)).trans (h.block x hx hn)⟩
theorem Upd.of_below {w w' : World} (h : Below w.heap.size w w') (F : Nat → Prop) : Upd w w' F := ⟨h.os, h.tape, h.output, h.size, fun x hx _ => h.block x hx⟩
theorem Upd.below {w w' : World} {F : Nat → Prop} (h : Upd w w' F) {B : Nat} (hB : B ≤ w.heap.size) (hF : ∀ x, F x → B ≤ x) : Below B w w' :=
  ⟨h.os, h.tape, h.output, h.size, fun k hk => h.block k (by omega) (fun e => by have := hF k e; omega)⟩

/-- One node: its route, and the blocks of its children by their keys; F0: its own block and those of its table of texts. -/
def NodeObj (w : World) (b : Nat) (r : Option Nat) (Ch : Key → Nat → Prop) (F0 : Nat → Prop) : Prop :=
  F0 b ∧ ∃ (sp pp cp : Option Nat), w.heap[b]? = some (.cells #[ptrO r, ptrO sp, ptrO pp, ptrO cp] 54) ∧
    (∀ d, Ch kP d ↔ pp = some d) ∧ (∀ d, Ch kC d ↔ cp = some d) ∧ (∀ k d, Ch k d → k = kP ∨ k = kC ∨ ∃ t, k = kS t ∧ Clean t.data.toList ∧ t.size ≤ 256) ∧
    ((sp = none ∧ ∀ t d, ¬ Ch (kS t) d) ∨ ∃ (tb m : Nat) (Ft : Nat → Prop), sp = some tb ∧ (∃ cs : Array Value, w.heap[tb]? = some (.cells cs 83)) ∧ Tri m w tb 0 (fun t d => Ch (kS t) d) Ft ∧ ¬ Ft tb ∧ F0 tb ∧ tb ≠ b ∧ ∀ x, Ft x → F0 x ∧ x ≠ b)

/-- A node and its children, told by T. -/
def Kids (T : World → Nat → Tell → (Nat → Prop) → Prop) (w : World) (b : Nat) (R : Tell) (F : Nat → Prop) (Ch : Key → Nat → Prop) (Fk : Key → Nat → Prop) (F0 : Nat → Prop) : Prop :=
  NodeObj w b (R []) Ch F0 ∧ (∀ k d d', Ch k d → Ch k d' → d = d') ∧ (∀ k d, Ch k d → T w d (fun q => R (k :: q)) (Fk k)) ∧ (∀ k, (∀ d, ¬ Ch k d) → ∀ q, R (k :: q) = none) ∧
    (∀ x, F0 x → F x) ∧ (∀ k d x, Ch k d → Fk k x → F x ∧ ¬ F0 x) ∧ (∀ k k' d d' x, Ch k d → Ch k' d' → Fk k x → Fk k' x → k = k')

/-- The tree of nodes. -/
def NodeT : Nat → World → Nat → Tell → (Nat → Prop) → Prop
  | 0, _, _, _, _ => False
  | n + 1, w, b, R, F => ∃ Ch Fk F0, Kids (NodeT n) w b R F Ch Fk F0

theorem NodeObj.move {w w' : World} {b : Nat} {r : Option Nat} {Ch : Key → Nat → Prop} {F0 : Nat → Prop} (h : NodeObj w b r Ch F0) (hF : ∀ x, F0 x → w'.heap[x]? = w.heap[x]?) : NodeObj w' b r Ch F0 := by
  obtain ⟨h0, sp, pp, cp, h1, h2, h3, h4, h5⟩ := h
  refine ⟨h0, sp, pp, cp, (hF b h0).trans h1, h2, h3, h4, ?_⟩
  rcases h5 with h5 | ⟨tb, m, Ft, e1, ⟨cs, e2⟩, e3, e4, e5, e6, e7⟩
  · exact .inl h5
  · exact .inr ⟨tb, m, Ft, e1, ⟨cs, (hF tb e5).trans e2⟩, Tri.move m e3 (fun j _ => cell_block (hF tb e5) _) (fun x hx => hF x (e7 x hx).1), e4, e5, e6, e7⟩

theorem NodeT.move : ∀ (n : Nat) {w w' : World} {b : Nat} {R : Tell} {F : Nat → Prop}, NodeT n w b R F → (∀ x, F x → w'.heap[x]? = w.heap[x]?) → NodeT n w' b R F := by
  intro n
  induction n with
  | zero => intro w w' b R F h; exact h.elim
  | succ n ih =>
    intro w w' b R F ⟨Ch, Fk, F0, h1, h2, h3, h4, h5, h6, h7⟩ hF
    exact ⟨Ch, Fk, F0, h1.move (fun x hx => hF x (h5 x hx)), h2, fun k d hk => ih (h3 k d hk) (fun x hx => hF x (h6 k d x hk hx).1), h4, h5, h6, h7⟩

theorem NodeT.mono : ∀ (n : Nat) {w : World} {b : Nat} {R : Tell} {F : Nat → Prop}, NodeT n w b R F → ∀ m, n ≤ m → NodeT m w b R F := by
  intro n
  induction n with
  | zero => intro w b R F h; exact h.elim
  | succ n ih =>
    intro w b R F ⟨Ch, Fk, F0, h1, h2, h3, h4, h5⟩ m hm
    obtain ⟨m, rfl⟩ : ∃ m', m = m' + 1 := ⟨m - 1, by omega⟩
    exact ⟨Ch, Fk, F0, h1, h2, fun k d hk => ih (h3 k d hk) m (by omega), h4, h5⟩

theorem NodeT.congr {n : Nat} {w : World} {b : Nat} {R R' : Tell} {F F' : Nat → Prop} (h : NodeT n w b R F) (hR : ∀ q, R' q = R q) (hF : ∀ x, F x → F' x) : NodeT n w b R' F' := by
  obtain rfl : R' = R := funext hR
  cases n with
  | zero => exact h.elim
  | succ n =>
    obtain ⟨Ch, Fk, F0, h1, h2, h3, h4, h5, h6, h7⟩ := h
    exact ⟨Ch, Fk, F0, h1, h2, h3, h4, fun x hx => hF x (h5 x hx), fun k d x hk hx => ⟨hF x (h6 k d x hk hx).1, (h6 k d x hk hx).2⟩, h7⟩

/-- A node with nothing in it. -/
theorem NodeT.empty {w : World} {b : Nat} (h : w.heap[b]? = some (.cells #[.pointer none, .pointer none, .pointer none, .pointer none] 54)) : NodeT 1 w b (fun _ => none) (fun x => x = b) :=
  ⟨fun _ _ => False, fun _ _ => False, fun x => x = b, ⟨rfl, none, none, none, h, fun d => by simp, fun d => by simp, fun k d e => e.elim, .inl ⟨rfl, fun _ _ e => e⟩⟩, fun _ _ _ e => e.elim, fun _ _ e => e.elim, fun _ _ _ => rfl,
    fun _ e => e, fun _ _ _ e => e.elim, fun _ _ _ _ _ e => e.elim⟩

/-- The cells of a node. -/
theorem NodeT.cells {n : Nat} {w : World} {b : Nat} {R : Tell} {F : Nat → Prop} (h : NodeT n w b R F) : F b ∧ ∃ sp pp cp : Option Nat, w.heap[b]? = some (.cells #[ptrO (R []), ptrO sp, ptrO pp, ptrO cp] 54) := by
  cases n with
  | zero => exact h.elim
  | succ n =>
    obtain ⟨Ch, Fk, F0, ⟨h0, sp, pp, cp, h1, _⟩, _, _, _, h5, _⟩ := h
    exact ⟨h5 b h0, sp, pp, cp, h1⟩

/-- The node's route written anew. -/
theorem NodeT.setRoute {n : Nat} {w : World} {b : Nat} {R R' : Tell} {F : Nat → Prop} (h : NodeT n w b R F) (r : Option Nat) (h0 : R' [] = r) (hR : ∀ k q, R' (k :: q) = R (k :: q)) : NodeT n (w.setCell ⟨b, 0, none⟩ (ptrO r)) b R' F := by
  cases n with
  | zero => exact h.elim
  | succ n =>
    obtain ⟨Ch, Fk, F0, ⟨f0, sp, pp, cp, g1, g2, g3, g4, g5⟩, h2, h3, h4, h5, h6, h7⟩ := h
    refine ⟨Ch, Fk, F0, ⟨f0, sp, pp, cp, ?_, g2, g3, g4, ?_⟩, h2, ?_, ?_, h5, h6, h7⟩
    · rw [h0, heap_set_same g1]
      rfl
    · rcases g5 with g5 | ⟨tb, m, Ft, e1, ⟨cs, e2⟩, e3, e4, e5, e6, e7⟩
      · exact .inl g5
      · exact .inr ⟨tb, m, Ft, e1, ⟨cs, (heap_set_other _ e6).trans e2⟩, Tri.move m e3 (fun j _ => cell_block (heap_set_other _ e6) _) (fun x hx => heap_set_other _ (e7 x hx).2), e4, e5, e6, e7⟩
    · intro k d hk
      refine ((NodeT.move n (h3 k d hk) (fun x hx => heap_set_other _ ?_)).congr (fun q => hR k q) (fun _ h => h))
      rintro rfl
      exact (h6 k d x hk hx).2 f0
    · intro k hk q
      rw [hR]
      exact h4 k hk q

/-- The node d at the path p of the tree at b: whatever becomes of the tree at d, the whole tree follows it. -/
def At (w : World) (b : Nat) (R : Tell) (F : Nat → Prop) (p : List Key) (d n : Nat) (Fd : Nat → Prop) : Prop :=
  (∀ x, Fd x → F x) ∧ NodeT n w d (fun q => R (p ++ q)) Fd ∧
    ∀ (w' : World) (n' : Nat) (R1 : Tell) (Fd' : Nat → Prop), Upd w w' Fd → NodeT n' w' d (fun q => R1 (p ++ q)) Fd' → (∀ x, Fd' x → Fd x ∨ New w w' x) → (∀ q, (∀ s, q ≠ p ++ s) → R1 q = R q) →
      ∃ m, NodeT m w' b R1 (fun x => F x ∨ New w w' x)

theorem At.start {n : Nat} {w : World} {b : Nat} {R : Tell} {F : Nat → Prop} (h : NodeT n w b R F) : At w b R F [] b n F :=
  ⟨fun _ h => h, h, fun _ n' _ _ _ h' hF _ => ⟨n', h'.congr (fun _ => rfl) hF⟩⟩

theorem At.whole {w : World} {b : Nat} {R : Tell} {F : Nat → Prop} {p : List Key} {d n : Nat} {Fd : Nat → Prop} (h : At w b R F p d n Fd) : ∃ m, NodeT m w b R F := by
  obtain ⟨m, hm⟩ := h.2.2 w n R Fd (Upd.refl _ _) h.2.1 (fun x hx => .inl hx) (fun _ _ => rfl)
  exact ⟨m, hm.congr (fun _ => rfl) (fun x hx => by
    rcases hx with h | h
    · exact h
    · have := h.1; have := h.2; omega)⟩

/-- One key down, where the child's own step may have turned the subtree. -/
theorem At.step {w w2 : World} {b : Nat} {R : Tell} {F : Nat → Prop} {p : List Key} {d n : Nat} {Fd : Nat → Prop} (h : At w b R F p d n Fd) {k : Key} {c nc : Nat} {Fd2 Fc : Nat → Prop}
    (hu : Upd w w2 Fd) (hF2 : ∀ x, Fd2 x → Fd x ∨ New w w2 x) (hat : At w2 d (fun q => R (p ++ q)) Fd2 [k] c nc Fc) : At w2 b R (fun x => F x ∨ New w w2 x) (p ++ [k]) c nc Fc := by
  obtain ⟨h1, h2, h3⟩ := h
  obtain ⟨g1, g2, g3⟩ := hat
  have hsz := hu.size
  refine ⟨fun x hx => ?_, g2.congr (fun q => by simp) (fun _ h => h), ?_⟩
  · rcases hF2 x (g1 x hx) with e | e
    · exact .inl (h1 x e)
    · exact .inr e
  · intro w3 n' R1 Fc' hu3 hT hF hoff
    have hsz3 := hu3.size
    obtain ⟨m, hm⟩ := g3 w3 n' (fun q => R1 (p ++ q)) Fc' hu3 (hT.congr (fun q => by simp) (fun _ h => h)) hF (fun q hq => hoff (p ++ q) (fun s e => by
      rw [List.append_assoc] at e
      exact hq s (List.append_cancel_left e)))
    have hu13 : Upd w w3 Fd := hu.trans hu3 (fun x hx => hF2 x (g1 x hx))
    obtain ⟨m', hm'⟩ := h3 w3 m R1 _ hu13 hm (fun x hx => by
      rcases hx with e | e
      · rcases hF2 x e with e' | e'
        · exact .inl e'
        · exact .inr ⟨e'.1, by have := e'.2; omega⟩
      · exact .inr ⟨by have := e.1; omega, e.2⟩) (fun q hq => hoff q (fun s e => hq (k :: s) (by rw [e]; simp)))
    refine ⟨m', hm'.congr (fun _ => rfl) (fun x hx => ?_)⟩
    rcases hx with e | e
    · exact .inl (.inl e)
    · rcases Nat.lt_or_ge x w2.heap.size with hl | hl
      · exact .inl (.inr ⟨e.1, hl⟩)
      · exact .inr ⟨hl, e.2⟩

/-- A child that is there. -/
theorem Kids.at {n : Nat} {w : World} {b : Nat} {R : Tell} {F : Nat → Prop} {Ch : Key → Nat → Prop} {Fk : Key → Nat → Prop} {F0 : Nat → Prop} (h : Kids (NodeT n) w b R F Ch Fk F0) (hlt : ∀ x, F x → x < w.heap.size) {k : Key} {c : Nat} (hk : Ch k c) :
    At w b R F [k] c n (Fk k) := by
  obtain ⟨h1, h2, h3, h4, h5, h6, h7⟩ := h
  refine ⟨fun x hx => (h6 k c x hk hx).1, (h3 k c hk).congr (fun q => rfl) (fun _ h => h), ?_⟩
  intro w' n' R1 Fc' hu hT hF hoff
  have hsz := hu.size
  refine ⟨max n n' + 1, Ch, fun k' x => (k' = k ∧ Fc' x) ∨ (k' ≠ k ∧ Fk k' x), F0, ?_, h2, ?_, ?_, fun x hx => .inl (h5 x hx), ?_, ?_⟩
  · have e : R1 [] = R [] := hoff [] (fun s e => by simp at e)
    rw [e]
    exact h1.move (fun x hx => hu.block x (hlt x (h5 x hx)) (fun e => (h6 k c x hk e).2 hx))
  · intro k' d hd
    by_cases e : k' = k
    · subst e
      obtain rfl := h2 _ _ _ hd hk
      exact ((hT.mono _ _ (Nat.le_max_right n n')).congr (fun q => rfl) (fun x hx => .inl ⟨rfl, hx⟩))
    · refine ((NodeT.move n (h3 k' d hd) (fun x hx => hu.block x (hlt x (h6 k' d x hd hx).1) (fun e' => e (h7 k' k d c x hd hk hx e')))).mono _ _ (Nat.le_max_left n n')).congr (fun q => ?_) (fun x hx => .inr ⟨e, hx⟩)
      exact hoff (k' :: q) (fun s e' => by
        simp at e'
        exact e e'.1)
  · intro k' hno q
    rw [hoff (k' :: q) (fun s e' => by
      simp at e'
      exact hno c (e'.1 ▸ hk))]
    exact h4 k' hno q
  · intro k' d x hd hx
    rcases hx with ⟨rfl, hx⟩ | ⟨e, hx⟩
    · rcases hF x hx with hx' | hx'
      · exact ⟨.inl (h6 _ c x hk hx').1, (h6 _ c x hk hx').2⟩
      · exact ⟨.inr hx', fun e0 => by have := hlt x (h5 x e0); have := hx'.1; omega⟩
    · exact ⟨.inl (h6 k' d x hd hx).1, (h6 k' d x hd hx).2⟩
  · intro k1 k2 d1 d2 x hd1 hd2 hx1 hx2
    rcases hx1 with ⟨e1, hx1⟩ | ⟨e1, hx1⟩ <;> rcases hx2 with ⟨e2, hx2⟩ | ⟨e2, hx2⟩
    · rw [e1, e2]
    · rcases hF x hx1 with hx' | hx'
      · rw [e1]; exact h7 k k2 c d2 x hk hd2 hx' hx2
      · have := hlt x (h6 k2 d2 x hd2 hx2).1; have := hx'.1; omega
    · rcases hF x hx2 with hx' | hx'
      · rw [e2]; exact h7 k1 k d1 c x hd1 hk hx1 hx'
      · have := hlt x (h6 k1 d1 x hd1 hx1).1; have := hx'.1; omega
    · exact h7 k1 k2 d1 d2 x hd1 hd2 hx1 hx2

/-- A new child with nothing in it. -/
theorem Kids.fresh {n : Nat} {w w2 : World} {b : Nat} {R : Tell} {F : Nat → Prop} {Ch : Key → Nat → Prop} {Fk : Key → Nat → Prop} {F0 F0' : Nat → Prop} (h : Kids (NodeT n) w b R F Ch Fk F0) (hlt : ∀ x, F x → x < w.heap.size) {k : Key} {d : Nat}
    (hno : ∀ c, ¬ Ch k c) (hu : Upd w w2 F0) (hobj : NodeObj w2 b (R []) (fun k' d' => Ch k' d' ∨ (k' = k ∧ d' = d)) F0') (hF0 : ∀ x, F0' x → F0 x ∨ New w w2 x) (hd : New w w2 d) (hdF : ¬ F0' d)
    (hz : w2.heap[d]? = some (.cells #[.pointer none, .pointer none, .pointer none, .pointer none] 54)) :
    ∃ n2 Fk2, Kids (NodeT n2) w2 b R (fun x => F x ∨ New w w2 x) (fun k' d' => Ch k' d' ∨ (k' = k ∧ d' = d)) Fk2 F0' := by
  obtain ⟨h1, h2, h3, h4, h5, h6, h7⟩ := h
  refine ⟨max n 1, fun k' x => (k' = k ∧ x = d) ∨ (k' ≠ k ∧ Fk k' x), hobj, ?_, ?_, ?_, ?_, ?_, ?_⟩
  · intro k' d1 d2 e1 e2
    rcases e1 with e1 | ⟨e1, rfl⟩ <;> rcases e2 with e2 | ⟨e2, rfl⟩
    · exact h2 k' d1 d2 e1 e2
    · subst e2; exact absurd e1 (hno _)
    · subst e1; exact absurd e2 (hno _)
    · rfl
  · intro k' c hc
    rcases hc with hc | ⟨rfl, rfl⟩
    · have hne : k' ≠ k := fun e => hno c (e ▸ hc)
      exact ((NodeT.move n (h3 k' c hc) (fun x hx => hu.block x (hlt x (h6 k' c x hc hx).1) (h6 k' c x hc hx).2)).mono _ _ (Nat.le_max_left _ _)).congr (fun _ => rfl) (fun x hx => .inr ⟨hne, hx⟩)
    · exact ((NodeT.empty hz).mono _ _ (Nat.le_max_right _ _)).congr (fun q => h4 _ hno q) (fun x hx => .inl ⟨rfl, hx⟩)
  · intro k' hk q
    exact h4 k' (fun c hc => hk c (.inl hc)) q
  · intro x hx
    rcases hF0 x hx with e | e
    · exact .inl (h5 x e)
    · exact .inr e
  · intro k' c x hc hx
    rcases hx with ⟨e, rfl⟩ | ⟨e, hx⟩
    · exact ⟨.inr hd, hdF⟩
    · rcases hc with hc | ⟨e', _⟩
      · refine ⟨.inl (h6 k' c x hc hx).1, fun e0 => ?_⟩
        rcases hF0 x e0 with e1 | e1
        · exact (h6 k' c x hc hx).2 e1
        · have := hlt x (h6 k' c x hc hx).1; have := e1.1; omega
      · exact absurd e' e
  · intro k1 k2 d1 d2 x hd1 hd2 hx1 hx2
    have key : ∀ k' c, (Ch k' c ∨ (k' = k ∧ c = d)) → k' ≠ k → Fk k' x → F x := fun k' c hc e hx => by
      rcases hc with hc | ⟨e', _⟩
      · exact (h6 k' c x hc hx).1
      · exact absurd e' e
    rcases hx1 with ⟨e1, rfl⟩ | ⟨e1, hx1⟩ <;> rcases hx2 with ⟨e2, hx2⟩ | ⟨e2, hx2⟩
    · rw [e1, e2]
    · have := hlt _ (key k2 d2 hd2 e2 hx2); have := hd.1; omega
    · subst hx2; have := hlt _ (key k1 d1 hd1 e1 hx1); have := hd.1; omega
    · rcases hd1 with hd1 | ⟨e', _⟩
      · rcases hd2 with hd2 | ⟨e', _⟩
        · exact h7 k1 k2 d1 d2 x hd1 hd2 hx1 hx2
        · exact absurd e' e2
      · exact absurd e' e1

end Go.Proofs.Ybulkavso
