/-
  What zzs2354bbuild keeps: the trie at rb, the row of its texts, the row of its children; and how each step of the builder keeps it.
-/
import Derived.Test.YbulkavsoAt
import Derived.Below
import Derived.Deep.AppendLies
namespace Go.Proofs.Ybulkavso
open Go.RowKit

theorem owns_block {w : World} {base e size n : Nat} {v : Value} {xs : List Value} (h : w.ownsRow base e size v n xs) {g : Nat} (hg : v.ownBlock = some g) : ∃ cur, w.heap[g]? = some (.cells cur e (0, 0)) := by
  rcases h.2 with ⟨rfl, _⟩ | ⟨g', cap, cur, rfl, _, hh, _⟩
  · cases hg
  · simp only [Value.ownBlock, Option.some.injEq] at hg
    subst hg
    exact ⟨cur, hh⟩

theorem owns_kept {w w' : World} {base e size n : Nat} {v : Value} {xs : List Value} (h : w.ownsRow base e size v n xs) (hk : ∀ g, v.ownBlock = some g → w'.heap[g]? = w.heap[g]?) : w'.ownsRow base e size v n xs := by
  refine ⟨h.1, ?_⟩
  rcases h.2 with h0 | ⟨g', cap, cur, rfl, h1, hh, h2⟩
  · exact .inl h0
  · exact .inr ⟨g', cap, cur, rfl, h1, (hk g' rfl).trans hh, h2⟩

def ptrs (K : List Nat) : List Value := K.map fun c => .pointer (some ⟨c, 0, none⟩)

/-- The trie at rb holds S; the row vx holds the texts X, the row vk the children K; all of it lies behind w0. -/
def Held (w0 w : World) (rb : Nat) (vx vk : Value) (S : ByteArray → Nat → Prop) (X : List ByteArray) (K : List Nat) : Prop :=
  Below w0.heap.size w0 w ∧ w.ownsRow w0.heap.size 9 1 vx X.length (X.map Value.string) ∧ w.ownsRow w0.heap.size 26 1 vk K.length (ptrs K) ∧ w0.heap.size ≤ rb ∧ (∃ cs : Array Value, w.heap[rb]? = some (.cells cs 83)) ∧
    ∃ (n : Nat) (F : Nat → Prop), Tri n w rb 0 S F ∧ ¬ F rb ∧ (∀ x, F x → w0.heap.size ≤ x ∧ x < w.heap.size) ∧ (∀ g, vx.ownBlock = some g → ¬ F g) ∧ (∀ g, vk.ownBlock = some g → ¬ F g)

theorem Held.later {w0 w w' : World} {rb : Nat} {vx vk : Value} {S : ByteArray → Nat → Prop} {X : List ByteArray} {K : List Nat} (h : Held w0 w rb vx vk S X K) (hb : Below w.heap.size w w') : Held w0 w' rb vx vk S X K := by
  obtain ⟨h1, h2, h3, h4, ⟨cs, h5⟩, n, F, h6, h7, h8, h9, h10⟩ := h
  have hlt : rb < w.heap.size := (Array.getElem?_eq_some_iff.1 h5).1
  refine ⟨h1.trans (hb.mono h1.size), owns_kept h2 (fun g hg => hb.block g (h2.lt g hg).2), owns_kept h3 (fun g hg => hb.block g (h3.lt g hg).2), h4, ⟨cs, (hb.block rb hlt).trans h5⟩, n, F,
    Tri.move n h6 (fun j _ => cell_block (hb.block rb hlt) _) (fun x hx => hb.block x (h8 x hx).2), h7, fun x hx => ⟨(h8 x hx).1, Nat.lt_of_lt_of_le (h8 x hx).2 hb.size⟩, h9, h10⟩

theorem Held.congr {w0 w : World} {rb : Nat} {vx vk : Value} {S S' : ByteArray → Nat → Prop} {X : List ByteArray} {K : List Nat} (h : Held w0 w rb vx vk S X K) (hS : ∀ t c, S' t c ↔ S t c) : Held w0 w rb vx vk S' X K := by
  obtain ⟨h1, h2, h3, h4, h5, n, F, h6, h7⟩ := h
  exact ⟨h1, h2, h3, h4, h5, n, F, h6.congr hS (fun _ h => h), h7⟩

/-- The first leaf. -/
theorem Held.first {w0 w : World} {rb : Nat} {T : ByteArray} {C : Nat} (hb : Below w0.heap.size w0 w) (hr : w0.heap.size ≤ rb) (hroot : w.heap[rb]? = some (.cells #[.pointer none, .string T, .pointer (some ⟨C, 0, none⟩)] 83)) :
    Held w0 w rb (.slice none 0 0) (.slice none 0 0) (fun t c => t = T ∧ c = C) [] [] := by
  refine ⟨hb, World.ownsRow_nil _ _ _ _, World.ownsRow_nil _ _ _ _, hr, ⟨_, hroot⟩, 1, fun _ => False, .inl ⟨T, C, ⟨?_, ?_, ?_⟩, fun _ _ => Iff.rfl⟩, fun h => h, fun x h => h.elim, fun _ _ h => h, fun _ _ h => h⟩
  · simp [World.cell?, hroot]
  · simp [World.cell?, hroot]
  · simp [World.cell?, hroot]

/-- What insert is told, and what becomes of it. -/
theorem Held.pre {w0 w2 w3 : World} {rb : Nat} {vx vk : Value} {S : ByteArray → Nat → Prop} {X : List ByteArray} {K : List Nat} (h : Held w0 w2 rb vx vk S X K) (hb : Below w2.heap.size w2 w3) :
    ∃ (n : Nat) (F : Nat → Prop), Tri n w3 rb 0 S F ∧ (∃ cs : Array Value, w3.heap[rb]? = some (.cells cs 83)) ∧ ¬ F rb ∧ (∀ x, F x → x < w3.heap.size) ∧
      ∀ (T : ByteArray) (C lb : Nat) (ob : Obj) (w' : World), Good (w3.alloc ob) w' rb S F T C → w2.heap.size ≤ lb → lb < w3.heap.size → Held w0 w' rb vx vk (fun t c => S t c ∨ (t = T ∧ c = C)) X K ∧ w'.heap[lb]? = w3.heap[lb]? ∧ w3.heap.size ≤ w'.heap.size := by
  have h0 := h
  obtain ⟨h1, h2, h3, h4, ⟨cs, h5⟩, n, F, h6, h7, h8, h9, h10⟩ := h
  have hlt : rb < w2.heap.size := (Array.getElem?_eq_some_iff.1 h5).1
  have hsz := hb.size
  refine ⟨n, F, Tri.move n h6 (fun j _ => cell_block (hb.block rb hlt) _) (fun x hx => hb.block x (h8 x hx).2), ⟨cs, (hb.block rb hlt).trans h5⟩, h7, fun x hx => by have := (h8 x hx).2; omega, ?_⟩
  intro T C lb ob w' ⟨hu, n', F', hT', hF'⟩ hl1 hl2
  have hal : (w3.alloc ob).heap.size = w3.heap.size + 1 := by simp
  have hus := hu.size
  have kept : ∀ x, x < w3.heap.size → x ≠ rb → ¬ F x → w'.heap[x]? = w3.heap[x]? := fun x hx hxr hxF => (hu.block x (by omega) hxr hxF).trans (Below.heap_alloc w3 ob x hx)
  have kept2 : ∀ x, x < w2.heap.size → x ≠ rb → ¬ F x → w'.heap[x]? = w2.heap[x]? := fun x hx hxr hxF => (kept x (by omega) hxr hxF).trans (hb.block x hx)
  have hne : ∀ (e n : Nat) (v : Value) (xs : List Value), w2.ownsRow w0.heap.size e 1 v n xs → e ≠ 83 → ∀ g, v.ownBlock = some g → g < w2.heap.size ∧ g ≠ rb := by
    intro e n v xs ho he g hg
    refine ⟨(ho.lt g hg).2, ?_⟩
    rintro rfl
    obtain ⟨cur, hc⟩ := owns_block ho hg
    rw [h5] at hc
    simp only [Option.some.injEq, Obj.cells.injEq] at hc
    exact he hc.2.1.symm
  refine ⟨⟨⟨?_, ?_, ?_, ?_, ?_⟩, ?_, ?_, h4, ?_, n', F', hT', ?_, ?_, ?_, ?_⟩, ?_, by omega⟩
  · rw [hu.os]; exact (h1.trans (hb.mono h1.size)).os
  · rw [hu.tape]; exact (h1.trans (hb.mono h1.size)).tape
  · rw [hu.output]; exact (h1.trans (hb.mono h1.size)).output
  · have := h1.size; omega
  · intro k hk
    have hk2 : k < w2.heap.size := Nat.lt_of_lt_of_le hk h1.size
    exact (kept2 k hk2 (by omega) (fun e => by have := (h8 k e).1; omega)).trans (h1.block k hk)
  · exact owns_kept h2 (fun g hg => kept2 g (hne 9 _ _ _ h2 (by decide) g hg).1 (hne 9 _ _ _ h2 (by decide) g hg).2 (h9 g hg))
  · exact owns_kept h3 (fun g hg => kept2 g (hne 26 _ _ _ h3 (by decide) g hg).1 (hne 26 _ _ _ h3 (by decide) g hg).2 (h10 g hg))
  · obtain ⟨_, cs', _, hc', _⟩ := hu.row
    exact ⟨cs', hc'⟩
  · intro e
    rcases hF' rb e with h | h
    · exact h7 h
    · omega
  · intro x hx
    rcases hF' x hx with h | h
    · exact ⟨(h8 x h).1, by have := (h8 x h).2; omega⟩
    · exact ⟨by have := h1.size; omega, h.2⟩
  · intro g hg e
    rcases hF' g e with h | h
    · exact h9 g hg h
    · have := (h2.lt g hg).2; omega
  · intro g hg e
    rcases hF' g e with h | h
    · exact h10 g hg h
    · have := (h3.lt g hg).2; omega
  · exact kept lb hl2 (by omega) (fun e => by have := (h8 lb e).2; omega)

/-- One text more in the row of texts. -/
theorem Held.texts {w0 w w' : World} {rb : Nat} {vx vk : Value} {S : ByteArray → Nat → Prop} {X : List ByteArray} {K : List Nat} {T : ByteArray} {g cap lb : Nat} {cs : Array Value} (h : Held w0 w rb vx vk S X K)
    (hown : w'.ownsRow w0.heap.size 9 1 (.slice (some ⟨g, 0, none⟩) (X.length + 1) cap) (X.length + 1) (X.map Value.string ++ [.string T])) (hg : w.grownBy w' vx.ownBlock) (hat : vx.ownBlock = some g ∨ g = w.heap.size)
    (hl : w.heap[lb]? = some (.cells cs 83)) :
    Held w0 w' rb (.slice (some ⟨g, 0, none⟩) (X.length + 1) cap) vk S (X ++ [T]) K ∧ w'.heap[lb]? = some (.cells cs 83) := by
  obtain ⟨h1, h2, h3, h4, ⟨ds, h5⟩, n, F, h6, h7, h8, h9, h10⟩ := h
  have hlt : rb < w.heap.size := (Array.getElem?_eq_some_iff.1 h5).1
  have hne : ∀ (x t : Nat) (cs : Array Value) (fz : Nat × Nat), w.heap[x]? = some (.cells cs t fz) → t ≠ 9 → some x ≠ vx.ownBlock := by
    intro x t cs fz hx ht e
    obtain ⟨cur, hc⟩ := owns_block h2 e.symm
    rw [hx] at hc
    simp only [Option.some.injEq, Obj.cells.injEq] at hc
    exact ht hc.2.1
  have hrb := hg.block rb hlt (hne rb 83 ds _ h5 (by decide))
  have hF : ∀ x, F x → w'.heap[x]? = w.heap[x]? := fun x hx => hg.block x (h8 x hx).2 (fun e => h9 x e.symm hx)
  refine ⟨⟨h1.grown hg h1.size (fun k hk => (h2.lt k hk).1), ?_, ?_, h4, ⟨ds, hrb.trans h5⟩, n, F, Tri.move n h6 (fun j _ => cell_block hrb _) hF, h7, fun x hx => ⟨(h8 x hx).1, Nat.lt_of_lt_of_le (h8 x hx).2 hg.size⟩, ?_, h10⟩, ?_⟩
  · simpa using hown
  · refine owns_kept h3 (fun k hk => hg.block k (h3.lt k hk).2 ?_)
    obtain ⟨cur, hc⟩ := owns_block h3 hk
    exact hne k 26 cur _ hc (by decide)
  · intro k hk e
    simp only [Value.ownBlock, Option.some.injEq] at hk
    subst hk
    rcases hat with h | h
    · exact h9 g h e
    · have := (h8 g e).2; omega
  · exact (hg.block lb (Array.getElem?_eq_some_iff.1 hl).1 (hne lb 83 cs _ hl (by decide))).trans hl

/-- One child more in the row of children. -/
theorem Held.kids {w0 w w' : World} {rb : Nat} {vx vk : Value} {S : ByteArray → Nat → Prop} {X : List ByteArray} {K : List Nat} {C g cap : Nat} (h : Held w0 w rb vx vk S X K)
    (hown : w'.ownsRow w0.heap.size 26 1 (.slice (some ⟨g, 0, none⟩) (K.length + 1) cap) (K.length + 1) (ptrs K ++ [.pointer (some ⟨C, 0, none⟩)])) (hg : w.grownBy w' vk.ownBlock) (hat : vk.ownBlock = some g ∨ g = w.heap.size) :
    Held w0 w' rb vx (.slice (some ⟨g, 0, none⟩) (K.length + 1) cap) S X (K ++ [C]) := by
  obtain ⟨h1, h2, h3, h4, ⟨ds, h5⟩, n, F, h6, h7, h8, h9, h10⟩ := h
  have hlt : rb < w.heap.size := (Array.getElem?_eq_some_iff.1 h5).1
  have hne : ∀ (x t : Nat) (cs : Array Value) (fz : Nat × Nat), w.heap[x]? = some (.cells cs t fz) → t ≠ 26 → some x ≠ vk.ownBlock := by
    intro x t cs fz hx ht e
    obtain ⟨cur, hc⟩ := owns_block h3 e.symm
    rw [hx] at hc
    simp only [Option.some.injEq, Obj.cells.injEq] at hc
    exact ht hc.2.1
  have hrb := hg.block rb hlt (hne rb 83 ds _ h5 (by decide))
  have hF : ∀ x, F x → w'.heap[x]? = w.heap[x]? := fun x hx => hg.block x (h8 x hx).2 (fun e => h10 x e.symm hx)
  refine ⟨h1.grown hg h1.size (fun k hk => (h3.lt k hk).1), ?_, ?_, h4, ⟨ds, hrb.trans h5⟩, n, F, Tri.move n h6 (fun j _ => cell_block hrb _) hF, h7, fun x hx => ⟨(h8 x hx).1, Nat.lt_of_lt_of_le (h8 x hx).2 hg.size⟩, h9, ?_⟩
  · refine owns_kept h2 (fun k hk => hg.block k (h2.lt k hk).2 ?_)
    obtain ⟨cur, hc⟩ := owns_block h2 hk
    exact hne k 9 cur _ hc (by decide)
  · simpa [ptrs] using hown
  · intro k hk e
    simp only [Value.ownBlock, Option.some.injEq] at hk
    subst hk
    rcases hat with h | h
    · exact h10 g h e
    · have := (h8 g e).2; omega

/-- The texts with their children, in the order of the rows. -/
def Pairs (X : List ByteArray) (K : List Nat) (t : ByteArray) (c : Nat) : Prop := ∃ i : Nat, X[i]? = some t ∧ K[i]? = some c

theorem pairs_more {X : List ByteArray} {K : List Nat} (hl : X.length = K.length) (T : ByteArray) (C : Nat) (t : ByteArray) (c : Nat) : Pairs (X ++ [T]) (K ++ [C]) t c ↔ Pairs X K t c ∨ (t = T ∧ c = C) := by
  constructor
  · rintro ⟨i, h1, h2⟩
    rcases Nat.lt_or_ge i X.length with h | h
    · rw [List.getElem?_append_left h] at h1
      rw [List.getElem?_append_left (by omega)] at h2
      exact .inl ⟨i, h1, h2⟩
    · have hi : i = X.length := by
        have := (List.getElem?_eq_some_iff.1 h1).1
        simp at this
        omega
      subst hi
      rw [List.getElem?_append_right (Nat.le_refl _)] at h1
      rw [hl, List.getElem?_append_right (Nat.le_refl _)] at h2
      simp at h1 h2
      exact .inr ⟨h1.symm, h2.symm⟩
  · rintro (⟨i, h1, h2⟩ | ⟨rfl, rfl⟩)
    · have hi := (List.getElem?_eq_some_iff.1 h1).1
      exact ⟨i, by rw [List.getElem?_append_left hi]; exact h1, by rw [List.getElem?_append_left (by omega)]; exact h2⟩
    · exact ⟨X.length, by simp, by rw [hl]; simp⟩

theorem pairs_one (T : ByteArray) (C : Nat) (t : ByteArray) (c : Nat) : Pairs [T] [C] t c ↔ (t = T ∧ c = C) := by
  have := pairs_more (X := []) (K := []) rfl T C t c
  rw [List.nil_append, List.nil_append] at this
  rw [this]
  constructor
  · rintro (⟨i, h, _⟩ | h)
    · simp at h
    · exact h
  · exact .inr

end Go.Proofs.Ybulkavso
