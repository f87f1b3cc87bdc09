/-
  (*node).clone, walked (given (statics).clone and itself one level down).
-/
import Derived.Test.YbulkavsoNclone
namespace Go.Proofs.Ybulkavso
open Go.RowKit

/-- What (statics).clone does, of tables whose children are trees of depth n. -/
def ScloneLaw (n : Nat) : Prop := ∀ (m : Nat) (w : World) (b o : Nat) (S : ByteArray → Nat → Prop) (F : Nat → Prop) (Rt : ByteArray → Tell) (Fk : ByteArray → Nat → Prop) (p0 : Option Addr) (s1 : ByteArray) (p2 : Option Addr), Tri m w b o S F → (∀ x, F x → x < w.heap.size) →
  (∀ t c, S t c → NodeT n w c (Rt t) (Fk t) ∧ ∀ x, Fk t x → x < w.heap.size) → w.cell? ⟨b, o, none⟩ = some (.pointer p0) → w.cell? ⟨b, o + 1, none⟩ = some (.string s1) → w.cell? ⟨b, o + 2, none⟩ = some (.pointer p2) →
  Calls Yba.prog 33 #[.agg #[.pointer p0, .string s1, .pointer p2]] w fun e w' => ScloneOk n m w w' S Rt e

theorem StatPart.wide {n : Nat} {w : World} {lo hi hi' : Nat} {sp : Option Nat} {Ch : Key → Nat → Prop} {R : Tell} (h : StatPart n w lo hi sp Ch R) (hh : hi ≤ hi') : StatPart n w lo hi' sp Ch R := by
  rcases h with h | ⟨tb, m, l, h', p0, s1, p2, e1, e2, e3, e4, e5, e6, e7, e8⟩
  · exact .inl h
  · exact .inr ⟨tb, m, l, h', p0, s1, p2, e1, e2, by omega, e4, e5, by omega, e7, e8⟩
theorem KidPart.wide {n : Nat} {w : World} {lo hi hi' : Nat} {pp : Option Nat} {Ch : Key → Nat → Prop} {k : Key} {R : Tell} (h : KidPart n w lo hi pp Ch k R) (hh : hi ≤ hi') : KidPart n w lo hi' pp Ch k R := by
  rcases h with h | ⟨c', e1, e2, e3⟩
  · exact .inl h
  · exact .inr ⟨c', e1, e2, e3.congr (fun _ => rfl) (fun x hx => ⟨hx.1, by have := hx.2; omega⟩)⟩

/-- How far the copy of a node is: 1: the table of texts is copied; 2: the parameter's child too; 3: all. -/
def Half (n : Nat) (w : World) (R : Tell) (Ch : Key → Nat → Prop) (st : Nat) (W : World) : Prop :=
  ∃ (z1 z2 z3 : Nat) (sp pp cp : Option Nat), Below w.heap.size w W ∧ W.heap[w.heap.size]? = some (.cells #[ptrO (R []), ptrO sp, ptrO pp, ptrO cp] 54) ∧ w.heap.size < z1 ∧ z1 ≤ z2 ∧ z2 ≤ z3 ∧ z3 ≤ W.heap.size ∧ StatPart n W z1 z2 sp Ch R ∧
    (st = 1 → z2 = z3 ∧ pp = none ∧ cp = none) ∧ (st = 2 → cp = none) ∧ (2 ≤ st → KidPart n W z2 z3 pp Ch kP R) ∧ (3 ≤ st → KidPart n W z3 W.heap.size cp Ch kC R)

theorem Half.cell {n : Nat} {w : World} {R : Tell} {Ch : Key → Nat → Prop} {st : Nat} {W W2 : World} (h : Half n w R Ch st W) (hb : Below W.heap.size W W2) (j : Nat) (hj : j < 4) : ∃ u, W2.cell? ⟨w.heap.size, j, none⟩ = some u ∧ W2.frozen? ⟨w.heap.size, j, none⟩ = false := by
  obtain ⟨z1, z2, z3, sp, pp, cp, _, h1, _⟩ := h
  have hl : w.heap.size < W.heap.size := (Array.getElem?_eq_some_iff.1 h1).1
  have g := (hb.block _ hl).trans h1
  exact ⟨#[ptrO (R []), ptrO sp, ptrO pp, ptrO cp][j], by simp [World.cell?, g, hj], not_frozen g (.inl rfl) (by simpa using hj)⟩

theorem Half.param {n : Nat} {w : World} {R : Tell} {Ch : Key → Nat → Prop} {W W2 : World} {c c' : Nat} (h : Half n w R Ch 1 W) (hb : Below W.heap.size W W2) (hk : Ch kP c) (hN : NodeT n W2 c' (fun q => R (kP :: q)) (fun x => W.heap.size ≤ x ∧ x < W2.heap.size)) :
    Half n w R Ch 2 (W2.setCell ⟨w.heap.size, 2, none⟩ (.pointer (some ⟨c', 0, none⟩))) := by
  obtain ⟨z1, z2, z3, sp, pp, cp, h1, h2, h3, h4, h5, h6, h7, h8, _⟩ := h
  obtain ⟨rfl, rfl, rfl⟩ := h8 rfl
  have hl : w.heap.size < W.heap.size := (Array.getElem?_eq_some_iff.1 h2).1
  have hs := hb.size
  have oth : ∀ x, x ≠ w.heap.size → (W2.setCell ⟨w.heap.size, 2, none⟩ (.pointer (some ⟨c', 0, none⟩))).heap[x]? = W2.heap[x]? := fun x hx => heap_set_other _ hx
  refine ⟨z1, W.heap.size, W2.heap.size, sp, some c', none, (h1.trans (hb.mono h1.size)).setCell (p := ⟨w.heap.size, 2, none⟩) (Nat.le_refl _) _, ?_, h3, by omega, by omega, by simp, ?_, fun e => by omega, fun _ => rfl, fun _ => ?_, fun e => by omega⟩
  · rw [heap_set_same ((hb.block _ hl).trans h2)]; rfl
  · refine StatPart.wide (StatPart.move h7 (fun x hx1 hx2 => (oth x (by omega)).trans (hb.block x (by omega)))) (by omega)
  · exact .inr ⟨c', rfl, ⟨c, hk⟩, NodeT.move n hN (fun x hx => oth x (by have := hx.1; omega))⟩

theorem Half.param0 {n : Nat} {w : World} {R : Tell} {Ch : Key → Nat → Prop} {W : World} (h : Half n w R Ch 1 W) (hk : ∀ c, ¬ Ch kP c) : Half n w R Ch 2 W := by
  obtain ⟨z1, z2, z3, sp, pp, cp, h1, h2, h3, h4, h5, h6, h7, h8, _⟩ := h
  obtain ⟨rfl, rfl, rfl⟩ := h8 rfl
  exact ⟨z1, z2, z2, sp, none, none, h1, h2, h3, h4, h5, h6, h7, fun e => by omega, fun _ => rfl, fun _ => .inl ⟨rfl, hk⟩, fun e => by omega⟩

theorem Half.catch {n : Nat} {w : World} {R : Tell} {Ch : Key → Nat → Prop} {W W2 : World} {c c' : Nat} (h : Half n w R Ch 2 W) (hb : Below W.heap.size W W2) (hk : Ch kC c) (hN : NodeT n W2 c' (fun q => R (kC :: q)) (fun x => W.heap.size ≤ x ∧ x < W2.heap.size)) :
    Half n w R Ch 3 (W2.setCell ⟨w.heap.size, 3, none⟩ (.pointer (some ⟨c', 0, none⟩))) := by
  obtain ⟨z1, z2, z3, sp, pp, cp, h1, h2, h3, h4, h5, h6, h7, _, h9, h10, _⟩ := h
  obtain rfl := h9 rfl
  have hl : w.heap.size < W.heap.size := (Array.getElem?_eq_some_iff.1 h2).1
  have hs := hb.size
  have oth : ∀ x, x ≠ w.heap.size → (W2.setCell ⟨w.heap.size, 3, none⟩ (.pointer (some ⟨c', 0, none⟩))).heap[x]? = W2.heap[x]? := fun x hx => heap_set_other _ hx
  refine ⟨z1, z2, W.heap.size, sp, pp, some c', (h1.trans (hb.mono h1.size)).setCell (p := ⟨w.heap.size, 3, none⟩) (Nat.le_refl _) _, ?_, h3, h4, by omega, by simp; omega, ?_, fun e => by omega, fun e => by omega, fun _ => ?_, fun _ => ?_⟩
  · rw [heap_set_same ((hb.block _ hl).trans h2)]; rfl
  · exact StatPart.move h7 (fun x hx1 hx2 => (oth x (by omega)).trans (hb.block x (by omega)))
  · exact KidPart.wide (KidPart.move (h10 (by omega)) (fun x hx1 hx2 => (oth x (by omega)).trans (hb.block x (by omega)))) (by omega)
  · refine .inr ⟨c', rfl, ⟨c, hk⟩, (NodeT.move n hN (fun x hx => oth x (by have := hx.1; omega))).congr (fun _ => rfl) (fun x hx => ⟨hx.1, by simp; exact hx.2⟩)⟩

theorem Half.catch0 {n : Nat} {w : World} {R : Tell} {Ch : Key → Nat → Prop} {W : World} (h : Half n w R Ch 2 W) (hk : ∀ c, ¬ Ch kC c) : Half n w R Ch 3 W := by
  obtain ⟨z1, z2, z3, sp, pp, cp, h1, h2, h3, h4, h5, h6, h7, _, h9, h10, _⟩ := h
  obtain rfl := h9 rfl
  exact ⟨z1, z2, z3, sp, pp, none, h1, h2, h3, h4, h5, h6, h7, fun e => by omega, fun e => by omega, fun _ => h10 (by omega), fun _ => .inl ⟨rfl, hk⟩⟩

theorem Half.done {n : Nat} {w : World} {R : Tell} {Ch : Key → Nat → Prop} {W : World} (h : Half n w R Ch 3 W) (hno : ∀ k, (∀ x, ¬ Ch k x) → ∀ q, R (k :: q) = none) (hkey : ∀ k x, Ch k x → k = kP ∨ k = kC ∨ ∃ t, k = kS t ∧ Clean t.data.toList ∧ t.size ≤ 256) :
    Below w.heap.size w W ∧ NodeT (n + 1) W w.heap.size R (fun x => w.heap.size ≤ x ∧ x < W.heap.size) := by
  obtain ⟨z1, z2, z3, sp, pp, cp, h1, h2, h3, h4, h5, h6, h7, _, _, h10, h11⟩ := h
  exact ⟨h1, clone_node h2 h7 (h10 (by omega)) (h11 (by omega)) h3 h4 h5 h6 hno hkey⟩

end Go.Proofs.Ybulkavso
