/-
  What a clone comes to: a table of texts copied, a node copied. No program here, only worlds.
-/
import Derived.Test.YbulkavsoWay
import Derived.Deep.Slices
namespace Go.Proofs.Ybulkavso
open Go.RowKit

/-- The three values are a table of the texts of S, its children trees that tell Rt; all of it lies in the blocks from lo to hi. -/
def CloneAt (n m : Nat) (w : World) (lo hi : Nat) (p0 : Option Addr) (s1 : ByteArray) (p2 : Option Addr) (S : ByteArray → Nat → Prop) (Rt : ByteArray → Tell) : Prop :=
  ∃ (S' : ByteArray → Nat → Prop) (Ft : Nat → Prop) (Fk : ByteArray → Nat → Prop),
    (∀ x, Ft x → lo ≤ x ∧ x < hi) ∧
    (∀ (w2 : World) (b o : Nat), w2.cell? ⟨b, o, none⟩ = some (.pointer p0) → w2.cell? ⟨b, o + 1, none⟩ = some (.string s1) → w2.cell? ⟨b, o + 2, none⟩ = some (.pointer p2) → (∀ x, Ft x → w2.heap[x]? = w.heap[x]?) → Tri m w2 b o S' Ft) ∧
    (∀ t, (∃ c, S t c) ↔ ∃ c, S' t c) ∧
    (∀ t c, S' t c → NodeT n w c (Rt t) (Fk t) ∧ ∀ x, Fk t x → (lo ≤ x ∧ x < hi) ∧ ¬ Ft x) ∧
    (∀ t c t' c' x, S' t c → S' t' c' → Fk t x → Fk t' x → t = t')

theorem CloneAt.move {n m : Nat} {w w' : World} {lo hi lo' hi' : Nat} {p0 p2 : Option Addr} {s1 : ByteArray} {S : ByteArray → Nat → Prop} {Rt : ByteArray → Tell} (h : CloneAt n m w lo hi p0 s1 p2 S Rt) (hk : ∀ x, lo ≤ x → x < hi → w'.heap[x]? = w.heap[x]?)
    (h1 : lo' ≤ lo) (h2 : hi ≤ hi') : CloneAt n m w' lo' hi' p0 s1 p2 S Rt := by
  obtain ⟨S', Ft, Fk, g1, g2, g3, g4, g5⟩ := h
  refine ⟨S', Ft, Fk, fun x hx => ⟨by have := (g1 x hx).1; omega, by have := (g1 x hx).2; omega⟩, fun w2 b o e0 e1 e2 hF => g2 w2 b o e0 e1 e2 (fun x hx => (hF x hx).trans (hk x (g1 x hx).1 (g1 x hx).2)), g3, ?_, g5⟩
  intro t c ht
  obtain ⟨q1, q2⟩ := g4 t c ht
  exact ⟨NodeT.move n q1 (fun x hx => hk x (q2 x hx).1.1 (q2 x hx).1.2), fun x hx => ⟨⟨by have := (q2 x hx).1.1; omega, by have := (q2 x hx).1.2; omega⟩, (q2 x hx).2⟩⟩

theorem clone_leaf {n m : Nat} {w : World} {lo hi c c' : Nat} {s : ByteArray} {S : ByteArray → Nat → Prop} {Rt : ByteArray → Tell} (hS : ∀ t d, S t d ↔ t = s ∧ d = c) (h : NodeT n w c' (Rt s) (fun x => lo ≤ x ∧ x < hi)) :
    CloneAt n (m + 1) w lo hi none s (some ⟨c', 0, none⟩) S Rt := by
  refine ⟨fun t d => t = s ∧ d = c', fun _ => False, fun _ x => lo ≤ x ∧ x < hi, fun _ h => h.elim, fun w2 b o e0 e1 e2 _ => .inl ⟨s, c', ⟨e0, e1, e2⟩, fun _ _ => Iff.rfl⟩, ?_, ?_, ?_⟩
  · intro t
    constructor
    · rintro ⟨d, hd⟩
      exact ⟨c', ((hS t d).1 hd).1, rfl⟩
    · rintro ⟨d, rfl, rfl⟩
      exact ⟨c, (hS t c).2 ⟨rfl, rfl⟩⟩
  · rintro t d ⟨rfl, rfl⟩
    exact ⟨h, fun x hx => ⟨hx, fun e => e⟩⟩
  · rintro t _ t' _ x ⟨rfl, rfl⟩ ⟨rfl, rfl⟩ _ _
    rfl

theorem mono_up {L : Nat → Nat} {k : Nat} (h : ∀ j, j < k → L j ≤ L (j + 1)) : ∀ i j, i ≤ j → j ≤ k → L i ≤ L j := by
  intro i j hij hj
  induction j with
  | zero => have : i = 0 := by omega
            subst this; exact Nat.le_refl _
  | succ j ih =>
    rcases Nat.lt_or_ge i (j + 1) with hl | hl
    · exact Nat.le_trans (ih (by omega) (by omega)) (h j (by omega))
    · have : i = j + 1 := by omega
      subst this; exact Nat.le_refl _

theorem clone_branch {n m : Nat} {w : World} {lo hi B A k pos : Nat} {P : ByteArray} {l0 : UInt8} {ch : Nat → UInt8} {S : ByteArray → Nat → Prop} {Sf : Nat → ByteArray → Nat → Prop} {Rt : ByteArray → Tell} {cs : Array Value} {L : Nat → Nat}
    (hk : 2 ≤ k) (hp : pos ≤ 256) (hP : Picks P.data.toList l0 k ch) (h3 : ∀ t c, S t c ↔ ∃ i, i < k ∧ Sf i t c) (h4 : ∀ t c t' c', S t c → S t' c' → ∀ j, j < pos → bAt t.data.toList j = bAt t'.data.toList j) (h5 : ∀ i t c, i < k → Sf i t c → bAt t.data.toList pos = ch i)
    (hB : w.heap[B]? = some (.cells #[.int .i64 pos, .string P, .int .u8 l0.toNat, .slice (some ⟨A, 0, none⟩) k k] 88)) (hA : w.heap[A]? = some (.cells cs 83)) (hcs : cs.size = 3 * k) (hL : ∀ j, j < k → L j ≤ L (j + 1)) (hAB : A ≠ B)
    (hlo : lo ≤ A ∧ lo ≤ B ∧ lo ≤ L 0) (hA0 : A < L 0) (hB0 : B < L 0) (hhi : L k ≤ hi)
    (harm : ∀ j, j < k → ∃ (p0 : Option Addr) (s1 : ByteArray) (p2 : Option Addr), cs[3 * j]? = some (.pointer p0) ∧ cs[3 * j + 1]? = some (.string s1) ∧ cs[3 * j + 2]? = some (.pointer p2) ∧ CloneAt n m w (L j) (L (j + 1)) p0 s1 p2 (Sf j) Rt) :
    CloneAt n (m + 1) w lo hi (some ⟨B, 0, none⟩) ⟨#[]⟩ none S Rt := by
  have hmon := mono_up hL
  have each : ∀ j, j < k → ∃ y : (ByteArray → Nat → Prop) × (Nat → Prop) × (ByteArray → Nat → Prop), ∃ (p0 : Option Addr) (s1 : ByteArray) (p2 : Option Addr), cs[3 * j]? = some (.pointer p0) ∧ cs[3 * j + 1]? = some (.string s1) ∧ cs[3 * j + 2]? = some (.pointer p2) ∧
      (∀ x, y.2.1 x → L j ≤ x ∧ x < L (j + 1)) ∧
      (∀ (w2 : World) (b o : Nat), w2.cell? ⟨b, o, none⟩ = some (.pointer p0) → w2.cell? ⟨b, o + 1, none⟩ = some (.string s1) → w2.cell? ⟨b, o + 2, none⟩ = some (.pointer p2) → (∀ x, y.2.1 x → w2.heap[x]? = w.heap[x]?) → Tri m w2 b o y.1 y.2.1) ∧
      (∀ t, (∃ c, Sf j t c) ↔ ∃ c, y.1 t c) ∧
      (∀ t c, y.1 t c → NodeT n w c (Rt t) (y.2.2 t) ∧ ∀ x, y.2.2 t x → (L j ≤ x ∧ x < L (j + 1)) ∧ ¬ y.2.1 x) ∧
      (∀ t c t' c' x, y.1 t c → y.1 t' c' → y.2.2 t x → y.2.2 t' x → t = t') := by
    intro j hj
    obtain ⟨p0, s1, p2, c0, c1, c2, S', Ft, Fk, g⟩ := harm j hj
    exact ⟨(S', Ft, Fk), p0, s1, p2, c0, c1, c2, g⟩
  obtain ⟨y, hy⟩ := Go.Deep.choose_lt each
  have arm_of : ∀ i j t c c', i < k → j < k → (y i).1 t c → (y j).1 t c' → i = j := by
    intro i j t c c' hi hj h1 h2
    obtain ⟨_, _, _, _, _, _, _, _, g3, _⟩ := hy i hi
    obtain ⟨_, _, _, _, _, _, _, _, g3', _⟩ := hy j hj
    obtain ⟨d, hd⟩ := (g3 t).2 ⟨c, h1⟩
    obtain ⟨d', hd'⟩ := (g3' t).2 ⟨c', h2⟩
    exact hP.inj i j hi hj ((h5 i t d hi hd).symm.trans (h5 j t d' hj hd'))
  have rng : ∀ i j x, i < k → j < k → L i ≤ x → x < L (i + 1) → L j ≤ x → x < L (j + 1) → i = j := by
    intro i j x hi hj a1 a2 b1 b2
    rcases Nat.lt_trichotomy i j with h | h | h
    · have := hmon (i + 1) j (by omega) (by omega); omega
    · exact h
    · have := hmon (j + 1) i (by omega) (by omega); omega
  refine ⟨fun t c => ∃ i, i < k ∧ (y i).1 t c, fun x => x = A ∨ x = B ∨ ∃ i, i < k ∧ (y i).2.1 x, fun t x => ∃ i, i < k ∧ (∃ c, (y i).1 t c) ∧ (y i).2.2 t x, ?_, ?_, ?_, ?_, ?_⟩
  · have hk0 := hmon 0 k (by omega) (Nat.le_refl _)
    rintro x (rfl | rfl | ⟨i, hi, hx⟩)
    · omega
    · omega
    · obtain ⟨_, _, _, _, _, _, g1, _⟩ := hy i hi
      have := g1 x hx
      have := hmon 0 i (by omega) (by omega)
      have := hmon (i + 1) k (by omega) (Nat.le_refl _)
      omega
  · intro w2 b o e0 e1 e2 hF
    have hB2 : w2.heap[B]? = _ := (hF B (.inr (.inl rfl))).trans hB
    have hA2 : w2.heap[A]? = _ := (hF A (.inl rfl)).trans hA
    refine .inr ⟨B, A, k, pos, P, l0, ch, fun i => (y i).1, fun i => (y i).2.1, ⟨e0, e1, e2⟩, hB2, ⟨cs, hA2, hcs⟩, .inr (.inl rfl), .inl rfl, Ne.symm hAB, hk, hp, hP, ?_, ?_, ?_, fun _ _ => Iff.rfl, ?_, ?_⟩
    · intro i hi
      obtain ⟨p0, s1, p2, c0, c1, c2, g1, g2, _⟩ := hy i hi
      refine g2 w2 A (3 * i) ?_ ?_ ?_ (fun x hx => hF x (.inr (.inr ⟨i, hi, hx⟩)))
      · simp only [World.cell?, hA2]; exact c0
      · simp only [World.cell?, hA2]; exact c1
      · simp only [World.cell?, hA2]; exact c2
    · intro i x hi hx
      obtain ⟨_, _, _, _, _, _, g1, _⟩ := hy i hi
      have := (g1 x hx).1
      have := hmon 0 i (by omega) (by omega)
      exact ⟨.inr (.inr ⟨i, hi, hx⟩), by omega, by omega⟩
    · intro i j x hi hj hx hx'
      obtain ⟨_, _, _, _, _, _, g1, _⟩ := hy i hi
      obtain ⟨_, _, _, _, _, _, g1', _⟩ := hy j hj
      exact rng i j x hi hj (g1 x hx).1 (g1 x hx).2 (g1' x hx').1 (g1' x hx').2
    · rintro t c t' c' ⟨i, hi, ht⟩ ⟨j, hj, ht'⟩ q hq
      obtain ⟨_, _, _, _, _, _, _, _, g3, _⟩ := hy i hi
      obtain ⟨_, _, _, _, _, _, _, _, g3', _⟩ := hy j hj
      obtain ⟨d, hd⟩ := (g3 t).2 ⟨c, ht⟩
      obtain ⟨d', hd'⟩ := (g3' t').2 ⟨c', ht'⟩
      exact h4 t d t' d' ((h3 t d).2 ⟨i, hi, hd⟩) ((h3 t' d').2 ⟨j, hj, hd'⟩) q hq
    · intro i t c hi ht
      obtain ⟨_, _, _, _, _, _, _, _, g3, _⟩ := hy i hi
      obtain ⟨d, hd⟩ := (g3 t).2 ⟨c, ht⟩
      exact h5 i t d hi hd
  · intro t
    constructor
    · rintro ⟨c, hc⟩
      obtain ⟨i, hi, hx⟩ := (h3 t c).1 hc
      obtain ⟨_, _, _, _, _, _, _, _, g3, _⟩ := hy i hi
      obtain ⟨d, hd⟩ := (g3 t).1 ⟨c, hx⟩
      exact ⟨d, i, hi, hd⟩
    · rintro ⟨c, i, hi, hx⟩
      obtain ⟨_, _, _, _, _, _, _, _, g3, _⟩ := hy i hi
      obtain ⟨d, hd⟩ := (g3 t).2 ⟨c, hx⟩
      exact ⟨d, (h3 t d).2 ⟨i, hi, hd⟩⟩
  · rintro t c ⟨i, hi, ht⟩
    obtain ⟨_, _, _, _, _, _, g1, _, _, g4, _⟩ := hy i hi
    obtain ⟨q1, q2⟩ := g4 t c ht
    refine ⟨q1.congr (fun _ => rfl) (fun x hx => ⟨i, hi, ⟨c, ht⟩, hx⟩), ?_⟩
    rintro x ⟨j, hj, ⟨c', ht'⟩, hx⟩
    obtain rfl := arm_of i j t c c' hi hj ht ht'
    have r := q2 x hx
    have b1 := hmon 0 i (by omega) (by omega)
    have b2 := hmon (i + 1) k (by omega) (Nat.le_refl _)
    refine ⟨by omega, ?_⟩
    rintro (rfl | rfl | ⟨j, hj', hx'⟩)
    · omega
    · omega
    · obtain ⟨_, _, _, _, _, _, g1', _⟩ := hy j hj'
      obtain rfl := rng i j x hi hj' r.1.1 r.1.2 (g1' x hx').1 (g1' x hx').2
      exact r.2 hx'
  · rintro t _ t' _ x ⟨_, _, _⟩ ⟨_, _, _⟩ ⟨i, hi, ⟨c, ht⟩, hx⟩ ⟨j, hj, ⟨c', ht'⟩, hx'⟩
    obtain ⟨_, _, _, _, _, _, _, _, _, g4, g5⟩ := hy i hi
    obtain ⟨_, _, _, _, _, _, _, _, _, g4', _⟩ := hy j hj
    have r := ((g4 t c ht).2 x hx).1
    have r' := ((g4' t' c' ht').2 x hx').1
    obtain rfl := rng i j x hi hj r.1 r.2 r'.1 r'.2
    exact g5 t c t' c' x ht ht' hx hx'

end Go.Proofs.Ybulkavso
