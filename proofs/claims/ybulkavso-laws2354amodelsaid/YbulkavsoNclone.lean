/-
  What a copied node comes to. No program here, only worlds.
-/
import Derived.Test.YbulkavsoSclone
namespace Go.Proofs.Ybulkavso
open Go.RowKit

/-- The copy of a node's table of texts. -/
def StatPart (n : Nat) (w : World) (lo hi : Nat) (sp : Option Nat) (Ch : Key → Nat → Prop) (R : Tell) : Prop :=
  (sp = none ∧ ∀ t c, ¬ Ch (kS t) c) ∨ ∃ (tb m l h : Nat) (p0 : Option Addr) (s1 : ByteArray) (p2 : Option Addr), sp = some tb ∧ lo ≤ tb ∧ tb < hi ∧ w.heap[tb]? = some (.cells #[.pointer p0, .string s1, .pointer p2] 83) ∧
    lo ≤ l ∧ h ≤ hi ∧ (tb < l ∨ h ≤ tb) ∧ CloneAt n m w l h p0 s1 p2 (fun t c => Ch (kS t) c) (fun t q => R (kS t :: q))

/-- The copy of a node's child for a parameter or a catch-all. -/
def KidPart (n : Nat) (w : World) (lo hi : Nat) (pp : Option Nat) (Ch : Key → Nat → Prop) (k : Key) (R : Tell) : Prop :=
  (pp = none ∧ ∀ c, ¬ Ch k c) ∨ ∃ c', pp = some c' ∧ (∃ c, Ch k c) ∧ NodeT n w c' (fun q => R (k :: q)) (fun x => lo ≤ x ∧ x < hi)

theorem StatPart.move {n : Nat} {w w' : World} {lo hi : Nat} {sp : Option Nat} {Ch : Key → Nat → Prop} {R : Tell} (h : StatPart n w lo hi sp Ch R) (hk : ∀ x, lo ≤ x → x < hi → w'.heap[x]? = w.heap[x]?) : StatPart n w' lo hi sp Ch R := by
  rcases h with h | ⟨tb, m, l, h', p0, s1, p2, e1, e2, e3, e4, e5, e6, e7, e8⟩
  · exact .inl h
  · exact .inr ⟨tb, m, l, h', p0, s1, p2, e1, e2, e3, (hk tb e2 e3).trans e4, e5, e6, e7, e8.move (fun x hx1 hx2 => hk x (by omega) (by omega)) (Nat.le_refl _) (Nat.le_refl _)⟩

theorem KidPart.move {n : Nat} {w w' : World} {lo hi : Nat} {pp : Option Nat} {Ch : Key → Nat → Prop} {k : Key} {R : Tell} (h : KidPart n w lo hi pp Ch k R) (hk : ∀ x, lo ≤ x → x < hi → w'.heap[x]? = w.heap[x]?) : KidPart n w' lo hi pp Ch k R := by
  rcases h with h | ⟨c', e1, e2, e3⟩
  · exact .inl h
  · exact .inr ⟨c', e1, e2, NodeT.move n e3 (fun x hx => hk x hx.1 hx.2)⟩

/-- One table of texts has no text twice. -/
theorem Tri.once : ∀ (m : Nat) {w : World} {b o : Nat} {S : ByteArray → Nat → Prop} {F : Nat → Prop}, Tri m w b o S F → ∀ t c c', S t c → S t c' → c = c' := by
  intro m
  induction m with
  | zero => intro w b o S F h; exact h.elim
  | succ m ih =>
    intro w b o S F h t c c' h1 h2
    rcases h with ⟨s, d, _, hS⟩ | ⟨bb, ab, k, pos, P, lo, ch, Sf, Ff, _, _, _, _, _, _, _, _, hP, hT, _, _, h3, _, h5⟩
    · exact ((hS t c).1 h1).2.trans ((hS t c').1 h2).2.symm
    · obtain ⟨i, hi, x1⟩ := (h3 t c).1 h1
      obtain ⟨j, hj, x2⟩ := (h3 t c').1 h2
      obtain rfl := hP.inj i j hi hj ((h5 i t c hi x1).symm.trans (h5 j t c' hj x2))
      exact ih (hT i hi) t c c' x1 x2

theorem clone_node {n : Nat} {w : World} {d a b c e : Nat} {R : Tell} {Ch : Key → Nat → Prop} {sp pp cp : Option Nat} (hd : w.heap[d]? = some (.cells #[ptrO (R []), ptrO sp, ptrO pp, ptrO cp] 54)) (hS : StatPart n w a b sp Ch R) (hP : KidPart n w b c pp Ch kP R) (hC : KidPart n w c e cp Ch kC R)
    (h1 : d < a) (h2 : a ≤ b) (h3 : b ≤ c) (h4 : c ≤ e) (hno : ∀ k, (∀ x, ¬ Ch k x) → ∀ q, R (k :: q) = none) (hkey : ∀ k x, Ch k x → k = kP ∨ k = kC ∨ ∃ t, k = kS t ∧ Clean t.data.toList ∧ t.size ≤ 256) :
    NodeT (n + 1) w d R (fun x => d ≤ x ∧ x < e) := by
  obtain ⟨S', Ft, Fks, stat, g3, g4, g5, g6⟩ : ∃ (S' : ByteArray → Nat → Prop) (Ft : Nat → Prop) (Fks : ByteArray → Nat → Prop),
      ((sp = none ∧ ∀ t x, ¬ S' t x) ∨ ∃ (tb m : Nat), sp = some tb ∧ (a ≤ tb ∧ tb < b) ∧ (∃ cs : Array Value, w.heap[tb]? = some (.cells cs 83)) ∧ Tri m w tb 0 S' Ft ∧ ¬ Ft tb ∧ ∀ t x, S' t x → ∀ y, Fks t y → y ≠ tb) ∧
      (∀ t, (∃ x, Ch (kS t) x) ↔ ∃ x, S' t x) ∧ (∀ t x, S' t x → NodeT n w x (fun q => R (kS t :: q)) (Fks t) ∧ ∀ y, Fks t y → (a ≤ y ∧ y < b) ∧ ¬ Ft y) ∧ (∀ t x t' x' y, S' t x → S' t' x' → Fks t y → Fks t' y → t = t') ∧ (∀ x, Ft x → a ≤ x ∧ x < b) := by
    rcases hS with ⟨e1, e2⟩ | ⟨tb, m, l, h, p0, s1, p2, e1, e2, e3, e4, e5, e6, e7, S', Ft, Fks, g1, g2, g3, g4, g5⟩
    · exact ⟨fun _ _ => False, fun _ => False, fun _ _ => False, .inl ⟨e1, fun _ _ h => h⟩, fun t => ⟨fun ⟨x, hx⟩ => absurd hx (e2 t x), fun ⟨_, hx⟩ => hx.elim⟩, fun _ _ h => h.elim, fun _ _ _ _ _ h => h.elim, fun _ h => h.elim⟩
    · refine ⟨S', Ft, Fks, .inr ⟨tb, m, e1, ⟨e2, e3⟩, ⟨_, e4⟩, g2 w tb 0 (by simp [World.cell?, e4]) (by simp [World.cell?, e4]) (by simp [World.cell?, e4]) (fun _ _ => rfl), fun hx => by have := g1 tb hx; omega, ?_⟩, g3, ?_, g5, fun x hx => by have := g1 x hx; omega⟩
      · intro t x ht y hy
        have := ((g4 t x ht).2 y hy).1
        omega
      · intro t x ht
        exact ⟨(g4 t x ht).1, fun y hy => ⟨by have := ((g4 t x ht).2 y hy).1; omega, ((g4 t x ht).2 y hy).2⟩⟩
  have kps : ∀ t, kP ≠ kS t := fun t e => kS_kP t e.symm
  have kcs : ∀ t, kC ≠ kS t := fun t e => kS_kC t e.symm
  have once : ∀ t x x', S' t x → S' t x' → x = x' := by
    intro t x x' hx hx'
    rcases stat with ⟨_, hno'⟩ | ⟨tb, m, _, _, _, hT, _⟩
    · exact absurd hx (hno' t x)
    · exact Tri.once m hT t x x' hx hx'
  refine ⟨fun k x => (∃ t, k = kS t ∧ S' t x) ∨ (k = kP ∧ pp = some x) ∨ (k = kC ∧ cp = some x), fun k x => (∃ t, k = kS t ∧ Fks t x) ∨ (k = kP ∧ b ≤ x ∧ x < c) ∨ (k = kC ∧ c ≤ x ∧ x < e), fun x => x = d ∨ sp = some x ∨ (sp ≠ none ∧ Ft x),
    ⟨.inl rfl, sp, pp, cp, hd, ?_, ?_, ?_, ?_⟩, ?_, ?_, ?_, ?_, ?_, ?_⟩
  · intro x
    constructor
    · rintro (⟨t, e', _⟩ | ⟨_, e'⟩ | ⟨e', _⟩)
      · exact absurd e' (kps t)
      · exact e'
      · exact absurd e' kP_kC
    · intro e'; exact .inr (.inl ⟨rfl, e'⟩)
  · intro x
    constructor
    · rintro (⟨t, e', _⟩ | ⟨e', _⟩ | ⟨_, e'⟩)
      · exact absurd e' (kcs t)
      · exact absurd e'.symm kP_kC
      · exact e'
    · intro e'; exact .inr (.inr ⟨rfl, e'⟩)
  · rintro k x (⟨t, rfl, ht⟩ | ⟨rfl, _⟩ | ⟨rfl, _⟩)
    · obtain ⟨y, hy⟩ := (g3 t).2 ⟨x, ht⟩
      exact hkey _ y hy
    · exact .inl rfl
    · exact .inr (.inl rfl)
  · have hst : ∀ t x, ((∃ t', kS t = kS t' ∧ S' t' x) ∨ (kS t = kP ∧ pp = some x) ∨ (kS t = kC ∧ cp = some x)) ↔ S' t x := by
      intro t x
      constructor
      · rintro (⟨t', e', ht⟩ | ⟨e', _⟩ | ⟨e', _⟩)
        · rw [kS_inj e']; exact ht
        · exact absurd e' (kS_kP t)
        · exact absurd e' (kS_kC t)
      · intro ht; exact .inl ⟨t, rfl, ht⟩
    rcases stat with ⟨e1, e2⟩ | ⟨tb, m, e1, e2, e3, e4, e5, e6⟩
    · exact .inl ⟨e1, fun t x hx => e2 t x ((hst t x).1 hx)⟩
    · exact .inr ⟨tb, m, Ft, e1, e3, e4.congr hst (fun _ h => h), e5, .inr (.inl e1), by omega, fun x hx => ⟨.inr (.inr ⟨by rw [e1]; simp, hx⟩), by have := g6 x hx; omega⟩⟩
  · rintro k x x' (⟨t, rfl, ht⟩ | ⟨rfl, e1⟩ | ⟨rfl, e1⟩) (⟨t', e', ht'⟩ | ⟨e', e2⟩ | ⟨e', e2⟩)
    · rw [← kS_inj e'] at ht'; exact once t x x' ht ht'
    · exact absurd e' (kS_kP t)
    · exact absurd e' (kS_kC t)
    · exact absurd e' (kps t')
    · rw [e1] at e2; exact Option.some.inj e2
    · exact absurd e' kP_kC
    · exact absurd e' (kcs t')
    · exact absurd e'.symm kP_kC
    · rw [e1] at e2; exact Option.some.inj e2
  · rintro k x (⟨t, rfl, ht⟩ | ⟨rfl, e1⟩ | ⟨rfl, e1⟩)
    · exact (g4 t x ht).1.congr (fun _ => rfl) (fun y hy => .inl ⟨t, rfl, hy⟩)
    · rcases hP with ⟨e2, _⟩ | ⟨c', e2, _, e3⟩
      · rw [e1] at e2; cases e2
      · rw [e1] at e2; cases e2
        exact e3.congr (fun _ => rfl) (fun y hy => .inr (.inl ⟨rfl, hy⟩))
    · rcases hC with ⟨e2, _⟩ | ⟨c', e2, _, e3⟩
      · rw [e1] at e2; cases e2
      · rw [e1] at e2; cases e2
        exact e3.congr (fun _ => rfl) (fun y hy => .inr (.inr ⟨rfl, hy⟩))
  · intro k hk q
    refine hno k (fun x hx => ?_) q
    rcases hkey k x hx with rfl | rfl | ⟨t, rfl, _⟩
    · rcases hP with ⟨_, e2⟩ | ⟨c', e2, _, _⟩
      · exact e2 x hx
      · exact hk c' (.inr (.inl ⟨rfl, e2⟩))
    · rcases hC with ⟨_, e2⟩ | ⟨c', e2, _, _⟩
      · exact e2 x hx
      · exact hk c' (.inr (.inr ⟨rfl, e2⟩))
    · obtain ⟨y, hy⟩ := (g3 t).1 ⟨x, hx⟩
      exact hk y (.inl ⟨t, rfl, hy⟩)
  · rintro x (rfl | hx | ⟨_, hx⟩)
    · omega
    · rcases stat with ⟨e1, _⟩ | ⟨tb, m, e1, e2, _⟩
      · rw [hx] at e1; cases e1
      · rw [hx] at e1; cases e1; omega
    · have := g6 x hx; omega
  · rintro k x y hk hy
    rcases hy with ⟨t, rfl, hy⟩ | ⟨rfl, hy⟩ | ⟨rfl, hy⟩
    · rcases hk with ⟨t', e', ht⟩ | ⟨e', _⟩ | ⟨e', _⟩
      · rw [← kS_inj e'] at ht
        have r := (g4 t x ht).2 y hy
        refine ⟨by omega, ?_⟩
        rintro (rfl | hx | ⟨_, hx⟩)
        · omega
        · rcases stat with ⟨e1, _⟩ | ⟨tb, m, e1, e2, _, _, _, e6⟩
          · rw [hx] at e1; cases e1
          · rw [hx] at e1; cases e1; exact e6 t x ht y hy rfl
        · exact r.2 hx
      · exact absurd e' (kS_kP t)
      · exact absurd e' (kS_kC t)
    · refine ⟨by omega, ?_⟩
      rintro (rfl | hx | ⟨_, hx⟩)
      · omega
      · rcases stat with ⟨e1, _⟩ | ⟨tb, m, e1, e2, _⟩
        · rw [hx] at e1; cases e1
        · rw [hx] at e1; cases e1; omega
      · have := g6 y hx; omega
    · refine ⟨by omega, ?_⟩
      rintro (rfl | hx | ⟨_, hx⟩)
      · omega
      · rcases stat with ⟨e1, _⟩ | ⟨tb, m, e1, e2, _⟩
        · rw [hx] at e1; cases e1
        · rw [hx] at e1; cases e1; omega
      · have := g6 y hx; omega
  · rintro k k' x x' y hk hk' hy hy'
    have st : ∀ t, (∃ x, (∃ t', kS t = kS t' ∧ S' t' x) ∨ (kS t = kP ∧ pp = some x) ∨ (kS t = kC ∧ cp = some x)) → ∃ x, S' t x := by
      rintro t ⟨x, ⟨t', e', ht⟩ | ⟨e', _⟩ | ⟨e', _⟩⟩
      · rw [kS_inj e']; exact ⟨x, ht⟩
      · exact absurd e' (kS_kP t)
      · exact absurd e' (kS_kC t)
    rcases hy with ⟨t, rfl, hy⟩ | ⟨rfl, hy⟩ | ⟨rfl, hy⟩ <;> rcases hy' with ⟨t', rfl, hy'⟩ | ⟨rfl, hy'⟩ | ⟨rfl, hy'⟩
    · obtain ⟨z, hz⟩ := st t ⟨x, hk⟩
      obtain ⟨z', hz'⟩ := st t' ⟨x', hk'⟩
      rw [g5 t z t' z' y hz hz' hy hy']
    · obtain ⟨z, hz⟩ := st t ⟨x, hk⟩
      have := ((g4 t z hz).2 y hy).1; omega
    · obtain ⟨z, hz⟩ := st t ⟨x, hk⟩
      have := ((g4 t z hz).2 y hy).1; omega
    · obtain ⟨z, hz⟩ := st t' ⟨x', hk'⟩
      have := ((g4 t' z hz).2 y hy').1; omega
    · rfl
    · omega
    · obtain ⟨z, hz⟩ := st t' ⟨x', hk'⟩
      have := ((g4 t' z hz).2 y hy').1; omega
    · omega
    · rfl

end Go.Proofs.Ybulkavso
