/-
  The trie in memory: 'Tri n w b o S F': at slot (b, o) of world w (three cells: branch, text, child) lies a trie of depth at most n that holds the texts with their children as S says, its own blocks among F. How it moves, how it is kept, what becomes of it when one slot is written anew. No program here, only worlds.
-/
import Derived.WalkKit
import Derived.Test.YbulkavsoPure
namespace Go.Proofs.Ybulkavso
open Go.RowKit

/-- Slot (b, o) is a leaf: text s, child in block c. -/
def LeafAt (w : World) (b o : Nat) (s : ByteArray) (c : Nat) : Prop :=
  w.cell? ⟨b, o, none⟩ = some (.pointer none) ∧ w.cell? ⟨b, o + 1, none⟩ = some (.string s) ∧ w.cell? ⟨b, o + 2, none⟩ = some (.pointer (some ⟨c, 0, none⟩))

/-- Slot (b, o) leads to the branch in block bb. -/
def BranchSlot (w : World) (b o bb : Nat) : Prop :=
  w.cell? ⟨b, o, none⟩ = some (.pointer (some ⟨bb, 0, none⟩)) ∧ w.cell? ⟨b, o + 1, none⟩ = some (.string ⟨#[]⟩) ∧ w.cell? ⟨b, o + 2, none⟩ = some (.pointer none)

/-- Block bb is a branch that reads place pos, by table P from byte lo on, with k arms in block ab. -/
def BranchObj (w : World) (bb pos : Nat) (P : ByteArray) (lo : UInt8) (ab k : Nat) : Prop :=
  w.heap[bb]? = some (.cells #[.int .i64 pos, .string P, .int .u8 lo.toNat, .slice (some ⟨ab, 0, none⟩) k k] 88)

/-- Block ab is a row of k slots. -/
def ArmsObj (w : World) (ab k : Nat) : Prop := ∃ cs : Array Value, w.heap[ab]? = some (.cells cs 83) ∧ cs.size = 3 * k

/-- What a branch of k arms is, its arms told by T. -/
def IsBranch (T : World → Nat → Nat → (ByteArray → Nat → Prop) → (Nat → Prop) → Prop) (w : World) (b o : Nat) (S : ByteArray → Nat → Prop) (F : Nat → Prop) : Prop :=
  ∃ (bb ab k pos : Nat) (P : ByteArray) (lo : UInt8) (ch : Nat → UInt8) (Sf : Nat → ByteArray → Nat → Prop) (Ff : Nat → Nat → Prop),
    BranchSlot w b o bb ∧ BranchObj w bb pos P lo ab k ∧ ArmsObj w ab k ∧ F bb ∧ F ab ∧ bb ≠ ab ∧ 2 ≤ k ∧ pos ≤ 256 ∧ Picks P.data.toList lo k ch ∧
    (∀ i, i < k → T w ab (3 * i) (Sf i) (Ff i)) ∧
    (∀ i x, i < k → Ff i x → F x ∧ x ≠ bb ∧ x ≠ ab) ∧
    (∀ i j x, i < k → j < k → Ff i x → Ff j x → i = j) ∧
    (∀ t c, S t c ↔ ∃ i, i < k ∧ Sf i t c) ∧
    (∀ t c t' c', S t c → S t' c' → ∀ j, j < pos → bAt t.data.toList j = bAt t'.data.toList j) ∧
    (∀ i t c, i < k → Sf i t c → bAt t.data.toList pos = ch i)

/-- The trie at a slot, of depth at most n. -/
def Tri : Nat → World → Nat → Nat → (ByteArray → Nat → Prop) → (Nat → Prop) → Prop
  | 0, _, _, _, _, _ => False
  | n + 1, w, b, o, S, F => (∃ s c, LeafAt w b o s c ∧ ∀ t d, S t d ↔ t = s ∧ d = c) ∨ IsBranch (Tri n) w b o S F

theorem cell_block {w w' : World} {b : Nat} (h : w'.heap[b]? = w.heap[b]?) (o : Nat) : w'.cell? ⟨b, o, none⟩ = w.cell? ⟨b, o, none⟩ := by
  simp [World.cell?, h]

/-- The same trie in another world, at another slot that holds the same. -/
theorem Tri.move : ∀ (n : Nat) {w w' : World} {b o b' o' : Nat} {S : ByteArray → Nat → Prop} {F : Nat → Prop}, Tri n w b o S F →
    (∀ j, j < 3 → w'.cell? ⟨b', o' + j, none⟩ = w.cell? ⟨b, o + j, none⟩) → (∀ x, F x → w'.heap[x]? = w.heap[x]?) → Tri n w' b' o' S F := by
  intro n
  induction n with
  | zero => intro w w' b o b' o' S F h; exact h.elim
  | succ n ih =>
    intro w w' b o b' o' S F h hc hF
    have c0 := hc 0 (by omega)
    have c1 := hc 1 (by omega)
    have c2 := hc 2 (by omega)
    simp only [Nat.add_zero] at c0
    rcases h with ⟨s, c, ⟨l0, l1, l2⟩, hS⟩ | ⟨bb, ab, k, pos, P, lo, ch, Sf, Ff, ⟨l0, l1, l2⟩, hb, ⟨cs, ha, hcs⟩, fb, fa, hne, hk, hp, hP, hT, h1, h2, h3, h4, h5⟩
    · exact .inl ⟨s, c, ⟨c0.trans l0, c1.trans l1, c2.trans l2⟩, hS⟩
    · refine .inr ⟨bb, ab, k, pos, P, lo, ch, Sf, Ff, ⟨c0.trans l0, c1.trans l1, c2.trans l2⟩, (hF bb fb).trans hb, ⟨cs, (hF ab fa).trans ha, hcs⟩, fb, fa, hne, hk, hp, hP, ?_, h1, h2, h3, h4, h5⟩
      intro i hi
      exact ih (hT i hi) (fun j _ => cell_block (hF ab fa) _) (fun x hx => hF x (h1 i x hi hx).1)

theorem Tri.mono : ∀ (n : Nat) {w : World} {b o : Nat} {S : ByteArray → Nat → Prop} {F : Nat → Prop}, Tri n w b o S F → ∀ m, n ≤ m → Tri m w b o S F := by
  intro n
  induction n with
  | zero => intro w b o S F h; exact h.elim
  | succ n ih =>
    intro w b o S F h m hm
    obtain ⟨m, rfl⟩ : ∃ m', m = m' + 1 := ⟨m - 1, by omega⟩
    rcases h with h | ⟨bb, ab, k, pos, P, lo, ch, Sf, Ff, hs, hb, ha, fb, fa, hne, hk, hp, hP, hT, rest⟩
    · exact .inl h
    · exact .inr ⟨bb, ab, k, pos, P, lo, ch, Sf, Ff, hs, hb, ha, fb, fa, hne, hk, hp, hP, fun i hi => ih (hT i hi) m (by omega), rest⟩

theorem Tri.congr {n : Nat} {w : World} {b o : Nat} {S S' : ByteArray → Nat → Prop} {F F' : Nat → Prop} (h : Tri n w b o S F) (hS : ∀ t c, S' t c ↔ S t c) (hF : ∀ x, F x → F' x) : Tri n w b o S' F' := by
  cases n with
  | zero => exact h.elim
  | succ n =>
    rcases h with ⟨s, c, hl, h⟩ | ⟨bb, ab, k, pos, P, lo, ch, Sf, Ff, hs, hb, ha, fb, fa, hne, hk, hp, hP, hT, h1, h2, h3, h4, h5⟩
    · exact .inl ⟨s, c, hl, fun t d => (hS t d).trans (h t d)⟩
    · exact .inr ⟨bb, ab, k, pos, P, lo, ch, Sf, Ff, hs, hb, ha, hF _ fb, hF _ fa, hne, hk, hp, hP, hT, fun i x hi hx => ⟨hF _ (h1 i x hi hx).1, (h1 i x hi hx).2⟩, h2, fun t c => (hS t c).trans (h3 t c),
        fun t c t' c' ht ht' => h4 t c t' c' ((hS t c).1 ht) ((hS t' c').1 ht'), h5⟩

theorem Tri.inhab : ∀ (n : Nat) {w : World} {b o : Nat} {S : ByteArray → Nat → Prop} {F : Nat → Prop}, Tri n w b o S F → ∃ t c, S t c := by
  intro n
  induction n with
  | zero => intro w b o S F h; exact h.elim
  | succ n ih =>
    intro w b o S F h
    rcases h with ⟨s, c, _, h⟩ | ⟨bb, ab, k, pos, P, lo, ch, Sf, Ff, hs, hb, ha, fb, fa, hne, hk, hp, hP, hT, h1, h2, h3, h4, h5⟩
    · exact ⟨s, c, (h s c).2 ⟨rfl, rfl⟩⟩
    · obtain ⟨t, c, ht⟩ := ih (hT 0 (by omega))
      exact ⟨t, c, (h3 t c).2 ⟨0, by omega, ht⟩⟩

/-- The blocks of the trie. -/
theorem Tri.cell {n : Nat} {w : World} {b o : Nat} {S : ByteArray → Nat → Prop} {F : Nat → Prop} (h : Tri n w b o S F) : ∃ v, w.cell? ⟨b, o, none⟩ = some v := by
  cases n with
  | zero => exact h.elim
  | succ n =>
    rcases h with ⟨s, c, hl, _⟩ | ⟨bb, ab, k, pos, P, lo, ch, Sf, Ff, hs, _⟩
    · exact ⟨_, hl.1⟩
    · exact ⟨_, hs.1⟩

/-- From w to w' only the slot (b, o), the blocks F and new blocks have turned. -/
structure SlotUpd (w w' : World) (b o : Nat) (F : Nat → Prop) : Prop where
  os : w'.os = w.os
  tape : w'.tape = w.tape
  output : w'.output = w.output
  size : w.heap.size ≤ w'.heap.size
  block : ∀ x, x < w.heap.size → x ≠ b → ¬ F x → w'.heap[x]? = w.heap[x]?
  row : ∃ cs cs' : Array Value, w.heap[b]? = some (.cells cs 83) ∧ w'.heap[b]? = some (.cells cs' 83) ∧ cs'.size = cs.size ∧ ∀ j, j < o ∨ o + 3 ≤ j → cs'[j]? = cs[j]?

theorem SlotUpd.cell {w w' : World} {b o : Nat} {F : Nat → Prop} (h : SlotUpd w w' b o F) {j : Nat} (hj : j < o ∨ o + 3 ≤ j) : w'.cell? ⟨b, j, none⟩ = w.cell? ⟨b, j, none⟩ := by
  obtain ⟨cs, cs', h1, h2, _, h3⟩ := h.row
  simp [World.cell?, h1, h2, h3 j hj]

/-- What a branch is, with the slots of its arms. -/
theorem Tri.one_arm {n n' : Nat} {w w' : World} {b o : Nat} {S : ByteArray → Nat → Prop} {F : Nat → Prop} {T : ByteArray} {C : Nat}
    {bb ab k pos : Nat} {P : ByteArray} {lo : UInt8} {ch : Nat → UInt8} {Sf : Nat → ByteArray → Nat → Prop} {Ff : Nat → Nat → Prop}
    (hs : BranchSlot w b o bb) (hb : BranchObj w bb pos P lo ab k) (fb : F bb) (fa : F ab) (hne : bb ≠ ab) (hk : 2 ≤ k) (hp : pos ≤ 256) (hP : Picks P.data.toList lo k ch)
    (hT : ∀ i, i < k → Tri n w ab (3 * i) (Sf i) (Ff i)) (h1 : ∀ i x, i < k → Ff i x → F x ∧ x ≠ bb ∧ x ≠ ab) (h2 : ∀ i j x, i < k → j < k → Ff i x → Ff j x → i = j)
    (h3 : ∀ t c, S t c ↔ ∃ i, i < k ∧ Sf i t c) (h4 : ∀ t c t' c', S t c → S t' c' → ∀ j, j < pos → bAt t.data.toList j = bAt t'.data.toList j) (h5 : ∀ i t c, i < k → Sf i t c → bAt t.data.toList pos = ch i)
    (hFb : ¬ F b) (hFlt : ∀ x, F x → x < w.heap.size) (hblt : b < w.heap.size)
    {i : Nat} (hi : i < k) {S' : ByteArray → Nat → Prop} {F' : Nat → Prop} (hu : SlotUpd w w' ab (3 * i) (Ff i)) (hT' : Tri n' w' ab (3 * i) S' F')
    (hF' : ∀ x, F' x → Ff i x ∨ (w.heap.size ≤ x ∧ x < w'.heap.size)) (hS' : ∀ t c, S' t c ↔ Sf i t c ∨ (t = T ∧ c = C))
    (ha1 : ∀ t c, S t c → ∀ j, j < pos → bAt T.data.toList j = bAt t.data.toList j) (ha2 : bAt T.data.toList pos = ch i) (hrow : ∃ cs : Array Value, w.heap[b]? = some (.cells cs 83)) (hsz : ArmsObj w ab k) :
    SlotUpd w w' b o F ∧ Tri (max n n' + 1) w' b o (fun t c => S t c ∨ (t = T ∧ c = C)) (fun x => F x ∨ (w.heap.size ≤ x ∧ x < w'.heap.size)) := by
  have hbab : b ≠ ab := fun e => hFb (e ▸ fa)
  have hbb : b ≠ bb := fun e => hFb (e ▸ fb)
  have hbi : ¬ Ff i b := fun e => hFb (h1 i b hi e).1
  have hbblk : w'.heap[b]? = w.heap[b]? := hu.block b hblt hbab hbi
  have hbbi : ¬ Ff i bb := fun e => (h1 i bb hi e).2.1 rfl
  have hbbblk : w'.heap[bb]? = w.heap[bb]? := hu.block bb (hFlt bb fb) hne hbbi
  constructor
  · refine ⟨hu.os, hu.tape, hu.output, hu.size, fun x hx hxb hxF => ?_, ?_⟩
    · exact hu.block x hx (fun e => hxF (e ▸ fa)) (fun e => hxF (h1 i x hi e).1)
    · obtain ⟨cs, hcs⟩ := hrow
      exact ⟨cs, cs, hcs, hbblk.trans hcs, rfl, fun _ _ => rfl⟩
  · refine .inr ⟨bb, ab, k, pos, P, lo, ch, fun m => if m = i then S' else Sf m, fun m => if m = i then F' else Ff m, ⟨(cell_block hbblk _).trans hs.1, (cell_block hbblk _).trans hs.2.1, (cell_block hbblk _).trans hs.2.2⟩, hbbblk.trans hb, ?_, .inl fb, .inl fa, hne, hk, hp, hP, ?_, ?_, ?_, ?_, ?_, ?_⟩
    · obtain ⟨cs0, hcs0, hz0⟩ := hsz
      obtain ⟨cs, cs', hr1, hr2, hr3, _⟩ := hu.row
      rw [hcs0] at hr1
      cases hr1
      exact ⟨cs', hr2, by omega⟩
    · intro m hm
      by_cases e : m = i
      · subst e
        simp only [if_pos]
        exact hT'.mono _ _ (Nat.le_max_right _ _)
      · simp only [if_neg e]
        refine (Tri.move n (hT m hm) (fun j hj => ?_) (fun x hx => ?_)).mono _ _ (Nat.le_max_left _ _)
        · refine hu.cell ?_
          rcases Nat.lt_or_ge m i with hl | hl
          · left; omega
          · right; omega
        · have hx' := h1 m x hm hx
          exact hu.block x (hFlt x hx'.1) hx'.2.2 (fun e' => e (h2 m i x hm hi hx e'))
    · intro m x hm hx
      by_cases e : m = i
      · subst e
        simp only [if_pos] at hx
        rcases hF' x hx with h | h
        · have := h1 m x hm h
          exact ⟨.inl this.1, this.2⟩
        · exact ⟨.inr h, fun e => by have := hFlt bb fb; omega, fun e => by have := hFlt ab fa; omega⟩
      · simp only [if_neg e] at hx
        have := h1 m x hm hx
        exact ⟨.inl this.1, this.2⟩
    · intro m l x hm hl hx hx'
      by_cases e : m = i <;> by_cases e' : l = i
      · omega
      · subst e
        simp only [if_pos] at hx
        simp only [if_neg e'] at hx'
        rcases hF' x hx with h | h
        · exact h2 m l x hm hl h hx'
        · have := hFlt x (h1 l x hl hx').1
          omega
      · subst e'
        simp only [if_pos] at hx'
        simp only [if_neg e] at hx
        rcases hF' x hx' with h | h
        · exact h2 m l x hm hl hx h
        · have := hFlt x (h1 m x hm hx).1
          omega
      · simp only [if_neg e] at hx
        simp only [if_neg e'] at hx'
        exact h2 m l x hm hl hx hx'
    · intro t c
      constructor
      · rintro (h | h)
        · obtain ⟨m, hm, hx⟩ := (h3 t c).1 h
          refine ⟨m, hm, ?_⟩
          by_cases e : m = i
          · subst e
            simp only [if_pos]
            exact (hS' t c).2 (.inl hx)
          · simp only [if_neg e]; exact hx
        · exact ⟨i, hi, by simp only [if_pos]; exact (hS' t c).2 (.inr h)⟩
      · rintro ⟨m, hm, hx⟩
        by_cases e : m = i
        · subst e
          simp only [if_pos] at hx
          rcases (hS' t c).1 hx with h | h
          · exact .inl ((h3 t c).2 ⟨m, hm, h⟩)
          · exact .inr h
        · simp only [if_neg e] at hx
          exact .inl ((h3 t c).2 ⟨m, hm, hx⟩)
    · intro t c t' c' ht ht' j hj
      rcases ht with ht | ⟨rfl, _⟩ <;> rcases ht' with ht' | ⟨rfl, _⟩
      · exact h4 t c t' c' ht ht' j hj
      · exact (ha1 t c ht j hj).symm
      · exact ha1 t' c' ht' j hj
      · rfl
    · intro m t c hm hx
      by_cases e : m = i
      · subst e
        simp only [if_pos] at hx
        rcases (hS' t c).1 hx with h | ⟨rfl, _⟩
        · exact h5 m t c hm h
        · exact ha2
      · simp only [if_neg e] at hx
        exact h5 m t c hm hx

end Go.Proofs.Ybulkavso
