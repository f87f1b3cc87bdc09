/-
  What an insertion does to the trie: the way down by a text, one arm more on a branch, a new branch in a slot's place.
-/
import Derived.Test.YbulkavsoAddAny
import Derived.Test.YbulkavsoFind
namespace Go.Proofs.Ybulkavso
open Go.RowKit

/-- The way down from slot (b, o) by the text T ends at a leaf of the text s. -/
def Path : Nat → World → Nat → Nat → List UInt8 → ByteArray → Prop
  | 0, _, _, _, _, _ => False
  | n + 1, w, b, o, T, s => (w.cell? ⟨b, o, none⟩ = some (.pointer none) ∧ w.cell? ⟨b, o + 1, none⟩ = some (.string s)) ∨
      ∃ (bb pos : Nat) (P : ByteArray) (lo : UInt8) (ab k : Nat), w.cell? ⟨b, o, none⟩ = some (.pointer (some ⟨bb, 0, none⟩)) ∧ BranchObj w bb pos P lo ab k ∧ Path n w ab (3 * pickIdx P.data.toList lo (bAt T pos)) T s

theorem Path.heap : ∀ (n : Nat) {w w' : World} {b o : Nat} {T : List UInt8} {s : ByteArray}, Path n w b o T s → w'.heap = w.heap → Path n w' b o T s := by
  intro n
  induction n with
  | zero => intro w w' b o T s h; exact h.elim
  | succ n ih =>
    intro w w' b o T s h hh
    have hc : ∀ a, w'.cell? a = w.cell? a := fun a => by simp [World.cell?, hh]
    rcases h with ⟨h1, h2⟩ | ⟨bb, pos, P, lo, ab, k, h1, h2, h3⟩
    · exact .inl ⟨(hc _).trans h1, (hc _).trans h2⟩
    · refine .inr ⟨bb, pos, P, lo, ab, k, (hc _).trans h1, ?_, ih h3 hh⟩
      unfold BranchObj at h2 ⊢
      rw [hh]; exact h2

theorem Tri.heap {n : Nat} {w w' : World} {b o : Nat} {S : ByteArray → Nat → Prop} {F : Nat → Prop} (h : Tri n w b o S F) (hh : w'.heap = w.heap) : Tri n w' b o S F :=
  Tri.move n h (fun _ _ => by simp [World.cell?, hh]) (fun _ _ => by rw [hh])

/-- The leaf that a way down comes to is one of the trie's. -/
theorem Path.mem : ∀ (n : Nat) {m : Nat} {w : World} {b o : Nat} {S : ByteArray → Nat → Prop} {F : Nat → Prop} {T : List UInt8} {s : ByteArray}, Tri n w b o S F → Path m w b o T s → ∃ c, S s c := by
  intro n
  induction n with
  | zero => intro m w b o S F T s h; exact h.elim
  | succ n ih =>
    intro m w b o S F T s h hp
    cases m with
    | zero => exact hp.elim
    | succ m =>
      rcases h with ⟨s', c, ⟨l0, l1, l2⟩, hS⟩ | ⟨bb, ab, k, pos, P, lo, ch, Sf, Ff, ⟨l0, l1, l2⟩, hb, ha, fb, fa, hne, hk, hp', hP, hT, h1, h2, h3, h4, h5⟩
      · rcases hp with ⟨q0, q1⟩ | ⟨bb, pos, P, lo, ab, k, q0, _⟩
        · rw [l1] at q1
          cases q1
          exact ⟨c, (hS s c).2 ⟨rfl, rfl⟩⟩
        · rw [l0] at q0
          cases q0
      · rcases hp with ⟨q0, q1⟩ | ⟨bb', pos', P', lo', ab', k', q0, q1, q2⟩
        · rw [l0] at q0
          cases q0
        · rw [l0] at q0
          cases q0
          have e : w.heap[bb]? = _ := hb
          have e' : w.heap[bb]? = _ := q1
          rw [e] at e'
          simp only [Option.some.injEq, Obj.cells.injEq, Array.mk.injEq, List.cons.injEq, Value.int.injEq, Value.string.injEq, Value.slice.injEq, Option.some.injEq, Addr.mk.injEq, and_true, true_and] at e'
          obtain ⟨e1, e2, e3, e4, e5, _⟩ := e'
          have e1' : pos = pos' := by omega
          have e3' : lo = lo' := UInt8.toNat_inj.1 (by omega)
          subst e1' e2 e3' e4 e5
          have hi := hP.idx_lt (by omega) (bAt T pos)
          obtain ⟨c, hc⟩ := ih (hT _ hi) q2
          exact ⟨c, (h3 s c).2 ⟨_, hi, hc⟩⟩

/-- The way down through a branch. -/
theorem Path.step {m : Nat} {w : World} {b o : Nat} {T : List UInt8} {s : ByteArray} {bb pos ab k : Nat} {P : ByteArray} {lo : UInt8} (hp : Path m w b o T s) (hs : w.cell? ⟨b, o, none⟩ = some (.pointer (some ⟨bb, 0, none⟩))) (hb : BranchObj w bb pos P lo ab k) :
    ∃ m', Path m' w ab (3 * pickIdx P.data.toList lo (bAt T pos)) T s := by
  cases m with
  | zero => exact hp.elim
  | succ m =>
    rcases hp with ⟨q0, q1⟩ | ⟨bb', pos', P', lo', ab', k', q0, q1, q2⟩
    · rw [hs] at q0
      cases q0
    · rw [hs] at q0
      cases q0
      have e : w.heap[bb]? = _ := hb
      have e' : w.heap[bb]? = _ := q1
      rw [e] at e'
      simp only [Option.some.injEq, Obj.cells.injEq, Array.mk.injEq, List.cons.injEq, Value.int.injEq, Value.string.injEq, Value.slice.injEq, Option.some.injEq, Addr.mk.injEq, and_true, true_and] at e'
      obtain ⟨e1, e2, e3, e4, e5, _⟩ := e'
      have e1' : pos = pos' := by omega
      have e3' : lo = lo' := UInt8.toNat_inj.1 (by omega)
      subst e1' e2 e3' e4 e5
      exact ⟨m, q2⟩

theorem Path.leaf {m : Nat} {w : World} {b o : Nat} {T : List UInt8} {s s' : ByteArray} (hp : Path m w b o T s) (h0 : w.cell? ⟨b, o, none⟩ = some (.pointer none)) (h1 : w.cell? ⟨b, o + 1, none⟩ = some (.string s')) : s = s' := by
  cases m with
  | zero => exact hp.elim
  | succ m =>
    rcases hp with ⟨q0, q1⟩ | ⟨bb', pos', P', lo', ab', k', q0, q1, q2⟩
    · rw [h1] at q1
      cases q1
      rfl
    · rw [h0] at q0
      cases q0

/-- The cells of a trie's slot: a pointer, a string, a pointer. -/
theorem Tri.slot {n : Nat} {w : World} {b o : Nat} {S : ByteArray → Nat → Prop} {F : Nat → Prop} (h : Tri n w b o S F) :
    ∃ (p0 : Option Addr) (s1 : ByteArray) (p2 : Option Addr), w.cell? ⟨b, o, none⟩ = some (.pointer p0) ∧ w.cell? ⟨b, o + 1, none⟩ = some (.string s1) ∧ w.cell? ⟨b, o + 2, none⟩ = some (.pointer p2) := by
  cases n with
  | zero => exact h.elim
  | succ n =>
    rcases h with ⟨s, c, hl, _⟩ | ⟨bb, ab, k, pos, P, lo, ch, Sf, Ff, hs, _⟩
    · exact ⟨_, _, _, hl.1, hl.2.1, hl.2.2⟩
    · exact ⟨_, _, _, hs.1, hs.2.1, hs.2.2⟩

/-- All cells of a row of slots are of one cell each. -/
theorem arms_one {n k ab : Nat} {w : World} {Sf : Nat → ByteArray → Nat → Prop} {Ff : Nat → Nat → Prop} {cs : Array Value} (ha : w.heap[ab]? = some (.cells cs 83)) (hcs : cs.size = 3 * k) (hT : ∀ i, i < k → Tri n w ab (3 * i) (Sf i) (Ff i)) :
    ∀ v ∈ cs.toList, v.oneCell' = true := by
  intro v hv
  obtain ⟨j, hj, rfl⟩ := List.mem_iff_getElem.1 hv
  have hj' : j < cs.size := by simpa using hj
  obtain ⟨p0, s1, p2, c0, c1, c2⟩ := (hT (j / 3) (by omega)).slot
  have hcell : w.cell? ⟨ab, j, none⟩ = some cs[j] := by simp [World.cell?, ha, hj']
  have hm : j = 3 * (j / 3) ∨ j = 3 * (j / 3) + 1 ∨ j = 3 * (j / 3) + 2 := by omega
  have hx : cs.toList[j] = cs[j] := by simp
  rw [hx]
  rcases hm with h | h | h
  · rw [← h, hcell] at c0; rw [Option.some.inj c0]; rfl
  · rw [← h, hcell] at c1; rw [Option.some.inj c1]; rfl
  · rw [← h, hcell] at c2; rw [Option.some.inj c2]; rfl

theorem append_cell {w : World} {A j : Nat} {cs ds : Array Value} {t : TypeId} {fz : Nat × Nat} (h : w.heap[A]? = some (.cells (cs ++ ds) t fz)) (hj : j < cs.size) : w.cell? ⟨A, j, none⟩ = cs[j]? := by
  simp [World.cell?, h, Array.getElem?_append_left hj]

theorem append_cell' {w : World} {A j : Nat} {cs ds : Array Value} {t : TypeId} {fz : Nat × Nat} (h : w.heap[A]? = some (.cells (cs ++ ds) t fz)) : w.cell? ⟨A, cs.size + j, none⟩ = ds[j]? := by
  simp [World.cell?, h, Array.getElem?_append_right]

/-- One arm more on the branch in slot (b, o). -/
theorem grow_branch {n : Nat} {w w' : World} {b o : Nat} {S : ByteArray → Nat → Prop} {F : Nat → Prop} {T : ByteArray} {C : Nat}
    {bb ab k pos : Nat} {P : ByteArray} {lo : UInt8} {ch : Nat → UInt8} {Sf : Nat → ByteArray → Nat → Prop} {Ff : Nat → Nat → Prop} {cs : Array Value}
    (hs : BranchSlot w b o bb) (ha : w.heap[ab]? = some (.cells cs 83)) (hcs : cs.size = 3 * k) (fb : F bb) (hk : 2 ≤ k) (hp : pos ≤ 256) (hP : Picks P.data.toList lo k ch)
    (hT : ∀ i, i < k → Tri n w ab (3 * i) (Sf i) (Ff i)) (h1 : ∀ i x, i < k → Ff i x → F x ∧ x ≠ bb ∧ x ≠ ab) (h2 : ∀ i j x, i < k → j < k → Ff i x → Ff j x → i = j)
    (h3 : ∀ t c, S t c ↔ ∃ i, i < k ∧ Sf i t c) (h4 : ∀ t c t' c', S t c → S t' c' → ∀ j, j < pos → bAt t.data.toList j = bAt t'.data.toList j) (h5 : ∀ i t c, i < k → Sf i t c → bAt t.data.toList pos = ch i)
    (hFb : ¬ F b) (hFlt : ∀ x, F x → x < w.heap.size) (hblt : b < w.heap.size) (hrow : ∃ cs : Array Value, w.heap[b]? = some (.cells cs 83))
    (ha1 : ∀ t c, S t c → ∀ j, j < pos → bAt T.data.toList j = bAt t.data.toList j) (hnew : ∀ i, i < k → ch i ≠ bAt T.data.toList pos)
    (hadd : Added w bb pos k P lo (bAt T.data.toList pos) cs none T (some ⟨C, 0, none⟩) w') (hn : 0 < n) :
    SlotUpd w w' b o F ∧ Tri (n + 1) w' b o (fun t c => S t c ∨ (t = T ∧ c = C)) (fun x => F x ∨ (w.heap.size ≤ x ∧ x < w'.heap.size)) := by
  obtain ⟨A, hA1, hA2, hA3, hg⟩ := hadd
  have hbb : b ≠ bb := fun e => hFb (e ▸ fb)
  have hbblk : w'.heap[b]? = w.heap[b]? := hg.block b hblt (by simpa using hbb)
  have hAlt : A < w'.heap.size := (Array.getElem?_eq_some_iff.1 hA2).1
  have hPne : P.data.toList = [] ↔ k = 0 := by
    constructor
    · intro e
      have := (List.getElem?_eq_some_iff.1 (hP.hit 0 (by omega))).1
      rw [e] at this
      simp at this
    · intro e; omega
  constructor
  · refine ⟨hg.os, hg.tape, hg.output, hg.size, fun x hx hxb hxF => ?_, ?_⟩
    · exact hg.block x hx (by simp; exact fun e => hxF (e ▸ fb))
    · obtain ⟨cs0, hcs0⟩ := hrow
      exact ⟨cs0, cs0, hcs0, hbblk.trans hcs0, rfl, fun _ _ => rfl⟩
  · refine .inr ⟨bb, A, k + 1, pos, ⟨(growP P.data.toList lo (bAt T.data.toList pos) k).toArray⟩, growLo P.data.toList lo (bAt T.data.toList pos), fun i => if i = k then bAt T.data.toList pos else ch i,
      fun i => if i = k then (fun t c => t = T ∧ c = C) else Sf i, fun i => if i = k then (fun _ => False) else Ff i,
      ⟨(cell_block hbblk _).trans hs.1, (cell_block hbblk _).trans hs.2.1, (cell_block hbblk _).trans hs.2.2⟩, hA1, ⟨_, hA2, by simp; omega⟩, .inl fb, .inr ⟨hA3, hAlt⟩, fun e => by have := hFlt bb fb; omega, by omega, hp, ?_, ?_, ?_, ?_, ?_, ?_, ?_⟩
    · show Picks (growP P.data.toList lo (bAt T.data.toList pos) k) _ _ _
      exact hP.grow hnew hPne
    · intro i hi
      by_cases e : i = k
      · subst e
        simp only [if_pos]
        refine Tri.mono 1 (.inl ⟨T, C, ⟨?_, ?_, ?_⟩, fun _ _ => Iff.rfl⟩) _ (by omega)
        · have := append_cell' (j := 0) hA2
          rw [hcs] at this
          simpa using this
        · have := append_cell' (j := 1) hA2
          rw [hcs] at this
          simpa using this
        · have := append_cell' (j := 2) hA2
          rw [hcs] at this
          simpa using this
      · simp only [if_neg e]
        refine Tri.move n (hT i (by omega)) (fun j hj => ?_) (fun x hx => ?_)
        · rw [append_cell hA2 (by omega)]
          have hlt : 3 * i + j < cs.size := by omega
          simp [World.cell?, ha]
        · have hx' := h1 i x (by omega) hx
          exact hg.block x (hFlt x hx'.1) (by simp; exact hx'.2.1)
    · intro i x hi hx
      by_cases e : i = k
      · simp only [if_pos e] at hx
      · simp only [if_neg e] at hx
        have hx' := h1 i x (by omega) hx
        refine ⟨.inl hx'.1, hx'.2.1, fun e => ?_⟩
        have := hFlt x hx'.1
        omega
    · intro i j x hi hj hx hx'
      by_cases e : i = k
      · simp only [if_pos e] at hx
      · by_cases e' : j = k
        · simp only [if_pos e'] at hx'
        · simp only [if_neg e] at hx
          simp only [if_neg e'] at hx'
          exact h2 i j x (by omega) (by omega) hx hx'
    · intro t c
      constructor
      · rintro (h | h)
        · obtain ⟨i, hi, hx⟩ := (h3 t c).1 h
          exact ⟨i, by omega, by simp only [if_neg (show i ≠ k by omega)]; exact hx⟩
        · exact ⟨k, by omega, by simp only [if_pos]; exact h⟩
      · rintro ⟨i, hi, hx⟩
        by_cases e : i = k
        · simp only [if_pos e] at hx
          exact .inr hx
        · simp only [if_neg e] at hx
          exact .inl ((h3 t c).2 ⟨i, by omega, hx⟩)
    · intro t c t' c' ht ht' j hj
      rcases ht with ht | ⟨rfl, _⟩ <;> rcases ht' with ht' | ⟨rfl, _⟩
      · exact h4 t c t' c' ht ht' j hj
      · exact (ha1 t c ht j hj).symm
      · exact ha1 t' c' ht' j hj
      · rfl
    · intro i t c hi hx
      by_cases e : i = k
      · simp only [if_pos e] at hx ⊢
        rw [hx.1]
      · simp only [if_neg e] at hx ⊢
        exact h5 i t c (by omega) hx

/-- A new branch in the place of what lies in slot (b, o): two arms, the old one and the new leaf. -/
theorem new_branch {n : Nat} {w w' : World} {b o : Nat} {S : ByteArray → Nat → Prop} {F : Nat → Prop} {T : ByteArray} {C Bn A pos : Nat} {P : ByteArray} {lo c0 : UInt8} {p0 p2 : Option Addr} {s1 : ByteArray}
    (hT : Tri n w b o S F) (hc0 : w.cell? ⟨b, o, none⟩ = some (.pointer p0)) (hc1 : w.cell? ⟨b, o + 1, none⟩ = some (.string s1)) (hc2 : w.cell? ⟨b, o + 2, none⟩ = some (.pointer p2))
    (hFlt : ∀ x, F x → x < w.heap.size) (hp : pos ≤ 256)
    (hagree : ∀ t c t' c', S t c → S t' c' → ∀ j, j < pos → bAt t.data.toList j = bAt t'.data.toList j) (hbyte : ∀ t c, S t c → bAt t.data.toList pos = c0)
    (ha1 : ∀ t c, S t c → ∀ j, j < pos → bAt T.data.toList j = bAt t.data.toList j) (hnew : c0 ≠ bAt T.data.toList pos)
    (hFk : ∀ x, F x → w'.heap[x]? = w.heap[x]?) (hBn : w.heap.size ≤ Bn) (hA : w.heap.size ≤ A) (hAB : Bn ≠ A)
    (hslot : BranchSlot w' b o Bn) (hobj : BranchObj w' Bn pos P lo A 2) (harms : w'.heap[A]? = some (.cells #[.pointer p0, .string s1, .pointer p2, .pointer none, .string T, .pointer (some ⟨C, 0, none⟩)] 83))
    (hP : Picks P.data.toList lo 2 (fun i => if i = 1 then bAt T.data.toList pos else c0)) :
    Tri (n + 1) w' b o (fun t c => S t c ∨ (t = T ∧ c = C)) (fun x => F x ∨ (w.heap.size ≤ x ∧ x < w'.heap.size)) := by
  have hBlt : Bn < w'.heap.size := (Array.getElem?_eq_some_iff.1 (show w'.heap[Bn]? = _ from hobj)).1
  have hAlt : A < w'.heap.size := (Array.getElem?_eq_some_iff.1 harms).1
  have hn : 0 < n := by
    cases n with
    | zero => exact hT.elim
    | succ n => omega
  refine .inr ⟨Bn, A, 2, pos, P, lo, fun i => if i = 1 then bAt T.data.toList pos else c0, fun i => if i = 1 then (fun t c => t = T ∧ c = C) else S, fun i => if i = 1 then (fun _ => False) else F,
    hslot, hobj, ⟨_, harms, rfl⟩, .inr ⟨hBn, hBlt⟩, .inr ⟨hA, hAlt⟩, hAB, Nat.le_refl _, hp, hP, ?_, ?_, ?_, ?_, ?_, ?_⟩
  · intro i hi
    by_cases e : i = 1
    · simp only [if_pos e]
      subst e
      refine Tri.mono 1 (.inl ⟨T, C, ⟨?_, ?_, ?_⟩, fun _ _ => Iff.rfl⟩) _ (by omega)
      · simp [World.cell?, harms]
      · simp [World.cell?, harms]
      · simp [World.cell?, harms]
    · obtain rfl : i = 0 := by omega
      simp only [if_neg e]
      refine Tri.move n hT (fun j hj => ?_) hFk
      have hj' : j = 0 ∨ j = 1 ∨ j = 2 := by omega
      rcases hj' with rfl | rfl | rfl
      · simp only [Nat.add_zero]
        rw [hc0]
        simp [World.cell?, harms]
      · rw [hc1]
        simp [World.cell?, harms]
      · rw [hc2]
        simp [World.cell?, harms]
  · intro i x hi hx
    by_cases e : i = 1
    · simp only [if_pos e] at hx
    · simp only [if_neg e] at hx
      have := hFlt x hx
      exact ⟨.inl hx, by omega, by omega⟩
  · intro i j x hi hj hx hx'
    by_cases e : i = 1
    · simp only [if_pos e] at hx
    · by_cases e' : j = 1
      · simp only [if_pos e'] at hx'
      · omega
  · intro t c
    constructor
    · rintro (h | h)
      · exact ⟨0, by omega, by simp; exact h⟩
      · exact ⟨1, by omega, by simp; exact h⟩
    · rintro ⟨i, hi, hx⟩
      by_cases e : i = 1
      · simp only [if_pos e] at hx
        exact .inr hx
      · simp only [if_neg e] at hx
        exact .inl hx
  · intro t c t' c' ht ht' j hj
    rcases ht with ht | ⟨rfl, _⟩ <;> rcases ht' with ht' | ⟨rfl, _⟩
    · exact hagree t c t' c' ht ht' j hj
    · exact (ha1 t c ht j hj).symm
    · exact ha1 t' c' ht' j hj
    · rfl
  · intro i t c hi hx
    by_cases e : i = 1
    · simp only [if_pos e] at hx ⊢
      rw [hx.1]
    · simp only [if_neg e] at hx ⊢
      exact hbyte t c hx

end Go.Proofs.Ybulkavso
