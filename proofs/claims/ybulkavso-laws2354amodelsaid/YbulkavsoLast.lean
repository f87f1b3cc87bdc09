/-
  The last step of insert: the add that puts the new leaf's arm on, at a branch that was there or at a new one.
-/
import Derived.Test.YbulkavsoAt
namespace Go.Proofs.Ybulkavso
open Go.RowKit

/-- What is laid about the slot behind the first add: it is as it was, and may be written. -/
theorem slot_after {wr w3 : World} {ob : Obj} {pos k : Nat} {P : ByteArray} {lo c : UInt8} {cs : Array Value} {p0 : Option Addr} {s1 : ByteArray} {p2 : Option Addr} {b o : Nat} {v0 v1 v2 : Value}
    (h : Added (wr.alloc ob) wr.heap.size pos k P lo c cs p0 s1 p2 w3) (hb : b < wr.heap.size) (l0 : wr.cell? ⟨b, o, none⟩ = some v0) (l1 : wr.cell? ⟨b, o + 1, none⟩ = some v1) (l2 : wr.cell? ⟨b, o + 2, none⟩ = some v2)
    (hrow : ∃ cs : Array Value, wr.heap[b]? = some (.cells cs 83)) :
    w3.cell? ⟨b, o, none⟩ = some v0 ∧ w3.cell? ⟨b, o + 1, none⟩ = some v1 ∧ w3.cell? ⟨b, o + 2, none⟩ = some v2 ∧
      w3.frozen? ⟨b, o, none⟩ = false ∧ w3.frozen? ⟨b, o + 1, none⟩ = false ∧ w3.frozen? ⟨b, o + 2, none⟩ = false := by
  obtain ⟨A, _, _, _, hg⟩ := h
  obtain ⟨ds, hds⟩ := hrow
  have hb3 : w3.heap[b]? = wr.heap[b]? := (hg.block b (by simp; omega) (by simp; omega)).trans (Below.heap_alloc wr _ b hb)
  have hin : o + 2 < ds.size := by
    have : wr.cell? ⟨b, o + 2, none⟩ = ds[o + 2]? := by simp [World.cell?, hds]
    rw [this] at l2
    exact (Array.getElem?_eq_some_iff.1 l2).1
  exact ⟨(cell_block hb3 _).trans l0, (cell_block hb3 _).trans l1, (cell_block hb3 _).trans l2, not_frozen (hb3.trans hds) (.inl rfl) (by omega), not_frozen (hb3.trans hds) (.inl rfl) (by omega), not_frozen (hb3.trans hds) (.inl rfl) (by omega)⟩

/-- The slot does not lie in the block of the new leaf. -/
theorem slot_apart {w : World} {g b o : Nat} {T s1 : ByteArray} {p0 p2 q2 : Option Addr} (hg : w.heap[g]? = some (.cells #[.pointer none, .string T, .pointer q2] 83))
    (l0 : w.cell? ⟨b, o, none⟩ = some (.pointer p0)) (l1 : w.cell? ⟨b, o + 1, none⟩ = some (.string s1)) (l2 : w.cell? ⟨b, o + 2, none⟩ = some (.pointer p2)) (hne : p0 ≠ none ∨ s1 ≠ T) : g ≠ b := by
  rintro rfl
  have ho : o = 0 := by
    have : w.cell? ⟨g, o + 2, none⟩ = (#[.pointer none, .string T, .pointer q2] : Array Value)[o + 2]? := by simp [World.cell?, hg]
    rw [this] at l2
    have := (Array.getElem?_eq_some_iff.1 l2).1
    simp at this
    omega
  subst ho
  simp [World.cell?, hg] at l0 l1
  rcases hne with h | h
  · exact h l0.symm
  · exact h l1.symm

/-- A block that neither the add nor the writing of the slot touches. -/
theorem kept_after {w1 wr w3 : World} {ob : Obj} {pos k : Nat} {P : ByteArray} {lo c : UInt8} {cs : Array Value} {p0 : Option Addr} {s1 : ByteArray} {p2 : Option Addr} {b o g : Nat} {v0 v1 v2 : Value}
    (hd : Drawn w1 wr) (h : Added (wr.alloc ob) wr.heap.size pos k P lo c cs p0 s1 p2 w3) (hg : g < w1.heap.size) (hne : g ≠ b) :
    (((w3.setCell ⟨b, o, none⟩ v0).setCell ⟨b, o + 1, none⟩ v1).setCell ⟨b, o + 2, none⟩ v2).heap[g]? = w1.heap[g]? := by
  obtain ⟨A, _, _, _, hb⟩ := h
  have hh := hd.heap
  have hg' : g < wr.heap.size := by rw [hh]; exact hg
  rw [heap_set_other _ hne, heap_set_other _ hne, heap_set_other _ hne]
  exact ((hb.block g (by simp; omega) (by simp; omega)).trans (Below.heap_alloc wr _ g hg')).trans (by rw [hh])

/-- The add at a new branch. -/
theorem fresh_last {w1 wr w3 w4 : World} {rb : Nat} {S0 : ByteArray → Nat → Prop} {F0 : Nat → Prop} {T : ByteArray} {C : Nat} {s : ByteArray} {k b o p : Nat} {S : ByteArray → Nat → Prop} {F : Nat → Prop}
    (h : AtInv w1 rb S0 F0 T C s k b o S F) (hagree : ∀ j, j < p → bAt T.data.toList j = bAt s.data.toList j) (hdiff : bAt T.data.toList p ≠ bAt s.data.toList p) (hp : p ≤ 256)
    (hall : ∀ t c, S t c → ∀ j, j ≤ p → bAt t.data.toList j = bAt s.data.toList j) (hd : Drawn w1 wr)
    {p0 p2 : Option Addr} {s1 : ByteArray} (hc0 : wr.cell? ⟨b, o, none⟩ = some (.pointer p0)) (hc1 : wr.cell? ⟨b, o + 1, none⟩ = some (.string s1)) (hc2 : wr.cell? ⟨b, o + 2, none⟩ = some (.pointer p2))
    (hadd1 : Added (wr.alloc (.cells #[.int .i64 p, .string ⟨#[]⟩, .int .u8 0, .slice none 0 0] 88)) wr.heap.size p 0 ⟨#[]⟩ 0 (bAt s.data.toList p) #[] p0 s1 p2 w3)
    (hw4 : w4 = ((w3.setCell ⟨b, o, none⟩ (.pointer (some ⟨wr.heap.size, 0, none⟩))).setCell ⟨b, o + 1, none⟩ (.string ⟨#[]⟩)).setCell ⟨b, o + 2, none⟩ (.pointer none)) :
    ∀ wx, Drawn w4 wx → Calls Yba.prog 36 #[.pointer (some ⟨wr.heap.size, 0, none⟩), .int .u8 (bAt T.data.toList p).toNat, .agg #[.pointer none, .string T, .pointer (some ⟨C, 0, none⟩)]] wx
      fun e w' => e = .returned (.tuple #[]) ∧ Good w1 w' rb S0 F0 T C := by
  intro wx hx
  have hh := hd.heap
  obtain ⟨A, a1, a2, a3, a4⟩ := hadd1
  have hblt : b < wr.heap.size := by
    rw [hh]
    obtain ⟨_, _, _, ⟨cs, hcs⟩, _⟩ := h
    exact (Array.getElem?_eq_some_iff.1 hcs).1
  have hA : b ≠ A := by
    have : (wr.alloc (.cells #[.int .i64 p, .string ⟨#[]⟩, .int .u8 0, .slice none 0 0] 88)).heap.size = wr.heap.size + 1 := by simp
    omega
  have hAB : A ≠ wr.heap.size := by
    have : (wr.alloc (.cells #[.int .i64 p, .string ⟨#[]⟩, .int .u8 0, .slice none 0 0] 88)).heap.size = wr.heap.size + 1 := by simp
    omega
  have e1 : wx.heap[wr.heap.size]? = w3.heap[wr.heap.size]? := by
    rw [hx.heap, hw4, heap_set_other _ (by omega), heap_set_other _ (by omega), heap_set_other _ (by omega)]
  have e2 : wx.heap[A]? = w3.heap[A]? := by
    rw [hx.heap, hw4, heap_set_other _ (Ne.symm hA), heap_set_other _ (Ne.symm hA), heap_set_other _ (Ne.symm hA)]
  have hPs : (growP [] 0 (bAt s.data.toList p) 0).length ≤ 256 := by
    have := ((picks_none (fun _ => 0)).grow (c := bAt s.data.toList p) (fun i hi => by omega) (by simp)).fit
    omega
  refine (add_any wr.heap.size p 1 ⟨(growP [] 0 (bAt s.data.toList p) 0).toArray⟩ (growLo [] 0 (bAt s.data.toList p)) (bAt T.data.toList p) (some ⟨A, 0, none⟩) #[.pointer p0, .string s1, .pointer p2] none (some ⟨C, 0, none⟩) T wx
    (e1.trans a1) (.inr ⟨A, rfl, e2.trans (by simpa using a2), hAB⟩) rfl (by simp [Value.oneCell']) (by omega) (by simpa [ByteArray.size] using hPs)).mono ?_
  rintro e w5 ⟨rfl, hadd2⟩
  refine ⟨rfl, ?_⟩
  obtain ⟨m, hm⟩ := hx
  refine AtInv.fresh (w2 := wr.alloc (.cells #[.int .i64 p, .string ⟨#[]⟩, .int .u8 0, .slice none 0 0] 88)) (w3 := w3) (w4 := wx) h hagree hdiff hp hall (p0 := p0) (p2 := p2) (s1 := s1) ?_ ?_ ?_ (Bn := wr.heap.size) (by rw [hh]) (by simp) ?_ ⟨A, a1, a2, a3, a4⟩ (by rw [hm, ← hw4]; rfl) (by rw [hm, hw4]; rfl) (by rw [hm, hw4]; rfl) (by rw [hm, hw4]; rfl) hadd2
  · rw [← hc0]; simp [World.cell?, hh]
  · rw [← hc1]; simp [World.cell?, hh]
  · rw [← hc2]; simp [World.cell?, hh]
  · exact hd.grown ⟨rfl, rfl, rfl, by simp, fun x hx _ => Below.heap_alloc wr _ x hx⟩

/-- The add at a branch that reads place p. -/
theorem grow_last {w1 wr : World} {rb : Nat} {S0 : ByteArray → Nat → Prop} {F0 : Nat → Prop} {T : ByteArray} {C : Nat} {s : ByteArray} {k b o p : Nat} {S : ByteArray → Nat → Prop} {F : Nat → Prop}
    (h : AtInv w1 rb S0 F0 T C s (k + 1) b o S F) (hagree : ∀ j, j < p → bAt T.data.toList j = bAt s.data.toList j) (hdiff : bAt T.data.toList p ≠ bAt s.data.toList p) (hd : Drawn w1 wr)
    {bb ab kk : Nat} {P : ByteArray} {lo : UInt8} {ch : Nat → UInt8} {Sf : Nat → ByteArray → Nat → Prop} {Ff : Nat → Nat → Prop}
    (hs : BranchSlot wr b o bb) (hb : BranchObj wr bb p P lo ab kk) (ha : ArmsObj wr ab kk) (fb : F bb) (hne : bb ≠ ab) (hk : 2 ≤ kk) (hp : p ≤ 256) (hP : Picks P.data.toList lo kk ch)
    (hT : ∀ i, i < kk → Tri k wr ab (3 * i) (Sf i) (Ff i)) (h1 : ∀ i x, i < kk → Ff i x → F x ∧ x ≠ bb ∧ x ≠ ab) (h2 : ∀ i j x, i < kk → j < kk → Ff i x → Ff j x → i = j)
    (h3 : ∀ t c, S t c ↔ ∃ i, i < kk ∧ Sf i t c) (h4 : ∀ t c t' c', S t c → S t' c' → ∀ j, j < p → bAt t.data.toList j = bAt t'.data.toList j) (h5 : ∀ i t c, i < kk → Sf i t c → bAt t.data.toList p = ch i) :
    ∀ wx, Drawn wr wx → Calls Yba.prog 36 #[.pointer (some ⟨bb, 0, none⟩), .int .u8 (bAt T.data.toList p).toNat, .agg #[.pointer none, .string T, .pointer (some ⟨C, 0, none⟩)]] wx
      fun e w' => e = .returned (.tuple #[]) ∧ Good w1 w' rb S0 F0 T C := by
  intro wx hx
  obtain ⟨cs, hcs, hcz⟩ := ha
  have hh := hd.heap
  have hw1 : w1.heap = wr.heap := hh.symm
  have hdx : Drawn w1 wx := by
    obtain ⟨m, rfl⟩ := hx
    exact hd.more m
  have hnew : ∀ i, i < kk → ch i ≠ bAt T.data.toList p := by
    obtain ⟨hT0, _, _, _, _, ⟨m, hpath⟩, _⟩ := h
    have hpath2 := hpath.heap (w' := wr) m hh
    obtain ⟨m', hpath'⟩ := hpath2.step hs.1 hb
    have hi := hP.idx_lt (by omega) (bAt T.data.toList p)
    obtain ⟨c0, hc0⟩ := Path.mem k (hT _ hi) hpath'
    intro i hi' e
    have hx := hP.idx_hit hi'
    rw [e] at hx
    have := h5 _ s c0 hi hc0
    rw [hx] at this
    exact hdiff (e.symm.trans this.symm)
  refine (add_any bb p kk P lo (bAt T.data.toList p) (some ⟨ab, 0, none⟩) cs none (some ⟨C, 0, none⟩) T wx
    (by rw [hx.heap]; exact hb) (.inr ⟨ab, rfl, by rw [hx.heap]; exact hcs, Ne.symm hne⟩) hcz (arms_one hcs hcz hT) ?_ ?_).mono ?_
  · have := hP.room hnew
    omega
  · have := hP.fit
    have hl : P.data.toList.length = P.size := Array.length_toList
    omega
  · rintro e w5 ⟨rfl, hadd⟩
    refine ⟨rfl, ?_⟩
    exact h.grow hagree hdiff (bb := bb) (ab := ab) (kk := kk) (P := P) (lo := lo) (ch := ch) (Sf := Sf) (Ff := Ff) (cs := cs)
      ⟨by rw [← hs.1]; simp [World.cell?, hw1], by rw [← hs.2.1]; simp [World.cell?, hw1], by rw [← hs.2.2]; simp [World.cell?, hw1]⟩ (by unfold BranchObj; rw [hw1]; exact hb) (by rw [hw1]; exact hcs) hcz fb hk hp hP
      (fun i hi => (hT i hi).heap hw1) h1 h2 h3 h4 h5 (hadd.drawn hdx)

end Go.Proofs.Ybulkavso
