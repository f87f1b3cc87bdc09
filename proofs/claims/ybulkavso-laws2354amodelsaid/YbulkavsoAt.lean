/-
  The second way down of insert: what is known of the slot 'at', how it goes down one branch, and what the two ends make of the whole trie.
-/
import Derived.Test.YbulkavsoIns
namespace Go.Proofs.Ybulkavso
open Go.RowKit

/-- The world has drawn, and that is all. -/
def Drawn (w w' : World) : Prop := ∃ m, w' = w.drewN m

theorem Drawn.refl (w : World) : Drawn w w := ⟨0, rfl⟩
theorem Drawn.more {w w' : World} (h : Drawn w w') (m : Nat) : Drawn w (w'.drewN m) := by
  obtain ⟨k, rfl⟩ := h
  exact ⟨k + m, by rw [World.drewN_drewN]⟩
theorem Drawn.heap {w w' : World} (h : Drawn w w') : w'.heap = w.heap := by
  obtain ⟨k, rfl⟩ := h
  rfl
theorem Drawn.grown {w w' w2 : World} (h : Drawn w w') {row : Option Nat} (hg : w'.grownBy w2 row) : w.grownBy w2 row := by
  obtain ⟨k, rfl⟩ := h
  exact ⟨hg.os, hg.tape, hg.output, hg.size, hg.block⟩
theorem Drawn.grownBy {w w' : World} (h : Drawn w w') (row : Option Nat) : w.grownBy w' row := by
  obtain ⟨k, rfl⟩ := h
  exact ⟨rfl, rfl, rfl, Nat.le_refl _, fun _ _ _ => rfl⟩

theorem Added.drawn {w w1 : World} {bb pos k : Nat} {P : ByteArray} {lo c : UInt8} {cs : Array Value} {p0 : Option Addr} {s1 : ByteArray} {p2 : Option Addr} {w' : World} (h : Added w bb pos k P lo c cs p0 s1 p2 w') (hd : Drawn w1 w) : Added w1 bb pos k P lo c cs p0 s1 p2 w' := by
  obtain ⟨A, h1, h2, h3, h4⟩ := h
  exact ⟨A, h1, h2, by rw [← hd.heap]; exact h3, hd.grown h4⟩

theorem Picks.congr {P : List UInt8} {lo : UInt8} {k : Nat} {ch ch' : Nat → UInt8} (h : Picks P lo k ch) (e : ∀ i, i < k → ch' i = ch i) : Picks P lo k ch' :=
  ⟨h.fit, fun i hi => by rw [e i hi]; exact h.hit i hi, h.low, h.small, fun i j hi hj hx => h.inj i j hi hj (by rw [← e i hi, ← e j hj, hx])⟩

/-- What the whole insertion comes to. -/
def Good (w1 w' : World) (rb : Nat) (S0 : ByteArray → Nat → Prop) (F0 : Nat → Prop) (T : ByteArray) (C : Nat) : Prop :=
  SlotUpd w1 w' rb 0 F0 ∧ ∃ (n : Nat) (F : Nat → Prop), Tri n w' rb 0 (fun t c => S0 t c ∨ (t = T ∧ c = C)) F ∧ ∀ x, F x → F0 x ∨ (w1.heap.size ≤ x ∧ x < w'.heap.size)

/-- What is known of the slot (b, o) on the second way down; k bounds the depth below it. -/
def AtInv (w1 : World) (rb : Nat) (S0 : ByteArray → Nat → Prop) (F0 : Nat → Prop) (T : ByteArray) (C : Nat) (s : ByteArray) (k b o : Nat) (S : ByteArray → Nat → Prop) (F : Nat → Prop) : Prop :=
  Tri k w1 b o S F ∧ ¬ F b ∧ (∀ x, F x → x < w1.heap.size) ∧ (∃ cs : Array Value, w1.heap[b]? = some (.cells cs 83)) ∧ (∀ t c, S t c → S0 t c) ∧ (∃ m, Path m w1 b o T.data.toList s) ∧
    ∀ (w' : World) (n' : Nat) (S' : ByteArray → Nat → Prop) (F' : Nat → Prop), SlotUpd w1 w' b o F → Tri n' w' b o S' F' → (∀ x, F' x → F x ∨ (w1.heap.size ≤ x ∧ x < w'.heap.size)) → (∀ t c, S' t c ↔ S t c ∨ (t = T ∧ c = C)) → Good w1 w' rb S0 F0 T C

theorem AtInv.start {w1 : World} {rb n : Nat} {S0 : ByteArray → Nat → Prop} {F0 : Nat → Prop} {T : ByteArray} {C : Nat} {s : ByteArray} (hT : Tri n w1 rb 0 S0 F0) (hF : ¬ F0 rb) (hFlt : ∀ x, F0 x → x < w1.heap.size) (hrow : ∃ cs : Array Value, w1.heap[rb]? = some (.cells cs 83))
    (hp : ∃ m, Path m w1 rb 0 T.data.toList s) : AtInv w1 rb S0 F0 T C s n rb 0 S0 F0 :=
  ⟨hT, hF, hFlt, hrow, fun _ _ h => h, hp, fun _ n' _ F' hu hT' hF' hS' => ⟨hu, n', F', hT'.congr (fun t c => (hS' t c).symm) (fun _ h => h), hF'⟩⟩

/-- One branch down. -/
theorem AtInv.step {w1 : World} {rb : Nat} {S0 : ByteArray → Nat → Prop} {F0 : Nat → Prop} {T : ByteArray} {C : Nat} {s : ByteArray} {k b o p : Nat} {S : ByteArray → Nat → Prop} {F : Nat → Prop}
    (h : AtInv w1 rb S0 F0 T C s (k + 1) b o S F) (hagree : ∀ j, j < p → bAt T.data.toList j = bAt s.data.toList j)
    {bb ab kk pos : Nat} {P : ByteArray} {lo : UInt8} {ch : Nat → UInt8} {Sf : Nat → ByteArray → Nat → Prop} {Ff : Nat → Nat → Prop}
    (hs : BranchSlot w1 b o bb) (hb : BranchObj w1 bb pos P lo ab kk) (ha : ArmsObj w1 ab kk) (fb : F bb) (fa : F ab) (hne : bb ≠ ab) (hk : 2 ≤ kk) (hp : pos ≤ 256) (hP : Picks P.data.toList lo kk ch)
    (hT : ∀ i, i < kk → Tri k w1 ab (3 * i) (Sf i) (Ff i)) (h1 : ∀ i x, i < kk → Ff i x → F x ∧ x ≠ bb ∧ x ≠ ab) (h2 : ∀ i j x, i < kk → j < kk → Ff i x → Ff j x → i = j)
    (h3 : ∀ t c, S t c ↔ ∃ i, i < kk ∧ Sf i t c) (h4 : ∀ t c t' c', S t c → S t' c' → ∀ j, j < pos → bAt t.data.toList j = bAt t'.data.toList j) (h5 : ∀ i t c, i < kk → Sf i t c → bAt t.data.toList pos = ch i)
    (hlt : pos < p) :
    AtInv w1 rb S0 F0 T C s k ab (3 * pickIdx P.data.toList lo (bAt T.data.toList pos)) (Sf (pickIdx P.data.toList lo (bAt T.data.toList pos))) (Ff (pickIdx P.data.toList lo (bAt T.data.toList pos))) := by
  obtain ⟨hT0, hFb, hFlt, hrow, hsub, ⟨m, hpath⟩, hwand⟩ := h
  have hi := hP.idx_lt (by omega) (bAt T.data.toList pos)
  obtain ⟨m', hpath'⟩ := hpath.step hs.1 hb
  generalize hidx : pickIdx P.data.toList lo (bAt T.data.toList pos) = i at *
  obtain ⟨c0, hc0⟩ := Path.mem k (hT i hi) hpath'
  have hsS : S s c0 := (h3 s c0).2 ⟨i, hi, hc0⟩
  have ha1 : ∀ t c, S t c → ∀ j, j < pos → bAt T.data.toList j = bAt t.data.toList j := fun t c ht j hj => (hagree j (by omega)).trans (h4 s c0 t c hsS ht j hj)
  have ha2 : bAt T.data.toList pos = ch i := (hagree pos hlt).trans (h5 i s c0 hi hc0)
  refine ⟨hT i hi, fun e => (h1 i ab hi e).2.2 rfl, fun x hx => hFlt x (h1 i x hi hx).1, ?_, fun t c ht => hsub t c ((h3 t c).2 ⟨i, hi, ht⟩), ⟨m', hpath'⟩, ?_⟩
  · obtain ⟨cs, hcs, _⟩ := ha
    exact ⟨cs, hcs⟩
  · intro w' n' S' F' hu hT' hF' hS'
    obtain ⟨cs, hcs⟩ := hrow
    have hblt : b < w1.heap.size := (Array.getElem?_eq_some_iff.1 hcs).1
    obtain ⟨r1, r2⟩ := Tri.one_arm hs hb fb fa hne hk hp hP hT h1 h2 h3 h4 h5 hFb hFlt hblt hi hu hT' hF' hS' ha1 ha2 ⟨cs, hcs⟩ ha
    exact hwand w' _ _ _ r1 r2 (fun _ h => h) (fun _ _ => Iff.rfl)

/-- The end at a branch that reads place p: one arm more. -/
theorem AtInv.grow {w1 w' : World} {rb : Nat} {S0 : ByteArray → Nat → Prop} {F0 : Nat → Prop} {T : ByteArray} {C : Nat} {s : ByteArray} {k b o p : Nat} {S : ByteArray → Nat → Prop} {F : Nat → Prop}
    (h : AtInv w1 rb S0 F0 T C s (k + 1) b o S F) (hagree : ∀ j, j < p → bAt T.data.toList j = bAt s.data.toList j) (hdiff : bAt T.data.toList p ≠ bAt s.data.toList p)
    {bb ab kk : Nat} {P : ByteArray} {lo : UInt8} {ch : Nat → UInt8} {Sf : Nat → ByteArray → Nat → Prop} {Ff : Nat → Nat → Prop} {cs : Array Value}
    (hs : BranchSlot w1 b o bb) (hb : BranchObj w1 bb p P lo ab kk) (ha : w1.heap[ab]? = some (.cells cs 83)) (hcs : cs.size = 3 * kk) (fb : F bb) (hk : 2 ≤ kk) (hp : p ≤ 256) (hP : Picks P.data.toList lo kk ch)
    (hT : ∀ i, i < kk → Tri k w1 ab (3 * i) (Sf i) (Ff i)) (h1 : ∀ i x, i < kk → Ff i x → F x ∧ x ≠ bb ∧ x ≠ ab) (h2 : ∀ i j x, i < kk → j < kk → Ff i x → Ff j x → i = j)
    (h3 : ∀ t c, S t c ↔ ∃ i, i < kk ∧ Sf i t c) (h4 : ∀ t c t' c', S t c → S t' c' → ∀ j, j < p → bAt t.data.toList j = bAt t'.data.toList j) (h5 : ∀ i t c, i < kk → Sf i t c → bAt t.data.toList p = ch i)
    (hadd : Added w1 bb p kk P lo (bAt T.data.toList p) cs none T (some ⟨C, 0, none⟩) w') : Good w1 w' rb S0 F0 T C := by
  obtain ⟨hT0, hFb, hFlt, hrow, hsub, ⟨m, hpath⟩, hwand⟩ := h
  obtain ⟨m', hpath'⟩ := hpath.step hs.1 hb
  have hi := hP.idx_lt (by omega) (bAt T.data.toList p)
  obtain ⟨c0, hc0⟩ := Path.mem k (hT _ hi) hpath'
  have hsS : S s c0 := (h3 s c0).2 ⟨_, hi, hc0⟩
  have hk0 : 0 < k := by
    cases k with
    | zero => exact (hT 0 (by omega)).elim
    | succ k => omega
  have hnew : ∀ i, i < kk → ch i ≠ bAt T.data.toList p := by
    intro i hi' e
    have hx := hP.idx_hit hi'
    rw [e] at hx
    have := h5 _ s c0 hi hc0
    rw [hx] at this
    exact hdiff (e.symm.trans this.symm)
  obtain ⟨cs0, hcs0⟩ := hrow
  have hblt : b < w1.heap.size := (Array.getElem?_eq_some_iff.1 hcs0).1
  obtain ⟨r1, r2⟩ := grow_branch hs ha hcs fb hk hp hP hT h1 h2 h3 h4 h5 hFb hFlt hblt ⟨cs0, hcs0⟩
    (fun t c ht j hj => (hagree j hj).trans (h4 s c0 t c hsS ht j hj)) hnew hadd hk0
  exact hwand w' _ _ _ r1 r2 (fun _ h => h) (fun _ _ => Iff.rfl)

theorem picks_none (ch : Nat → UInt8) : Picks [] 0 0 ch := ⟨by decide, fun i hi => by omega, fun j v hv => by simp at hv, by omega, fun i j hi => by omega⟩

/-- The end at a leaf, or at a branch that reads a place behind p: a new branch in the slot's place. -/
theorem AtInv.fresh {w1 w3 w4 w5 : World} {rb : Nat} {S0 : ByteArray → Nat → Prop} {F0 : Nat → Prop} {T : ByteArray} {C : Nat} {s : ByteArray} {k b o p : Nat} {S : ByteArray → Nat → Prop} {F : Nat → Prop}
    (h : AtInv w1 rb S0 F0 T C s k b o S F) (hagree : ∀ j, j < p → bAt T.data.toList j = bAt s.data.toList j) (hdiff : bAt T.data.toList p ≠ bAt s.data.toList p) (hp : p ≤ 256)
    (hall : ∀ t c, S t c → ∀ j, j ≤ p → bAt t.data.toList j = bAt s.data.toList j)
    {p0 p2 : Option Addr} {s1 : ByteArray} (hc0 : w1.cell? ⟨b, o, none⟩ = some (.pointer p0)) (hc1 : w1.cell? ⟨b, o + 1, none⟩ = some (.string s1)) (hc2 : w1.cell? ⟨b, o + 2, none⟩ = some (.pointer p2))
    {Bn : Nat} (hBn : Bn = w1.heap.size) {w2 : World} (hw2 : w2.heap.size = Bn + 1) (hg2 : w1.grownBy w2 none)
    (hadd1 : Added w2 Bn p 0 ⟨#[]⟩ 0 (bAt s.data.toList p) #[] p0 s1 p2 w3)
    (hw4 : w4.heap = (((w3.setCell ⟨b, o, none⟩ (.pointer (some ⟨Bn, 0, none⟩))).setCell ⟨b, o + 1, none⟩ (.string ⟨#[]⟩)).setCell ⟨b, o + 2, none⟩ (.pointer none)).heap) (hos : w4.os = w3.os) (htp : w4.tape = w3.tape) (hout : w4.output = w3.output)
    (hadd2 : Added w4 Bn p 1 ⟨(growP [] 0 (bAt s.data.toList p) 0).toArray⟩ (growLo [] 0 (bAt s.data.toList p)) (bAt T.data.toList p) #[.pointer p0, .string s1, .pointer p2] none T (some ⟨C, 0, none⟩) w5) :
    Good w1 w5 rb S0 F0 T C := by
  obtain ⟨hT0, hFb, hFlt, ⟨cs, hcs⟩, hsub, ⟨m, hpath⟩, hwand⟩ := h
  obtain ⟨A1, a1, a2, a3, a4⟩ := hadd1
  obtain ⟨A2, b1, b2, b3, b4⟩ := hadd2
  obtain ⟨c0, hc0'⟩ := Path.mem k hT0 hpath
  have hblt : b < w1.heap.size := (Array.getElem?_eq_some_iff.1 hcs).1
  have hsz2 := hg2.size
  have hsz3 := a4.size
  have hsz4 : w4.heap.size = w3.heap.size := by rw [hw4]; simp
  have hsz5 := b4.size
  -- blocks of w1 but b
  have hk13 : ∀ x, x < w1.heap.size → w3.heap[x]? = w1.heap[x]? := fun x hx => (a4.block x (by omega) (by simp; omega)).trans (hg2.block x hx (by simp))
  have hk15 : ∀ x, x < w1.heap.size → x ≠ b → w5.heap[x]? = w1.heap[x]? := fun x hx hxb => by
    refine (b4.block x (by omega) (by simp; omega)).trans ?_
    rw [hw4, heap_set_other _ hxb, heap_set_other _ hxb, heap_set_other _ hxb]
    exact hk13 x hx
  have hb3 : w3.heap[b]? = some (.cells cs 83) := (hk13 b hblt).trans hcs
  have hb5 : w5.heap[b]? = some (.cells (((cs.setIfInBounds o (.pointer (some ⟨Bn, 0, none⟩))).setIfInBounds (o + 1) (.string ⟨#[]⟩)).setIfInBounds (o + 2) (.pointer none)) 83) := by
    refine (b4.block b (by omega) (by simp; omega)).trans ?_
    rw [hw4]
    exact heap_set_same (heap_set_same (heap_set_same hb3 _) _) _
  have hin : o + 2 < cs.size := by
    have : w1.cell? ⟨b, o + 2, none⟩ = cs[o + 2]? := by simp [World.cell?, hcs]
    rw [this] at hc2
    exact (Array.getElem?_eq_some_iff.1 hc2).1
  have hu : SlotUpd w1 w5 b o F := by
    refine ⟨?_, ?_, ?_, by omega, fun x hx hxb _ => hk15 x hx hxb, cs, _, hcs, hb5, by simp, fun j hj => ?_⟩
    · rw [b4.os, hos, a4.os, hg2.os]
    · rw [b4.tape, htp, a4.tape, hg2.tape]
    · rw [b4.output, hout, a4.output, hg2.output]
    · rw [Array.getElem?_setIfInBounds_ne (by omega), Array.getElem?_setIfInBounds_ne (by omega), Array.getElem?_setIfInBounds_ne (by omega)]
  have hne : bAt s.data.toList p ≠ bAt T.data.toList p := fun e => hdiff e.symm
  have hP1 := (picks_none (fun _ => 0)).grow (c := bAt s.data.toList p) (fun i hi => by omega) (by simp)
  have hP2 := hP1.grow (c := bAt T.data.toList p) (fun i hi => by
    obtain rfl : i = 0 := by omega
    simpa using hne) ⟨fun e => absurd e (growP_ne _ _ _ _), fun e => by omega⟩
  have hT5 := new_branch (n := k) (w := w1) (w' := w5) (b := b) (o := o) (T := T) (C := C) (Bn := Bn) (A := A2) (pos := p) (P := ⟨(growP (growP [] 0 (bAt s.data.toList p) 0) (growLo [] 0 (bAt s.data.toList p)) (bAt T.data.toList p) 1).toArray⟩)
    (lo := growLo (growP [] 0 (bAt s.data.toList p) 0) (growLo [] 0 (bAt s.data.toList p)) (bAt T.data.toList p)) (c0 := bAt s.data.toList p) hT0 hc0 hc1 hc2 hFlt hp
    (fun t c t' c' ht ht' j hj => (hall t c ht j (by omega)).trans (hall t' c' ht' j (by omega)).symm) (fun t c ht => hall t c ht p (Nat.le_refl _))
    (fun t c ht j hj => (hagree j hj).trans (hall t c ht j (by omega)).symm) hne (fun x hx => hk15 x (hFlt x hx) (fun e => hFb (e ▸ hx))) (by omega) (by omega)
    (fun e => by
      have hlt : Bn < w4.heap.size := by omega
      omega) ⟨?_, ?_, ?_⟩ b1 (by simpa using b2) (hP2.congr (fun i hi => by
      have : i = 0 ∨ i = 1 := by omega
      rcases this with rfl | rfl <;> simp))
  · exact hwand w5 _ _ _ hu hT5 (fun _ h => h) (fun _ _ => Iff.rfl)
  · simp only [World.cell?, hb5]
    simp [show o < cs.size by omega]
  · simp only [World.cell?, hb5]
    simp [show o + 1 < cs.size by omega]
  · simp only [World.cell?, hb5]
    simp [show o + 2 < cs.size by omega]

end Go.Proofs.Ybulkavso
