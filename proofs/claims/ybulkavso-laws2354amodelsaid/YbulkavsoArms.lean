/-
  What holds between two rounds of (statics).clone's loop over the arms. No program here, only worlds.
-/
import Derived.Test.YbulkavsoSclone
namespace Go.Proofs.Ybulkavso
open Go.RowKit

/-- i arms are copied into the row A of the new branch B; res: the block of the result; z: where the copies begin. -/
def ArmInv (n m : Nat) (w : World) (A B res z k : Nat) (ob ro : Obj) (Sf : Nat → ByteArray → Nat → Prop) (Rt : ByteArray → Tell) (i : Nat) (wr : World) : Prop :=
  Below w.heap.size w wr ∧ wr.heap[B]? = some ob ∧ wr.heap[res]? = some ro ∧ ∃ (cs : Array Value) (L : Nat → Nat), wr.heap[A]? = some (.cells cs 83) ∧ cs.size = 3 * k ∧ L 0 = z ∧ (∀ j, j < i → L j ≤ L (j + 1)) ∧ L i ≤ wr.heap.size ∧
    ∀ j, j < i → ∃ (p0 : Option Addr) (s1 : ByteArray) (p2 : Option Addr), cs[3 * j]? = some (.pointer p0) ∧ cs[3 * j + 1]? = some (.string s1) ∧ cs[3 * j + 2]? = some (.pointer p2) ∧ CloneAt n m wr (L j) (L (j + 1)) p0 s1 p2 (Sf j) Rt

theorem ArmInv.start {n m : Nat} {w wr : World} {A B res z k : Nat} {ob ro : Obj} {Sf : Nat → ByteArray → Nat → Prop} {Rt : ByteArray → Tell} {cs : Array Value} (h1 : Below w.heap.size w wr) (h2 : wr.heap[B]? = some ob) (h3 : wr.heap[res]? = some ro) (h4 : wr.heap[A]? = some (.cells cs 83)) (h5 : cs.size = 3 * k)
    (hz : z ≤ wr.heap.size) : ArmInv n m w A B res z k ob ro Sf Rt 0 wr :=
  ⟨h1, h2, h3, cs, fun _ => z, h4, h5, rfl, fun j hj => by omega, hz, fun j hj => by omega⟩

/-- What the round's callee finds, and leaves. -/
theorem ArmInv.call {n m : Nat} {w wr wx w2 : World} {A B res z k : Nat} {ob ro : Obj} {Sf : Nat → ByteArray → Nat → Prop} {Rt : ByteArray → Tell} {i : Nat} (h : ArmInv n m w A B res z k ob ro Sf Rt i wr) (hi : i < k) (hwx : Below wr.heap.size wr wx) (hb : Below wx.heap.size wx w2) :
    w2.heap[B]? = some ob ∧ ∃ u0 u1 u2, w2.cell? ⟨A, i * 3, none⟩ = some u0 ∧ w2.cell? ⟨A, i * 3 + 1, none⟩ = some u1 ∧ w2.cell? ⟨A, i * 3 + 2, none⟩ = some u2 ∧ w2.frozen? ⟨A, i * 3, none⟩ = false ∧ w2.frozen? ⟨A, i * 3 + 1, none⟩ = false ∧ w2.frozen? ⟨A, i * 3 + 2, none⟩ = false := by
  obtain ⟨_, h2, _, cs, L, h4, h5, _⟩ := h
  have hs := hwx.size
  have hB : B < wr.heap.size := (Array.getElem?_eq_some_iff.1 h2).1
  have hA : A < wr.heap.size := (Array.getElem?_eq_some_iff.1 h4).1
  have g : w2.heap[A]? = some (.cells cs 83) := ((hb.block A (by omega)).trans (hwx.block A hA)).trans h4
  refine ⟨((hb.block B (by omega)).trans (hwx.block B hB)).trans h2, cs[i * 3]'(by omega), cs[i * 3 + 1]'(by omega), cs[i * 3 + 2]'(by omega), ?_, ?_, ?_, not_frozen g (.inl rfl) (by omega), not_frozen g (.inl rfl) (by omega), not_frozen g (.inl rfl) (by omega)⟩
  · simp only [World.cell?, g]; exact Array.getElem?_eq_getElem _
  · simp only [World.cell?, g]; exact Array.getElem?_eq_getElem _
  · simp only [World.cell?, g]; exact Array.getElem?_eq_getElem _

theorem ArmInv.step {n m : Nat} {w wr wx w2 : World} {A B res z k : Nat} {ob ro : Obj} {Sf : Nat → ByteArray → Nat → Prop} {Rt : ByteArray → Tell} {i : Nat} (h : ArmInv n m w A B res z k ob ro Sf Rt i wr) (hi : i < k) (hA : w.heap.size ≤ A) (hAz : A < z) (hAB : B ≠ A) (hAr : res ≠ A)
    (hwx : Below wr.heap.size wr wx) {q0 q2 : Option Addr} {r1 : ByteArray} (hb : Below wx.heap.size wx w2) (hcl : CloneAt n m w2 wx.heap.size w2.heap.size q0 r1 q2 (Sf i) Rt) :
    ArmInv n m w A B res z k ob ro Sf Rt (i + 1) (((w2.setCell ⟨A, i * 3, none⟩ (.pointer q0)).setCell ⟨A, i * 3 + 1, none⟩ (.string r1)).setCell ⟨A, i * 3 + 2, none⟩ (.pointer q2)) := by
  obtain ⟨h1, h2, h3, cs, L, h4, h5, h6, h7, h8, h9⟩ := h
  have hs := hwx.size
  have hs2 := hb.size
  have hw := h1.size
  have hBl : B < wr.heap.size := (Array.getElem?_eq_some_iff.1 h2).1
  have hRl : res < wr.heap.size := (Array.getElem?_eq_some_iff.1 h3).1
  have hAl : A < wr.heap.size := (Array.getElem?_eq_some_iff.1 h4).1
  have hbel2 : Below wr.heap.size wr w2 := hwx.trans (hb.mono hs)
  have g : w2.heap[A]? = some (.cells cs 83) := (hbel2.block A hAl).trans h4
  have g3 := heap_set_same (o := i * 3 + 2) (heap_set_same (o := i * 3 + 1) (heap_set_same (o := i * 3) g (.pointer q0)) (.string r1)) (.pointer q2)
  have oth : ∀ x, x ≠ A → (((w2.setCell ⟨A, i * 3, none⟩ (.pointer q0)).setCell ⟨A, i * 3 + 1, none⟩ (.string r1)).setCell ⟨A, i * 3 + 2, none⟩ (.pointer q2)).heap[x]? = w2.heap[x]? := fun x hx => by
    rw [heap_set_other _ hx, heap_set_other _ hx, heap_set_other _ hx]
  refine ⟨(((h1.trans (hbel2.mono hw)).setCell (p := ⟨A, i * 3, none⟩) hA _).setCell (p := ⟨A, i * 3 + 1, none⟩) hA _).setCell (p := ⟨A, i * 3 + 2, none⟩) hA _, (oth B hAB).trans ((hbel2.block B hBl).trans h2), (oth res hAr).trans ((hbel2.block res hRl).trans h3),
    _, fun j => if j ≤ i then L j else w2.heap.size, g3, by simpa using h5, by simpa using h6, ?_, ?_, ?_⟩
  · intro j hj
    by_cases e : j = i
    · subst e
      simp only [Nat.le_refl, if_true, show ¬ (j + 1 ≤ j) by omega, if_false]
      omega
    · simp only [show j ≤ i by omega, show j + 1 ≤ i by omega, if_true]
      exact h7 j (by omega)
  · simp only [show ¬ (i + 1 ≤ i) by omega, if_false]
    simp
  · intro j hj
    have hmon := mono_up h7
    by_cases e : j = i
    · subst e
      refine ⟨q0, r1, q2, ?_, ?_, ?_, ?_⟩
      · rw [Nat.mul_comm, Array.getElem?_setIfInBounds_ne (by omega), Array.getElem?_setIfInBounds_ne (by omega), Array.getElem?_setIfInBounds_self_of_lt (by omega)]
      · rw [Nat.mul_comm, Array.getElem?_setIfInBounds_ne (by omega), Array.getElem?_setIfInBounds_self_of_lt (by simp; omega)]
      · rw [Nat.mul_comm, Array.getElem?_setIfInBounds_self_of_lt (by simp; omega)]
      · simp only [Nat.le_refl, if_true, show ¬ (j + 1 ≤ j) by omega, if_false]
        exact hcl.move (fun x hx1 hx2 => oth x (by omega)) (by omega) (Nat.le_refl _)
    · obtain ⟨p0, s1, p2, c0, c1, c2, hc⟩ := h9 j (by omega)
      refine ⟨p0, s1, p2, ?_, ?_, ?_, ?_⟩
      · rw [Array.getElem?_setIfInBounds_ne (by omega), Array.getElem?_setIfInBounds_ne (by omega), Array.getElem?_setIfInBounds_ne (by omega)]; exact c0
      · rw [Array.getElem?_setIfInBounds_ne (by omega), Array.getElem?_setIfInBounds_ne (by omega), Array.getElem?_setIfInBounds_ne (by omega)]; exact c1
      · rw [Array.getElem?_setIfInBounds_ne (by omega), Array.getElem?_setIfInBounds_ne (by omega), Array.getElem?_setIfInBounds_ne (by omega)]; exact c2
      · simp only [show j ≤ i by omega, show j + 1 ≤ i by omega, if_true]
        have a1 := hmon 0 j (by omega) (by omega)
        have a2 := hmon (j + 1) i (by omega) (Nat.le_refl _)
        exact hc.move (fun x hx1 hx2 => (oth x (by omega)).trans (hbel2.block x (by omega))) (Nat.le_refl _) (Nat.le_refl _)

end Go.Proofs.Ybulkavso
