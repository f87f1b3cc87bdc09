/-
  The end of (statics).clone's loop over the arms. No program here, only worlds.
-/
import Derived.Test.YbulkavsoArms
namespace Go.Proofs.Ybulkavso
open Go.RowKit

theorem ArmInv.done {n m : Nat} {w wr : World} {A k pos : Nat} {P : ByteArray} {l0 : UInt8} {ch : Nat → UInt8} {S : ByteArray → Nat → Prop} {Sf : Nat → ByteArray → Nat → Prop} {Rt : ByteArray → Tell}
    (h : ArmInv n m w A (A + 1) (w.heap.size + 1) (A + 2) k (.cells #[.int .i64 pos, .string P, .int .u8 l0.toNat, .slice (some ⟨A, 0, none⟩) k k] 88) (.cells #[.pointer none, .string ⟨#[]⟩, .pointer none] 83) Sf Rt k wr) (hA : A = w.heap.size + 2)
    (hk : 2 ≤ k) (hp : pos ≤ 256) (hP : Picks P.data.toList l0 k ch) (h3 : ∀ t c, S t c ↔ ∃ i, i < k ∧ Sf i t c) (h4 : ∀ t c t' c', S t c → S t' c' → ∀ j, j < pos → bAt t.data.toList j = bAt t'.data.toList j) (h5 : ∀ i t c, i < k → Sf i t c → bAt t.data.toList pos = ch i) :
    wr.cell? ⟨w.heap.size + 1, 0, none⟩ = some (.pointer none) ∧ wr.cell? ⟨w.heap.size + 1, 1, none⟩ = some (.string ⟨#[]⟩) ∧ wr.cell? ⟨w.heap.size + 1, 2, none⟩ = some (.pointer none) ∧
      wr.frozen? ⟨w.heap.size + 1, 0, none⟩ = false ∧ wr.frozen? ⟨w.heap.size + 1, 1, none⟩ = false ∧ wr.frozen? ⟨w.heap.size + 1, 2, none⟩ = false ∧
      Hid ((((wr.setCell ⟨w.heap.size + 1, 0, none⟩ (.pointer (some ⟨A + 1, 0, none⟩))).setCell ⟨w.heap.size + 1, 1, none⟩ (.string ⟨#[]⟩)).setCell ⟨w.heap.size + 1, 2, none⟩ (.pointer none)).heap[w.heap.size + 1]? = some (.cells #[.pointer (some ⟨A + 1, 0, none⟩), .string ⟨#[]⟩, .pointer none] 83)) ∧
      Hid (ScloneOk n (m + 1) w (((wr.setCell ⟨w.heap.size + 1, 0, none⟩ (.pointer (some ⟨A + 1, 0, none⟩))).setCell ⟨w.heap.size + 1, 1, none⟩ (.string ⟨#[]⟩)).setCell ⟨w.heap.size + 1, 2, none⟩ (.pointer none)) S Rt (.returned (.agg #[.pointer (some ⟨A + 1, 0, none⟩), .string ⟨#[]⟩, .pointer none]))) := by
  obtain ⟨e1, e2, e3, cs', L, e4, e5, e6, e7, e8, e9⟩ := h
  have hcl : CloneAt n (m + 1) wr A wr.heap.size (some ⟨A + 1, 0, none⟩) ⟨#[]⟩ none S Rt :=
    clone_branch hk hp hP h3 h4 h5 e2 e4 e5 e7 (by omega) ⟨Nat.le_refl _, by omega, by omega⟩ (by omega) (by omega) e8 e9
  refine ⟨by simp [World.cell?, e3], by simp [World.cell?, e3], by simp [World.cell?, e3], not_frozen e3 (.inl rfl) (by simp), not_frozen e3 (.inl rfl) (by simp), not_frozen e3 (.inl rfl) (by simp), set3 e3, ?_⟩
  refine ⟨some ⟨A + 1, 0, none⟩, ⟨#[]⟩, none, rfl, ((e1.setCell (p := ⟨w.heap.size + 1, 0, none⟩) (by simp) _).setCell (p := ⟨w.heap.size + 1, 1, none⟩) (by simp) _).setCell (p := ⟨w.heap.size + 1, 2, none⟩) (by simp) _, ?_⟩
  refine hcl.move (fun x hx1 hx2 => ?_) (by omega) (by simp)
  rw [heap_set_other _ (by omega), heap_set_other _ (by omega), heap_set_other _ (by omega)]

/-- What the round's callee leaves. -/
def ArmPost (n m : Nat) (w : World) (A k pos : Nat) (P : ByteArray) (l0 : UInt8) (Sf : Nat → ByteArray → Nat → Prop) (Rt : ByteArray → Tell) (i : Nat) (q0 : Option Addr) (t1 : ByteArray) (q2 : Option Addr) (w2 : World) : Prop :=
  ArmInv n m w A (A + 1) (w.heap.size + 1) (A + 2) k (.cells #[.int .i64 pos, .string P, .int .u8 l0.toNat, .slice (some ⟨A, 0, none⟩) k k] 88) (.cells #[.pointer none, .string ⟨#[]⟩, .pointer none] 83) Sf Rt (i + 1) (((w2.setCell ⟨A, i * 3, none⟩ (.pointer q0)).setCell ⟨A, i * 3 + 1, none⟩ (.string t1)).setCell ⟨A, i * 3 + 2, none⟩ (.pointer q2))

theorem ArmInv.contract {n m : Nat} {w wr : World} {A k pos i : Nat} {P : ByteArray} {l0 : UInt8} {Sf : Nat → ByteArray → Nat → Prop} {Rt : ByteArray → Tell} {p0 p2 : Option Addr} {s1 : ByteArray}
    (h : ArmInv n m w A (A + 1) (w.heap.size + 1) (A + 2) k (.cells #[.int .i64 pos, .string P, .int .u8 l0.toNat, .slice (some ⟨A, 0, none⟩) k k] 88) (.cells #[.pointer none, .string ⟨#[]⟩, .pointer none] 83) Sf Rt i wr) (hi : i < k) (hA : A = w.heap.size + 2)
    (hcall : ∀ w2, Below w.heap.size w w2 → Calls Yba.prog 33 #[.agg #[.pointer p0, .string s1, .pointer p2]] w2 fun e w' => ScloneOk n m w2 w' (Sf i) Rt e) :
    ∀ wx, Drawn (wr.alloc (.cells #[.pointer p0, .string s1, .pointer p2] 83)) wx → Calls Yba.prog 33 #[.agg #[.pointer p0, .string s1, .pointer p2]] wx fun e w2 => ∃ (q0 : Option Addr) (t1 : ByteArray) (q2 : Option Addr) (u0 u1 u2 : Value), e = .returned (.agg #[.pointer q0, .string t1, .pointer q2]) ∧
      w2.cell? ⟨A + 1, 3, none⟩ = some (.slice (some ⟨A, 0, none⟩) k k) ∧ w2.cell? ⟨A, i * 3, none⟩ = some u0 ∧ w2.cell? ⟨A, i * 3 + 1, none⟩ = some u1 ∧ w2.cell? ⟨A, i * 3 + 2, none⟩ = some u2 ∧ w2.frozen? ⟨A, i * 3, none⟩ = false ∧ w2.frozen? ⟨A, i * 3 + 1, none⟩ = false ∧ w2.frozen? ⟨A, i * 3 + 2, none⟩ = false ∧
      ArmPost n m w A k pos P l0 Sf Rt i q0 t1 q2 w2 := by
  intro wx hx
  have hwx : Below wr.heap.size wr wx := ((Below.refl _ _).alloc (Nat.le_refl _) _).trans (hx.below.mono (by simp))
  refine (hcall wx (h.1.trans (hwx.mono h.1.size))).mono ?_
  rintro e w2 ⟨q0, t1, q2, rfl, hb2, hcl⟩
  obtain ⟨g1, u0, u1, u2, g2⟩ := h.call hi hwx hb2
  exact ⟨q0, t1, q2, u0, u1, u2, rfl, by simp [World.cell?, g1], g2.1, g2.2.1, g2.2.2.1, g2.2.2.2.1, g2.2.2.2.2.1, g2.2.2.2.2.2, h.step hi (by omega) (by omega) (by omega) (by omega) hwx hb2 hcl⟩

end Go.Proofs.Ybulkavso
