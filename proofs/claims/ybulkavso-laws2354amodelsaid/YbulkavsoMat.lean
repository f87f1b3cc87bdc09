/-
  A slice of slices of bytes that came in, as the walks are told of it.
-/
import Derived.Test.YbulkavsoWord
import Derived.WalkKit
import Derived.ProofKit
import Derived.OpenShut
import Derived.Deep.Matrix
import Derived.Below
namespace Go.Proofs.Ybulkavso
open Go.ChangeShapes Go.WideShapes Go.ChangeAt Go.RowKit

theorem cell_lt {w : World} {b o : Nat} {v : Value} (h : w.cell? ⟨b, o, none⟩ = some v) : b < w.heap.size := by
  rcases Nat.lt_or_ge b w.heap.size with hl | hl
  · exact hl
  · simp [World.cell?, Array.getElem?_eq_none hl] at h

theorem mat_in {H : Type} {enc : TypeId × Value → H} {W : World} {base : Nat} {held : Bool} {a : Option Addr} {len cap fuel : Nat} {x : DataW H × List MemPlace}
    (h : DataW.trod enc Yba.prog W base (fun _ => true) held fuel 58 [.slice a len cap] = some x) :
    ∃ (A : Nat → Option Addr) (L C : Nat → Nat) (z : Nat → Nat → Nat), len ≤ maxLen ∧ MatIn W a len A L C z := by
  rcases Go.Deep.open_int_rows Yba.underlying58 Yba.underlying40 Yba.underlying5 (by kernel_rfl) (by kernel_rfl) h with ⟨hcs, _⟩ | ⟨x0, l, c, A, L, C, Z, hcs, _, hl, hm, _, hx⟩
  · simp at hcs
    obtain ⟨rfl, rfl, rfl⟩ := hcs
    exact ⟨fun _ => none, fun _ => 0, fun _ => 0, fun _ _ => 0, Nat.zero_le _, fun h => by omega⟩
  · simp at hcs
    obtain ⟨rfl, rfl, rfl⟩ := hcs
    refine ⟨A, L, C, fun r i => ((Z r).getD i 0).toNat, Nat.le_trans hl hm, fun hp => ?_⟩
    obtain ⟨b, off, spot⟩ := x0
    have hspot : spot = none := by simpa [Addr.add] using World.cell?_spot (hx 0 (by omega)).1
    subst hspot
    have hc : ∀ r, r < len → W.cell? ⟨b, off + r, none⟩ = some (.slice (A r) (L r) (C r)) := fun r hr => by
      rw [← Go.WideShapes.add_plain]
      exact (hx r (by omega)).1
    refine ⟨b, off, rfl, cell_lt (hc 0 hp), fun r hr => ⟨hc r hr, ?_, ?_⟩⟩
    · have := hx r (by omega)
      exact Nat.le_trans this.2.1 this.2.2.1
    · obtain ⟨_, h1, h2, h3, h4, h5, h6⟩ := hx r (by omega)
      intro hpos
      cases hA : A r with
      | none => have := h5 hA; omega
      | some a' =>
        obtain ⟨_, h7⟩ := h6 a' hA
        have hlen : (Z r).length = C r := h3
        obtain ⟨b', off', rfl, hcell⟩ := ints_at (a := a') (k := .u8) (zs := Z r) (fun i hi => h7 i (by omega)) (by omega)
        refine ⟨b', off', rfl, cell_lt (hcell 0 (by omega)), fun i hi => ?_⟩
        have hi' : i < (Z r).length := by omega
        have hmem : (Z r).getD i 0 ∈ Z r := by
          rw [List.getD, List.getElem?_eq_getElem hi']
          exact List.getElem_mem hi'
        have hb := bounds_u8 (h4 _ hmem)
        refine ⟨?_, by show ((Z r).getD i 0).toNat < 256; omega⟩
        show _ = some (Value.int .u8 (((Z r).getD i 0).toNat : Int))
        rw [hcell i hi', Int.toNat_of_nonneg hb.1]

end Go.Proofs.Ybulkavso
