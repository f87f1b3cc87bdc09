/-
  A slice of operations that came in, as the walk is told of it; the law at every input.
-/
import Derived.Test.YbulkavsoLawA
import Derived.Test.YbulkavsoMat
import Derived.Deep.Slices
import Derived.ChangeSame
namespace Go.Proofs.Ybulkavso
open Go.ChangeShapes Go.WideShapes Go.ChangeAt Go.RowKit

theorem cells42 : Yba.prog.cellsOf 42 = 2 := by kernel_rfl
theorem cells5 : Yba.prog.cellsOf 5 = 1 := by kernel_rfl
theorem cells40 : Yba.prog.cellsOf 40 = 1 := by kernel_rfl

theorem two_of {α : Type} {l : List α} (h : l.length = 2) : ∃ a b, l = [a, b] := by
  match l, h with
  | [a, b], _ => exact ⟨a, b, rfl⟩

/-- One operation. -/
def OpAt (W : World) (x : Addr) (r : Nat) (y : Nat × Option Addr × Nat × Nat × (Nat → Nat)) : Prop :=
  W.cell? (x.add (r * 2)) = some (.int .u8 y.1) ∧ y.1 < 256 ∧ W.cell? (x.add (r * 2 + 1)) = some (.slice y.2.1 y.2.2.1 y.2.2.2.1) ∧ y.2.2.1 ≤ maxLen ∧ RowIn W y.2.1 y.2.2.1 y.2.2.2.2

theorem row_in {W : World} {a : Option Addr} {len cap fuel base : Nat} {H : Type} {enc : TypeId × Value → H} {held : Bool} {x : DataW H × List MemPlace} (h : DataW.trod enc Yba.prog W base (fun _ => true) held fuel 40 [.slice a len cap] = some x) : ∃ z : Nat → Nat, len ≤ maxLen ∧ RowIn W a len z := by
  rcases open_ints Yba.underlying40 Yba.underlying5 cells5 h with ⟨hcs, _⟩ | ⟨x0, l, c, zs, hcs, _, hl, hm, hz, _, hcell, hwz⟩
  · simp at hcs
    obtain ⟨rfl, rfl, rfl⟩ := hcs
    exact ⟨fun _ => 0, Nat.zero_le _, fun h => by omega⟩
  · simp at hcs
    obtain ⟨rfl, rfl, rfl⟩ := hcs
    refine ⟨fun i => (zs.getD i 0).toNat, Nat.le_trans hl hm, fun hp => ?_⟩
    have hz2 : zs.length = cap := by simpa using hz
    obtain ⟨b, off, rfl, hc⟩ := ints_at hcell (by omega)
    refine ⟨b, off, rfl, cell_in (hc 0 (by omega)), fun i hi => ?_⟩
    have hi' : i < zs.length := by omega
    have hmem : zs.getD i 0 ∈ zs := by
      rw [List.getD, List.getElem?_eq_getElem hi']
      exact List.getElem_mem hi'
    have hb := bounds_u8 (hwz _ hmem)
    refine ⟨?_, by show (zs.getD i 0).toNat < 256; omega⟩
    show _ = some (Value.int .u8 ((zs.getD i 0).toNat : Int))
    rw [hc i hi', Int.toNat_of_nonneg hb.1]

theorem ops_in {H : Type} {enc : TypeId × Value → H} {W : World} {base : Nat} {held : Bool} {a : Option Addr} {len cap fuel : Nat} {x : DataW H × List MemPlace}
    (h : DataW.trod enc Yba.prog W base (fun _ => true) held fuel 22 [.slice a len cap] = some x) :
    ∃ (M : Nat → Nat) (A : Nat → Option Addr) (Ls C : Nat → Nat) (z : Nat → Nat → Nat), len ≤ maxLen ∧ OpsIn W a len M A Ls C z := by
  rcases Go.Deep.open_slice Yba.underlying22 h with ⟨hcs, _⟩ | ⟨x0, l, c, m, n, D, Pl, hcs, _, hl, hm, hmm, _, hx⟩
  · simp at hcs
    obtain ⟨rfl, rfl, rfl⟩ := hcs
    exact ⟨fun _ => 0, fun _ => none, fun _ => 0, fun _ => 0, fun _ _ => 0, Nat.zero_le _, fun h => by omega⟩
  · simp at hcs
    obtain ⟨rfl, rfl, rfl⟩ := hcs
    simp only [if_true] at hmm
    subst hmm
    rw [cells42] at hx
    obtain ⟨Y, hY⟩ := Go.Deep.choose_lt (α := Nat × Option Addr × Nat × Nat × (Nat → Nat)) (p := fun r y => OpAt W x0 r y) (fun r hr => by
      obtain ⟨cs', h1, h2⟩ := hx r hr
      obtain ⟨_, hlen, hcell⟩ := World.cells?_some h1
      obtain ⟨y0, y1, n', _, _, h3, h4⟩ := trod_struct2 Yba.underlying42 h2
      obtain ⟨v0, v1, rfl⟩ := two_of hlen
      simp only [cells5, cells40, List.drop_zero, List.take_succ_cons, List.take_zero, List.drop_succ_cons] at h3 h4
      obtain ⟨M0, e0, _, hw⟩ := DataW.trod_int Yba.underlying5 h3
      simp at e0
      subst e0
      have e1 : ∃ a' l' c', v1 = .slice a' l' c' := by
        rcases open_ints Yba.underlying40 Yba.underlying5 cells5 h4 with ⟨hcs, _⟩ | ⟨x1, l1, c1, zs, hcs, _⟩
        · simp at hcs; exact ⟨_, _, _, hcs⟩
        · simp at hcs; exact ⟨_, _, _, hcs⟩
      obtain ⟨a', l', c', rfl⟩ := e1
      obtain ⟨z', hl', hrow⟩ := row_in h4
      have hb := bounds_u8 hw
      have k0 := hcell 0 (by omega)
      have k1 := hcell 1 (by omega)
      rw [Go.Deep.add_add] at k0 k1
      refine ⟨(M0.toNat, a', l', c', z'), ?_, by show M0.toNat < 256; omega, k1, hl', hrow⟩
      show _ = some (Value.int .u8 (M0.toNat : Int))
      rw [Int.toNat_of_nonneg hb.1]
      exact k0)
    refine ⟨fun r => (Y r).1, fun r => (Y r).2.1, fun r => (Y r).2.2.1, fun r => (Y r).2.2.2.1, fun r => (Y r).2.2.2.2, Nat.le_trans hl hm, fun hp => ?_⟩
    obtain ⟨b, off, spot⟩ := x0
    have hspot : spot = none := by simpa [Addr.add] using World.cell?_spot (hY 0 (by omega)).1
    subst hspot
    have hc0 : ∀ r, r < len → W.cell? ⟨b, off + r * 2, none⟩ = some (.int .u8 (Y r).1) := fun r hr => by
      rw [← Go.WideShapes.add_plain]
      exact (hY r (by omega)).1
    have hc1 : ∀ r, r < len → W.cell? ⟨b, off + r * 2 + 1, none⟩ = some (.slice (Y r).2.1 (Y r).2.2.1 (Y r).2.2.2.1) := fun r hr => by
      rw [Nat.add_assoc, ← Go.WideShapes.add_plain]
      exact (hY r (by omega)).2.2.1
    refine ⟨b, off, rfl, cell_in (hc0 0 hp), fun r hr => ⟨hc0 r hr, (hY r (by omega)).2.1, hc1 r hr, (hY r (by omega)).2.2.2.1, (hY r (by omega)).2.2.2.2⟩⟩

theorem law_long (a : Option Addr) (len cap : Nat) (w : World) (hl : 256 < len) (hm : len ≤ maxLen) :
    Calls Yba.prog 3 #[.slice a len cap] w fun e w' => e = .returned (.bool true) ∧ w = w' := by
  unfold maxLen at hm
  have hlt : (256 : Int) < (len : Int) := by omega
  go_enter Yba.func3, Yba.ntmps3
  go_wp2
  go_ret
  exact ⟨rfl, rfl⟩

theorem law_any (hins : InsertLaw) (a : Option Addr) (len cap : Nat) (M : Nat → Nat) (A : Nat → Option Addr) (Ls C : Nat → Nat) (z : Nat → Nat → Nat) (w : World) (hlen : len ≤ maxLen) (hops : OpsIn w a len M A Ls C z) :
    Calls Yba.prog 3 #[.slice a len cap] w fun e w' => e = .returned (.bool true) ∧ Below w.heap.size w w' := by
  by_cases hl : len ≤ 256
  · exact law_small hins a len cap M A Ls C z w hl hops
  · refine (law_long a len cap w (by omega) hlen).mono fun e w' ⟨he, hw⟩ => ?_
    subst hw
    exact ⟨he, Below.refl _ _⟩

end Go.Proofs.Ybulkavso
