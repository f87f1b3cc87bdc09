/-
  zzs2354asegs.
-/
import Derived.Test.YbulkavsoSame
namespace Go.Proofs.Ybulkavso
open Go.RowKit

def nameOf (e : Nat) : ByteArray := if e = 1 then ⟨#[121]⟩ else ⟨#[120]⟩
def segR (r e : Nat) : Seg := if r = 0 then (0, ⟨#[97]⟩) else if r = 1 then (0, ⟨#[98]⟩) else if r = 2 then (0, ⟨#[97, 98]⟩) else if r = 3 then (1, nameOf e) else (2, nameOf e)
/-- The segment that a byte makes. -/
def segOf (b : Nat) : Seg := segR (b % 5) (b / 5 % 2)
/-- The segments that the first eight bytes make. -/
def segsOf (L : Nat) (z : Nat → Nat) : List Seg := (List.range (min L 8)).map fun i => segOf (z i)

theorem segsOf_len (L : Nat) (z : Nat → Nat) : (segsOf L z).length = min L 8 := by simp [segsOf]
theorem segsOf_get (L : Nat) (z : Nat → Nat) (i : Nat) (h : i < (segsOf L z).length) : (segsOf L z)[i] = segOf (z i) := by simp [segsOf]
theorem segOf_ok (b : Nat) : SegOk (segOf b) := by
  have h1 : b % 5 < 5 := Nat.mod_lt _ (by decide)
  unfold segOf
  generalize b % 5 = r at *
  generalize b / 5 % 2 = e
  have hr : r = 0 ∨ r = 1 ∨ r = 2 ∨ r = 3 ∨ r = 4 := by omega
  rcases hr with rfl | rfl | rfl | rfl | rfl
  · exact .inl ⟨rfl, by intro x hx; simp [segR] at hx; subst hx; decide, by show ByteArray.size _ ≤ 256; simp [segR, ByteArray.size]⟩
  · exact .inl ⟨rfl, by intro x hx; simp [segR] at hx; subst hx; decide, by show ByteArray.size _ ≤ 256; simp [segR, ByteArray.size]⟩
  · exact .inl ⟨rfl, by intro x hx; simp [segR] at hx; rcases hx with rfl | rfl <;> decide, by show ByteArray.size _ ≤ 256; simp [segR, ByteArray.size]⟩
  · exact .inr (.inl rfl)
  · exact .inr (.inr rfl)
theorem segsOf_ok (L : Nat) (z : Nat → Nat) : ∀ s ∈ segsOf L z, SegOk s := by
  intro s hs
  simp [segsOf] at hs
  obtain ⟨i, _, rfl⟩ := hs
  exact segOf_ok _
theorem SegOk.kind {s : Seg} (h : SegOk s) : s.1 ≤ 2 := by
  rcases h with ⟨h, _⟩ | h | h <;> omega

theorem info71 : (Yba.prog.info? 71).map (fun i => (i.zero, i.size, i.bytes)) = some (some (.agg #[.int .i64 0, .string ⟨#[]⟩]), 2, 24) := by kernel_rfl

theorem make38 (n : Nat) (hn : n ≤ 4096) (w : World) : (Instr.makeSlice 38 (.int .i64 (n : Int)) (.int .i64 (n : Int))).run Yba.prog w =
    .ok (.slice (some ⟨w.heap.size, 0, none⟩) n n) (w.alloc (.cells (madeCells #[.int .i64 0, .string ⟨#[]⟩] (n * 2)) 71)) := by
  obtain ⟨i, hi, hz0, hz1, hz2⟩ := info_parts info71
  have h := run_make (P := Yba.prog) w 38 71 i _ Yba.underlying38 hi hz0 .i64 .i64 n n (by omega) (Int.le_refl _) (by rw [hz2]; omega) (by omega)
  simp only [Int.toNat_natCast, hz1] at h
  exact h

/-- The first i segments are laid. -/
def SegInv (w : World) (g n : Nat) (z : Nat → Nat) (i : Nat) (wr : World) : Prop :=
  Below w.heap.size w wr ∧ ∃ cs : Array Value, wr.heap[g]? = some (.cells cs 71) ∧ cs.size = n * 2 ∧ ∀ j, j < i → cs[j * 2]? = some (.int .i64 (segOf (z j)).1) ∧ cs[j * 2 + 1]? = some (.string (segOf (z j)).2)

theorem SegInv.step {w : World} {g n : Nat} {z : Nat → Nat} {i : Nat} {wr : World} (h : SegInv w g n z i wr) (hi : i < n) (hg : w.heap.size ≤ g) :
    SegInv w g n z (i + 1) ((wr.setCell ⟨g, i * 2, none⟩ (.int .i64 (segOf (z i)).1)).setCell ⟨g, i * 2 + 1, none⟩ (.string (segOf (z i)).2)) := by
  obtain ⟨h1, cs, h2, h3, h4⟩ := h
  refine ⟨(h1.setCell (p := ⟨g, i * 2, none⟩) hg _).setCell (p := ⟨g, i * 2 + 1, none⟩) hg _, _, heap_set_same (heap_set_same h2 _) _, by simpa using h3, fun j hj => ?_⟩
  by_cases e : j = i
  · subst e
    constructor
    · rw [Array.getElem?_setIfInBounds_ne (by omega), Array.getElem?_setIfInBounds_self_of_lt (by omega)]
    · rw [Array.getElem?_setIfInBounds_self_of_lt (by simp; omega)]
  · have := h4 j (by omega)
    constructor
    · rw [Array.getElem?_setIfInBounds_ne (by omega), Array.getElem?_setIfInBounds_ne (by omega)]; exact this.1
    · rw [Array.getElem?_setIfInBounds_ne (by omega), Array.getElem?_setIfInBounds_ne (by omega)]; exact this.2

theorem SegInv.cells {w : World} {g n : Nat} {z : Nat → Nat} {i : Nat} {wr : World} (h : SegInv w g n z i wr) (hi : i < n) :
    ∃ u v, wr.cell? ⟨g, i * 2, none⟩ = some u ∧ wr.cell? ⟨g, i * 2 + 1, none⟩ = some v ∧ wr.frozen? ⟨g, i * 2, none⟩ = false ∧ wr.frozen? ⟨g, i * 2 + 1, none⟩ = false := by
  obtain ⟨h1, cs, h2, h3, h4⟩ := h
  refine ⟨cs[i * 2]'(by omega), cs[i * 2 + 1]'(by omega), ?_, ?_, not_frozen h2 (.inl rfl) (by omega), not_frozen h2 (.inl rfl) (by omega)⟩
  · simp only [World.cell?, h2]; exact Array.getElem?_eq_getElem _
  · simp only [World.cell?, h2]; exact Array.getElem?_eq_getElem _

/-- What segs comes to. -/
def SegsOk (w w' : World) (L : Nat) (z : Nat → Nat) (e : Ending) : Prop :=
  e = .returned (.slice (some ⟨w.heap.size, 0, none⟩) (min L 8) (min L 8)) ∧ Below w.heap.size w w' ∧ w.heap.size < w'.heap.size ∧ SegRow w' w.heap.size (segsOf L z)

theorem SegInv.done {w : World} {L : Nat} {z : Nat → Nat} {wr : World} (h : SegInv w w.heap.size (min L 8) z (min L 8) wr) : SegsOk w wr L z (.returned (.slice (some ⟨w.heap.size, 0, none⟩) (min L 8) (min L 8))) := by
  obtain ⟨h1, cs, h2, h3, h4⟩ := h
  refine ⟨rfl, h1, (Array.getElem?_eq_some_iff.1 h2).1, cs, h2, fun i hi => ?_⟩
  rw [segsOf_get]
  exact h4 i (by rw [segsOf_len] at hi; exact hi)

set_option maxRecDepth 100000 in
set_option maxHeartbeats 1000000 in
theorem segs_long (A : Option Addr) (L C : Nat) (z : Nat → Nat) (w : World) (hL : 8 < L) (hL2 : L ≤ 9223372036854775807) (hrow : RowIn w A L z) :
    Calls Yba.prog 8 #[.slice A L C] w fun e w' => SegsOk w w' L z e := by
  have HR := hide hrow
  have hmk : ∀ w, (Instr.makeSlice 38 (.int .i64 8) (.int .i64 8)).run Yba.prog w = .ok (.slice (some ⟨w.heap.size, 0, none⟩) 8 8) (w.alloc (.cells (madeCells #[.int .i64 0, .string ⟨#[]⟩] (8 * 2)) 71)) := make38 8 (by omega)
  have HST : Hid (SegInv w w.heap.size 8 z 0 (w.alloc (.cells (madeCells #[.int .i64 0, .string ⟨#[]⟩] (8 * 2)) 71))) :=
    ⟨(Below.refl _ _).alloc (Nat.le_refl _) _, _, heap_alloc_new w _, size_madeCells _ _, fun j hj => by omega⟩
  have HFIN : Hid (∀ wr, SegInv w w.heap.size 8 z 8 wr → SegsOk w wr L z (.returned (.slice (some ⟨w.heap.size, 0, none⟩) 8 8))) := by
    intro wr h
    have e : min L 8 = 8 := by omega
    have hd := SegInv.done (w := w) (L := L) (z := z) (wr := wr) (by rw [e]; exact h)
    rw [e] at hd
    exact hd
  have h8 : decide ((8 : Int) < (L : Int)) = true := by simp; omega
  clear hrow
  go_enter Yba.func8, Yba.ntmps8
  go_wp2_with fail
  go_loopw [5] (fun v wr => ∃ i : Nat, i ≤ 8 ∧ v = .int .i64 i ∧ SegInv w w.heap.size 8 z i wr) (fun v _ => 8 - (intOf v).toNat)
  case atStart => exact ⟨0, Nat.zero_le _, rfl, HST.out⟩
  case round =>
    obtain ⟨i, hi, rfl, hinv⟩ := hrel
    have HV := hide hinv
    clear hinv hmk HST
    by_cases hlt : i < 8
    · obtain ⟨b, off, rfl, hb, hc⟩ := HR.out (by omega)
      have hcell : wr.cell? ⟨b, off + i, none⟩ = some (.int .u8 (z i)) := (HV.out.1.cell (by exact hb)).trans (hc i (by omega)).1
      have hz256 := (hc i (by omega)).2
      obtain ⟨u, v, c0, c1, f0, f1⟩ := HV.out.cells hlt
      have HNX := hide (HV.out.step hlt (Nat.le_refl _))
      unfold segOf at HNX
      clear hc
      generalize z i = zi at *
      have hm5 : (zi : Int) % 5 = ((zi % 5 : Nat) : Int) := by omega
      have hm2 : (zi : Int) / 5 % 2 = ((zi / 5 % 2 : Nat) : Int) := by omega
      have hr5 : zi % 5 < 5 := Nat.mod_lt _ (by decide)
      have he2 : zi / 5 % 2 < 2 := Nat.mod_lt _ (by decide)
      generalize zi % 5 = r at *
      generalize zi / 5 % 2 = e at *
      have hr : r = 0 ∨ r = 1 ∨ r = 2 ∨ r = 3 ∨ r = 4 := by omega
      have he : e = 0 ∨ e = 1 := by omega
      rcases hr with rfl | rfl | rfl | rfl | rfl <;> rcases he with rfl | rfl
      all_goals
        go_wp2_with fail
        go_roundw
        case rel => exact ⟨i + 1, by omega, by go_num, HNX.out⟩
        case measure => simp [intOf]; omega
    · obtain rfl : i = 8 := by omega
      go_wp2_with fail
      go_ret
      exact HFIN.out wr HV.out

set_option maxRecDepth 100000 in
set_option maxHeartbeats 1000000 in
theorem segs_short (A : Option Addr) (L C : Nat) (z : Nat → Nat) (w : World) (hL : L ≤ 8) (hrow : RowIn w A L z) :
    Calls Yba.prog 8 #[.slice A L C] w fun e w' => SegsOk w w' L z e := by
  have HR := hide hrow
  have hmk : ∀ w, (Instr.makeSlice 38 (.int .i64 (L : Int)) (.int .i64 (L : Int))).run Yba.prog w = .ok (.slice (some ⟨w.heap.size, 0, none⟩) L L) (w.alloc (.cells (madeCells #[.int .i64 0, .string ⟨#[]⟩] (L * 2)) 71)) := make38 L (by omega)
  have HST : Hid (SegInv w w.heap.size L z 0 (w.alloc (.cells (madeCells #[.int .i64 0, .string ⟨#[]⟩] (L * 2)) 71))) :=
    ⟨(Below.refl _ _).alloc (Nat.le_refl _) _, _, heap_alloc_new w _, size_madeCells _ _, fun j hj => by omega⟩
  have HFIN : Hid (∀ wr, SegInv w w.heap.size L z L wr → SegsOk w wr L z (.returned (.slice (some ⟨w.heap.size, 0, none⟩) L L))) := by
    intro wr h
    have e : min L 8 = L := by omega
    have hd := SegInv.done (w := w) (L := L) (z := z) (wr := wr) (by rw [e]; exact h)
    rw [e] at hd
    exact hd
  have h8 : decide ((8 : Int) < (L : Int)) = false := by simp; omega
  clear hrow
  go_enter Yba.func8, Yba.ntmps8
  go_wp2_with fail
  go_loopw [5] (fun v wr => ∃ i : Nat, i ≤ L ∧ v = .int .i64 i ∧ SegInv w w.heap.size L z i wr) (fun v _ => L - (intOf v).toNat)
  case atStart => exact ⟨0, Nat.zero_le _, rfl, HST.out⟩
  case round =>
    obtain ⟨i, hi, rfl, hinv⟩ := hrel
    have HV := hide hinv
    clear hinv hmk HST
    by_cases hlt : i < L
    · obtain ⟨b, off, rfl, hb, hc⟩ := HR.out (by omega)
      have hcell : wr.cell? ⟨b, off + i, none⟩ = some (.int .u8 (z i)) := (HV.out.1.cell (by exact hb)).trans (hc i (by omega)).1
      have hz256 := (hc i (by omega)).2
      obtain ⟨u, v, c0, c1, f0, f1⟩ := HV.out.cells hlt
      have HNX := hide (HV.out.step hlt (Nat.le_refl _))
      unfold segOf at HNX
      clear hc
      generalize z i = zi at *
      have hm5 : (zi : Int) % 5 = ((zi % 5 : Nat) : Int) := by omega
      have hm2 : (zi : Int) / 5 % 2 = ((zi / 5 % 2 : Nat) : Int) := by omega
      have hr5 : zi % 5 < 5 := Nat.mod_lt _ (by decide)
      have he2 : zi / 5 % 2 < 2 := Nat.mod_lt _ (by decide)
      generalize zi % 5 = r at *
      generalize zi / 5 % 2 = e at *
      have hr : r = 0 ∨ r = 1 ∨ r = 2 ∨ r = 3 ∨ r = 4 := by omega
      have he : e = 0 ∨ e = 1 := by omega
      rcases hr with rfl | rfl | rfl | rfl | rfl <;> rcases he with rfl | rfl
      all_goals
        go_wp2_with fail
        go_roundw
        case rel => exact ⟨i + 1, by omega, by go_num, HNX.out⟩
        case measure => simp [intOf]; omega
    · obtain rfl : i = L := by omega
      go_wp2_with fail
      go_ret
      exact HFIN.out wr HV.out

theorem segs_any (A : Option Addr) (L C : Nat) (z : Nat → Nat) (w : World) (hL : L ≤ maxLen) (hrow : RowIn w A L z) :
    Calls Yba.prog 8 #[.slice A L C] w fun e w' => SegsOk w w' L z e := by
  unfold maxLen at hL
  by_cases h8 : 8 < L
  · exact segs_long A L C z w h8 (by omega) hrow
  · exact segs_short A L C z w (by omega) hrow

end Go.Proofs.Ybulkavso
