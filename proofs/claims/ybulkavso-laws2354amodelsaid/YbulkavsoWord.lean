/-
  zzs2354bsmall and zzs2354bword: walked over whatever rows come in.
-/
import Derived.Test.YbulkavsoAdd
import Derived.Below
namespace Go.Proofs.Ybulkavso
open Go.RowKit

/-- A row of bytes that came in: L cells, the numbers z. -/
def RowIn (w : World) (A : Option Addr) (L : Nat) (z : Nat → Nat) : Prop :=
  0 < L → ∃ b off, A = some ⟨b, off, none⟩ ∧ b < w.heap.size ∧ ∀ i, i < L → w.cell? ⟨b, off + i, none⟩ = some (.int .u8 (z i)) ∧ z i < 256

/-- A row of such rows. -/
def MatIn (w : World) (a : Option Addr) (len : Nat) (A : Nat → Option Addr) (L C : Nat → Nat) (z : Nat → Nat → Nat) : Prop :=
  0 < len → ∃ b off, a = some ⟨b, off, none⟩ ∧ b < w.heap.size ∧ ∀ r, r < len → w.cell? ⟨b, off + r, none⟩ = some (.slice (A r) (L r) (C r)) ∧ L r ≤ maxLen ∧ RowIn w (A r) (L r) (z r)

theorem RowIn.below {w w' : World} {A : Option Addr} {L : Nat} {z : Nat → Nat} (h : RowIn w A L z) (hb : Below w.heap.size w w') : RowIn w' A L z := fun hp => by
  obtain ⟨b, off, h1, h2, h3⟩ := h hp
  exact ⟨b, off, h1, by have := hb.size; omega, fun i hi => ⟨(hb.cell (by exact h2)).trans (h3 i hi).1, (h3 i hi).2⟩⟩

theorem MatIn.below {w w' : World} {a : Option Addr} {len : Nat} {A : Nat → Option Addr} {L C : Nat → Nat} {z : Nat → Nat → Nat} (h : MatIn w a len A L C z) (hb : Below w.heap.size w w') : MatIn w' a len A L C z := fun hp => by
  obtain ⟨b, off, h1, h2, h3⟩ := h hp
  exact ⟨b, off, h1, by have := hb.size; omega, fun r hr => ⟨(hb.cell (by exact h2)).trans (h3 r hr).1, (h3 r hr).2.1, (h3 r hr).2.2.below hb⟩⟩

/-- Is every row short? -/
def Short (len : Nat) (L : Nat → Nat) : Prop := len ≤ 256 ∧ ∀ r, r < len → L r ≤ 256

set_option maxRecDepth 100000 in
set_option maxHeartbeats 1000000 in
theorem small_any (a : Option Addr) (len cap : Nat) (A : Nat → Option Addr) (L C : Nat → Nat) (z : Nat → Nat → Nat) (w : World) (hlen : len ≤ maxLen) (hm : MatIn w a len A L C z) :
    Calls Yba.prog 14 #[.slice a len cap] w fun e w' => w' = w ∧ ∃ b : Bool, e = .returned (.bool b) ∧ (b = true → Short len L) := by
  unfold maxLen at hlen
  by_cases hl : 256 < len
  · have hl' : (256 : Int) < (len : Int) := by omega
    go_enter Yba.func14, Yba.ntmps14
    go_wp2_with fail
    go_ret
    exact ⟨rfl, false, rfl, fun h => by cases h⟩
  · have hl' : ¬ (256 : Int) < (len : Int) := by omega
    have HM := hideIt hm
    clear hm
    go_enter Yba.func14, Yba.ntmps14
    go_wp2_with fail
    go_loopw [10] (fun v wr => ∃ i : Nat, i ≤ len ∧ v = .int .i64 i ∧ (∀ r, r < i → L r ≤ 256) ∧ wr = w) (fun v _ => len - (intOf v).toNat)
    case atStart => exact ⟨0, Nat.zero_le _, rfl, fun r hr => by omega, rfl⟩
    case round =>
      obtain ⟨i, hi, rfl, hs, rfl⟩ := hrel
      have HS := hideIt hs
      clear hs
      by_cases hlt : i < len
      · obtain ⟨b, off, rfl, hb, hc⟩ := HM.out (by omega)
        obtain ⟨hcell, hmx, _⟩ := hc i hlt
        clear hc
        unfold maxLen at hmx
        generalize hLr : L i = Li at *
        by_cases hLi : 256 < Li
        · have hLi' : (256 : Int) < (Li : Int) := by omega
          go_wp2_with fail
          go_ret
          exact ⟨rfl, false, rfl, fun h => by cases h⟩
        · have hLi' : ¬ (256 : Int) < (Li : Int) := by omega
          go_wp2_with fail
          go_roundw
          case rel =>
            refine ⟨i + 1, by omega, by go_num, fun r hr => ?_, ?_⟩
            case refine_2 => trivial
            rcases Nat.lt_or_ge r i with h | h
            · exact HS.out r h
            · obtain rfl : r = i := by omega
              omega
          case measure => simp [intOf]; omega
      · obtain rfl : i = len := by omega
        go_wp2_with fail
        go_ret
        exact ⟨rfl, true, rfl, fun _ => ⟨by omega, HS.out⟩⟩

theorem make40 (n : Nat) (hn : n ≤ 4096) (w : World) : (Instr.makeSlice 40 (.int .i64 (n : Int)) (.int .i64 (n : Int))).run Yba.prog w =
    .ok (.slice (some ⟨w.heap.size, 0, none⟩) n n) (w.alloc (.cells (madeCells #[.int .u8 0] n) 5)) := by
  obtain ⟨i, hi, hz0, hz1, hz2⟩ := info_parts info5'
  have h := run_make (P := Yba.prog) w 40 5 i _ Yba.underlying40 hi hz0 .i64 .i64 n n (by omega) (Int.le_refl _) (by rw [hz2]; omega) (by omega)
  simp only [Int.toNat_natCast, hz1, Nat.mul_one] at h
  exact h

theorem made_bytes (w : World) (n : Nat) : BRow (w.alloc (.cells (madeCells #[.int .u8 0] n) 5)) 5 w.heap.size n n ((List.replicate n (0 : UInt8)).map fun b => Value.int .u8 b.toNat) := by
  refine ⟨_, _, heap_alloc_new w _, .inl rfl, by simp [size_madeCells], Nat.le_refl _, ?_, by simp⟩
  rw [toList_madeCells_one]
  simp

theorem zlt {a b : Nat} (h : a < b) : (a : Int) < (b : Int) := by omega

set_option maxRecDepth 100000 in
set_option maxHeartbeats 1000000 in
theorem word_any (A : Option Addr) (L C : Nat) (tab : ByteArray) (z : Nat → Nat) (w : World) (hL : L ≤ 256) (ht0 : 0 < tab.size) (ht1 : tab.size ≤ 256) (hrow : RowIn w A L z) :
    Calls Yba.prog 17 #[.slice A L C, .string tab] w fun e w' => ∃ T : ByteArray, e = .returned (.string T) ∧ T.size = L ∧ (∀ x ∈ T.data.toList, x ∈ tab.data.toList) ∧ Below w.heap.size w w' := by
  have HR := hideIt hrow
  clear hrow
  have hmk := make40 L (by omega)
  have HB0 := hideIt (made_bytes w L)
  have HN0 : Hid (Below w.heap.size w (w.alloc (.cells (madeCells #[.int .u8 0] L) 5))) := (Below.refl _ _).alloc (Nat.le_refl _) _
  go_enter Yba.func17, Yba.ntmps17
  go_wp2_with fail
  generalize w.alloc (.cells (madeCells #[.int .u8 0] L) 5) = w0 at *
  clear hmk
  go_loopw [13] (fun v wr => ∃ (i : Nat) (X : List UInt8), i ≤ L ∧ v = .int .i64 i ∧ BRow wr 5 w.heap.size L L (X.map fun b => Value.int .u8 b.toNat) ∧ X.length = L ∧ (∀ j x, j < i → X[j]? = some x → x ∈ tab.data.toList) ∧ Below w.heap.size w wr) (fun v _ => L - (intOf v).toNat)
  case atStart => exact ⟨0, _, Nat.zero_le _, rfl, HB0.out, by simp, fun j x hj => by omega, HN0.out⟩
  case round =>
    obtain ⟨i, X, hi, rfl, hbr, hX, hin, hbel⟩ := hrel
    have HIN := hideIt hin
    have HBEL := hideIt hbel
    clear hin hbel
    by_cases hlt : i < L
    · obtain ⟨b, off, rfl, hb, hc⟩ := HR.out (by omega)
      have hcell : wr.cell? ⟨b, off + i, none⟩ = some (.int .u8 (z i)) := (HBEL.out.cell (by exact hb)).trans (hc i hlt).1
      have hz256 := (hc i hlt).2
      clear hc
      generalize z i = zi at *
      have hmt : zi % tab.size < tab.size := Nat.mod_lt _ ht0
      have hmI0 : 0 ≤ (zi : Int) % (tab.size : Int) := by omega
      have hmI1 : (zi : Int) % (tab.size : Int) < (tab.size : Int) := by omega
      obtain ⟨q1, ⟨u, hu⟩, hfz⟩ := BRow.set hbr i hlt tab[zi % tab.size]
      have HQ := hideIt q1
      clear q1
      have HIN2 : Hid (∀ j x, j < i + 1 → (X.set i tab[zi % tab.size])[j]? = some x → x ∈ tab.data.toList) := fun j x hj hx => by
        rw [List.getElem?_set] at hx
        by_cases e : i = j
        · rw [if_pos e, if_pos (by omega)] at hx
          cases hx
          exact Array.getElem_mem_toList _
        · rw [if_neg e] at hx
          exact HIN.out j x (by omega) hx
      have HB2 : Hid (Below w.heap.size w (wr.setCell ⟨w.heap.size, i, none⟩ (.int .u8 tab[zi % tab.size].toNat))) := HBEL.out.setCell (p := ⟨w.heap.size, i, none⟩) (Nat.le_refl _) _
      go_wp2_with fail
      go_roundw
      case rel => exact ⟨i + 1, X.set i tab[zi % tab.size], by omega, by go_num, HQ.out, by simpa using hX, HIN2.out, HB2.out⟩
      case measure => simp [intOf]; omega
    · obtain rfl : i = L := by omega
      have hstr := BRow.str hbr
      go_wp2_with fail
      go_ret
      refine ⟨_, rfl, by simpa [ByteArray.size] using hX, fun x hx => ?_, HBEL.out⟩
      obtain ⟨j, hj, rfl⟩ := List.mem_iff_getElem.1 hx
      have hj' : j < X.length := by simpa using hj
      exact HIN.out j _ (by omega) (by simp)

end Go.Proofs.Ybulkavso
