/-
  What the iterator of (*methodTrees).all reads: the known methods' row, the map of the others. Runs of single instructions.
-/
import Derived.Test.YbulkavsoGet
import Derived.Deep.MidRow
namespace Go.Proofs.Ybulkavso
open Go.RowKit
open Go.ChangeMaps (setBlock)

theorem cell_at {w : World} {b t : Nat} {cs : Array Value} (h : w.heap[b]? = some (.cells cs t)) (i : Nat) : w.cell? ⟨b, i, none⟩ = cs[i]? := by simp [World.cell?, h]

/-- The nine known methods, as they lie. -/
def kcells (ms : Nat → ByteArray) (root : Nat → Option Nat) : List Value :=
  [.string (ms 1), ptrO (root 1), .string (ms 2), ptrO (root 2), .string ⟨#[]⟩, .pointer none, .string ⟨#[]⟩, .pointer none, .string ⟨#[]⟩, .pointer none, .string (ms 3), ptrO (root 3),
    .string ⟨#[]⟩, .pointer none, .string ⟨#[]⟩, .pointer none, .string ⟨#[]⟩, .pointer none]
/-- The i-th's name and root. -/
def nm (ms : Nat → ByteArray) (i : Nat) : ByteArray := if i = 0 then ms 1 else if i = 1 then ms 2 else if i = 5 then ms 3 else ⟨#[]⟩
def rr (root : Nat → Option Nat) (i : Nat) : Option Nat := if i = 0 then root 1 else if i = 1 then root 2 else if i = 5 then root 3 else none
def mmOf (i : Nat) : Nat := if i = 0 then 1 else if i = 1 then 2 else 3

theorem size29 : (Yba.prog.info? 29).map (·.size) = some 18 := by kernel_rfl
theorem size28 : (Yba.prog.info? 28).map (·.size) = some 2 := by kernel_rfl

theorem load29 {w : World} {rt : Nat} {c0 c1 c2 c3 : Value} {ms : Nat → ByteArray} {root : Nat → Option Nat} {mo : Option Nat} (h : w.heap[rt]? = some (.cells (rcells c0 c1 c2 c3 ms root mo) 34)) :
    (Instr.loadAt 29 (.pointer (some ⟨rt, 4, none⟩))).run Yba.prog w = .ok (.agg (kcells ms root).toArray) w := by
  refine run_loadAt_mid w rt 4 29 (kcells ms root) _ ?_ Yba.underlying29 rfl size29
  intro j v hj
  have hl : j < 18 := by
    have := (List.getElem?_eq_some_iff.1 hj).1
    simpa [kcells] using this
  rw [cell_at h]
  have e : rcells c0 c1 c2 c3 ms root mo = ([c0, c1, c2, c3] ++ (kcells ms root ++ [.map mo, ptrO (root 0)])).toArray := rfl
  rw [e, List.getElem?_toArray, List.getElem?_append_right (by simp), List.getElem?_append_left (by simp [kcells]; omega)]
  simpa using hj

theorem index29 (w : World) (cs : Array Value) (i : Nat) (hi : i < 9) : (Instr.index 29 (.agg cs) (.int .i64 (i : Int))).run Yba.prog w = .ok (.agg (cs.extract (i * 2) (i * 2 + 2))) w := by
  obtain ⟨j, hj, hs⟩ := Option.map_eq_some_iff.1 size28
  simp [Instr.index, asIntOf, run_underlying Yba.underlying29, part, sizeOf, typeInfo, hj, hs]
  omega

theorem index_known (w : World) (ms : Nat → ByteArray) (root : Nat → Option Nat) (i : Nat) (hi : i < 9) : (Instr.index 29 (.agg (kcells ms root).toArray) (.int .i64 (i : Int))).run Yba.prog w = .ok (.agg #[.string (nm ms i), ptrO (rr root i)]) w := by
  rw [index29 w _ i hi]
  have hr : i = 0 ∨ i = 1 ∨ i = 2 ∨ i = 3 ∨ i = 4 ∨ i = 5 ∨ i = 6 ∨ i = 7 ∨ i = 8 := by omega
  rcases hr with rfl | rfl | rfl | rfl | rfl | rfl | rfl | rfl | rfl <;> rfl

theorem next_first {w : World} {r mb b : Nat} (ty : TypeId) {k : Value} (hr : w.heap[r]? = some (.mapIter (some mb) 1 #[] 1)) (hb : w.heap[mb]? = some (.map #[⟨k, .pointer (some ⟨b, 0, none⟩), 0⟩] 1)) :
    ∃ W2, (Instr.next (.pointer (some ⟨r, 0, none⟩)) false ty).run Yba.prog w = .ok (.tuple #[.bool true, k, .pointer (some ⟨b, 0, none⟩)]) W2 ∧ w.grownBy W2 (some r) ∧ W2.heap.size = w.heap.size ∧ W2.heap[r]? = some (.mapIter (some mb) 1 #[0] 1) ∧ W2.heap[mb]? = w.heap[mb]? ∧
      (Instr.entry (.pointer (some ⟨r, 0, none⟩))).run Yba.prog W2 = .ok (.tuple #[k, .pointer (some ⟨b, 0, none⟩)]) W2 := by
  have hne : mb ≠ r := fun e => by rw [e, hr] at hb; cases hb
  have hrl : r < w.heap.size := (Array.getElem?_eq_some_iff.1 hr).1
  rcases run_next_at (P := Yba.prog) w ty r mb 1 1 #[] _ 1 hr hb (by simp) (Nat.le_refl _) with ⟨h0, _⟩ | ⟨e, he, w1, hw1, hrun⟩
  · simp [leftOf] at h0
  · have he2 : e = ⟨k, .pointer (some ⟨b, 0, none⟩), 0⟩ := by simpa [leftOf] using he
    subst he2
    have hh : w1.heap = w.heap := by rcases hw1 with rfl | rfl <;> rfl
    have g1 : (setBlock w1 r (.mapIter (some mb) 1 (#[].push 0) 1)).heap[r]? = some (.mapIter (some mb) 1 #[0] 1) := by
      show (w1.heap.setIfInBounds r _)[r]? = _
      rw [Array.getElem?_setIfInBounds_self_of_lt (by rw [hh]; exact hrl)]
      rfl
    have g2 : (setBlock w1 r (.mapIter (some mb) 1 (#[].push 0) 1)).heap[mb]? = w.heap[mb]? := by
      show (w1.heap.setIfInBounds r _)[mb]? = _
      rw [Array.getElem?_setIfInBounds_ne (Ne.symm hne), hh]
    refine ⟨_, hrun, ?_, by show (w1.heap.setIfInBounds r _).size = _; rw [Array.size_setIfInBounds, hh], g1, g2, ?_⟩
    · refine ⟨by rcases hw1 with rfl | rfl <;> rfl, by rcases hw1 with rfl | rfl <;> rfl, by rcases hw1 with rfl | rfl <;> rfl, by show _ ≤ (w1.heap.setIfInBounds r _).size; rw [Array.size_setIfInBounds, hh]; exact Nat.le_refl _, fun x _ hx => ?_⟩
      show (w1.heap.setIfInBounds r _)[x]? = _
      rw [Array.getElem?_setIfInBounds_ne (fun e => hx (by rw [e])), hh]
    · exact run_entry_at _ r mb 1 #[] _ 1 ⟨k, .pointer (some ⟨b, 0, none⟩), 0⟩ g1 (g2.trans hb) (by simp) (by simp)

theorem next_last {w : World} {r mb b : Nat} (ty : TypeId) {k : Value} (hr : w.heap[r]? = some (.mapIter (some mb) 1 #[0] 1)) (hb : w.heap[mb]? = some (.map #[⟨k, .pointer (some ⟨b, 0, none⟩), 0⟩] 1)) :
    (Instr.next (.pointer (some ⟨r, 0, none⟩)) false ty).run Yba.prog w = .ok (.tuple #[.bool false]) w := by
  rcases run_next_at (P := Yba.prog) w ty r mb 1 1 #[0] _ 1 hr hb (by simp) (Nat.le_refl _) with ⟨_, h⟩ | ⟨e, he, _⟩
  · exact h
  · simp [leftOf] at he

theorem next_nil {w : World} {r : Nat} (ty : TypeId) (hr : w.heap[r]? = some (.mapIter none 0 #[] 0)) : (Instr.next (.pointer (some ⟨r, 0, none⟩)) false ty).run Yba.prog w = .ok (.tuple #[.bool false]) w := by
  simp only [Instr.next, getObj, Sem.run_bind, Sem.run, hr, Result.andThen]
  rfl

end Go.Proofs.Ybulkavso
