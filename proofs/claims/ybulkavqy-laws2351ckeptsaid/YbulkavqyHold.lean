/-
  newNodeSet, newTally, newHolding: what each makes, the world written out.
-/
import Derived.Test.YbulkavqyRows
import Derived.WalkKit
import Derived.Deep.OwnRows
namespace Go.Proofs.Ybulkavqy
open Go.RowKit

theorem info25 : (Yba.prog.info? 25).map (fun i => (i.zero, i.size, i.bytes)) = some (some (.int .u64 0), 1, 8) := by kernel_rfl

/-- How many words a set of n nodes takes. -/
def words (n : Nat) : Nat := (n + 63) / 64

theorem words_le (n : Nat) (h : n ≤ 65535) : words n ≤ 1024 := by unfold words; omega
theorem words_int (n : Nat) : ((n : Int) + 63) / 64 = (words n : Int) := by unfold words; omega

set_option maxHeartbeats 400000 in
theorem nodeSet_any (n : Nat) (w : World) (hn : n ≤ 65535) :
    Calls Yba.prog 9 #[.int .i64 n] w fun e w' => e = .returned (.slice (some ⟨w.heap.size, 0, none⟩) (words n) (words n)) ∧ w' = w.alloc (.cells (madeCells #[.int .u64 0] (words n)) 25) := by
  have hw := words_le n hn
  have hmk := run_make_row' (P := Yba.prog) 34 25 (.int .u64 0) 8 Yba.underlying34 info25 rfl .i64 .i64 (words n) (by omega) (by omega)
  have hi := words_int n
  go_enter Yba.func9, Yba.ntmps9
  go_wp2
  go_ret
  exact ⟨rfl, rfl⟩

set_option maxHeartbeats 400000 in
theorem tally_any (n : Nat) (w : World) (hn : n ≤ 65535) :
    Calls Yba.prog 8 #[.int .i64 n] w fun e w' => e = .returned (.agg #[.slice (some ⟨w.heap.size + 1, 0, none⟩) (words n) (words n), .map (some (w.heap.size + 2)), .int .i64 0]) ∧
      w' = ((w.alloc (.cells #[.slice (some ⟨w.heap.size + 1, 0, none⟩) (words n) (words n), .map (some (w.heap.size + 2)), .int .i64 0] 37)).alloc (.cells (madeCells #[.int .u64 0] (words n)) 25)).alloc (.map #[] 0) := by
  have hmm := @run_makeMap Yba.prog
  go_enter Yba.func8, Yba.ntmps8
  go_wp2_with fail
  refine (nodeSet_any n _ hn).mono ?_
  rintro e w' ⟨rfl, rfl⟩
  go_wp2
  refine bodyPost_ret (v := .agg #[.slice (some ⟨w.heap.size + 1, 0, none⟩) (words n) (words n), .map (some (w.heap.size + 2)), .int .i64 0]) ?_ rfl ⟨rfl, ?_⟩
  · simp [results, Yba.results8, go_sem]
  · rfl

set_option maxHeartbeats 400000 in
theorem holding_any (n : Nat) (w : World) (hn : n ≤ 65535) :
    Calls Yba.prog 7 #[.int .i64 n] w fun e w' => e = .returned (.agg #[.slice (some ⟨w.heap.size + 2, 0, none⟩) (words n) (words n), .map (some (w.heap.size + 3)), .int .i64 0, .slice none 0 0, .int .i64 n]) ∧
      w' = (((w.alloc (.cells #[.slice (some ⟨w.heap.size + 2, 0, none⟩) (words n) (words n), .map (some (w.heap.size + 3)), .int .i64 0, .slice none 0 0, .int .i64 n] 40)).alloc
        (.cells #[.slice (some ⟨w.heap.size + 2, 0, none⟩) (words n) (words n), .map (some (w.heap.size + 3)), .int .i64 0] 37)).alloc (.cells (madeCells #[.int .u64 0] (words n)) 25)).alloc (.map #[] 0) := by
  go_enter Yba.func7, Yba.ntmps7
  go_wp2_with fail
  refine (tally_any n _ hn).mono ?_
  rintro e w' ⟨rfl, rfl⟩
  go_wp2
  refine bodyPost_ret (v := .agg #[.slice (some ⟨w.heap.size + 2, 0, none⟩) (words n) (words n), .map (some (w.heap.size + 3)), .int .i64 0, .slice none 0 0, .int .i64 n]) ?_ rfl ⟨rfl, ?_⟩
  · simp [results, Yba.results7, go_sem]
  · rfl

end Go.Proofs.Ybulkavqy
