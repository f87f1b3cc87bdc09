/-
  zzs2351cfresh: it answers true at a new round state.
-/
import Derived.Test.YbulkavqyRound
namespace Go.Proofs.Ybulkavqy
open Go.RowKit Go.Maps

theorem len_empty {W : World} {M : Nat} (h : W.heap[M]? = some (.map #[] 0)) (ty : TypeId) : (Builtin.len_ #[35] ty #[.map (some M)]).run Yba.prog W = .ok (.int .i64 0) W := by
  have ho : W.ownsMap Yba.prog 44 ptrElem M 0 (.map []) := by
    have := (World.ownsMap_made W Yba.prog 44 ptrElem)
    obtain ⟨es, c, hb, F, hs, hD⟩ := this
    refine ⟨#[], 0, h, ?_, by simp, rfl⟩
    have e : (W.alloc (.map #[] 0)).heap[W.heap.size]? = some (.map #[] 0) := (MapKept.heap_alloc W _).1
    rw [e] at hb
    cases hb
    exact F
  exact ho.len Yba.underlying35 ty

theorem zero_cell {w : World} {n F : Nat} (h : w.heap[F]? = some (.cells (madeCells #[.int .u64 0] (words n)) 25)) : ∀ j, j < words n → w.cell? ⟨F, j, none⟩ = some (.int .u64 0) := by
  intro j hj
  have e : (madeCells #[Value.int .u64 0] (words n))[j]? = some (.int .u64 0) := by
    rw [← Array.getElem?_toList, toList_madeCells_one]
    simp [hj]
  simp [World.cell?, h, e]

set_option maxRecDepth 100000 in
set_option maxHeartbeats 1000000 in
theorem fresh_any (n B : Nat) (w : World) (hn : n ≤ 65535) (h : FreshAt w n B) :
    Calls Yba.prog 6 #[.pointer (some ⟨B, 0, none⟩), .int .i64 n] w fun e w' => e = .returned (.bool true) ∧ Below w.heap.size w w' := by
  obtain ⟨F0, M0, F1, M1, F2, M2, ⟨f0, m0⟩, ⟨f1, m1⟩, ⟨f2, m2⟩, hB⟩ := h
  have z0 := zero_cell f0
  have z1 := zero_cell f1
  have z2 := zero_cell f2
  have b0 : F0 < w.heap.size := (Array.getElem?_eq_some_iff.1 f0).1
  have b1 : F1 < w.heap.size := (Array.getElem?_eq_some_iff.1 f1).1
  have b2 : F2 < w.heap.size := (Array.getElem?_eq_some_iff.1 f2).1
  have l0 : ∀ o ty, (Builtin.len_ #[35] ty #[.map (some M0)]).run Yba.prog (w.alloc o) = .ok (.int .i64 0) (w.alloc o) := fun o ty =>
    len_empty (((World.grownBy_alloc w o none).block _ (Array.getElem?_eq_some_iff.1 m0).1 (by simp)).trans m0) ty
  have l1 : ∀ o p ty, (Builtin.len_ #[35] ty #[.map (some M1)]).run Yba.prog ((w.alloc o).alloc p) = .ok (.int .i64 0) ((w.alloc o).alloc p) := fun o p ty =>
    len_empty ((((World.grownBy_alloc w o none).trans (World.grownBy_alloc _ p none)).block _ (Array.getElem?_eq_some_iff.1 m1).1 (by simp)).trans m1) ty
  have l2 : ∀ o p q ty, (Builtin.len_ #[35] ty #[.map (some M2)]).run Yba.prog (((w.alloc o).alloc p).alloc q) = .ok (.int .i64 0) (((w.alloc o).alloc p).alloc q) := fun o p q ty =>
    len_empty (((((World.grownBy_alloc w o none).trans (World.grownBy_alloc _ p none)).trans (World.grownBy_alloc _ q none)).block _ (Array.getElem?_eq_some_iff.1 m2).1 (by simp)).trans m2) ty
  have bB : B < w.heap.size := (Array.getElem?_eq_some_iff.1 hB).1
  have c0 : w.cell? ⟨B, 0, none⟩ = some (.pointer none) := by simp [World.cell?, hB]
  have c1 : w.cell? ⟨B, 1, none⟩ = some (.slice (some ⟨F0, 0, none⟩) (words n) (words n)) := by simp [World.cell?, hB]
  have c2 : w.cell? ⟨B, 2, none⟩ = some (.map (some M0)) := by simp [World.cell?, hB]
  have c3 : w.cell? ⟨B, 3, none⟩ = some (.int .i64 0) := by simp [World.cell?, hB]
  have c4 : w.cell? ⟨B, 4, none⟩ = some (.slice none 0 0) := by simp [World.cell?, hB]
  have c5 : w.cell? ⟨B, 5, none⟩ = some (.int .i64 n) := by simp [World.cell?, hB]
  have c6 : w.cell? ⟨B, 6, none⟩ = some (.slice (some ⟨F1, 0, none⟩) (words n) (words n)) := by simp [World.cell?, hB]
  have c7 : w.cell? ⟨B, 7, none⟩ = some (.map (some M1)) := by simp [World.cell?, hB]
  have c8 : w.cell? ⟨B, 8, none⟩ = some (.int .i64 0) := by simp [World.cell?, hB]
  have c9 : w.cell? ⟨B, 9, none⟩ = some (.slice none 0 0) := by simp [World.cell?, hB]
  have c10 : w.cell? ⟨B, 10, none⟩ = some (.int .i64 n) := by simp [World.cell?, hB]
  have c11 : w.cell? ⟨B, 11, none⟩ = some (.slice (some ⟨F2, 0, none⟩) (words n) (words n)) := by simp [World.cell?, hB]
  have c12 : w.cell? ⟨B, 12, none⟩ = some (.map (some M2)) := by simp [World.cell?, hB]
  have c13 : w.cell? ⟨B, 13, none⟩ = some (.int .i64 0) := by simp [World.cell?, hB]
  have c14 : w.cell? ⟨B, 14, none⟩ = some (.slice none 0 0) := by simp [World.cell?, hB]
  have c15 : w.cell? ⟨B, 15, none⟩ = some (.int .i64 n) := by simp [World.cell?, hB]
  clear f0 m0 f1 m1 f2 m2 hB
  have q1 : F1 < w.heap.size + 1 := by omega
  have q2 : F2 < w.heap.size + 1 := by omega
  have q3 : F2 < w.heap.size + 1 + 1 := by omega
  have q4 : B < w.heap.size + 1 := by omega
  have q5 : B < w.heap.size + 1 + 1 := by omega
  have e35 := fun wx r => run_eql_map_nil (P := Yba.prog) wx 35 44 3 r Yba.underlying35
  have e38 := fun wx a n c n' c' => run_neq_slice_nil_any (P := Yba.prog) wx 38 41 a n c n' c' Yba.underlying38
  have hi := words_int n
  have hwl := words_le n hn
  go_enter Yba.func6, Yba.ntmps6
  go_wp2
  refine wp_loop_rounds 4 ?_
  rw [rounds_succ]
  go_wp2
  go_loop [72] (fun i => ∃ k : Nat, k ≤ words n ∧ i = .int .i64 k) (fun i => words n - (intOf i).toNat)
  case atStart => exact ⟨0, Nat.zero_le _, rfl⟩
  case round =>
    obtain ⟨k, hk, rfl⟩ := hrel
    by_cases hlt : k < words n
    · have hz := z0 k hlt
      go_wp2
      go_round
      case rel => exact ⟨k + 1, by omega, by go_num⟩
      case measure => simp [intOf]; omega
    · go_wp2
      rw [rounds_succ]
      go_wp2
      go_loop [72] (fun i => ∃ k : Nat, k ≤ words n ∧ i = .int .i64 k) (fun i => words n - (intOf i).toNat)
      case atStart => exact ⟨0, Nat.zero_le _, rfl⟩
      case round =>
        obtain ⟨k, hk, rfl⟩ := hrel
        by_cases hlt : k < words n
        · have hz := z1 k hlt
          go_wp2
          go_round
          case rel => exact ⟨k + 1, by omega, by go_num⟩
          case measure => simp [intOf]; omega
        · go_wp2
          rw [rounds_succ]
          go_wp2
          go_loop [72] (fun i => ∃ k : Nat, k ≤ words n ∧ i = .int .i64 k) (fun i => words n - (intOf i).toNat)
          case atStart => exact ⟨0, Nat.zero_le _, rfl⟩
          case round =>
            obtain ⟨k, hk, rfl⟩ := hrel
            by_cases hlt : k < words n
            · have hz := z2 k hlt
              go_wp2
              go_round
              case rel => exact ⟨k + 1, by omega, by go_num⟩
              case measure => simp [intOf]; omega
            · go_wp2
              rw [rounds_succ]
              go_wp2
              go_ret
              exact ⟨rfl, (((Below.refl _ _).alloc (Nat.le_refl _) _).alloc (by simp) _).alloc (by simp; omega) _⟩

end Go.Proofs.Ybulkavqy
