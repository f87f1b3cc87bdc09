/-
  (*Fallback).roundAt: at a round that the map does not hold (a new round state is made and put into the map), and at one that it holds.
-/
import Derived.Test.YbulkavqyHold
import Derived.Maps.OwnSet
import Derived.Deep.RegionWith
import Derived.WalkSpells
namespace Go.Proofs.Ybulkavqy
open Go.RowKit Go.Maps

/-- How a pointer reads as an element of the map: nil, or the number of its block. -/
def ptrElem : Value → Option (DataW Unit × List MemPlace)
  | .pointer Option.none => some (.nil, [])
  | .pointer (some ⟨b, 0, Option.none⟩) => some (.lit (.int .i64 b), [])
  | _ => Option.none

theorem ptrElem_nil {v : Value} {ps : List MemPlace} (h : ptrElem v = some (.nil, ps)) : v = .pointer none := by
  unfold ptrElem at h
  split at h <;> simp_all

theorem ptrElem_some {v : Value} {b : Nat} {ps : List MemPlace} (h : ptrElem v = some (.lit (.int .i64 b), ps)) : v = .pointer (some ⟨b, 0, none⟩) := by
  unfold ptrElem at h
  split at h <;> simp_all
  omega

theorem law : Keyed Yba.prog 3 := int_keyed Yba.underlying3
theorem zero50 (w : World) : (zeroValue 50).run Yba.prog w = .ok (.pointer none) w := by kernel_rfl

/-- Blocks F and M are what a new tally of n nodes holds: a row of zero words, an empty map. -/
def TallyOk (w : World) (n F M : Nat) : Prop :=
  w.heap[F]? = some (.cells (madeCells #[.int .u64 0] (words n)) 25) ∧ w.heap[M]? = some (.map #[] 0)

/-- Block B is a new round state for n nodes. -/
def FreshAt (w : World) (n B : Nat) : Prop :=
  ∃ F0 M0 F1 M1 F2 M2 : Nat, TallyOk w n F0 M0 ∧ TallyOk w n F1 M1 ∧ TallyOk w n F2 M2 ∧
    w.heap[B]? = some (.cells #[.pointer none,
      .slice (some ⟨F0, 0, none⟩) (words n) (words n), .map (some M0), .int .i64 0, .slice none 0 0, .int .i64 n,
      .slice (some ⟨F1, 0, none⟩) (words n) (words n), .map (some M1), .int .i64 0, .slice none 0 0, .int .i64 n,
      .slice (some ⟨F2, 0, none⟩) (words n) (words n), .map (some M2), .int .i64 0, .slice none 0 0, .int .i64 n] 58)

theorem heap_of_alloc (w : World) (o : Obj) : (w.alloc o).heap = w.heap.push o := rfl
theorem heap_of_drew (w : World) : w.drew.heap = w.heap := rfl

theorem chain (w : World) (a0 a1 a2 a3 a4 a5 a6 a7 a8 a9 a10 a11 a12 : Obj) (W : World)
    (hW : W = ((((((((((((((w.alloc a0).alloc a1).alloc a2).alloc a3).alloc a4).alloc a5).alloc a6).alloc a7).alloc a8).alloc a9).alloc a10).alloc a11).alloc a12).drew.drew.drew)) :
    W.heap.size = w.heap.size + 13 ∧ W.heap[w.heap.size]? = some a0 ∧ W.heap[w.heap.size + 3]? = some a3 ∧ W.heap[w.heap.size + 4]? = some a4 ∧ W.heap[w.heap.size + 7]? = some a7 ∧ W.heap[w.heap.size + 8]? = some a8 ∧
      W.heap[w.heap.size + 11]? = some a11 ∧ W.heap[w.heap.size + 12]? = some a12 ∧ w.grownBy W none := by
  subst hW
  simp only [heap_of_drew, heap_of_alloc]
  simp only [Array.getElem?_push, Array.size_push]
  refine ⟨trivial, ?_, ?_, ?_, ?_, ?_, ?_, ?_, ?_⟩
  · rw [if_neg (by omega), if_neg (by omega), if_neg (by omega), if_neg (by omega), if_neg (by omega), if_neg (by omega), if_neg (by omega), if_neg (by omega), if_neg (by omega), if_neg (by omega), if_neg (by omega), if_neg (by omega)]; exact if_pos trivial
  · rw [if_neg (by omega), if_neg (by omega), if_neg (by omega), if_neg (by omega), if_neg (by omega), if_neg (by omega), if_neg (by omega), if_neg (by omega), if_neg (by omega)]; exact if_pos trivial
  · rw [if_neg (by omega), if_neg (by omega), if_neg (by omega), if_neg (by omega), if_neg (by omega), if_neg (by omega), if_neg (by omega), if_neg (by omega)]; exact if_pos trivial
  · rw [if_neg (by omega), if_neg (by omega), if_neg (by omega), if_neg (by omega), if_neg (by omega)]; exact if_pos trivial
  · rw [if_neg (by omega), if_neg (by omega), if_neg (by omega), if_neg (by omega)]; exact if_pos trivial
  · rw [if_neg (by omega)]; exact if_pos trivial
  · exact if_pos trivial
  · refine ⟨rfl, rfl, rfl, by simp only [heap_of_drew, heap_of_alloc, Array.size_push]; omega, fun k hk _ => ?_⟩
    simp only [heap_of_drew, heap_of_alloc, Array.getElem?_push, Array.size_push]
    rw [if_neg (by omega), if_neg (by omega), if_neg (by omega), if_neg (by omega), if_neg (by omega), if_neg (by omega), if_neg (by omega), if_neg (by omega), if_neg (by omega), if_neg (by omega), if_neg (by omega), if_neg (by omega), if_neg (by omega)]

set_option maxRecDepth 100000 in
set_option maxHeartbeats 1000000 in
theorem round_new (n : Nat) (r : Int) (fb M k : Nat) (D : DataW Unit) (w : World) (hn : n ≤ 65535) (hr : (Lit.int .i64 r).wf = true) (hfb : fb < w.heap.size) (hk : k ≤ 8)
    (c0 : w.cell? ⟨fb, 0, none⟩ = some (.int .i64 n)) (c25 : w.cell? ⟨fb, 25, none⟩ = some (.map (some M)))
    (hown : w.ownsMap Yba.prog 3 ptrElem M k D) (hat : D.atKey (.int .i64 r) .nil = .nil) :
    Calls Yba.prog 5 #[.pointer (some ⟨fb, 0, none⟩), .int .i64 r] w fun e w' => e = .returned (.pointer (some ⟨w.heap.size, 0, none⟩)) ∧
      FreshAt w' n w.heap.size ∧ w'.ownsMap Yba.prog 3 ptrElem M (k + 1) (D.put (.int .i64 r) (.lit (.int .i64 w.heap.size))) ∧ w.grownBy w' (some M) ∧ w.heap.size < w'.heap.size := by
  have hM : M < w.heap.size := hown.lt
  have hl : (Instr.lookup 28 (.map (some M)) (.int .i64 r) false).run Yba.prog w = .ok (.pointer none) w := by
    obtain ⟨v, ps, hrun, hv⟩ := hown.lookup law Yba.underlying28 (zero50 w) (zd := .nil) (zp := []) rfl (keyOf_int_mk Yba.underlying3 hr)
    rw [hat] at hv
    rw [hrun, ptrElem_nil hv]
  have HA : Hid (D.atKey (.int .i64 r) .nil = .nil) := hat
  clear hat
  have q1 : fb < w.heap.size + 1 := by omega
  have q2 : fb < w.heap.size + 1 + 1 := by omega
  have q3 : fb < w.heap.size + 1 + 1 + 1 := by omega
  have q4 : fb < w.heap.size + 1 + 1 + 1 + 1 := by omega
  have q5 : fb < w.heap.size + 1 + 1 + 1 + 1 + 1 := by omega
  have q6 : fb < w.heap.size + 1 + 1 + 1 + 1 + 1 + 1 := by omega
  have q7 : fb < w.heap.size + 1 + 1 + 1 + 1 + 1 + 1 + 1 := by omega
  have q8 : fb < w.heap.size + 1 + 1 + 1 + 1 + 1 + 1 + 1 + 1 := by omega
  have q9 : fb < w.heap.size + 1 + 1 + 1 + 1 + 1 + 1 + 1 + 1 + 1 := by omega
  have q10 : fb < w.heap.size + 1 + 1 + 1 + 1 + 1 + 1 + 1 + 1 + 1 + 1 := by omega
  have q11 : fb < w.heap.size + 1 + 1 + 1 + 1 + 1 + 1 + 1 + 1 + 1 + 1 + 1 := by omega
  have q12 : fb < w.heap.size + 1 + 1 + 1 + 1 + 1 + 1 + 1 + 1 + 1 + 1 + 1 + 1 := by omega
  go_enter Yba.func5, Yba.ntmps5
  go_wp2_with fail
  refine wp_loop_rounds 4 ?_
  rw [rounds_succ]
  go_wp2_with fail
  go_region_with (go_at_call 7; refine (holding_any n _ hn).mono ?_; rintro e w' ⟨rfl, rfl⟩)
  go_wp2_with fail
  rw [rounds_succ]
  go_wp2_with fail
  go_region_with (go_at_call 7; refine (holding_any n _ hn).mono ?_; rintro e w' ⟨rfl, rfl⟩)
  go_wp2_with fail
  rw [rounds_succ]
  go_wp2_with fail
  go_region_with (go_at_call 7; refine (holding_any n _ hn).mono ?_; rintro e w' ⟨rfl, rfl⟩)
  go_wp2_with fail
  rw [rounds_succ]
  go_wp2_with (at_mapUpdate; refine wpList_mapUpdate_own _ rfl _ _ _ 28 rfl 3 50 law Yba.underlying28 ptrElem M k D rfl (by exact (((((((((((((hown.alloc _).alloc _).alloc _).alloc _).alloc _).alloc _).alloc _).alloc _).alloc _).alloc _).alloc _).alloc _).alloc _)) (by unfold maxLen; omega) _ _ _ rfl rfl (keyOf_int_mk Yba.underlying3 hr) _ [] rfl ?_; intro w1 hown1 hgrow1)
  go_ret
  obtain ⟨s0, s1, s2, s3, s4, s5, s6, s7, s8⟩ := chain w _ _ _ _ _ _ _ _ _ _ _ _ _ _ rfl
  refine ⟨rfl, ⟨w.heap.size + 3, w.heap.size + 4, w.heap.size + 7, w.heap.size + 8, w.heap.size + 11, w.heap.size + 12, ⟨?_, ?_⟩, ⟨?_, ?_⟩, ⟨?_, ?_⟩, ?_⟩, hown1, ?_, ?_⟩
  · exact (hgrow1.block _ (by omega) (by simp; omega)).trans s2
  · exact (hgrow1.block _ (by omega) (by simp; omega)).trans s3
  · exact (hgrow1.block _ (by omega) (by simp; omega)).trans s4
  · exact (hgrow1.block _ (by omega) (by simp; omega)).trans s5
  · exact (hgrow1.block _ (by omega) (by simp; omega)).trans s6
  · exact (hgrow1.block _ (by omega) (by simp; omega)).trans s7
  · exact (hgrow1.block _ (by omega) (by simp; omega)).trans s1
  · exact (s8.but _).trans hgrow1
  · have := hgrow1.size; omega

end Go.Proofs.Ybulkavqy
