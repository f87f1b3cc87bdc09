/-
  LawS2351CKept: the walk.
-/
import Derived.Test.YbulkavqyLawFresh
namespace Go.Proofs.Ybulkavqy
open Go.RowKit Go.Maps

theorem keyLit (r : Int) : WideAt.IsKeyLit (.int .i64 r) := by simp [WideAt.IsKeyLit]

theorem ne_key {r s : Int} (h : s ≠ r) : (Lit.int .i64 s) ≠ (Lit.int .i64 r) := fun e => h (by cases e; rfl)

theorem put1_other {r s : Int} (h : s ≠ r) (b : Nat) : ((DataW.map [] : DataW Unit).put (.int .i64 r) (.lit (.int .i64 b))).atKey (.int .i64 s) .nil = .nil := by
  rw [atKey_put_other (ne_key h)]; rfl

theorem put2_first {r s : Int} (h : s ≠ r) (b c : Nat) : (((DataW.map [] : DataW Unit).put (.int .i64 r) (.lit (.int .i64 b))).put (.int .i64 s) (.lit (.int .i64 c))).atKey (.int .i64 r) .nil = .lit (.int .i64 b) := by
  rw [atKey_put_other (ne_key (Ne.symm h))]; exact put1 r b

theorem put2_second (r s : Int) (b c : Nat) : (((DataW.map [] : DataW Unit).put (.int .i64 r) (.lit (.int .i64 b))).put (.int .i64 s) (.lit (.int .i64 c))).atKey (.int .i64 s) .nil = .lit (.int .i64 c) :=
  atKey_put_same (isMap_empty.put _ _) (keyLit s) _ _

theorem size2 {r s : Int} (h : s ≠ r) (b c : Nat) : Maps.size (((DataW.map [] : DataW Unit).put (.int .i64 r) (.lit (.int .i64 b))).put (.int .i64 s) (.lit (.int .i64 c))) = 2 := by
  rw [size_put (tidy_empty.put (keyLit r) _), has_put_other (ne_key h), size1]; rfl

/-- The round state of the law's own make: its coordinator's message in block c, nothing held. -/
def oldCells (c : Nat) : Array Value :=
  #[.pointer (some ⟨c, 0, none⟩), .slice none 0 0, .map none, .int .i64 0, .slice none 0 0, .int .i64 0, .slice none 0 0, .map none, .int .i64 0, .slice none 0 0, .int .i64 0, .slice none 0 0, .map none, .int .i64 0, .slice none 0 0, .int .i64 0]

set_option maxRecDepth 100000 in
set_option maxHeartbeats 1000000 in
theorem walk_kept (n : Nat) (r s : Int) (v : Int) (w : World) (hn : n ≤ 65535) (hr : (Lit.int .i64 r).wf = true) (hs : (Lit.int .i64 s).wf = true) :
    Calls Yba.prog 4 #[.int .u16 n, .int .i64 r, .int .i64 s, .int .u64 v] w fun e w' => e = .returned (.bool true) ∧ Below w.heap.size w w' := by
  have hmm := @run_makeMap Yba.prog
  have hnot : ∀ (x : Bool) (w : World), (Op.unary .not (.bool x)).run Yba.prog w = .ok (.bool (!x)) w := fun _ _ => rfl
  have hpp := fun (wx : World) (a : Addr) => neq_ptr_same wx a Yba.underlying50 size58
  have hpm := fun (wx : World) (a : Addr) => neq_ptr_same wx a Yba.underlying41 size55
  have e35 := fun wx r => run_neq_map_nil (P := Yba.prog) wx 35 44 3 r Yba.underlying35
  have e34 := fun wx a n c n' c' => run_neq_slice_nil_any (P := Yba.prog) wx 34 25 a n c n' c' Yba.underlying34
  go_enter Yba.func4, Yba.ntmps4
  go_wp2_with (at_mapUpdate; refine wpList_mapUpdate_own _ rfl _ _ _ 28 rfl 3 50 law Yba.underlying28 ptrElem w.heap.size 0 (.map []) rfl (by exact (((World.ownsMap_made w Yba.prog 3 ptrElem).alloc _).alloc _).alloc _) (by unfold maxLen; omega) _ _ _ rfl rfl (keyOf_int_mk Yba.underlying3 hr) (.lit (.int .i64 ((w.heap.size + 1 + 1 + 1 : Nat) : Int))) [] rfl ?_; intro w1 hown1 hgrow1)
  have hb1 : Below w.heap.size w w1 := by
    refine Below.grown (((((Below.refl _ _).alloc (Nat.le_refl _) _).alloc ?_ _).alloc ?_ _).alloc ?_ _) hgrow1 ?_ ?_
    · simp
    · simp; omega
    · simp; omega
    · simp; omega
    · intro k hk; cases hk; exact Nat.le_refl _
  have c0 : w1.cell? ⟨w.heap.size + 1, 0, none⟩ = some (.int .i64 n) := by
    refine hgrow1.cell ?_ ?_
    · go_simp
    · simp
  have c25 : w1.cell? ⟨w.heap.size + 1, 25, none⟩ = some (.map (some w.heap.size)) := by
    refine hgrow1.cell ?_ ?_
    · go_simp
    · simp
  have m6 : w1.cell? ⟨w.heap.size + 1 + 1, 6, none⟩ = some (.int .u64 v) := by
    refine hgrow1.cell ?_ ?_
    · go_simp
    · simp; omega
  have hOld : w1.heap[w.heap.size + 1 + 1 + 1]? = some (.cells (oldCells (w.heap.size + 1 + 1)) 58) := by
    refine (hgrow1.block _ ?_ ?_).trans ?_
    · simp
    · simp; omega
    · simp only [heap_of_alloc, Array.getElem?_push, Array.size_push]
      rw [if_pos trivial]
      rfl
  have hz1 : w.heap.size + 1 + 1 + 1 < w1.heap.size := (Array.getElem?_eq_some_iff.1 hOld).1
  have o0 : w1.cell? ⟨w.heap.size + 1 + 1 + 1, 0, none⟩ = some (.pointer (some ⟨w.heap.size + 1 + 1, 0, none⟩)) := by simp [World.cell?, hOld, oldCells]
  have o1 : w1.cell? ⟨w.heap.size + 1 + 1 + 1, 1, none⟩ = some (.slice none 0 0) := by simp [World.cell?, hOld, oldCells]
  have o2 : w1.cell? ⟨w.heap.size + 1 + 1 + 1, 2, none⟩ = some (.map none) := by simp [World.cell?, hOld, oldCells]
  have o3 : w1.cell? ⟨w.heap.size + 1 + 1 + 1, 3, none⟩ = some (.int .i64 0) := by simp [World.cell?, hOld, oldCells]
  have o4 : w1.cell? ⟨w.heap.size + 1 + 1 + 1, 4, none⟩ = some (.slice none 0 0) := by simp [World.cell?, hOld, oldCells]
  have o5 : w1.cell? ⟨w.heap.size + 1 + 1 + 1, 5, none⟩ = some (.int .i64 0) := by simp [World.cell?, hOld, oldCells]
  have o6 : w1.cell? ⟨w.heap.size + 1 + 1 + 1, 6, none⟩ = some (.slice none 0 0) := by simp [World.cell?, hOld, oldCells]
  have o7 : w1.cell? ⟨w.heap.size + 1 + 1 + 1, 7, none⟩ = some (.map none) := by simp [World.cell?, hOld, oldCells]
  have o8 : w1.cell? ⟨w.heap.size + 1 + 1 + 1, 8, none⟩ = some (.int .i64 0) := by simp [World.cell?, hOld, oldCells]
  have o9 : w1.cell? ⟨w.heap.size + 1 + 1 + 1, 9, none⟩ = some (.slice none 0 0) := by simp [World.cell?, hOld, oldCells]
  have o10 : w1.cell? ⟨w.heap.size + 1 + 1 + 1, 10, none⟩ = some (.int .i64 0) := by simp [World.cell?, hOld, oldCells]
  have o11 : w1.cell? ⟨w.heap.size + 1 + 1 + 1, 11, none⟩ = some (.slice none 0 0) := by simp [World.cell?, hOld, oldCells]
  have o12 : w1.cell? ⟨w.heap.size + 1 + 1 + 1, 12, none⟩ = some (.map none) := by simp [World.cell?, hOld, oldCells]
  have o13 : w1.cell? ⟨w.heap.size + 1 + 1 + 1, 13, none⟩ = some (.int .i64 0) := by simp [World.cell?, hOld, oldCells]
  have o14 : w1.cell? ⟨w.heap.size + 1 + 1 + 1, 14, none⟩ = some (.slice none 0 0) := by simp [World.cell?, hOld, oldCells]
  have o15 : w1.cell? ⟨w.heap.size + 1 + 1 + 1, 15, none⟩ = some (.int .i64 0) := by simp [World.cell?, hOld, oldCells]
  have hlen : ∀ ty, (Builtin.len_ #[28] ty #[.map (some w.heap.size)]).run Yba.prog w1 = .ok (.int .i64 1) w1 := by
    intro ty
    have := hown1.len Yba.underlying28 ty
    rw [size1] at this
    exact this
  clear hgrow1
  refine (round_old r _ _ _ _ _ w1 hr c25 hown1 (put1 r (w.heap.size + 1 + 1 + 1))).mono ?_
  rintro e w3 ⟨rfl, rfl⟩
  go_wp2_with fail
  refine wp_loop_rounds 4 ?_
  rw [rounds_succ]
  go_wp2_with fail
  rw [rounds_succ]
  go_wp2_with fail
  rw [rounds_succ]
  go_wp2_with fail
  rw [rounds_succ]
  by_cases hsr : s = r
  · have hsb : (s == r) = true := by simp [hsr]
    clear hsr
    go_wp2_with fail
    go_ret
    exact ⟨rfl, hb1⟩
  · have hsb : (s == r) = false := by simp [hsr]
    go_wp2_with fail
    refine (round_new' n s (w.heap.size + 1) w.heap.size 1 w1.heap.size _ w1 hn hs rfl (by omega) (by omega) c0 c25 hown1 (put1_other hsr _)).mono ?_
    rintro e w2 ⟨rfl, hfr, hown2, hgr2, hsz2⟩
    have hne : w.heap.size + 1 + 1 + 1 ≠ w.heap.size := by omega
    have hOld2 : w2.heap[w.heap.size + 1 + 1 + 1]? = some (.cells (oldCells (w.heap.size + 1 + 1)) 58) :=
      (hgr2.block _ hz1 (by simp; omega)).trans hOld
    have hb2 : Below w.heap.size w w2 := hb1.grown hgr2 (by omega) (by intro k hk; cases hk; exact Nat.le_refl _)
    have heq : (binOp .eql 50 (.pointer (some ⟨w1.heap.size, 0, none⟩)) (.pointer (some ⟨w.heap.size + 1 + 1 + 1, 0, none⟩))).run Yba.prog w2 = .ok (.bool false) w2 := by
      obtain ⟨_, _, _, _, _, _, _, _, _, hB⟩ := hfr
      exact eql_ptr_other w2 Yba.underlying50 size58 (by simp) hB hOld2
    have d25 : w2.cell? ⟨w.heap.size + 1, 25, none⟩ = some (.map (some w.heap.size)) := hgr2.cell c25 (by simp)
    clear hlen c0 c25 m6 o0 o1 o2 o3 o4 o5 o6 o7 o8 o9 o10 o11 o12 o13 o14 o15 hOld hown1 hgr2 hb1
    go_wp2_with fail
    refine (fresh_any n _ w2 hn hfr).mono ?_
    rintro e w3 ⟨rfl, hb3⟩
    have hg3 := grownBy_of_below hb3 none
    have hown3 := hown2.kept hg3 (by simp)
    have q25 : w3.cell? ⟨w.heap.size + 1, 25, none⟩ = some (.map (some w.heap.size)) := hg3.cell d25 (by simp)
    have p0 : w3.cell? ⟨w.heap.size + 1 + 1 + 1, 0, none⟩ = some (.pointer (some ⟨w.heap.size + 1 + 1, 0, none⟩)) := hg3.cell (by simp [World.cell?, hOld2, oldCells]) (by simp)
    have hl1 := look_at hr hown3 (put2_first hsr (w.heap.size + 1 + 1 + 1) w1.heap.size)
    have hl2 := look_at hs hown3 (put2_second r s (w.heap.size + 1 + 1 + 1) w1.heap.size)
    have hlen3 : ∀ ty, (Builtin.len_ #[28] ty #[.map (some w.heap.size)]).run Yba.prog w3 = .ok (.int .i64 2) w3 := by
      intro ty
      have := hown3.len Yba.underlying28 ty
      rw [size2 hsr] at this
      exact this
    have hbel := hb2.trans (hb3.mono hb2.size)
    clear hown2 hown3 hfr hg3 d25 hOld2 hb2 hb3 heq
    go_wp2_with fail
    go_ret
    exact ⟨rfl, hbel⟩

end Go.Proofs.Ybulkavqy
