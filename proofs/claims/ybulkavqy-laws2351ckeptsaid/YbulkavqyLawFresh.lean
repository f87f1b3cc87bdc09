/-
  LawS2351CFresh: the walk.
-/
import Derived.Test.YbulkavqyFresh
import Derived.Test.YbulkavqyPtr
namespace Go.Proofs.Ybulkavqy
open Go.RowKit Go.Maps

set_option maxRecDepth 100000 in
set_option maxHeartbeats 400000 in
theorem round_old (r : Int) (fb M k b : Nat) (D : DataW Unit) (w : World) (hr : (Lit.int .i64 r).wf = true)
    (c25 : w.cell? ⟨fb, 25, none⟩ = some (.map (some M)))
    (hown : w.ownsMap Yba.prog 3 ptrElem M k D) (hat : D.atKey (.int .i64 r) .nil = .lit (.int .i64 b)) :
    Calls Yba.prog 5 #[.pointer (some ⟨fb, 0, none⟩), .int .i64 r] w fun e w' => e = .returned (.pointer (some ⟨b, 0, none⟩)) ∧ w = w' := by
  have hl : (Instr.lookup 28 (.map (some M)) (.int .i64 r) false).run Yba.prog w = .ok (.pointer (some ⟨b, 0, none⟩)) w := by
    obtain ⟨v, ps, hrun, hv⟩ := hown.lookup law Yba.underlying28 (zero50 w) (zd := .nil) (zp := []) rfl (keyOf_int_mk Yba.underlying3 hr)
    rw [hat] at hv
    rw [hrun, ptrElem_some hv]
  clear hat hown
  go_enter Yba.func5, Yba.ntmps5
  go_wp2
  go_ret
  exact ⟨rfl, rfl⟩

theorem look_at {r : Int} {M k b : Nat} {D : DataW Unit} {w : World} (hr : (Lit.int .i64 r).wf = true) (hown : w.ownsMap Yba.prog 3 ptrElem M k D) (hat : D.atKey (.int .i64 r) .nil = .lit (.int .i64 b)) :
    (Instr.lookup 28 (.map (some M)) (.int .i64 r) false).run Yba.prog w = .ok (.pointer (some ⟨b, 0, none⟩)) w := by
  obtain ⟨v, ps, hrun, hv⟩ := hown.lookup law Yba.underlying28 (zero50 w) (zd := .nil) (zp := []) rfl (keyOf_int_mk Yba.underlying3 hr)
  rw [hat] at hv
  rw [hrun, ptrElem_some hv]

theorem grownBy_of_below {w w' : World} (h : Below w.heap.size w w') (row : Option Nat) : w.grownBy w' row := by
  refine ⟨h.os, h.tape, h.output, h.size, fun k hk _ => ?_⟩
  exact h.block k hk

theorem round_new' (n : Nat) (r : Int) (fb M k B : Nat) (D : DataW Unit) (w : World) (hn : n ≤ 65535) (hr : (Lit.int .i64 r).wf = true) (hB : w.heap.size = B) (hfb : fb < w.heap.size) (hk : k ≤ 8)
    (c0 : w.cell? ⟨fb, 0, none⟩ = some (.int .i64 n)) (c25 : w.cell? ⟨fb, 25, none⟩ = some (.map (some M)))
    (hown : w.ownsMap Yba.prog 3 ptrElem M k D) (hat : D.atKey (.int .i64 r) .nil = .nil) :
    Calls Yba.prog 5 #[.pointer (some ⟨fb, 0, none⟩), .int .i64 r] w fun e w' => e = .returned (.pointer (some ⟨B, 0, none⟩)) ∧
      FreshAt w' n B ∧ w'.ownsMap Yba.prog 3 ptrElem M (k + 1) (D.put (.int .i64 r) (.lit (.int .i64 B))) ∧ w.grownBy w' (some M) ∧ B < w'.heap.size := by
  subst hB
  exact round_new n r fb M k D w hn hr hfb hk c0 c25 hown hat

theorem put1 (r : Int) (b : Nat) : ((DataW.map [] : DataW Unit).put (.int .i64 r) (.lit (.int .i64 b))).atKey (.int .i64 r) .nil = .lit (.int .i64 b) :=
  atKey_put_same isMap_empty (by first | exact trivial | simp [WideAt.IsKeyLit]) _ _

theorem size1 (r : Int) (b : Nat) : Maps.size ((DataW.map [] : DataW Unit).put (.int .i64 r) (.lit (.int .i64 b))) = 1 := by
  rw [size_put tidy_empty]; rfl

set_option maxRecDepth 100000 in
set_option maxHeartbeats 1000000 in
theorem walk_fresh (n : Nat) (r : Int) (w : World) (hn : n ≤ 65535) (hr : (Lit.int .i64 r).wf = true) :
    Calls Yba.prog 3 #[.int .u16 n, .int .i64 r] w fun e w' => e = .returned (.bool true) ∧ Below w.heap.size w w' := by
  have hmm := @run_makeMap Yba.prog
  have hnot : ∀ (x : Bool) (w : World), (Op.unary .not (.bool x)).run Yba.prog w = .ok (.bool (!x)) w := fun _ _ => rfl
  have hpp := fun (wx : World) (a : Addr) => neq_ptr_same wx a Yba.underlying50 size58
  go_enter Yba.func3, Yba.ntmps3
  go_wp2_with fail
  refine (round_new' n r (w.heap.size + 1) w.heap.size 0 (w.heap.size + 1 + 1) (.map []) _ hn hr ?_ ?_ (by omega) ?_ ?_ ?_ ?_).mono ?_
  · simp
  · simp
  · go_simp
  · go_simp
  · exact (World.ownsMap_made w Yba.prog 3 ptrElem).alloc _
  · rfl
  rintro e w1 ⟨rfl, hfr, hown, hgr, hsz⟩
  have hb1 : Below w.heap.size w w1 := by
    refine Below.grown (((Below.refl _ _).alloc (Nat.le_refl _) _).alloc ?_ _) hgr ?_ ?_
    · simp
    · simp; omega
    · intro k hk; cases hk; exact Nat.le_refl _
  have c25 : w1.cell? ⟨w.heap.size + 1, 25, none⟩ = some (.map (some w.heap.size)) := by
    refine hgr.cell ?_ ?_
    · go_simp
    · simp
  clear hgr
  go_wp2_with fail
  refine (fresh_any n _ w1 hn hfr).mono ?_
  rintro e w2 ⟨rfl, hb2⟩
  have hg2 := grownBy_of_below hb2 none
  have hown2 := hown.kept hg2 (by simp)
  have d25 : w2.cell? ⟨w.heap.size + 1, 25, none⟩ = some (.map (some w.heap.size)) := hg2.cell c25 (by simp)
  have hlook := look_at hr hown2 (put1 r (w.heap.size + 1 + 1))
  have hlen : ∀ ty, (Builtin.len_ #[28] ty #[.map (some w.heap.size)]).run Yba.prog w2 = .ok (.int .i64 1) w2 := by
    intro ty
    have := hown2.len Yba.underlying28 ty
    rw [size1] at this
    exact this
  have hbel := hb1.trans (hb2.mono hb1.size)
  clear hown hfr hg2 c25 hb1 hb2
  go_wp2_with (go_at_call 5; refine (round_old r _ _ _ _ _ w2 hr d25 hown2 (put1 r (w.heap.size + 1 + 1))).mono ?_; rintro e w3 ⟨rfl, rfl⟩)
  go_ret
  exact ⟨rfl, hbel⟩

end Go.Proofs.Ybulkavqy
