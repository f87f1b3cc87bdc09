/-
  The questions of LawS2354AModel: what the router answers, what the model answers.
-/
import Derived.Test.YbulkavsoInv
namespace Go.Proofs.Ybulkavso
open Go.RowKit

theorem cell_in {w : World} {b o : Nat} {v : Value} (h : w.cell? ⟨b, o, none⟩ = some v) : b < w.heap.size := by
  rcases Nat.lt_or_ge b w.heap.size with hl | hl
  · exact hl
  · simp [World.cell?, Array.getElem?_eq_none hl] at h

theorem Laid.below {w w' : World} {gm gs gr n : Nat} {mm : Nat → Nat} {SS : Nat → List Seg} {Rb : Nat → Nat} (h : Laid w gm gs gr n mm SS Rb) (hb : Below w.heap.size w w') : Laid w' gm gs gr n mm SS Rb :=
  ⟨h.five, fun i hi => (hb.cell (by exact cell_in (h.meth i hi))).trans (h.meth i hi), fun i hi => by
    obtain ⟨g, h1, h2⟩ := h.segs i hi
    exact ⟨g, (hb.cell (by exact cell_in h1)).trans h1, h2.move (hb.block g h2.lt)⟩, h.ok, fun i hi => (hb.cell (by exact cell_in (h.route i hi))).trans (h.route i hi)⟩

theorem Inv.open {w W : World} {L : Nat} {mm : Nat → Nat} {SS : Nat → List Seg} {Pr : Nat → Prop} (h : Inv w L mm SS Pr L L W) (hm : ∀ i, i < L → mm i < 5) (hok : ∀ i, i < L → (∀ s ∈ SS i, SegOk s) ∧ (SS i).length ≤ 256) :
    Below w.heap.size w W ∧ ∃ root R has F Rb, Rout W w.heap.size root R F ∧ Sound R has mm SS Rb L ∧ Laid W (w.heap.size + 2) (w.heap.size + 1) (w.heap.size + 3) L mm SS Rb := by
  obtain ⟨h0, root, R, has, F, Rb, csS, csM, csR, h1, h2, h3, h4, h5, h6, h7, h8, h9, h10, h11, _, h13⟩ := h
  refine ⟨h0, root, R, has, F, Rb, h1, h3, hm, fun i hi => (cell_at h8 i).trans (h13 i hi).1, fun i hi => ?_, hok, fun i hi => (cell_at h10 i).trans (h13 i hi).2.2⟩
  obtain ⟨g, b1, b2, _⟩ := (h13 i hi).2.1
  exact ⟨g, (cell_at h6 i).trans b1, b2⟩

/-- The node that a walk found tells rho, or there is none and rho is none. -/
def Got (w : World) (v : Value) (rho : Option Nat) : Prop := (v = .pointer none ∧ rho = none) ∨ ∃ d, v = .pointer (some ⟨d, 0, none⟩) ∧ w.cell? ⟨d, 0, none⟩ = some (ptrO rho)

theorem ask_walk {W wx : World} {n m g cap : Nat} {root : Nat → Option Nat} {R : Nat → Tell} {F : Nat → Nat → Prop} {ss : List Seg} (h : Rout W n root R F) (hm : m < 5) (hb : Below W.heap.size W wx) (hrow : SegRow W g ss) (hok : ∀ s ∈ ss, SegOk s) (hlen : ss.length ≤ 256) :
    Calls Yba.prog 11 #[ptrO (root m), .slice (some ⟨g, 0, none⟩) ss.length cap, .bool false] wx fun e w2 => ∃ v, e = .returned v ∧ Below W.heap.size W w2 ∧ Got w2 v (R m (keys ss)) := by
  have hsub : Sub wx (R m) (ptrO (root m)) := by
    cases hr : root m with
    | none => exact .inl ⟨rfl, h.bare m hm hr⟩
    | some b =>
      obtain ⟨k, hk⟩ := h.tree m hm b hr
      exact .inr ⟨b, k, F m, rfl, NodeT.move k hk (fun x hx => hb.block x (h.isc m x hx).1.lt), fun x hx => by have := (h.isc m x hx).1.lt; have := hb.size; omega⟩
  refine (walk_read g cap (R m) _ ss wx hsub (hrow.move (hb.block g hrow.lt)) hok hlen).mono ?_
  rintro e w2 ⟨hb2, v, rfl, hs⟩
  refine ⟨v, rfl, hb.trans (hb2.mono hb.size), ?_⟩
  rcases hs with ⟨rfl, hno⟩ | ⟨d, k, Fd, rfl, hT, hlt⟩
  · refine .inl ⟨rfl, ?_⟩
    have := hno []
    simpa using this
  · obtain ⟨fd, sp, pp, cp, hc⟩ := hT.cells
    refine .inr ⟨d, rfl, ?_⟩
    rw [cell_at ((hb2.block d (hlt d fd)).trans hc)]
    simp

theorem ask_model {W wx : World} {gm gs gr L cm cs cr g c mq q : Nat} {mm : Nat → Nat} {SS : Nat → List Seg} {Rb : Nat → Nat} {R : Nat → Tell} {has : Nat → Bool} (hl : Laid W gm gs gr L mm SS Rb) (hs : Sound R has mm SS Rb L) (hL : L ≤ 256) (hmq : mq < 5) (hq : q < L) (hrow : SegRow W g (SS q)) (hb : Below W.heap.size W wx) :
    Calls Yba.prog 13 #[.string (meth mq), .slice (some ⟨g, 0, none⟩) (SS q).length c, .slice (some ⟨gm, 0, none⟩) L cm, .slice (some ⟨gs, 0, none⟩) L cs, .slice (some ⟨gr, 0, none⟩) L cr] wx fun e w2 => e = .returned (ptrO (R mq (keys (SS q)))) ∧ Below W.heap.size W w2 := by
  refine (model_any gm gs gr L cm cs cr g c mq mm SS Rb (SS q) wx (hl.below hb) hL hmq (hrow.move (hb.block g hrow.lt)) (hl.ok q hq).1).mono ?_
  rintro e w2 ⟨rfl, hd⟩
  exact ⟨by rw [hs.res hmq], hb.trans (hd.below.mono hb.size)⟩

theorem size49 : (Yba.prog.info? 49).map (·.size) = some 6 := by kernel_rfl
theorem neq44 (wx : World) (c : Nat) : (binOp .neq 44 (.pointer (some ⟨c, 0, none⟩)) (.pointer (some ⟨c, 0, none⟩))).run Yba.prog wx = .ok (.bool false) wx := neq_ptr_same wx _ Yba.underlying44 size49

end Go.Proofs.Ybulkavso
