/-
  (*Router).store for the method ANY, where the any-tree is not there yet; store, whatever the method.
-/
import Derived.Test.YbulkavsoStoreA
namespace Go.Proofs.Ybulkavso
open Go.RowKit Go.Shelf

set_option maxRecDepth 100000 in
set_option maxHeartbeats 1000000 in
theorem store_any_none (hins : InsertLaw) (w : World) (rt g cap r : Nat) (R : Nat → Tell) (has : Nat → Bool) (F : Nat → Nat → Prop) (root : Nat → Option Nat) (ss : List Seg) (h : Rout w rt root R F) (hh : ∀ j, j < 5 → (root j = none ↔ has j = false)) (hr : root 0 = none)
    (hrow : SegRow w g ss) (hg : ¬ FR rt F g) (hok : ∀ s ∈ ss, SegOk s) (hlen : ss.length ≤ 256) :
    Calls Yba.prog 10 #[.pointer (some ⟨rt, 0, none⟩), .string (meth 0), .slice (some ⟨g, 0, none⟩) ss.length cap, .pointer (some ⟨r, 0, none⟩)] w fun e w' => (∃ v, e = .returned v) ∧ StoreOk w w' rt (stoR R has 0 (keys ss) r) (stoH has 0) F := by
  obtain ⟨W1, hW1⟩ : ∃ W1, W1 = (w.alloc (.cells #[.slice (some ⟨g, 0, none⟩) ss.length cap] 38)).alloc (.cells #[.pointer (some ⟨r, 0, none⟩)] 44) := ⟨_, rfl⟩
  have hsz : W1.heap.size = w.heap.size + 2 := by rw [hW1]; simp
  have hbel : Below w.heap.size w W1 := by rw [hW1]; exact ((Below.refl _ _).alloc (Nat.le_refl _) _).alloc (by simp) _
  have b6 : W1.heap[w.heap.size]? = some (.cells #[.slice (some ⟨g, 0, none⟩) ss.length cap] 38) := by
    rw [hW1]; exact (Below.heap_alloc _ _ _ (by simp)).trans (heap_alloc_new w _)
  have b7 : W1.heap[w.heap.size + 1]? = some (.cells #[.pointer (some ⟨r, 0, none⟩)] 44) := by
    rw [hW1]; exact heap_alloc2_new w _ _
  have k23 : w.cell? ⟨rt, 23, none⟩ = some (.pointer none) := by
    obtain ⟨c0, c1, c2, c3, ms, mo, h1, _⟩ := h.obj
    rw [cell_at h1]
    show some (ptrO (root 0)) = _
    rw [hr]
    rfl
  have f23 : w.frozen? ⟨rt, 23, none⟩ = false := by
    obtain ⟨c0, c1, c2, c3, ms, mo, h1, _⟩ := h.obj
    exact not_frozen h1 (.inl rfl) (by simp [rcells])
  have hrt := h.lt
  have hrt1 : rt < w.heap.size + 1 := by omega
  have hrt2 : rt < w.heap.size + 1 + 1 := by omega
  have hN : W1.heap.size = w.heap.size + 1 + 1 := by omega
  have offN : ∀ x, w.heap.size ≤ x → ¬ FR rt F x := fun x hx e => by have := (h.isR e).lt; omega
  obtain ⟨W3, hW3⟩ : ∃ W3, W3 = (((w.setCell ⟨rt, 23, none⟩ (.pointer (some ⟨w.heap.size + 1 + 1, 0, none⟩))).alloc (.cells #[.slice (some ⟨g, 0, none⟩) ss.length cap] 38)).alloc (.cells #[.pointer (some ⟨r, 0, none⟩)] 44)).alloc (.cells #[.pointer none, .pointer none, .pointer none, .pointer none] 54) := ⟨_, rfl⟩
  have e3 : W3 = (W1.setCell ⟨rt, 23, none⟩ (.pointer (some ⟨W1.heap.size, 0, none⟩))).alloc (.cells #[.pointer none, .pointer none, .pointer none, .pointer none] 54) := by
    rw [hN, hW1, hW3, World.setCell_alloc_past _ _ _ _ (by simpa using hrt1), World.setCell_alloc_past _ _ _ _ hrt]
  have hT3 : Told W1 W3 rt R (stoH has 0) F (setRoot root 0 W1.heap.size) := any_root (h.below hbel) hh hr W3 e3
  rw [hN] at hT3
  have j6 : W3.cell? ⟨w.heap.size, 0, none⟩ = some (.slice (some ⟨g, 0, none⟩) ss.length cap) := by
    obtain ⟨_, _, _, hu, _⟩ := hT3
    exact (cell_at ((hu.block _ (by omega) (offN _ (by omega))).trans b6) _).trans rfl
  have j7 : W3.cell? ⟨w.heap.size + 1, 0, none⟩ = some (.pointer (some ⟨r, 0, none⟩)) := by
    obtain ⟨_, _, _, hu, _⟩ := hT3
    exact (cell_at ((hu.block _ (by omega) (offN _ (by omega))).trans b7) _).trans rfl
  have j23 : W3.cell? ⟨rt, 23, none⟩ = some (.pointer (some ⟨w.heap.size + 1 + 1, 0, none⟩)) := by
    obtain ⟨_, hR, _⟩ := hT3
    obtain ⟨c0, c1, c2, c3, ms, mo, h1, _⟩ := hR.obj
    exact (cell_at h1 _).trans rfl
  have HW : Hid (∀ wx, Drawn W3 wx → Calls Yba.prog 11 #[.pointer (some ⟨w.heap.size + 1 + 1, 0, none⟩), .slice (some ⟨g, 0, none⟩) ss.length cap, .bool true] wx fun e w4 => ∃ d x, e = .returned (.pointer (some ⟨d, 0, none⟩)) ∧ w4.cell? ⟨d, 0, none⟩ = some (ptrO x) ∧ w4.frozen? ⟨d, 0, none⟩ = false ∧
      w4.cell? ⟨w.heap.size + 1, 0, none⟩ = some (.pointer (some ⟨r, 0, none⟩)) ∧ Hid (Told W1 (w4.setCell ⟨d, 0, none⟩ (.pointer (some ⟨r, 0, none⟩))) rt (anyR R (keys ss) r) (stoH has 0) F (setRoot root 0 (w.heap.size + 1 + 1)))) := by
    intro wx hx
    refine (plant_walk (m := 0) (c := w.heap.size + 1 + 1) hins hT3 (by omega) (by simp [setRoot]) hx (hrow.move (hbel.block g hrow.lt)) hg hok hlen (r := r) (B := w.heap.size + 1) (by omega) (offN _ (by omega))).mono ?_
    rintro e w4 ⟨d, x, rfl, q1, q2, q3, q4⟩
    exact ⟨d, x, rfl, q1, q2, by simp [World.cell?, q3, b7], q4⟩
  simp only [meth, if_true]
  refine (callsIn_wide (n := 6)).1 (callsIn_of_wp_marks Yba.func10 rfl trivial ?_ rfl)
  rw [wpIn_wide]
  refine wp_mono ?_ onlyN_marks
  simp only [Yba.ntmps10, List.size_toArray, List.length_cons, List.length_nil, Nat.reduceAdd, Nat.reduceSub, Array.replicate_succ, Array.replicate_zero, List.push_toArray, List.append_toArray, List.nil_append, List.cons_append]
  go_wp2_with fail
  rw [← hW3]
  clear hW3 hW1 e3 k23 f23 hr
  refine code_cut (fun d => { tmps := #[.pointer (some ⟨rt, 0, none⟩), .string ⟨#[65, 78, 89]⟩, .slice (some ⟨g, 0, none⟩) ss.length cap, .pointer (some ⟨r, 0, none⟩), undef, undef, .pointer (some ⟨w.heap.size, 0, none⟩), .pointer (some ⟨w.heap.size + 1, 0, none⟩), undef, undef, undef, undef, .string ⟨#[65, 78, 89]⟩, .bool true, .pointer (some ⟨rt, 0, none⟩), .pointer (some ⟨rt, 0, none⟩), .pointer (some ⟨rt, 23, none⟩), .pointer none, .bool true, .pointer (some ⟨rt, 0, none⟩), .agg #[.pointer none, .pointer none, .pointer none, .pointer none], .pointer (some ⟨w.heap.size + 1 + 1, 0, none⟩), .pointer (some ⟨rt, 0, none⟩), .pointer (some ⟨rt, 23, none⟩), .pointer (some ⟨rt, 0, none⟩), .pointer (some ⟨rt, 0, none⟩), .pointer (some ⟨rt, 23, none⟩), .pointer (some ⟨w.heap.size + 1 + 1, 0, none⟩), .slice (some ⟨g, 0, none⟩) ss.length cap, .pointer (some ⟨d, 0, none⟩), .pointer (some ⟨r, 0, none⟩), .pointer (some ⟨d, 0, none⟩), .pointer (some ⟨d, 0, none⟩), undef, undef, undef, undef, undef, undef, undef, undef, undef, undef, undef, undef, undef, undef, undef, undef, undef, undef, undef, undef, undef, undef, undef, undef, undef, undef, undef, undef, undef, undef, undef, undef, undef, undef, undef, undef, undef, undef, undef, undef, undef, undef], defers := [] }) (fun _ w' => Hid (Told W1 w' rt (anyR R (keys ss) r) (stoH has 0) F (setRoot root 0 (w.heap.size + 1 + 1)))) ?reg ?rest
  case reg =>
    go_region_with (go_at_call 11; refine (HW.out _ ?_).mono ?_; exact ⟨1, rfl⟩; rintro e w4 ⟨d, x, rfl, q1, q2, q3, HS⟩)
    all_goals exact justN_intro ⟨d, rfl, HS⟩
  case rest =>
    intro d w5 HT
    have HX := ring_tail hins hbel hsz b6 b7 HT.out offN hrow hg hok hlen
    clear HW hT3 offN hrow hg hok b6 b7 h hh hbel
    go_wp2_with (go_at_call 20; refine (all_any rt _).mono ?_; rintro e w6 ⟨rfl, rfl⟩)
    refine HX _ rfl _ _ _ _ _ _ _ _ _ _ _ _ _ _ _ _ _ _ _ _ _ _ _ _ _ _ _ _ _ _ _ _ _ _ _ _ _ _ _ _ _ _ _ _ _ _ _ _ _ _ _ _ _ _ _ _ _ _ _ _ _ _ _ _ _ _ _ _ _ _ _ _ _ ?_
    intro D W' hK hfin
    go_wp2_with fail
    refine ⟨by simp, .inl ⟨_, _, rfl, run_takeDeferred hK, ?_⟩⟩
    exact ⟨_, results_none rfl _ _ _, ⟨_, rfl⟩, hfin⟩

/-- store, whatever the method. -/
theorem store_all (hins : InsertLaw) (w : World) (rt m g cap r : Nat) (R : Nat → Tell) (has : Nat → Bool) (F : Nat → Nat → Prop) (root : Nat → Option Nat) (ss : List Seg) (h : Rout w rt root R F) (hh : ∀ j, j < 5 → (root j = none ↔ has j = false)) (hm : m < 5)
    (hrow : SegRow w g ss) (hg : ¬ FR rt F g) (hok : ∀ s ∈ ss, SegOk s) (hlen : ss.length ≤ 256) :
    Calls Yba.prog 10 #[.pointer (some ⟨rt, 0, none⟩), .string (meth m), .slice (some ⟨g, 0, none⟩) ss.length cap, .pointer (some ⟨r, 0, none⟩)] w fun e w' => (∃ v, e = .returned v) ∧ StoreOk w w' rt (stoR R has m (keys ss) r) (stoH has m) F := by
  by_cases hm0 : m = 0
  · subst hm0
    cases hr : root 0 with
    | none => exact store_any_none hins w rt g cap r R has F root ss h hh hr hrow hg hok hlen
    | some c => exact store_any_some hins w rt c g cap r R has F root ss h hh hr hrow hg hok hlen
  · exact store_meth hins w rt m g cap r R has F root ss h hh hm hm0 hrow hg hok hlen

end Go.Proofs.Ybulkavso
