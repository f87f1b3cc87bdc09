/-
  (*Router).store for a method other than ANY.
-/
import Derived.Test.YbulkavsoGet
import Derived.Test.YbulkavsoWalked
import Derived.Test.YbulkavsoCloneLaw
namespace Go.Proofs.Ybulkavso
open Go.RowKit

theorem clone_nil (w : World) : Calls Yba.prog 21 #[.pointer none] w fun e w' => ∃ d, e = .returned (.pointer (some ⟨d, 0, none⟩)) ∧ Below w.heap.size w w' ∧ NodeT 1 w' d (fun _ => none) (New w w') := by
  have HN : Hid (Below w.heap.size w (w.alloc (.cells #[.pointer none, .pointer none, .pointer none, .pointer none] 54)) ∧ NodeT 1 (w.alloc (.cells #[.pointer none, .pointer none, .pointer none, .pointer none] 54)) w.heap.size (fun _ => none) (New w (w.alloc (.cells #[.pointer none, .pointer none, .pointer none, .pointer none] 54)))) :=
    ⟨(Below.refl _ _).alloc (Nat.le_refl _) _, (NodeT.empty (heap_alloc_new w _)).congr (fun _ => rfl) (fun x hx => ⟨by omega, by simp; omega⟩)⟩
  go_enter Yba.func21, Yba.ntmps21
  go_wp2_with fail
  go_ret
  exact ⟨_, rfl, HN.out⟩

/-- The any-tree copied. -/
theorem clone_opt (w : World) (rt : Nat) (root : Nat → Option Nat) (R : Nat → Tell) (F : Nat → Nat → Prop) (h : Rout w rt root R F) :
    Calls Yba.prog 21 #[ptrO (root 0)] w fun e w' => ∃ d, e = .returned (.pointer (some ⟨d, 0, none⟩)) ∧ Below w.heap.size w w' ∧ ∃ n, NodeT n w' d (R 0) (New w w') := by
  cases hr : root 0 with
  | none =>
    refine (clone_nil w).mono ?_
    rintro e w' ⟨d, rfl, hb, hT⟩
    exact ⟨d, rfl, hb, 1, hT.congr (fun q => h.bare 0 (by omega) hr q) (fun _ h => h)⟩
  | some b =>
    obtain ⟨n, hn⟩ := h.tree 0 (by omega) b hr
    refine (clone_law n w b _ _ hn (fun x hx => (h.isc 0 x hx).1.lt)).mono ?_
    rintro e w' ⟨d, rfl, hb, hT⟩
    exact ⟨d, rfl, hb, n, hT⟩

/-- The walk down tree m, and the route set. -/
theorem plant_walk (hins : InsertLaw) {w1 w3 wx : World} {rt m c g cap r : Nat} {R : Nat → Tell} {has : Nat → Bool} {F : Nat → Nat → Prop} {root : Nat → Option Nat} {ss : List Seg} (ht : Told w1 w3 rt R has F root) (hm : m < 5) (hr : root m = some c) (hx : Drawn w3 wx) (hrow : SegRow w1 g ss) (hg : ¬ FR rt F g)
    (hok : ∀ s ∈ ss, SegOk s) (hlen : ss.length ≤ 256) {B : Nat} (hB : B < w1.heap.size) (hBF : ¬ FR rt F B) :
    Calls Yba.prog 11 #[.pointer (some ⟨c, 0, none⟩), .slice (some ⟨g, 0, none⟩) ss.length cap, .bool true] wx fun e w4 => ∃ d x, e = .returned (.pointer (some ⟨d, 0, none⟩)) ∧ w4.cell? ⟨d, 0, none⟩ = some (ptrO x) ∧ w4.frozen? ⟨d, 0, none⟩ = false ∧ w4.heap[B]? = w1.heap[B]? ∧
      Told w1 (w4.setCell ⟨d, 0, none⟩ (.pointer (some ⟨r, 0, none⟩))) rt (fun j => if j = m then supd (R m) (keys ss) r else R j) has F root := by
  obtain ⟨F1, h1, h2, h3, h4⟩ := ht.below hx.below
  obtain ⟨n, hn⟩ := h1.tree m hm c hr
  have hs := h3.size
  have hgl := hrow.lt
  have off : ∀ x, x < w1.heap.size → ¬ FR rt F x → ¬ F1 m x := fun x hx hf e => by
    rcases h4 m x e with e | e
    · exact hf (.inr ⟨m, e⟩)
    · have := e.1; omega
  refine (walk_make hins n c g cap (R m) (F1 m) ss wx hn (fun x hx => (h1.isc m x hx).1.lt) (hrow.move (h3.block g hgl hg)) (off g hgl hg) hok hlen).mono ?_
  rintro e w4 ⟨d, rfl, hwk⟩
  obtain ⟨u1, u2, u3, hc⟩ := hwk.cell
  obtain ⟨hu, n', Fm, hT, hF⟩ := hwk.set r
  refine ⟨d, R m (keys ss), rfl, by simp [World.cell?, hc], not_frozen hc (.inl rfl) (by simp), (hwk.1.block B (by omega) (off B hB hBF)).trans (h3.block B hB hBF), ?_⟩
  exact Told.turn h1 h2 h3 h4 hr hu (by simpa using hT) hF (fun j hj => by simp [hj])

/-- What store comes to. -/
def StoreOk (w w' : World) (rt : Nat) (R : Nat → Tell) (has : Nat → Bool) (F : Nat → Nat → Prop) : Prop := ∃ root, Told w w' rt R has F root

set_option maxRecDepth 100000 in
set_option maxHeartbeats 1000000 in
theorem store_some (hins : InsertLaw) (w : World) (rt m c g cap r : Nat) (R : Nat → Tell) (has : Nat → Bool) (F : Nat → Nat → Prop) (root : Nat → Option Nat) (ss : List Seg) (h : Rout w rt root R F) (hh : ∀ j, j < 5 → (root j = none ↔ has j = false)) (hm : m < 5) (hm0 : ¬ m = 0) (hr : root m = some c)
    (hrow : SegRow w g ss) (hg : ¬ FR rt F g) (hok : ∀ s ∈ ss, SegOk s) (hlen : ss.length ≤ 256) :
    Calls Yba.prog 10 #[.pointer (some ⟨rt, 0, none⟩), .string (meth m), .slice (some ⟨g, 0, none⟩) ss.length cap, .pointer (some ⟨r, 0, none⟩)] w fun e w' => (∃ v, e = .returned v) ∧ StoreOk w w' rt (stoR R has m (keys ss) r) (stoH has m) F := by
  have qa : ((meth m).toList == [65, 78, 89]) = false := any_f hm hm0
  obtain ⟨W1, hW1⟩ : ∃ W1, W1 = (w.alloc (.cells #[.slice (some ⟨g, 0, none⟩) ss.length cap] 38)).alloc (.cells #[.pointer (some ⟨r, 0, none⟩)] 44) := ⟨_, rfl⟩
  have hsz : W1.heap.size = w.heap.size + 2 := by rw [hW1]; simp
  have hbel : Below w.heap.size w W1 := by rw [hW1]; exact ((Below.refl _ _).alloc (Nat.le_refl _) _).alloc (by simp) _
  have b6 : W1.heap[w.heap.size]? = some (.cells #[.slice (some ⟨g, 0, none⟩) ss.length cap] 38) := by
    rw [hW1]; exact (Below.heap_alloc _ _ _ (by simp)).trans (heap_alloc_new w _)
  have b7 : W1.heap[w.heap.size + 1]? = some (.cells #[.pointer (some ⟨r, 0, none⟩)] 44) := by
    rw [hW1]; exact heap_alloc2_new w _ _
  have k6 : W1.cell? ⟨w.heap.size, 0, none⟩ = some (.slice (some ⟨g, 0, none⟩) ss.length cap) := by simp [World.cell?, b6]
  have k7 : W1.cell? ⟨w.heap.size + 1, 0, none⟩ = some (.pointer (some ⟨r, 0, none⟩)) := by simp [World.cell?, b7]
  have hT1 : Told W1 W1 rt R has F root := Told.start (h.below hbel) hh
  have offN : ∀ x, w.heap.size ≤ x → ¬ FR rt F x := fun x hx e => by have := (h.isR e).lt; omega
  have HG : Hid (Calls Yba.prog 12 #[.pointer (some ⟨rt, 4, none⟩), .string (meth m)] W1 fun e w' => e = .returned (.pointer (some ⟨c, 0, none⟩)) ∧ w' = W1) := by
    have := get_any W1 rt m root R F (h.below hbel) hm hm0
    rw [hr] at this
    exact this
  have HW : Hid (∀ wx, Drawn W1 wx → Calls Yba.prog 11 #[.pointer (some ⟨c, 0, none⟩), .slice (some ⟨g, 0, none⟩) ss.length cap, .bool true] wx fun e w4 => ∃ d x, e = .returned (.pointer (some ⟨d, 0, none⟩)) ∧ w4.cell? ⟨d, 0, none⟩ = some (ptrO x) ∧ w4.frozen? ⟨d, 0, none⟩ = false ∧
      w4.cell? ⟨w.heap.size + 1, 0, none⟩ = some (.pointer (some ⟨r, 0, none⟩)) ∧ Hid (StoreOk w (w4.setCell ⟨d, 0, none⟩ (.pointer (some ⟨r, 0, none⟩))) rt (stoR R has m (keys ss) r) (stoH has m) F)) := by
    intro wx hx
    refine (plant_walk hins hT1 hm hr hx (hrow.move (hbel.block g hrow.lt)) hg hok hlen (r := r) (B := w.heap.size + 1) (by omega) (offN _ (by omega))).mono ?_
    rintro e w4 ⟨d, x, rfl, q1, q2, q3, q4⟩
    refine ⟨d, x, rfl, q1, q2, by simp [World.cell?, q3, b7], root, ?_⟩
    have hhm : has m = true := by
      cases hc : has m with
      | true => rfl
      | false => have := (hh m hm).2 hc; rw [hr] at this; cases this
    have e1 : stoR R has m (keys ss) r = fun j => if j = m then supd (R m) (keys ss) r else R j := by simp [stoR, hm0, hhm]
    have e2 : stoH has m = has := by
      funext j
      by_cases e : j = m
      · subst e; simp [stoH, hhm]
      · simp [stoH, e]
    rw [e1, e2]
    exact q4.from hbel
  clear h hh hrow hg hok hins hbel b6 b7 hT1 offN hr
  go_enter Yba.func10, Yba.ntmps10
  go_wp2_with fail
  rw [← hW1]
  clear hW1
  go_wp2_with (go_at_call 12; refine HG.out.mono ?_; rintro e w' ⟨rfl, rfl⟩)
  go_region_with (go_at_call 11; refine (HW.out _ ?_).mono ?_; exact ⟨1, rfl⟩; rintro e w4 ⟨d, x, rfl, q1, q2, q3, HS⟩)
  all_goals
    go_wp2_with fail
    go_end0
    exact ⟨⟨_, rfl⟩, HS.out⟩

/-- The clone of the any-tree is put for method m. -/
theorem planted {w1 w2 w3 : World} {rt m d n : Nat} {R : Nat → Tell} {has : Nat → Bool} {F : Nat → Nat → Prop} {root : Nat → Option Nat} (h : Rout w1 rt root R F) (hh : ∀ j, j < 5 → (root j = none ↔ has j = false)) (hb : Below w1.heap.size w1 w2) (hT : NodeT n w2 d (R 0) (New w1 w2)) (hp : PutOk w2 w3 rt m d root) :
    Told w1 w3 rt (fun j => if j = m then R 0 else R j) (stoH has m) F (setRoot root m d) := by
  obtain ⟨hu, hobj⟩ := hp
  have hrt := h.lt
  have hs := hb.size
  have hs' := hu.size
  have hu1 : Upd w1 w3 (fun x => x = rt) := (Upd.of_below hb _).trans hu (fun x hx => .inl hx)
  obtain ⟨F', g1, g2⟩ := h.plant (m := m) (R' := fun j => if j = m then R 0 else R j) hu1 hobj (by simp [setRoot]) (fun j hj => by simp [setRoot, hj])
    ((NodeT.move n hT (fun x hx => hu.block x hx.2 (fun e => by have := hx.1; omega))).congr (R' := (fun j => if j = m then R 0 else R j) m) (fun q => by simp) (fun x hx => ⟨hx.1, by have := hx.2; omega⟩)) (fun j hj => by simp [hj])
  refine ⟨F', g1, fun j hj => ?_, hu1.mono (fun x hx => .inl hx), g2⟩
  by_cases e : j = m
  · subst e; simp [setRoot, stoH]
  · simp [setRoot, stoH, e, hh j hj]

set_option maxRecDepth 100000 in
set_option maxHeartbeats 1000000 in
theorem store_none (hins : InsertLaw) (w : World) (rt m g cap r : Nat) (R : Nat → Tell) (has : Nat → Bool) (F : Nat → Nat → Prop) (root : Nat → Option Nat) (ss : List Seg) (h : Rout w rt root R F) (hh : ∀ j, j < 5 → (root j = none ↔ has j = false)) (hm : m < 5) (hm0 : ¬ m = 0) (hr : root m = none)
    (hrow : SegRow w g ss) (hg : ¬ FR rt F g) (hok : ∀ s ∈ ss, SegOk s) (hlen : ss.length ≤ 256) :
    Calls Yba.prog 10 #[.pointer (some ⟨rt, 0, none⟩), .string (meth m), .slice (some ⟨g, 0, none⟩) ss.length cap, .pointer (some ⟨r, 0, none⟩)] w fun e w' => (∃ v, e = .returned v) ∧ StoreOk w w' rt (stoR R has m (keys ss) r) (stoH has m) F := by
  have qa : ((meth m).toList == [65, 78, 89]) = false := any_f hm hm0
  obtain ⟨W1, hW1⟩ : ∃ W1, W1 = (w.alloc (.cells #[.slice (some ⟨g, 0, none⟩) ss.length cap] 38)).alloc (.cells #[.pointer (some ⟨r, 0, none⟩)] 44) := ⟨_, rfl⟩
  have hsz : W1.heap.size = w.heap.size + 2 := by rw [hW1]; simp
  have hbel : Below w.heap.size w W1 := by rw [hW1]; exact ((Below.refl _ _).alloc (Nat.le_refl _) _).alloc (by simp) _
  have b6 : W1.heap[w.heap.size]? = some (.cells #[.slice (some ⟨g, 0, none⟩) ss.length cap] 38) := by
    rw [hW1]; exact (Below.heap_alloc _ _ _ (by simp)).trans (heap_alloc_new w _)
  have b7 : W1.heap[w.heap.size + 1]? = some (.cells #[.pointer (some ⟨r, 0, none⟩)] 44) := by
    rw [hW1]; exact heap_alloc2_new w _ _
  have hR1 : Rout W1 rt root R F := h.below hbel
  have hrt := h.lt
  have k23 : W1.cell? ⟨rt, 23, none⟩ = some (ptrO (root 0)) := by
    obtain ⟨c0, c1, c2, c3, ms, mo, h1, _⟩ := hR1.obj
    simp [World.cell?, h1, rcells]
  have offN : ∀ x, w.heap.size ≤ x → ¬ FR rt F x := fun x hx e => by have := (h.isR e).lt; omega
  have HG : Hid (Calls Yba.prog 12 #[.pointer (some ⟨rt, 4, none⟩), .string (meth m)] W1 fun e w' => e = .returned (.pointer none) ∧ w' = W1) := by
    have := get_any W1 rt m root R F hR1 hm hm0
    rw [hr] at this
    exact this
  have HCL : Hid (Calls Yba.prog 21 #[ptrO (root 0)] W1 fun e w' => ∃ d, e = .returned (.pointer (some ⟨d, 0, none⟩)) ∧ Hid (Below W1.heap.size W1 w' ∧ ∃ n, NodeT n w' d (R 0) (New W1 w'))) := clone_opt W1 rt root R F hR1
  have HPUT : Hid (∀ w2 d, Hid (Below W1.heap.size W1 w2 ∧ ∃ n, NodeT n w2 d (R 0) (New W1 w2)) → Calls Yba.prog 22 #[.pointer (some ⟨rt, 4, none⟩), .string (meth m), .pointer (some ⟨d, 0, none⟩)] w2 fun e w3 => ∃ v, e = .returned v ∧
      w3.cell? ⟨w.heap.size, 0, none⟩ = some (.slice (some ⟨g, 0, none⟩) ss.length cap) ∧ w3.cell? ⟨w.heap.size + 1, 0, none⟩ = some (.pointer (some ⟨r, 0, none⟩)) ∧ Hid (Told W1 w3 rt (fun j => if j = m then R 0 else R j) (stoH has m) F (setRoot root m d))) := by
    intro w2 d HD
    obtain ⟨hb, n, hT⟩ := HD.out
    have hs := hb.size
    refine (put_any w2 rt m d root R F (hR1.below hb) hm hm0 hr).mono ?_
    rintro e w3 ⟨⟨v, rfl⟩, hp⟩
    have e6 : w3.heap[w.heap.size]? = W1.heap[w.heap.size]? := (hp.1.block _ (by omega) (by omega)).trans (hb.block _ (by omega))
    have e7 : w3.heap[w.heap.size + 1]? = W1.heap[w.heap.size + 1]? := (hp.1.block _ (by omega) (by omega)).trans (hb.block _ (by omega))
    exact ⟨v, rfl, by simp [World.cell?, e6, b6], by simp [World.cell?, e7, b7], planted hR1 hh hb hT hp⟩
  have HW : Hid (∀ w3 d, Hid (Told W1 w3 rt (fun j => if j = m then R 0 else R j) (stoH has m) F (setRoot root m d)) → ∀ wx, Drawn w3 wx → Calls Yba.prog 11 #[.pointer (some ⟨d, 0, none⟩), .slice (some ⟨g, 0, none⟩) ss.length cap, .bool true] wx fun e w4 => ∃ d x, e = .returned (.pointer (some ⟨d, 0, none⟩)) ∧ w4.cell? ⟨d, 0, none⟩ = some (ptrO x) ∧ w4.frozen? ⟨d, 0, none⟩ = false ∧
      w4.cell? ⟨w.heap.size + 1, 0, none⟩ = some (.pointer (some ⟨r, 0, none⟩)) ∧ Hid (StoreOk w (w4.setCell ⟨d, 0, none⟩ (.pointer (some ⟨r, 0, none⟩))) rt (stoR R has m (keys ss) r) (stoH has m) F)) := by
    intro w3 d HT wx hx
    refine (plant_walk hins HT.out hm (by simp [setRoot]) hx (hrow.move (hbel.block g hrow.lt)) hg hok hlen (r := r) (B := w.heap.size + 1) (by omega) (offN _ (by omega))).mono ?_
    rintro e w4 ⟨d', x, rfl, q1, q2, q3, q4⟩
    refine ⟨d', x, rfl, q1, q2, by simp [World.cell?, q3, b7], setRoot root m d, ?_⟩
    have hhm : has m = false := (hh m hm).1 hr
    have e1 : stoR R has m (keys ss) r = fun j => if j = m then supd ((fun j => if j = m then R 0 else R j) m) (keys ss) r else (fun j => if j = m then R 0 else R j) j := by
      funext j
      by_cases e : j = m <;> simp [stoR, hm0, hhm, e]
    rw [e1]
    exact q4.from hbel
  clear h hh hrow hg hok hins hbel b6 b7 offN hr hR1
  go_enter Yba.func10, Yba.ntmps10
  go_wp2_with fail
  rw [← hW1]
  clear hW1
  go_wp2_with (first
    | (go_at_call 12; refine HG.out.mono ?_; rintro e w' ⟨rfl, rfl⟩)
    | (go_at_call 21; refine HCL.out.mono ?_; rintro e w2 ⟨d2, rfl, HD⟩)
    | (go_at_call 22; refine (HPUT.out _ _ HD).mono ?_; rintro e w3 ⟨v3, rfl, s1, s2, HT⟩))
  go_region_with (go_at_call 11; refine (HW.out _ _ HT _ ?_).mono ?_; exact ⟨1, rfl⟩; rintro e w4 ⟨d, x, rfl, q1, q2, q3, HS⟩)
  all_goals
    go_wp2_with fail
    go_end0
    exact ⟨⟨_, rfl⟩, HS.out⟩

theorem store_meth (hins : InsertLaw) (w : World) (rt m g cap r : Nat) (R : Nat → Tell) (has : Nat → Bool) (F : Nat → Nat → Prop) (root : Nat → Option Nat) (ss : List Seg) (h : Rout w rt root R F) (hh : ∀ j, j < 5 → (root j = none ↔ has j = false)) (hm : m < 5) (hm0 : ¬ m = 0)
    (hrow : SegRow w g ss) (hg : ¬ FR rt F g) (hok : ∀ s ∈ ss, SegOk s) (hlen : ss.length ≤ 256) :
    Calls Yba.prog 10 #[.pointer (some ⟨rt, 0, none⟩), .string (meth m), .slice (some ⟨g, 0, none⟩) ss.length cap, .pointer (some ⟨r, 0, none⟩)] w fun e w' => (∃ v, e = .returned v) ∧ StoreOk w w' rt (stoR R has m (keys ss) r) (stoH has m) F := by
  cases hr : root m with
  | none => exact store_none hins w rt m g cap r R has F root ss h hh hm hm0 hr hrow hg hok hlen
  | some c => exact store_some hins w rt m c g cap r R has F root ss h hh hm hm0 hr hrow hg hok hlen

end Go.Proofs.Ybulkavso
