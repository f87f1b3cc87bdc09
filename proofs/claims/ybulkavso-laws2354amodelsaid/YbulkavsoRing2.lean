/-
  Around store's loop: its start, its round's call, its end.
-/
import Derived.Test.YbulkavsoRing
import Derived.Test.YbulkavsoStoreM
namespace Go.Proofs.Ybulkavso
open Go.RowKit

/-- The round's end. -/
def RingPost (W2 : World) (rt Bt : Nat) (root : Nat → Option Nat) (R : Nat → Tell) (F : Nat → Nat → Prop) (k : List Key) (r : Nat) (pre : List (TM root)) (x : TM root) (W W' : World) : Prop :=
  KeepsOthers W W' ∧ KpT rt Bt W W' ∧ Ring W2 rt Bt root R F k r (pre ++ [x]) W'

theorem ring_walk (hins : InsertLaw) {W2 W : World} {rt Bt g cap r B7 : Nat} {root : Nat → Option Nat} {R : Nat → Tell} {F : Nat → Nat → Prop} {ss : List Seg} {pre : List (TM root)} (x : TM root) (hrt : rt < W2.heap.size) (hBt : Bt < W2.heap.size) (hBF : ∀ m, ¬ F m Bt)
    (hI : Ring W2 rt Bt root R F (keys ss) r pre W) (hrow : SegRow W2 g ss) (hg : ¬ FR rt F g) (hok : ∀ s ∈ ss, SegOk s) (hlen : ss.length ≤ 256) (hB : B7 < W2.heap.size) (hB7 : ¬ FR rt F B7) :
    Calls Yba.prog 11 #[.pointer (some ⟨x.1.2, 0, none⟩), .slice (some ⟨g, 0, none⟩) ss.length cap, .bool true] W fun e w4 => ∃ d, e = .returned (.pointer (some ⟨d, 0, none⟩)) ∧ w4.cell? ⟨d, 0, none⟩ = some (ptrO (Rp R (keys ss) r pre x.1.1 (keys ss))) ∧ w4.frozen? ⟨d, 0, none⟩ = false ∧ w4.heap[B7]? = W2.heap[B7]? ∧
      Hid (Rp R (keys ss) r pre x.1.1 (keys ss) ≠ none → RingPost W2 rt Bt root R F (keys ss) r pre x W w4) ∧ Hid (Rp R (keys ss) r pre x.1.1 (keys ss) = none → RingPost W2 rt Bt root R F (keys ss) r pre x W (w4.setCell ⟨d, 0, none⟩ (.pointer (some ⟨r, 0, none⟩)))) := by
  obtain ⟨h1, h2, F', h3, h4⟩ := hI
  obtain ⟨n, hn⟩ := h3.tree x.1.1 x.2.2.1 x.1.2 x.2.2.2
  have hs := h2.size
  have hgl := hrow.lt
  have off : ∀ y, y < W2.heap.size → ¬ FR rt F y → ¬ F' x.1.1 y := fun y hy hf e => by
    rcases h4 _ y e with e | e
    · exact hf (.inr ⟨_, e⟩)
    · have := e.1; omega
  refine (walk_make hins n x.1.2 g cap _ (F' x.1.1) ss W hn (fun y hy => (h3.isc _ y hy).1.lt) (hrow.move (h2.block g hgl hg)) (off g hgl hg) hok hlen).mono ?_
  rintro e w4 ⟨d, rfl, hwk⟩
  obtain ⟨u1, u2, u3, hc⟩ := hwk.cell
  refine ⟨d, rfl, by simp [World.cell?, hc], not_frozen hc (.inl rfl) (by simp), (hwk.1.block B7 (by omega) (off B7 hB hB7)).trans (h2.block B7 hB hB7), ?_, ?_⟩
  · intro hne
    obtain ⟨v, hv⟩ := Option.ne_none_iff_exists'.1 hne
    obtain ⟨hu, n', Fm, hT, hF⟩ := hwk.keep
    exact Ring.round hrt hBt hBF h1 h2 h3 h4 hu (by rw [updN_some hv]; exact hT) hF
  · intro hno
    obtain ⟨hu, n', Fm, hT, hF⟩ := hwk.set r
    exact Ring.round hrt hBt hBF h1 h2 h3 h4 hu (by rw [updN_none hno]; exact hT) hF

/-- What the trees tell when the any-tree has its route. -/
def anyR (R : Nat → Tell) (k : List Key) (r : Nat) : Nat → Tell := fun j => if j = 0 then supd (R 0) k r else R j

theorem ring_done {W1 W2 W' : World} {rt Bt r : Nat} {root : Nat → Option Nat} {R : Nat → Tell} {has : Nat → Bool} {F F1 : Nat → Nat → Prop} {k : List Key} {xs : List (TM root)} (h1 : Rout W2 rt root (anyR R k r) F1) (h2 : ∀ j, j < 5 → (root j = none ↔ stoH has 0 j = false)) (h3 : Upd W1 W2 (FR rt F)) (h4 : ∀ j x, F1 j x → F j x ∨ New W1 W2 x)
    (hI : Ring W2 rt Bt root (anyR R k r) F1 k r xs W') (hA : AllT xs) : Told W1 W' rt (stoR R has 0 k r) (stoH has 0) F root := by
  obtain ⟨⟨kw, krt, _⟩, hu, F', hT, hF⟩ := hI
  obtain ⟨c0, c1, c2, c3, ms, mo, o1, o2⟩ := h1.obj
  have hs := h3.size
  have hs' := hu.size
  have hT' : Trees W' rt root (stoR R has 0 k r) F' := hT.congr (fun j hj => by
    by_cases e : j = 0
    · subst e
      rw [Rp_out _ _ _ _ _ (fun ⟨x, _, e⟩ => by have := x.2.1; omega)]
      simp [stoR, anyR]
    · cases hr : root j with
      | none =>
        have hh : has j = false := by simpa [stoH, e] using (h2 j hj).1 hr
        rw [Rp_out _ _ _ _ _ (fun ⟨x, _, e'⟩ => by have := x.2.2.2; rw [e', hr] at this; cases this)]
        simp [stoR, anyR, e, hh]
      | some b =>
        have hh : has j = true := by
          cases hc : has j with
          | true => rfl
          | false => have := (h2 j hj).2 (by simp [stoH, e, hc]); rw [hr] at this; cases this
        obtain ⟨x, hx, ex⟩ := hA j b (by omega) hj hr
        rw [Rp_in _ _ _ _ _ ⟨x, hx, by rw [ex]⟩]
        simp only [stoR, anyR, if_true, if_neg e, if_pos hh]
        rfl)
  refine ⟨F', ⟨⟨c0, c1, c2, c3, ms, mo, krt.trans o1, ?_⟩, hT'.tree, hT'.bare, hT'.isc, hT'.dis⟩, h2, h3.trans hu (fun y hy => ?_), fun j y e => ?_⟩
  · rcases o2 with o2 | ⟨b, mb, e1, e2, e3⟩
    · exact .inl o2
    · exact .inr ⟨b, mb, e1, e2, kw.same mb _ e3 rfl⟩
  · rcases hy with e | ⟨m, e⟩
    · exact .inl (.inl e)
    · rcases h4 m y e with e | e
      · exact .inl (.inr ⟨m, e⟩)
      · exact .inr e
  · rcases hF j y e with e | e
    · rcases h4 j y e with e | e
      · exact .inl e
      · exact .inr ⟨e.1, by have := e.2; omega⟩
    · exact .inr ⟨by have := e.1; omega, e.2⟩

/-- A new root for the any-tree. -/
theorem any_root {w : World} {rt : Nat} {root : Nat → Option Nat} {R : Nat → Tell} {has : Nat → Bool} {F : Nat → Nat → Prop} (h : Rout w rt root R F) (hh : ∀ j, j < 5 → (root j = none ↔ has j = false)) (hr : root 0 = none) (W : World)
    (hW : W = (w.setCell ⟨rt, 23, none⟩ (.pointer (some ⟨w.heap.size, 0, none⟩))).alloc (.cells #[.pointer none, .pointer none, .pointer none, .pointer none] 54)) :
    Told w W rt R (stoH has 0) F (setRoot root 0 w.heap.size) := by
  obtain ⟨c0, c1, c2, c3, ms, mo, o1, o2⟩ := h.obj
  have hrt := h.lt
  have hn : W.heap[w.heap.size]? = some (.cells #[.pointer none, .pointer none, .pointer none, .pointer none] 54) := by
    rw [hW]
    have := heap_alloc_new (w.setCell ⟨rt, 23, none⟩ (.pointer (some ⟨w.heap.size, 0, none⟩))) (.cells #[.pointer none, .pointer none, .pointer none, .pointer none] 54)
    simpa using this
  have hsz : W.heap.size = w.heap.size + 1 := by rw [hW]; simp
  have hold : ∀ x, x < w.heap.size → x ≠ rt → W.heap[x]? = w.heap[x]? := fun x hx hne => by
    rw [hW]
    exact (heap_alloc_old _ _ (by simpa using hx)).trans (heap_set_other _ hne)
  have hu : Upd w W (fun x => x = rt) := ⟨by rw [hW]; rfl, by rw [hW]; rfl, by rw [hW]; rfl, by omega, fun x hx hne => hold x hx hne⟩
  obtain ⟨F', g1, g2⟩ := h.plant (m := 0) (b := w.heap.size) (n := 1) (root' := setRoot root 0 w.heap.size) (R' := R) hu ⟨c0, c1, c2, c3, ms, mo, by
      rw [hW, heap_alloc_old _ _ (by simpa using hrt), heap_set_same o1]
      simp [rcells, setRoot, ptrO], by
      have : setRoot root 0 w.heap.size 4 = root 4 := rfl
      rw [this]
      exact o2.move (fun x hx hc => hold x hx (fun e => hc ⟨_, _, e ▸ o1⟩))⟩ (by simp [setRoot]) (fun j hj => by simp [setRoot, hj])
    ((NodeT.empty hn).congr (fun q => h.bare 0 (by omega) hr q) (fun x hx => ⟨by omega, by omega⟩)) (fun j hj => rfl)
  refine ⟨F', g1, fun j hj => ?_, hu.mono (fun x hx => .inl hx), g2⟩
  by_cases e : j = 0
  · subst e; simp [setRoot, stoH]
  · simp [setRoot, stoH, e, hh j hj]

end Go.Proofs.Ybulkavso
