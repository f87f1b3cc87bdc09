/-
  What holds between two rounds of store's loop over the trees of all methods. No program here, only worlds.
-/
import Derived.Test.YbulkavsoAll
import Derived.Test.YbulkavsoWalked
import Derived.RangeFuncFrom
namespace Go.Proofs.Ybulkavso
open Go.RowKit

/-- The trees of a router, without its own block. -/
structure Trees (w : World) (rt : Nat) (root : Nat → Option Nat) (R : Nat → Tell) (F : Nat → Nat → Prop) : Prop where
  tree : ∀ m, m < 5 → ∀ b, root m = some b → ∃ n, NodeT n w b (R m) (F m)
  bare : ∀ m, m < 5 → root m = none → ∀ q, R m q = none
  isc : ∀ m x, F m x → IsC w x ∧ x ≠ rt
  dis : ∀ m m' x, F m x → F m' x → m = m'

theorem Rout.trees {w : World} {rt : Nat} {root : Nat → Option Nat} {R : Nat → Tell} {F : Nat → Nat → Prop} (h : Rout w rt root R F) : Trees w rt root R F := ⟨h.tree, h.bare, h.isc, h.dis⟩

theorem Trees.move {w w' : World} {rt : Nat} {root : Nat → Option Nat} {R : Nat → Tell} {F : Nat → Nat → Prop} (h : Trees w rt root R F) (hk : ∀ m x, F m x → w'.heap[x]? = w.heap[x]?) : Trees w' rt root R F :=
  ⟨fun m hm b hb => by
    obtain ⟨n, hn⟩ := h.tree m hm b hb
    exact ⟨n, NodeT.move n hn (fun x e => hk m x e)⟩, h.bare, fun m x e => ⟨(h.isc m x e).1.move (hk m x e), (h.isc m x e).2⟩, h.dis⟩

theorem Trees.congr {w : World} {rt : Nat} {root : Nat → Option Nat} {R R' : Nat → Tell} {F : Nat → Nat → Prop} (h : Trees w rt root R F) (hR : ∀ j, j < 5 → R' j = R j) : Trees w rt root R' F :=
  ⟨fun m hm b hb => by rw [hR m hm]; exact h.tree m hm b hb, fun m hm hn q => by rw [hR m hm]; exact h.bare m hm hn q, h.isc, h.dis⟩

/-- Tree m turned, no other. -/
theorem Trees.turn {w w' : World} {rt m b n : Nat} {root : Nat → Option Nat} {R R' : Nat → Tell} {F : Nat → Nat → Prop} {Fm : Nat → Prop} (h : Trees w rt root R F) (hrt : rt < w.heap.size) (hr : root m = some b) (hu : Upd w w' (F m)) (hT : NodeT n w' b (R' m) Fm) (hF : ∀ x, Fm x → F m x ∨ New w w' x)
    (hR : ∀ j, j ≠ m → R' j = R j) : ∃ F', Trees w' rt root R' F' ∧ ∀ j x, F' j x → F j x ∨ New w w' x := by
  have hm := h.isc m
  obtain ⟨h3, h4, h5, h6⟩ := h
  refine ⟨fun j x => (j = m ∧ Fm x ∧ IsC w' x) ∨ (j ≠ m ∧ F j x), ⟨?_, ?_, ?_, ?_⟩, ?_⟩
  · intro j hj b' hb'
    by_cases e : j = m
    · subst e
      rw [hr] at hb'
      cases hb'
      exact ⟨n, (NodeT.only n hT).congr (fun _ => rfl) (fun x hx => .inl ⟨rfl, hx⟩)⟩
    · obtain ⟨n', hn'⟩ := h3 j hj b' hb'
      rw [hR j e]
      exact ⟨n', (NodeT.move n' hn' (fun x hx => hu.block x (h5 j x hx).1.lt (fun e' => e (h6 j m x hx e')))).congr (fun _ => rfl) (fun x hx => .inr ⟨e, hx⟩)⟩
  · intro j hj hn q
    by_cases e : j = m
    · subst e
      rw [hr] at hn
      cases hn
    · rw [hR j e]
      exact h4 j hj hn q
  · rintro j x (⟨rfl, e1, e2⟩ | ⟨e1, e2⟩)
    · refine ⟨e2, ?_⟩
      rcases hF x e1 with e | e
      · exact (hm x e).2
      · have := e.1; omega
    · exact ⟨(h5 j x e2).1.move (hu.block x (h5 j x e2).1.lt (fun e' => e1 (h6 j m x e2 e'))), (h5 j x e2).2⟩
  · rintro j j' x (⟨rfl, e1, e2⟩ | ⟨e1, e2⟩) (⟨rfl, e3, e4⟩ | ⟨e3, e4⟩)
    · rfl
    · rcases hF x e1 with e | e
      · exact h6 _ _ x e e4
      · have := (h5 j' x e4).1.lt; have := e.1; omega
    · rcases hF x e3 with e | e
      · exact h6 _ _ x e2 e
      · have := (h5 j x e2).1.lt; have := e.1; omega
    · exact h6 j j' x e2 e4
  · rintro j x (⟨rfl, e1, e2⟩ | ⟨e1, e2⟩)
    · exact hF x e1
    · exact .inl e2

/-- r at k where nothing is. -/
def updN (R : Tell) (k : List Key) (r : Nat) : Tell := fun q => if q = k ∧ R k = none then some r else R q

theorem updN_none {R : Tell} {k : List Key} {r : Nat} (h : R k = none) : updN R k r = supd R k r := by
  funext q
  simp [updN, supd, h]
theorem updN_some {R : Tell} {k : List Key} {r : Nat} {v : Nat} (h : R k = some v) : updN R k r = R := by
  funext q
  simp [updN, h]
theorem updN_twice (R : Tell) (k : List Key) (r : Nat) : updN (updN R k r) k r = updN R k r := by
  cases h : updN R k r k with
  | none =>
    exfalso
    simp only [updN, true_and] at h
    split at h
    · cases h
    · rename_i hn; exact hn h
  | some v => exact updN_some h

/-- What the trees tell when those of pre have had their round. -/
def Rp {root : Nat → Option Nat} (R : Nat → Tell) (k : List Key) (r : Nat) : List (TM root) → Nat → Tell
  | [] => R
  | x :: xs => fun j => if j = x.1.1 then updN (Rp R k r xs j) k r else Rp R k r xs j

theorem Rp_snoc {root : Nat → Option Nat} (R : Nat → Tell) (k : List Key) (r : Nat) (pre : List (TM root)) (x : TM root) : Rp R k r (pre ++ [x]) = fun j => if j = x.1.1 then updN (Rp R k r pre x.1.1) k r else Rp R k r pre j := by
  induction pre with
  | nil => funext j; by_cases e : j = x.1.1 <;> simp [Rp, e]
  | cons y ys ih =>
    funext j
    simp only [List.cons_append, Rp, ih]
    by_cases e : j = x.1.1
    · subst e
      by_cases e' : x.1.1 = y.1.1
      · simp only [if_pos e', if_true]
      · simp only [if_neg e', if_true]
    · by_cases e' : j = y.1.1
      · simp only [if_pos e', if_neg e]
      · simp only [if_neg e', if_neg e]

theorem Rp_in {root : Nat → Option Nat} (R : Nat → Tell) (k : List Key) (r : Nat) (j : Nat) : ∀ (xs : List (TM root)), (∃ x ∈ xs, x.1.1 = j) → Rp R k r xs j = updN (R j) k r := by
  intro xs
  induction xs with
  | nil => rintro ⟨x, hx, _⟩; cases hx
  | cons y ys ih =>
    rintro ⟨x, hx, e⟩
    simp only [Rp]
    by_cases hin : ∃ x ∈ ys, x.1.1 = j
    · rw [ih hin]
      by_cases e' : j = y.1.1
      · rw [if_pos e', updN_twice]
      · rw [if_neg e']
    · have hy : j = y.1.1 := by
        rcases List.mem_cons.1 hx with h | h
        · rw [← e, h]
        · exact absurd ⟨x, h, e⟩ hin
      have hout : ∀ zs : List (TM root), (¬ ∃ x ∈ zs, x.1.1 = j) → Rp R k r zs j = R j := by
        intro zs
        induction zs with
        | nil => intro _; rfl
        | cons z zs ih2 =>
          intro hz
          simp only [Rp]
          rw [if_neg (fun e2 => hz ⟨z, by simp, e2.symm⟩)]
          exact ih2 (fun ⟨x, hx, e⟩ => hz ⟨x, by simp [hx], e⟩)
      rw [if_pos hy, hout ys hin]

theorem Rp_out {root : Nat → Option Nat} (R : Nat → Tell) (k : List Key) (r : Nat) (j : Nat) : ∀ (xs : List (TM root)), (¬ ∃ x ∈ xs, x.1.1 = j) → Rp R k r xs j = R j := by
  intro xs
  induction xs with
  | nil => intro _; rfl
  | cons z zs ih =>
    intro hz
    simp only [Rp]
    rw [if_neg (fun e2 => hz ⟨z, by simp, e2.symm⟩)]
    exact ih (fun ⟨x, hx, e⟩ => hz ⟨x, by simp [hx], e⟩)

/-- Between two rounds. -/
def Ring (W2 : World) (rt Bt : Nat) (root : Nat → Option Nat) (R : Nat → Tell) (F : Nat → Nat → Prop) (k : List Key) (r : Nat) (pre : List (TM root)) (W : World) : Prop :=
  KpT rt Bt W2 W ∧ Upd W2 W (FR rt F) ∧ ∃ F', Trees W rt root (Rp R k r pre) F' ∧ ∀ j x, F' j x → F j x ∨ New W2 W x

theorem Ring.own {W2 : World} {rt Bt : Nat} {root : Nat → Option Nat} {R : Nat → Tell} {F : Nat → Nat → Prop} {k : List Key} {r : Nat} (hrt : rt < W2.heap.size) (hBt : Bt < W2.heap.size) : OwnFrom W2.heap.size (Ring W2 rt Bt root R F k r) := by
  intro pre W W' row ⟨⟨⟨a1, a2⟩, a3, a4⟩, a5, F', a6, a7⟩ hg hr
  have hs := hg.size
  have old : ∀ x, x < W2.heap.size → W'.heap[x]? = W.heap[x]? := fun x hx => hg.block x (by omega) (fun e => by have := (hr x e.symm).1; omega)
  refine ⟨⟨⟨by omega, fun j o hj ho => ?_⟩, (old rt hrt).trans a3, (old Bt hBt).trans a4⟩, ⟨hg.os.trans a5.os, hg.tape.trans a5.tape, hg.output.trans a5.output, by omega, fun x hx hn => (old x hx).trans (a5.block x hx hn)⟩, F', a6.move (fun m x e => ?_), fun j x e => ?_⟩
  · exact (old j (Array.getElem?_eq_some_iff.1 hj).1).trans (a2 j o hj ho)
  · refine hg.block x (a6.isc m x e).1.lt (fun e' => ?_)
    obtain ⟨cs, t, hc⟩ := (a6.isc m x e).1
    obtain ⟨_, o, ho, hoc⟩ := hr x e'.symm
    rw [hc] at ho
    cases ho
    cases hoc
  · rcases a7 j x e with e | e
    · exact .inl e
    · exact .inr ⟨e.1, by have := e.2; omega⟩

/-- A round of tree m is over: it has turned, or not. -/
theorem Ring.round {W2 W W' : World} {rt Bt : Nat} {root : Nat → Option Nat} {R : Nat → Tell} {F F' : Nat → Nat → Prop} {k : List Key} {r n : Nat} {pre : List (TM root)} {x : TM root} {Fm : Nat → Prop} (hrt : rt < W2.heap.size) (hBt : Bt < W2.heap.size) (hBF : ∀ m, ¬ F m Bt)
    (h1 : KpT rt Bt W2 W) (h2 : Upd W2 W (FR rt F)) (h3 : Trees W rt root (Rp R k r pre) F') (h4 : ∀ j x, F' j x → F j x ∨ New W2 W x)
    (hu : Upd W W' (F' x.1.1)) (hT : NodeT n W' x.1.2 (updN (Rp R k r pre x.1.1) k r) Fm) (hF : ∀ y, Fm y → F' x.1.1 y ∨ New W W' y) :
    KeepsOthers W W' ∧ KpT rt Bt W W' ∧ Ring W2 rt Bt root R F k r (pre ++ [x]) W' := by
  have hs2 := h2.size
  have hs := hu.size
  have k1 : KeepsOthers W W' := ⟨hs, fun j o hj ho => (hu.block j (Array.getElem?_eq_some_iff.1 hj).1 (fun e => by
    obtain ⟨cs, t, hc⟩ := (h3.isc _ j e).1
    rw [hj] at hc
    cases hc
    cases ho)).trans hj⟩
  have k2 : KpT rt Bt W W' := by
    refine ⟨⟨hs, fun j o hj ho => k1.same j o hj ?_⟩, hu.block rt (by omega) (fun e => (h3.isc _ _ e).2 rfl), hu.block Bt (by omega) (fun e => ?_)⟩
    · cases o <;> first | rfl | cases ho
    · rcases h4 _ _ e with e | e
      · exact hBF _ e
      · have := e.1; omega
  obtain ⟨F'', g1, g2⟩ := h3.turn (R' := Rp R k r (pre ++ [x])) (by omega) x.2.2.2 hu (by rw [Rp_snoc]; simpa using hT) hF (fun j hj => by rw [Rp_snoc]; simp [hj])
  refine ⟨k1, k2, h1.trans k2, h2.trans hu (fun y hy => ?_), F'', g1, fun j y e => ?_⟩
  · rcases h4 _ y hy with e | e
    · exact .inl (.inr ⟨_, e⟩)
    · exact .inr e
  · rcases g2 j y e with e | e
    · rcases h4 j y e with e | e
      · exact .inl e
      · exact .inr ⟨e.1, by have := e.2; omega⟩
    · exact .inr ⟨by have := e.1; omega, e.2⟩

end Go.Proofs.Ybulkavso
