/-
  What holds in the first loop of LawS2354AModel: the rows that are laid, the router, the model. No program here, only worlds.
-/
import Derived.Test.YbulkavsoStoreB
namespace Go.Proofs.Ybulkavso
open Go.RowKit

/-- The router tells what the model reckons, at every method and every path. -/
def Sound (R : Nat → Tell) (has : Nat → Bool) (mm : Nat → Nat) (SS : Nat → List Seg) (Rb : Nat → Nat) (i : Nat) : Prop :=
  (∀ mq kq, mq < 5 → ¬ mq = 0 → mrun mq kq mm SS Rb i = (R 0 kq, R mq kq, has mq)) ∧ ∀ kq, (mrun 0 kq mm SS Rb i).1 = R 0 kq

theorem Sound.start (mm : Nat → Nat) (SS : Nat → List Seg) (Rb : Nat → Nat) : Sound (fun _ _ => none) (fun _ => false) mm SS Rb 0 := ⟨fun _ _ _ _ => rfl, fun _ => rfl⟩

theorem mrun_congr {mq : Nat} {kq : List Key} {mm : Nat → Nat} {SS : Nat → List Seg} {Rb Rb' : Nat → Nat} : ∀ (i : Nat), (∀ j, j < i → Rb' j = Rb j) → mrun mq kq mm SS Rb' i = mrun mq kq mm SS Rb i := by
  intro i
  induction i with
  | zero => intro _; rfl
  | succ i ih =>
    intro h
    simp only [mrun]
    rw [ih (fun j hj => h j (by omega)), h i (by omega)]

theorem Sound.congr {R : Nat → Tell} {has : Nat → Bool} {mm : Nat → Nat} {SS : Nat → List Seg} {Rb Rb' : Nat → Nat} {i : Nat} (h : Sound R has mm SS Rb i) (hr : ∀ j, j < i → Rb' j = Rb j) : Sound R has mm SS Rb' i :=
  ⟨fun mq kq h1 h2 => by rw [mrun_congr i hr]; exact h.1 mq kq h1 h2, fun kq => by rw [mrun_congr i hr]; exact h.2 kq⟩

theorem Sound.step {R : Nat → Tell} {has : Nat → Bool} {mm : Nat → Nat} {SS : Nat → List Seg} {Rb : Nat → Nat} {i : Nat} (h : Sound R has mm SS Rb i) : Sound (stoR R has (mm i) (keys (SS i)) (Rb i)) (stoH has (mm i)) mm SS Rb (i + 1) := by
  constructor
  · intro mq kq hq hq0
    simp only [mrun, h.1 mq kq hq hq0]
    generalize mm i = mi
    generalize keys (SS i) = ki
    generalize Rb i = r
    by_cases h0 : mi = 0
    · subst h0
      have e1 : stoH has 0 mq = has mq := by simp [stoH, hq0]
      have e2 : stoR R has 0 ki r 0 kq = if kq = ki then some r else R 0 kq := by simp [stoR, supd]
      have e3 : stoR R has 0 ki r mq kq = if has mq = true then (if kq = ki ∧ R mq ki = none then some r else R mq kq) else R mq kq := by
        simp only [stoR, if_true, if_neg hq0]
        split <;> rfl
      rw [e1, e2, e3]
      by_cases hk : ki = kq
      · subst hk
        by_cases hh : has mq = true
        · simp [mstep, hh]
        · simp [mstep, hh]
      · have hk' : ¬ kq = ki := fun e => hk e.symm
        simp [mstep, hk, hk']
    · by_cases h1 : mi = mq
      · subst h1
        have e1 : stoH has mi mi = true := by simp [stoH]
        have e2 : stoR R has mi ki r 0 kq = R 0 kq := by simp only [stoR, if_neg h0, if_neg (fun e : (0 : Nat) = mi => h0 e.symm)]
        have e3 : stoR R has mi ki r mi kq = if kq = ki then some r else (if has mi = true then R mi else R 0) kq := by simp [stoR, h0, supd]
        rw [e1, e2, e3]
        by_cases hk : ki = kq
        · subst hk
          simp [mstep, h0]
        · have hk' : ¬ kq = ki := fun e => hk e.symm
          by_cases hh : has mi = true
          · simp [mstep, h0, hk, hk', hh]
          · simp [mstep, h0, hk, hk', hh]
      · have h1' : ¬ mq = mi := fun e => h1 e.symm
        have e1 : stoH has mi mq = has mq := by simp [stoH, h1']
        have e2 : stoR R has mi ki r 0 kq = R 0 kq := by simp only [stoR, if_neg h0, if_neg (fun e : (0 : Nat) = mi => h0 e.symm)]
        have e3 : stoR R has mi ki r mq kq = R mq kq := by simp [stoR, h0, h1']
        rw [e1, e2, e3]
        simp [mstep, h0, h1]
  · intro kq
    have h2 := h.2 kq
    simp only [mrun]
    generalize mrun 0 kq mm SS Rb i = s at *
    generalize mm i = mi
    generalize keys (SS i) = ki
    generalize Rb i = r
    by_cases h0 : mi = 0
    · subst h0
      have e2 : stoR R has 0 ki r 0 kq = if kq = ki then some r else R 0 kq := by simp [stoR, supd]
      rw [e2]
      by_cases hk : ki = kq
      · subst hk
        simp [mstep]
      · have hk' : ¬ kq = ki := fun e => hk e.symm
        simp [mstep, hk, hk', h2]
    · have e2 : stoR R has mi ki r 0 kq = R 0 kq := by simp only [stoR, if_neg h0, if_neg (fun e : (0 : Nat) = mi => h0 e.symm)]
      rw [e2]
      simp [mstep, h0, h2]

theorem Sound.res {R : Nat → Tell} {has : Nat → Bool} {mm : Nat → Nat} {SS : Nat → List Seg} {Rb : Nat → Nat} {i mq : Nat} (h : Sound R has mm SS Rb i) (hq : mq < 5) (kq : List Key) : mres mq (mrun mq kq mm SS Rb i) = R mq kq := by
  by_cases h0 : mq = 0
  · subst h0
    exact h.2 kq
  · rw [h.1 mq kq hq h0]
    simp [mres, h0]

/-- The j-th operation as it is laid. -/
def RowAt (wr : World) (csS csM csR : Array Value) (mm : Nat → Nat) (SS : Nat → List Seg) (Rb : Nat → Nat) (Fx : Nat → Prop) (j : Nat) : Prop :=
  csM[j]? = some (.string (meth (mm j))) ∧ (∃ g, csS[j]? = some (.slice (some ⟨g, 0, none⟩) (SS j).length (SS j).length) ∧ SegRow wr g (SS j) ∧ ¬ Fx g) ∧ csR[j]? = some (.pointer (some ⟨Rb j, 0, none⟩))

/-- c operations are laid in the rows, i are stored in the router; the blocks of Pr are not the router's. -/
def Inv (w : World) (L : Nat) (mm : Nat → Nat) (SS : Nat → List Seg) (Pr : Nat → Prop) (c i : Nat) (wr : World) : Prop :=
  Below w.heap.size w wr ∧ ∃ (root : Nat → Option Nat) (R : Nat → Tell) (has : Nat → Bool) (F : Nat → Nat → Prop) (Rb : Nat → Nat) (csS csM csR : Array Value),
    Rout wr w.heap.size root R F ∧ (∀ j, j < 5 → (root j = none ↔ has j = false)) ∧ Sound R has mm SS Rb i ∧ (∀ x, FR w.heap.size F x → w.heap.size ≤ x) ∧ (∀ x, Pr x → ¬ FR w.heap.size F x) ∧
    wr.heap[w.heap.size + 1]? = some (.cells csS 38) ∧ csS.size = L ∧ wr.heap[w.heap.size + 2]? = some (.cells csM 9) ∧ csM.size = L ∧ wr.heap[w.heap.size + 3]? = some (.cells csR 44) ∧ csR.size = L ∧
    (¬ FR w.heap.size F (w.heap.size + 1) ∧ ¬ FR w.heap.size F (w.heap.size + 2) ∧ ¬ FR w.heap.size F (w.heap.size + 3)) ∧
    ∀ j, j < c → RowAt wr csS csM csR mm SS Rb (FR w.heap.size F) j

theorem Inv.below {w wr w2 : World} {L c i : Nat} {mm : Nat → Nat} {SS : Nat → List Seg} {Pr : Nat → Prop} (h : Inv w L mm SS Pr c i wr) (hb : Below wr.heap.size wr w2) : Inv w L mm SS (New wr w2) c i w2 := by
  obtain ⟨h0, root, R, has, F, Rb, csS, csM, csR, h1, h2, h3, h4, _, h6, h7, h8, h9, h10, h11, h12, h13⟩ := h
  have hs := h0.size
  refine ⟨h0.trans (hb.mono hs), root, R, has, F, Rb, csS, csM, csR, h1.below hb, h2, h3, h4, fun x hx e => ?_, (hb.block _ ?_).trans h6, h7, (hb.block _ ?_).trans h8, h9, (hb.block _ ?_).trans h10, h11, h12, fun j hj => ?_⟩
  · have := (h1.isR e).lt
    have := hx.1
    omega
  · exact (Array.getElem?_eq_some_iff.1 h6).1
  · exact (Array.getElem?_eq_some_iff.1 h8).1
  · exact (Array.getElem?_eq_some_iff.1 h10).1
  · obtain ⟨a, ⟨g, b1, b2, b3⟩, d⟩ := h13 j hj
    exact ⟨a, ⟨g, b1, b2.move (hb.block g b2.lt), b3⟩, d⟩

theorem Inv.weak {w wr : World} {L c i : Nat} {mm : Nat → Nat} {SS : Nat → List Seg} {Pr Pr' : Nat → Prop} (h : Inv w L mm SS Pr c i wr) (hP : ∀ x, Pr' x → Pr x) : Inv w L mm SS Pr' c i wr := by
  obtain ⟨h0, root, R, has, F, Rb, csS, csM, csR, h1, h2, h3, h4, h5, h6⟩ := h
  exact ⟨h0, root, R, has, F, Rb, csS, csM, csR, h1, h2, h3, h4, fun x hx => h5 x (hP x hx), h6⟩

/-- One more operation is laid. -/
theorem Inv.fill {w wr w1 : World} {L i g rb : Nat} {mm : Nat → Nat} {SS : Nat → List Seg} {Pr : Nat → Prop} (h : Inv w L mm SS Pr i i wr) (hi : i < L) (hb : Below wr.heap.size wr w1) (hg : New wr w1 g) (hrow : SegRow w1 g (SS i)) :
    Inv w L mm SS (fun _ => False) (i + 1) i (((w1.setCell ⟨w.heap.size + 1, i, none⟩ (.slice (some ⟨g, 0, none⟩) (SS i).length (SS i).length)).setCell ⟨w.heap.size + 2, i, none⟩ (.string (meth (mm i)))).setCell ⟨w.heap.size + 3, i, none⟩ (.pointer (some ⟨rb, 0, none⟩))) := by
  obtain ⟨h0, root, R, has, F, Rb, csS, csM, csR, h1, h2, h3, h4, h5, h6, h7, h8, h9, h10, h11, ⟨n1, n2, n3⟩, h13⟩ := h.below hb
  have hs := h0.size
  have oth : ∀ x, x ≠ w.heap.size + 1 → x ≠ w.heap.size + 2 → x ≠ w.heap.size + 3 → (((w1.setCell ⟨w.heap.size + 1, i, none⟩ (.slice (some ⟨g, 0, none⟩) (SS i).length (SS i).length)).setCell ⟨w.heap.size + 2, i, none⟩ (.string (meth (mm i)))).setCell ⟨w.heap.size + 3, i, none⟩ (.pointer (some ⟨rb, 0, none⟩))).heap[x]? = w1.heap[x]? := fun x a b c => by
    rw [heap_set_other _ c, heap_set_other _ b, heap_set_other _ a]
  have g1 : (((w1.setCell ⟨w.heap.size + 1, i, none⟩ (.slice (some ⟨g, 0, none⟩) (SS i).length (SS i).length)).setCell ⟨w.heap.size + 2, i, none⟩ (.string (meth (mm i)))).setCell ⟨w.heap.size + 3, i, none⟩ (.pointer (some ⟨rb, 0, none⟩))).heap[w.heap.size + 1]? = some (.cells (csS.setIfInBounds i (.slice (some ⟨g, 0, none⟩) (SS i).length (SS i).length)) 38) := by
    rw [heap_set_other _ (by omega), heap_set_other _ (by omega), heap_set_same h6]
  have g2 : (((w1.setCell ⟨w.heap.size + 1, i, none⟩ (.slice (some ⟨g, 0, none⟩) (SS i).length (SS i).length)).setCell ⟨w.heap.size + 2, i, none⟩ (.string (meth (mm i)))).setCell ⟨w.heap.size + 3, i, none⟩ (.pointer (some ⟨rb, 0, none⟩))).heap[w.heap.size + 2]? = some (.cells (csM.setIfInBounds i (.string (meth (mm i)))) 9) := by
    rw [heap_set_other _ (by omega), heap_set_same ((heap_set_other _ (by omega)).trans h8)]
  have g3 : (((w1.setCell ⟨w.heap.size + 1, i, none⟩ (.slice (some ⟨g, 0, none⟩) (SS i).length (SS i).length)).setCell ⟨w.heap.size + 2, i, none⟩ (.string (meth (mm i)))).setCell ⟨w.heap.size + 3, i, none⟩ (.pointer (some ⟨rb, 0, none⟩))).heap[w.heap.size + 3]? = some (.cells (csR.setIfInBounds i (.pointer (some ⟨rb, 0, none⟩))) 44) := by
    rw [heap_set_same ((heap_set_other _ (by omega)).trans ((heap_set_other _ (by omega)).trans h10))]
  have seg : ∀ g' ss, SegRow w1 g' ss → SegRow (((w1.setCell ⟨w.heap.size + 1, i, none⟩ (.slice (some ⟨g, 0, none⟩) (SS i).length (SS i).length)).setCell ⟨w.heap.size + 2, i, none⟩ (.string (meth (mm i)))).setCell ⟨w.heap.size + 3, i, none⟩ (.pointer (some ⟨rb, 0, none⟩))) g' ss := fun g' ss hr => by
    obtain ⟨cs, e, _⟩ := id hr
    refine hr.move (oth g' ?_ ?_ ?_)
    · rintro rfl; rw [h6] at e; cases e
    · rintro rfl; rw [h8] at e; cases e
    · rintro rfl; rw [h10] at e; cases e
  refine ⟨((h0.setCell (p := ⟨w.heap.size + 1, i, none⟩) (by simp) _).setCell (p := ⟨w.heap.size + 2, i, none⟩) (by simp) _).setCell (p := ⟨w.heap.size + 3, i, none⟩) (by simp) _, root, R, has, F, fun j => if j = i then rb else Rb j, _, _, _, ?_, h2, h3.congr (fun j hj => by simp [show ¬ j = i by omega]), h4, fun x hx => hx.elim, g1, by simpa using h7, g2, by simpa using h9, g3, by simpa using h11, ⟨n1, n2, n3⟩, ?_⟩
  · refine h1.move (fun x hx hk => ?_)
    rcases hk with hk | hk
    · exact oth x (fun e => n1 (e ▸ hk)) (fun e => n2 (e ▸ hk)) (fun e => n3 (e ▸ hk))
    · exact oth x (fun e => hk ⟨_, _, e ▸ h6⟩) (fun e => hk ⟨_, _, e ▸ h8⟩) (fun e => hk ⟨_, _, e ▸ h10⟩)
  · intro j hj
    by_cases e : j = i
    · subst e
      refine ⟨by rw [Array.getElem?_setIfInBounds_self_of_lt (by omega)], ⟨g, by rw [Array.getElem?_setIfInBounds_self_of_lt (by omega)], seg g _ hrow, h5 g hg⟩, by rw [Array.getElem?_setIfInBounds_self_of_lt (by omega)]; simp⟩
    · obtain ⟨a, ⟨g', b1, b2, b3⟩, d⟩ := h13 j (by omega)
      refine ⟨by rw [Array.getElem?_setIfInBounds_ne (by omega)]; exact a, ⟨g', by rw [Array.getElem?_setIfInBounds_ne (by omega)]; exact b1, seg g' _ b2, b3⟩, by rw [Array.getElem?_setIfInBounds_ne (by omega)]; simpa [e] using d⟩

/-- store, at the operation that was laid last. -/
theorem Inv.store (hins : InsertLaw) {w wr : World} {L i g cap rb : Nat} {mm : Nat → Nat} {SS : Nat → List Seg} {Pr : Nat → Prop} (h : Inv w L mm SS Pr (i + 1) i wr) (hm : mm i < 5) (hg : Pr g) (hrow : SegRow wr g (SS i)) (hok : ∀ s ∈ SS i, SegOk s) (hlen : (SS i).length ≤ 256)
    (hrb : wr.cell? ⟨w.heap.size + 3, i, none⟩ = some (.pointer (some ⟨rb, 0, none⟩))) :
    Calls Yba.prog 10 #[.pointer (some ⟨w.heap.size, 0, none⟩), .string (meth (mm i)), .slice (some ⟨g, 0, none⟩) (SS i).length cap, .pointer (some ⟨rb, 0, none⟩)] wr fun e w' => (∃ v, e = .returned v) ∧ w'.heap[w.heap.size + 2]? = wr.heap[w.heap.size + 2]? ∧ w'.heap[w.heap.size + 3]? = wr.heap[w.heap.size + 3]? ∧ Inv w L mm SS (fun _ => False) (i + 1) (i + 1) w' := by
  obtain ⟨h0, root, R, has, F, Rb, csS, csM, csR, h1, h2, h3, h4, h5, h6, h7, h8, h9, h10, h11, ⟨n1, n2, n3⟩, h13⟩ := h
  have hrb2 : rb = Rb i := by
    have := (h13 i (by omega)).2.2
    rw [cell_at h10, this] at hrb
    simpa using hrb.symm
  subst hrb2
  have hs := h0.size
  refine (store_all hins wr w.heap.size (mm i) g cap (Rb i) R has F root (SS i) h1 h2 hm hrow (h5 g hg) hok hlen).mono ?_
  rintro e w' ⟨hv, root', F', k1, k2, k3, k4⟩
  have off : ∀ x, x < wr.heap.size → ¬ FR w.heap.size F x → ¬ FR w.heap.size F' x := fun x hx hn e => by
    rcases e with e | ⟨m, e⟩
    · exact hn (.inl e)
    · rcases k4 m x e with e | e
      · exact hn (.inr ⟨m, e⟩)
      · have := e.1; omega
  have l6 := (Array.getElem?_eq_some_iff.1 h6).1
  have l8 := (Array.getElem?_eq_some_iff.1 h8).1
  have l10 := (Array.getElem?_eq_some_iff.1 h10).1
  refine ⟨hv, k3.block _ l8 n2, k3.block _ l10 n3, h0.trans (k3.below hs h4), root', _, _, F', Rb, csS, csM, csR, k1, k2, h3.step, fun x hx => ?_, fun x hx => hx.elim, (k3.block _ l6 n1).trans h6, h7, (k3.block _ l8 n2).trans h8, h9, (k3.block _ l10 n3).trans h10, h11, ⟨off _ l6 n1, off _ l8 n2, off _ l10 n3⟩, fun j hj => ?_⟩
  · rcases hx with e | ⟨m, e⟩
    · exact Nat.le_of_eq e.symm
    · rcases k4 m x e with e | e
      · exact h4 x (.inr ⟨m, e⟩)
      · have := e.1; omega
  · obtain ⟨a, ⟨g', b1, b2, b3⟩, d⟩ := h13 j hj
    exact ⟨a, ⟨g', b1, b2.move (k3.block g' b2.lt b3), off g' b2.lt b3⟩, d⟩

end Go.Proofs.Ybulkavso
