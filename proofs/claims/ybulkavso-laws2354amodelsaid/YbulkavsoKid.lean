/-
  What (*node).child comes to: the child is there, or is made.
-/
import Derived.Test.YbulkavsoChild
namespace Go.Proofs.Ybulkavso
open Go.RowKit

theorem Kids.move {n : Nat} {w w' : World} {b : Nat} {R : Tell} {F : Nat → Prop} {Ch : Key → Nat → Prop} {Fk : Key → Nat → Prop} {F0 : Nat → Prop} (h : Kids (NodeT n) w b R F Ch Fk F0) (hF : ∀ x, F x → w'.heap[x]? = w.heap[x]?) : Kids (NodeT n) w' b R F Ch Fk F0 := by
  obtain ⟨h1, h2, h3, h4, h5, h6, h7⟩ := h
  exact ⟨h1.move (fun x hx => hF x (h5 x hx)), h2, fun k d hk => NodeT.move n (h3 k d hk) (fun x hx => hF x (h6 k d x hk hx).1), h4, h5, h6, h7⟩

/-- What child comes to, where it may make. -/
def ChildOk (w w' : World) (b : Nat) (R : Tell) (F : Nat → Prop) (k : Key) (c : Nat) : Prop :=
  Upd w w' F ∧ ∃ (Fd2 : Nat → Prop) (nc : Nat) (Fc : Nat → Prop), (∀ x, Fd2 x → F x ∨ New w w' x) ∧ At w' b R Fd2 [k] c nc Fc

theorem ChildOk.found {n : Nat} {w w' : World} {b : Nat} {R : Tell} {F : Nat → Prop} {Ch : Key → Nat → Prop} {Fk : Key → Nat → Prop} {F0 : Nat → Prop} (h : Kids (NodeT n) w b R F Ch Fk F0) (hlt : ∀ x, F x → x < w.heap.size) {k : Key} {c : Nat} (hk : Ch k c) (hb : Below w.heap.size w w') :
    ChildOk w w' b R F k c :=
  ⟨Upd.of_below hb F, F, n, Fk k, fun _ hx => .inl hx, (h.move (fun x hx => hb.block x (hlt x hx))).at (fun x hx => Nat.lt_of_lt_of_le (hlt x hx) hb.size) hk⟩

theorem ChildOk.fresh {n : Nat} {w w1 w' : World} {b : Nat} {R : Tell} {F : Nat → Prop} {Ch : Key → Nat → Prop} {Fk : Key → Nat → Prop} {F0 : Nat → Prop} (h : Kids (NodeT n) w b R F Ch Fk F0) (hlt : ∀ x, F x → x < w.heap.size) {k : Key} {d : Nat} (hno : ∀ c, ¬ Ch k c) (hb : Below w.heap.size w w1)
    (ha : Added1 w1 w' b d (R []) Ch F0 k) : ChildOk w w' b R F k d := by
  obtain ⟨hu, hd, hz, F0', hobj, hF0, hdF⟩ := ha
  have h5 := h.2.2.2.2.1
  have hs1 := hb.size
  have hs2 := hu.size
  have hlt1 : ∀ x, F x → x < w1.heap.size := fun x hx => by have := hlt x hx; omega
  obtain ⟨n2, Fk2, hk2⟩ := Kids.fresh (h.move (fun x hx => hb.block x (hlt x hx))) hlt1 hno hu hobj hF0 hd hdF hz
  refine ⟨(Upd.of_below hb F).trans hu (fun x hx => .inl (h5 x hx)), fun x => F x ∨ New w1 w' x, n2, Fk2 k, ?_, hk2.at ?_ (.inr ⟨rfl, rfl⟩)⟩
  · rintro x (hx | hx)
    · exact .inl hx
    · exact .inr ⟨by have := hx.1; omega, hx.2⟩
  · rintro x (hx | hx)
    · have := hlt1 x hx; omega
    · exact hx.2

/-- A new child for a parameter (j = 2) or a catch-all (j = 3). -/
theorem added_slot {w : World} {b : Nat} {r : Option Nat} {Ch : Key → Nat → Prop} {F0 : Nat → Prop} {k : Key} {j : Nat} (hobj : NodeObj w b r Ch F0) (hlt : ∀ x, F0 x → x < w.heap.size) (hj : (j = 2 ∧ k = kP) ∨ (j = 3 ∧ k = kC)) (hno : ∀ c, ¬ Ch k c) :
    Added1 w ((w.alloc (.cells #[.pointer none, .pointer none, .pointer none, .pointer none] 54)).setCell ⟨b, j, none⟩ (.pointer (some ⟨w.heap.size, 0, none⟩))) b w.heap.size r Ch F0 k := by
  obtain ⟨h0, sp, pp, cp, h1, h2, h3, h4, h5⟩ := hobj
  have hb := hlt b h0
  have hsz : ((w.alloc (.cells #[.pointer none, .pointer none, .pointer none, .pointer none] 54)).setCell ⟨b, j, none⟩ (.pointer (some ⟨w.heap.size, 0, none⟩))).heap.size = w.heap.size + 1 := by simp
  have hold : ∀ x, x < w.heap.size → (w.alloc (.cells #[.pointer none, .pointer none, .pointer none, .pointer none] 54)).heap[x]? = w.heap[x]? := fun x hx => Below.heap_alloc w _ x hx
  refine ⟨⟨rfl, rfl, rfl, by omega, fun x hx hxF => ?_⟩, ⟨Nat.le_refl _, by omega⟩, ?_, F0, ⟨h0, sp, if j = 2 then some w.heap.size else pp, if j = 2 then cp else some w.heap.size, ?_, ?_, ?_, ?_, ?_⟩, fun x hx => .inl hx, fun e => by have := hlt _ e; omega⟩
  · have hxb : x ≠ b := by rintro rfl; exact hxF h0
    rw [heap_set_other _ hxb]
    exact hold x hx
  · rw [heap_set_other _ (by omega)]
    exact heap_alloc_new w _
  · rw [heap_set_same ((hold b hb).trans h1)]
    rcases hj with ⟨rfl, _⟩ | ⟨rfl, _⟩ <;> rfl
  · intro d
    rcases hj with ⟨rfl, rfl⟩ | ⟨rfl, rfl⟩
    · simp only [if_true]
      constructor
      · rintro (h | ⟨_, rfl⟩)
        · exact absurd h (hno d)
        · rfl
      · intro e; cases e; exact .inr ⟨by trivial, rfl⟩
    · simp only [show ¬ (3 = 2) by decide, if_false]
      constructor
      · rintro (h | ⟨e, _⟩)
        · exact (h2 d).1 h
        · exact absurd e kP_kC
      · intro e; exact .inl ((h2 d).2 e)
  · intro d
    rcases hj with ⟨rfl, rfl⟩ | ⟨rfl, rfl⟩
    · simp only [if_true]
      constructor
      · rintro (h | ⟨e, _⟩)
        · exact (h3 d).1 h
        · exact absurd e.symm kP_kC
      · intro e; exact .inl ((h3 d).2 e)
    · simp only [show ¬ (3 = 2) by decide, if_false]
      constructor
      · rintro (h | ⟨_, rfl⟩)
        · exact absurd h (hno d)
        · rfl
      · intro e; cases e; exact .inr ⟨by trivial, rfl⟩
  · rintro k' d (h | ⟨rfl, _⟩)
    · exact h4 k' d h
    · rcases hj with ⟨_, rfl⟩ | ⟨_, rfl⟩
      · exact .inl rfl
      · exact .inr (.inl rfl)
  · have hk : ∀ t, kS t ≠ k := fun t => by
      rcases hj with ⟨_, rfl⟩ | ⟨_, rfl⟩
      · exact kS_kP t
      · exact kS_kC t
    rcases h5 with ⟨e1, e2⟩ | ⟨tb, m, Ft, e1, ⟨cs, e2⟩, e3, e4, e5, e6, e7⟩
    · refine .inl ⟨e1, ?_⟩
      rintro t d (h | ⟨e, _⟩)
      · exact e2 t d h
      · exact hk t e
    · have hk1 : ∀ x, F0 x → x ≠ b → ((w.alloc (.cells #[.pointer none, .pointer none, .pointer none, .pointer none] 54)).setCell ⟨b, j, none⟩ (.pointer (some ⟨w.heap.size, 0, none⟩))).heap[x]? = w.heap[x]? := fun x hx hne =>
        (heap_set_other _ hne).trans (hold x (hlt x hx))
      refine .inr ⟨tb, m, Ft, e1, ⟨cs, (hk1 tb e5 e6).trans e2⟩, (Tri.move m e3 (fun j _ => cell_block (hk1 tb e5 e6) _) (fun x hx => hk1 x (e7 x hx).1 (e7 x hx).2)).congr ?_ (fun _ h => h), e4, e5, e6, e7⟩
      intro t c
      constructor
      · rintro (h | ⟨e, _⟩)
        · exact h
        · exact absurd e (hk t)
      · exact .inl

/-- The key of a segment. -/
def keyOf (kd : Nat) (T : ByteArray) : Key := if kd = 0 then kS T else if kd = 2 then kC else kP

def segV (kd : Nat) (T : ByteArray) : Value := .agg #[.int .i64 kd, .string T]

/-- What find answers of a node's texts, at a text that is clean. -/
theorem find_text {w : World} {b : Nat} {r : Option Nat} {Ch : Key → Nat → Prop} {F0 : Nat → Prop} (hobj : NodeObj w b r Ch F0) (hfun : ∀ k d d', Ch k d → Ch k d' → d = d') (T : ByteArray) (hT : Clean T.data.toList) (hT2 : T.size ≤ 256) :
    ∃ (sp : Option Nat) (o : Option Nat) (N : Nat), w.cell? ⟨b, 1, none⟩ = some (ptrO sp) ∧ ((o = none ∧ ∀ c, ¬ Ch (kS T) c) ∨ ∃ c, o = some c ∧ Ch (kS T) c) ∧
      ∀ wx, (∀ x, F0 x → wx.heap[x]? = w.heap[x]?) → Calls Yba.prog 16 #[ptrO sp, .string T] wx fun e w' => e = .returned (.tuple #[ptrO o, .int .i64 N]) ∧ ∃ m, w' = wx.drewN m := by
  obtain ⟨h0, sp, pp, cp, h1, h2, h3, h4, h5⟩ := hobj
  have hc1 : w.cell? ⟨b, 1, none⟩ = some (ptrO sp) := by simp [World.cell?, h1]
  rcases h5 with ⟨rfl, h5⟩ | ⟨tb, m, Ft, rfl, ⟨cs, e2⟩, e3, e4, e5, e6, e7⟩
  · refine ⟨none, none, 0, hc1, .inl ⟨rfl, fun c => h5 T c⟩, fun wx _ => (find_nil T wx).mono ?_⟩
    rintro e w' ⟨rfl, rfl⟩
    exact ⟨rfl, 0, rfl⟩
  · have hcl : ∀ t c, Ch (kS t) c → Clean t.data.toList ∧ t.size ≤ 256 := fun t c ht => by
      rcases h4 _ _ ht with e | e | ⟨t', e, h⟩
      · exact absurd e (kS_kP t)
      · exact absurd e (kS_kC t)
      · rw [kS_inj e]; exact h
    have hcall : ∀ wx, (∀ x, F0 x → wx.heap[x]? = w.heap[x]?) → Calls Yba.prog 16 #[.pointer (some ⟨tb, 0, none⟩), .string T] wx fun e w' => Found (fun t d => Ch (kS t) d) T e ∧ ∃ m, w' = wx.drewN m := fun wx hx =>
      find_any m tb 0 _ Ft T wx (Tri.move m e3 (fun j _ => cell_block (hx tb e5) _) (fun x h => hx x (e7 x h).1)) (fun t c h => (hcl t c h).1) (fun t c h => by have := (hcl t c h).2; omega) (by omega)
    by_cases hex : ∃ c, Ch (kS T) c
    · obtain ⟨c, hc⟩ := hex
      refine ⟨some tb, some c, T.size, hc1, .inr ⟨c, rfl, hc⟩, fun wx hx => (hcall wx hx).mono ?_⟩
      rintro e w' ⟨hF, hw⟩
      refine ⟨?_, hw⟩
      rcases hF with ⟨t, c', ht, hM, rfl⟩ | ⟨hno, _⟩
      · obtain rfl : t = T := hM.unique (match_self T) (hcl t c' ht).1 hT
        rw [hfun _ _ _ ht hc]
        rfl
      · exact absurd (match_self T) (hno T c hc)
    · refine ⟨some tb, none, 0, hc1, .inl ⟨rfl, fun c hc => hex ⟨c, hc⟩⟩, fun wx hx => (hcall wx hx).mono ?_⟩
      rintro e w' ⟨hF, hw⟩
      refine ⟨?_, hw⟩
      rcases hF with ⟨t, c', ht, hM, rfl⟩ | ⟨_, rfl⟩
      · obtain rfl : t = T := hM.unique (match_self T) (hcl t c' ht).1 hT
        exact absurd ⟨c', ht⟩ hex
      · rfl

end Go.Proofs.Ybulkavso
