/-
  (*Router).store for the method ANY.
-/
import Derived.Test.YbulkavsoRcode
namespace Go.Proofs.Ybulkavso
open Go.RowKit Go.Shelf

set_option maxHeartbeats 1000000 in
theorem all_any (rt : Nat) (w : World) : Calls Yba.prog 20 #[.pointer (some ⟨rt, 4, none⟩)] w fun e w' => e = .returned (.func (.func 32) #[] #[.pointer (some ⟨w.heap.size, 0, none⟩)]) ∧ w' = w.alloc (.cells #[.pointer (some ⟨rt, 4, none⟩)] 78) := by
  go_enter Yba.func20, Yba.ntmps20
  go_wp2_with fail
  go_ret
  exact ⟨rfl, rfl⟩

/-- The body ends; it leaves by no panic. -/
def onlyN (Z : Act → World → Prop) : Exit → Act → World → Prop
  | .normal, a, w => Z a w
  | .ret, a, w => Z a w
  | _, _, _ => False

/-- The code ends here, and goes on. -/
def justN (Z : Act → World → Prop) : Exit → Act → World → Prop
  | .normal, a, w => Z a w
  | _, _, _ => False

theorem justN_intro {Z : Act → World → Prop} {a : Act} {w : World} (h : Z a w) : justN Z .normal a w := h

/-- A piece of code cut off: it ends in a frame of one form, whatever the order. -/
theorem code_cut {P : Program} {c : Code} {a : Act} {w : World} {Q : Exit → Act → World → Prop} (fr : Nat → Act) (S : Nat → World → Prop) (h1 : c.wp P (justN (fun a' w' => ∃ d, a' = fr d ∧ S d w')) a w) (h2 : ∀ d w', S d w' → Q .normal (fr d) w') : c.wp P Q a w :=
  wp_mono h1 fun e a' w' h => by
    cases e with
    | normal => obtain ⟨d, rfl, hs⟩ := h; exact h2 d w' hs
    | _ => exact h.elim

theorem onlyN_marks {F : Fence} {n : Nat} {P : Program} {fn : Func} {R : Ending → World → Prop} (e : Exit) (a : Act) (w : World) (h : onlyN (fun a w' => LeavesInM F n P fn a.tmps R a.defers .returning w') e a w) : bodyPostM F n P fn R e a w := by
  cases e <;> first | exact h | exact h.elim

set_option maxRecDepth 100000 in
/-- From the any-tree's route on. -/
theorem ring_tail (hins : InsertLaw) {w W1 w5 : World} {rt g cap r : Nat} {R : Nat → Tell} {has : Nat → Bool} {F : Nat → Nat → Prop} {root : Nat → Option Nat} {ss : List Seg} (hbel : Below w.heap.size w W1) (hsz : W1.heap.size = w.heap.size + 2) (b6 : W1.heap[w.heap.size]? = some (.cells #[.slice (some ⟨g, 0, none⟩) ss.length cap] 38))
    (b7 : W1.heap[w.heap.size + 1]? = some (.cells #[.pointer (some ⟨r, 0, none⟩)] 44)) (hT : Told W1 w5 rt (anyR R (keys ss) r) (stoH has 0) F root) (offN : ∀ x, w.heap.size ≤ x → ¬ FR rt F x) (hrow : SegRow w g ss) (hg : ¬ FR rt F g) (hok : ∀ s ∈ ss, SegOk s) (hlen : ss.length ≤ 256)
    (cd : Code) (hcd : IsLoop cd) (Q : Exit → Act → World → Prop) (u0 u1 u2 u3 u4 u5 u8 u9 u10 u11 u12 u13 u14 u15 u16 u17 u18 u19 u20 u21 u22 u23 u24 u25 u26 u27 u28 u29 u30 u31 u32 u33 u34 u35 u37 u38 u39 u40 u41 u42 u43 u44 u45 u46 u47 u48 u49 u50 u51 u52 u53 u54 u55 u56 u57 u58 u59 u60 u61 u62 u63 u64 u65 u66 u67 u68 u69 u70 u71 u72 u73 u74 : Value)
    (hdone : ∀ (D : Nat) (W' : World), W'.heap[D]? = some (.deferred (some [])) → StoreOk w (W'.putObj D (.deferred none)) rt (stoR R has 0 (keys ss) r) (stoH has 0) F → Q .normal { tmps := #[u0, u1, u2, u3, u4, u5, .pointer (some ⟨w.heap.size, 0, none⟩), .pointer (some ⟨w.heap.size + 1, 0, none⟩), u8, u9, u10, u11, u12, u13, u14, u15, u16, u17, u18, u19, u20, u21, u22, u23, u24, u25, u26, u27, u28, u29, u30, u31, u32, u33, u34, u35, .func (.func 32) #[] #[.pointer (some ⟨w5.heap.size, 0, none⟩)], u37, u38, u39, u40, u41, u42, u43, u44, u45, u46, u47, u48, u49, u50, u51, u52, u53, u54, u55, u56, u57, u58, u59, u60, u61, u62, u63, u64, u65, u66, u67, u68, u69, u70, u71, u72, u73, u74], defers := [{ target := .collected D, args := #[] }] } W') :
    Code.wp Yba.prog cd Q { tmps := #[u0, u1, u2, u3, u4, u5, .pointer (some ⟨w.heap.size, 0, none⟩), .pointer (some ⟨w.heap.size + 1, 0, none⟩), u8, u9, u10, u11, u12, u13, u14, u15, u16, u17, u18, u19, u20, u21, u22, u23, u24, u25, u26, u27, u28, u29, u30, u31, u32, u33, u34, u35, .func (.func 32) #[] #[.pointer (some ⟨w5.heap.size, 0, none⟩)], u37, u38, u39, u40, u41, u42, u43, u44, u45, u46, u47, u48, u49, u50, u51, u52, u53, u54, u55, u56, u57, u58, u59, u60, u61, u62, u63, u64, u65, u66, u67, u68, u69, u70, u71, u72, u73, u74], defers := [] } (w5.alloc (.cells #[.pointer (some ⟨rt, 4, none⟩)] 78)) := by
  obtain ⟨W2, hW2⟩ : ∃ W2, W2 = w5.alloc (.cells #[.pointer (some ⟨rt, 4, none⟩)] 78) := ⟨_, rfl⟩
  have hb2 : Below w5.heap.size w5 W2 := by rw [hW2]; exact (Below.refl _ _).alloc (Nat.le_refl _) _
  have hs2 : W2.heap.size = w5.heap.size + 1 := by rw [hW2]; simp
  obtain ⟨F1, h1, h2, h3, h4⟩ := hT
  have hs5 := h3.size
  have hR2 := h1.below hb2
  have hgl := hrow.lt
  have off1 : ∀ x, x < W1.heap.size → ¬ FR rt F x → ¬ FR rt F1 x := fun x hx hn e => by
    rcases e with e | ⟨m, e⟩
    · exact hn (.inl e)
    · rcases h4 m x e with e | e
      · exact hn (.inr ⟨m, e⟩)
      · have := e.1; omega
  have keep : ∀ x, x < W1.heap.size → ¬ FR rt F x → W2.heap[x]? = W1.heap[x]? := fun x hx hn => (hb2.block x (by omega)).trans (h3.block x hx hn)
  have n6 := offN w.heap.size (Nat.le_refl _)
  have n7 := offN (w.heap.size + 1) (by omega)
  have nB : ¬ FR rt F1 w5.heap.size := fun e => by have := (h1.isR e).lt; omega
  have hrt2 : rt < W2.heap.size := hR2.lt
  rw [← hW2]
  refine ring_code hins W2 rt w5.heap.size w.heap.size (w.heap.size + 1) g cap r (anyR R (keys ss) r) F1 root ss hR2 (by rw [hW2]; exact heap_alloc_new w5 _) nB ((keep _ (by omega) n6).trans b6) (off1 _ (by omega) n6) ((keep _ (by omega) n7).trans b7) (off1 _ (by omega) n7)
    ((hrow.move (hbel.block g hgl)).move (keep g (by omega) hg)) (off1 g (by omega) hg) hok hlen cd hcd Q u0 u1 u2 u3 u4 u5 u8 u9 u10 u11 u12 u13 u14 u15 u16 u17 u18 u19 u20 u21 u22 u23 u24 u25 u26 u27 u28 u29 u30 u31 u32 u33 u34 u35 u37 u38 u39 u40 u41 u42 u43 u44 u45 u46 u47 u48 u49 u50 u51 u52 u53 u54 u55 u56 u57 u58 u59 u60 u61 u62 u63 u64 u65 u66 u67 u68 u69 u70 u71 u72 u73 u74 (fun D xs W' hD hA hI hK => ?_)
  refine hdone D W' hK ⟨root, ?_⟩
  have hI2 := (Ring.own (k := keys ss) (r := r) (root := root) (R := anyR R (keys ss) r) (F := F1) hrt2 (show w5.heap.size < W2.heap.size by omega)).putObj (.deferred none) hI hD hK rfl
  refine (ring_done (W1 := W1) hR2 h2 (h3.trans (Upd.of_below hb2 (FR rt F)) (fun x hx => .inl hx)) (fun j x e => ?_) hI2 hA).from hbel
  rcases h4 j x e with e | e
  · exact .inl e
  · exact .inr ⟨e.1, by have := e.2; omega⟩

set_option maxRecDepth 100000 in
set_option maxHeartbeats 1000000 in
theorem store_any_some (hins : InsertLaw) (w : World) (rt c g cap r : Nat) (R : Nat → Tell) (has : Nat → Bool) (F : Nat → Nat → Prop) (root : Nat → Option Nat) (ss : List Seg) (h : Rout w rt root R F) (hh : ∀ j, j < 5 → (root j = none ↔ has j = false)) (hr : root 0 = some c)
    (hrow : SegRow w g ss) (hg : ¬ FR rt F g) (hok : ∀ s ∈ ss, SegOk s) (hlen : ss.length ≤ 256) :
    Calls Yba.prog 10 #[.pointer (some ⟨rt, 0, none⟩), .string (meth 0), .slice (some ⟨g, 0, none⟩) ss.length cap, .pointer (some ⟨r, 0, none⟩)] w fun e w' => (∃ v, e = .returned v) ∧ StoreOk w w' rt (stoR R has 0 (keys ss) r) (stoH has 0) F := by
  obtain ⟨W1, hW1⟩ : ∃ W1, W1 = (w.alloc (.cells #[.slice (some ⟨g, 0, none⟩) ss.length cap] 38)).alloc (.cells #[.pointer (some ⟨r, 0, none⟩)] 44) := ⟨_, rfl⟩
  have hsz : W1.heap.size = w.heap.size + 2 := by rw [hW1]; simp
  have hbel : Below w.heap.size w W1 := by rw [hW1]; exact ((Below.refl _ _).alloc (Nat.le_refl _) _).alloc (by simp) _
  have b6 : W1.heap[w.heap.size]? = some (.cells #[.slice (some ⟨g, 0, none⟩) ss.length cap] 38) := by
    rw [hW1]; exact (Below.heap_alloc _ _ _ (by simp)).trans (heap_alloc_new w _)
  have b7 : W1.heap[w.heap.size + 1]? = some (.cells #[.pointer (some ⟨r, 0, none⟩)] 44) := by
    rw [hW1]; exact heap_alloc2_new w _ _
  have k6 : W1.cell? ⟨w.heap.size, 0, none⟩ = some (.slice (some ⟨g, 0, none⟩) ss.length cap) := by simp [World.cell?, b6]
  have k7 : W1.cell? ⟨w.heap.size + 1, 0, none⟩ = some (.pointer (some ⟨r, 0, none⟩)) := by simp [World.cell?, b7]
  have k23 : w.cell? ⟨rt, 23, none⟩ = some (.pointer (some ⟨c, 0, none⟩)) := by
    obtain ⟨c0, c1, c2, c3, ms, mo, h1, _⟩ := h.obj
    rw [cell_at h1]
    show some (ptrO (root 0)) = _
    rw [hr]
    rfl
  have k23' : W1.cell? ⟨rt, 23, none⟩ = some (.pointer (some ⟨c, 0, none⟩)) := (hbel.cell h.lt).trans k23
  have hrt := h.lt
  have hrt1 : rt < w.heap.size + 1 := by omega
  have hT1 : Told W1 W1 rt R has F root := Told.start (h.below hbel) hh
  have offN : ∀ x, w.heap.size ≤ x → ¬ FR rt F x := fun x hx e => by have := (h.isR e).lt; omega
  have HW : Hid (∀ wx, Drawn W1 wx → Calls Yba.prog 11 #[.pointer (some ⟨c, 0, none⟩), .slice (some ⟨g, 0, none⟩) ss.length cap, .bool true] wx fun e w4 => ∃ d x, e = .returned (.pointer (some ⟨d, 0, none⟩)) ∧ w4.cell? ⟨d, 0, none⟩ = some (ptrO x) ∧ w4.frozen? ⟨d, 0, none⟩ = false ∧
      w4.cell? ⟨w.heap.size + 1, 0, none⟩ = some (.pointer (some ⟨r, 0, none⟩)) ∧ Hid (Told W1 (w4.setCell ⟨d, 0, none⟩ (.pointer (some ⟨r, 0, none⟩))) rt (anyR R (keys ss) r) (stoH has 0) F root)) := by
    intro wx hx
    refine (plant_walk hins hT1 (by omega) hr hx (hrow.move (hbel.block g hrow.lt)) hg hok hlen (r := r) (B := w.heap.size + 1) (by omega) (offN _ (by omega))).mono ?_
    rintro e w4 ⟨d, x, rfl, q1, q2, q3, q4⟩
    refine ⟨d, x, rfl, q1, q2, by simp [World.cell?, q3, b7], ?_⟩
    have hh0 : has 0 = true := by
      cases hc : has 0 with
      | true => rfl
      | false => have := (hh 0 (by omega)).2 hc; rw [hr] at this; cases this
    have e2 : stoH has 0 = has := by
      funext j
      by_cases e : j = 0
      · subst e; simp [stoH, hh0]
      · simp [stoH, e]
    rw [e2]
    exact q4
  simp only [meth, if_true]
  refine (callsIn_wide (n := 6)).1 (callsIn_of_wp_marks Yba.func10 rfl trivial ?_ rfl)
  rw [wpIn_wide]
  refine wp_mono ?_ onlyN_marks
  simp only [Yba.ntmps10, List.size_toArray, List.length_cons, List.length_nil, Nat.reduceAdd, Nat.reduceSub, Array.replicate_succ, Array.replicate_zero, List.push_toArray, List.append_toArray, List.nil_append, List.cons_append]
  go_wp2_with fail
  rw [← hW1]
  clear hW1
  refine code_cut (fun d => { tmps := #[.pointer (some ⟨rt, 0, none⟩), .string ⟨#[65, 78, 89]⟩, .slice (some ⟨g, 0, none⟩) ss.length cap, .pointer (some ⟨r, 0, none⟩), undef, undef, .pointer (some ⟨w.heap.size, 0, none⟩), .pointer (some ⟨w.heap.size + 1, 0, none⟩), undef, undef, undef, undef, .string ⟨#[65, 78, 89]⟩, .bool true, .pointer (some ⟨rt, 0, none⟩), .pointer (some ⟨rt, 0, none⟩), .pointer (some ⟨rt, 23, none⟩), .pointer (some ⟨c, 0, none⟩), .bool false, undef, undef, undef, undef, undef, .pointer (some ⟨rt, 0, none⟩), .pointer (some ⟨rt, 0, none⟩), .pointer (some ⟨rt, 23, none⟩), .pointer (some ⟨c, 0, none⟩), .slice (some ⟨g, 0, none⟩) ss.length cap, .pointer (some ⟨d, 0, none⟩), .pointer (some ⟨r, 0, none⟩), .pointer (some ⟨d, 0, none⟩), .pointer (some ⟨d, 0, none⟩), undef, undef, undef, undef, undef, undef, undef, undef, undef, undef, undef, undef, undef, undef, undef, undef, undef, undef, undef, undef, undef, undef, undef, undef, undef, undef, undef, undef, undef, undef, undef, undef, undef, undef, undef, undef, undef, undef, undef, undef, undef, undef], defers := [] }) (fun _ w' => Hid (Told W1 w' rt (anyR R (keys ss) r) (stoH has 0) F root)) ?reg ?rest
  case reg =>
    go_region_with (go_at_call 11; refine (HW.out _ ?_).mono ?_; exact ⟨1, rfl⟩; rintro e w4 ⟨d, x, rfl, q1, q2, q3, HS⟩)
    all_goals exact justN_intro ⟨d, rfl, HS⟩
  case rest =>
    intro d w5 HT
    have HX := ring_tail hins hbel hsz b6 b7 HT.out offN hrow hg hok hlen
    clear HW hT1 offN hrow hg hok b6 b7 h hh hbel
    go_wp2_with (go_at_call 20; refine (all_any rt _).mono ?_; rintro e w6 ⟨rfl, rfl⟩)
    refine HX _ rfl _ _ _ _ _ _ _ _ _ _ _ _ _ _ _ _ _ _ _ _ _ _ _ _ _ _ _ _ _ _ _ _ _ _ _ _ _ _ _ _ _ _ _ _ _ _ _ _ _ _ _ _ _ _ _ _ _ _ _ _ _ _ _ _ _ _ _ _ _ _ _ _ _ ?_
    intro D W' hK hfin
    go_wp2_with fail
    refine ⟨by simp, .inl ⟨_, _, rfl, run_takeDeferred hK, ?_⟩⟩
    exact ⟨_, results_none rfl _ _ _, ⟨_, rfl⟩, hfin⟩

end Go.Proofs.Ybulkavso
