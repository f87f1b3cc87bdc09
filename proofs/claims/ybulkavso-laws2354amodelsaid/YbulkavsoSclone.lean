/-
  (statics).clone, walked: a leaf.
-/
import Derived.Test.YbulkavsoClone
import Derived.Deep.RegionWith
import Derived.Laws.Rows
namespace Go.Proofs.Ybulkavso
open Go.RowKit

/-- What (*node).clone does, of trees of depth n. -/
def CloneLaw (n : Nat) : Prop := ∀ (w : World) (b : Nat) (R : Tell) (F : Nat → Prop), NodeT n w b R F → (∀ x, F x → x < w.heap.size) →
  Calls Yba.prog 21 #[.pointer (some ⟨b, 0, none⟩)] w fun e w' => ∃ d, e = .returned (.pointer (some ⟨d, 0, none⟩)) ∧ Below w.heap.size w w' ∧ NodeT n w' d R (fun x => w.heap.size ≤ x ∧ x < w'.heap.size)

/-- What (statics).clone comes to. -/
def ScloneOk (n m : Nat) (w w' : World) (S : ByteArray → Nat → Prop) (Rt : ByteArray → Tell) (e : Ending) : Prop :=
  ∃ (q0 : Option Addr) (r1 : ByteArray) (q2 : Option Addr), e = .returned (.agg #[.pointer q0, .string r1, .pointer q2]) ∧ Below w.heap.size w w' ∧ CloneAt n m w' w.heap.size w'.heap.size q0 r1 q2 S Rt

theorem Drawn.sizes {w w' : World} (h : Drawn w w') : w'.heap.size = w.heap.size := by rw [h.heap]

/-- The result of a function, out of its cell of three. -/
theorem res83 {w : World} {g : Nat} {cs : Array Value} (tmps : Array Value) (ht : tmps.getD 2 undef = .pointer (some ⟨g, 0, none⟩)) (hg : w.heap[g]? = some (.cells cs 83)) (hs : cs.size = 3) : (results Yba.f33 tmps).run Yba.prog w = .ok (.agg cs) w :=
  results_cell_row (P := Yba.prog) rfl tmps w g 83 cs _ _ ht hg Yba.underlying83 rfl (by rw [size83, hs])

theorem set3 {w : World} {g : Nat} {a b c v0 v1 v2 : Value} (h : w.heap[g]? = some (.cells #[a, b, c] 83)) : (((w.setCell ⟨g, 0, none⟩ v0).setCell ⟨g, 1, none⟩ v1).setCell ⟨g, 2, none⟩ v2).heap[g]? = some (.cells #[v0, v1, v2] 83) := by
  rw [heap_set_same (heap_set_same (heap_set_same h _) _) _]
  rfl

set_option maxRecDepth 100000 in
set_option maxHeartbeats 1000000 in
theorem sclone_leaf (n m : Nat) (hc : CloneLaw n) (s : ByteArray) (c : Nat) (w : World) (S : ByteArray → Nat → Prop) (Rt : ByteArray → Tell) (Fc : Nat → Prop) (hS : ∀ t d, S t d ↔ t = s ∧ d = c) (hT : NodeT n w c (Rt s) Fc) (hlt : ∀ x, Fc x → x < w.heap.size) :
    Calls Yba.prog 33 #[.agg #[.pointer none, .string s, .pointer (some ⟨c, 0, none⟩)]] w fun e w' => ScloneOk n (m + 1) w w' S Rt e := by
  obtain ⟨W0, hW0⟩ : ∃ W0, W0 = (w.alloc (.cells #[.pointer none, .string s, .pointer (some ⟨c, 0, none⟩)] 83)).alloc (.cells #[.pointer none, .string ⟨#[]⟩, .pointer none] 83) := ⟨_, rfl⟩
  have hsz : W0.heap.size = w.heap.size + 2 := by rw [hW0]; simp
  have b1 : W0.heap[w.heap.size]? = some (.cells #[.pointer none, .string s, .pointer (some ⟨c, 0, none⟩)] 83) := by
    rw [hW0]; exact (Below.heap_alloc _ _ _ (by simp)).trans (heap_alloc_new w _)
  have b2 : W0.heap[w.heap.size + 1]? = some (.cells #[.pointer none, .string ⟨#[]⟩, .pointer none] 83) := by
    rw [hW0]
    have := heap_alloc_new (w.alloc (.cells #[.pointer none, .string s, .pointer (some ⟨c, 0, none⟩)] 83)) (.cells #[.pointer none, .string ⟨#[]⟩, .pointer none] 83)
    simpa using this
  have hbel : Below w.heap.size w W0 := by rw [hW0]; exact ((Below.refl _ _).alloc (Nat.le_refl _) _).alloc (by simp) _
  have HC : Hid (∀ wx, Drawn W0 wx → Calls Yba.prog 21 #[.pointer (some ⟨c, 0, none⟩)] wx fun e w' => ∃ d, e = .returned (.pointer (some ⟨d, 0, none⟩)) ∧ w'.cell? ⟨w.heap.size, 1, none⟩ = some (.string s) ∧
      w'.cell? ⟨w.heap.size + 1, 0, none⟩ = some (.pointer none) ∧ w'.cell? ⟨w.heap.size + 1, 1, none⟩ = some (.string ⟨#[]⟩) ∧ w'.cell? ⟨w.heap.size + 1, 2, none⟩ = some (.pointer none) ∧
      w'.frozen? ⟨w.heap.size + 1, 0, none⟩ = false ∧ w'.frozen? ⟨w.heap.size + 1, 1, none⟩ = false ∧ w'.frozen? ⟨w.heap.size + 1, 2, none⟩ = false ∧
      Hid (w'.heap[w.heap.size + 1]? = some (.cells #[.pointer none, .string ⟨#[]⟩, .pointer none] 83) ∧ Below w.heap.size w w' ∧ w.heap.size + 2 ≤ w'.heap.size ∧ NodeT n w' d (Rt s) (fun x => w.heap.size + 2 ≤ x ∧ x < w'.heap.size))) := by
    intro wx hx
    have hxs := hx.sizes
    have hbx : Below w.heap.size w wx := hbel.trans (hx.below.mono (by omega))
    refine (hc wx c (Rt s) Fc (NodeT.move n hT (fun x h => hbx.block x (hlt x h))) (fun x h => by have := hlt x h; omega)).mono ?_
    rintro e w' ⟨d, rfl, hb', hT'⟩
    have g1 : w'.heap[w.heap.size]? = some (.cells #[.pointer none, .string s, .pointer (some ⟨c, 0, none⟩)] 83) := by
      rw [hb'.block _ (by omega), hx.heap]; exact b1
    have g2 : w'.heap[w.heap.size + 1]? = some (.cells #[.pointer none, .string ⟨#[]⟩, .pointer none] 83) := by
      rw [hb'.block _ (by omega), hx.heap]; exact b2
    have hs' := hb'.size
    refine ⟨d, rfl, by simp [World.cell?, g1], by simp [World.cell?, g2], by simp [World.cell?, g2], by simp [World.cell?, g2], by simp [World.frozen?, g2], by simp [World.frozen?, g2], by simp [World.frozen?, g2], g2, hbx.trans (hb'.mono (by omega)), by omega, ?_⟩
    rw [hxs, hsz] at hT'
    exact hT'
  have k0 : W0.cell? ⟨w.heap.size, 0, none⟩ = some (.pointer none) := by simp [World.cell?, b1]
  have k1 : W0.cell? ⟨w.heap.size, 1, none⟩ = some (.string s) := by simp [World.cell?, b1]
  have k2 : W0.cell? ⟨w.heap.size, 2, none⟩ = some (.pointer (some ⟨c, 0, none⟩)) := by simp [World.cell?, b1]
  have HS := hide hS
  clear hT hlt b1 b2 hc hS
  go_enter Yba.func33, Yba.ntmps33
  go_wp2_with fail
  rw [← hW0]
  clear hW0 hbel
  go_region_with (go_at_call 21; refine (HC.out _ ?_).mono ?_; exact ⟨1, rfl⟩; rintro e w' ⟨d, rfl, a1, a2, a3, a4, a5, a6, a7, HH⟩)
  all_goals
    go_wp2_with fail
    obtain ⟨g2, hbw, hsw, hTw⟩ := HH.out
    refine bodyPost_ret (res83 _ rfl (set3 g2) rfl) rfl ?_
    refine ⟨none, s, some ⟨d, 0, none⟩, rfl, ((hbw.setCell (p := ⟨w.heap.size + 1, 0, none⟩) (by simp) _).setCell (p := ⟨w.heap.size + 1, 1, none⟩) (by simp) _).setCell (p := ⟨w.heap.size + 1, 2, none⟩) (by simp) _, ?_⟩
    refine (clone_leaf (m := m) (lo := w.heap.size + 2) (hi := w'.heap.size) HS.out hTw).move (fun x hx1 hx2 => ?_) (by omega) (by simp)
    rw [heap_set_other _ (by omega), heap_set_other _ (by omega), heap_set_other _ (by omega)]

end Go.Proofs.Ybulkavso
