/-
  (*node).clone, walked.
-/
import Derived.Test.YbulkavsoNwalk
namespace Go.Proofs.Ybulkavso
open Go.RowKit

/-- The table of texts copied. -/
theorem Half.stat {n m : Nat} {w W0 w2 : World} {R : Tell} {Ch : Key → Nat → Prop} {q0 q2 : Option Addr} {r1 : ByteArray} (hW0 : W0 = w.alloc (.cells #[ptrO (R []), .pointer none, .pointer none, .pointer none] 54)) (hb : Below W0.heap.size W0 w2)
    (hcl : CloneAt n m w2 W0.heap.size w2.heap.size q0 r1 q2 (fun t c => Ch (kS t) c) (fun t q => R (kS t :: q))) :
    Half n w R Ch 1 ((w2.alloc (.cells #[.pointer q0, .string r1, .pointer q2] 83)).setCell ⟨w.heap.size, 1, none⟩ (.pointer (some ⟨w2.heap.size, 0, none⟩))) := by
  have hs0 : W0.heap.size = w.heap.size + 1 := by rw [hW0]; simp
  have hs := hb.size
  have hbel : Below w.heap.size w W0 := by rw [hW0]; exact (Below.refl _ _).alloc (Nat.le_refl _) _
  have hd : W0.heap[w.heap.size]? = some (.cells #[ptrO (R []), .pointer none, .pointer none, .pointer none] 54) := by rw [hW0]; exact heap_alloc_new w _
  have oth : ∀ x, x ≠ w.heap.size → ((w2.alloc (.cells #[.pointer q0, .string r1, .pointer q2] 83)).setCell ⟨w.heap.size, 1, none⟩ (.pointer (some ⟨w2.heap.size, 0, none⟩))).heap[x]? = (w2.alloc (.cells #[.pointer q0, .string r1, .pointer q2] 83)).heap[x]? := fun x hx => heap_set_other _ hx
  refine ⟨w.heap.size + 1, w2.heap.size + 1, w2.heap.size + 1, some w2.heap.size, none, none, ((hbel.trans (hb.mono (by omega))).alloc (by omega) _).setCell (p := ⟨w.heap.size, 1, none⟩) (Nat.le_refl _) _, ?_, by omega, by omega, Nat.le_refl _, by simp, ?_, fun _ => ⟨rfl, rfl, rfl⟩, fun _ => rfl, fun e => by omega, fun e => by omega⟩
  · rw [heap_set_same ((Below.heap_alloc w2 _ _ (by omega)).trans ((hb.block _ (by omega)).trans hd))]; rfl
  · refine .inr ⟨w2.heap.size, m, W0.heap.size, w2.heap.size, q0, r1, q2, rfl, by omega, by omega, (oth _ (by omega)).trans (heap_alloc_new w2 _), by omega, by omega, .inr (Nat.le_refl _), ?_⟩
    exact hcl.move (fun x hx1 hx2 => (oth x (by omega)).trans (Below.heap_alloc w2 _ x hx2)) (Nat.le_refl _) (Nat.le_refl _)

theorem Half.below {n : Nat} {w : World} {R : Tell} {Ch : Key → Nat → Prop} {st : Nat} {W : World} (h : Half n w R Ch st W) : Below w.heap.size w W := by
  obtain ⟨z1, z2, z3, sp, pp, cp, h1, _⟩ := h
  exact h1

set_option maxRecDepth 100000 in
set_option maxHeartbeats 1000000 in
theorem clone_000 (n b : Nat) (w : World) (R : Tell) (Ch : Key → Nat → Prop) (ro : Option Addr) (hb : b < w.heap.size) (hro : ptrO (R []) = .pointer ro) (c0 : w.cell? ⟨b, 0, none⟩ = some (.pointer ro)) (c1 : w.cell? ⟨b, 1, none⟩ = some (.pointer none)) (c2 : w.cell? ⟨b, 2, none⟩ = some (.pointer none)) (c3 : w.cell? ⟨b, 3, none⟩ = some (.pointer none))
    (hk4 : ∀ k, (∀ x, ¬ Ch k x) → ∀ q, R (k :: q) = none) (h4 : ∀ k x, Ch k x → k = kP ∨ k = kC ∨ ∃ t, k = kS t ∧ Clean t.data.toList ∧ t.size ≤ 256)
    (hstat : ∀ t c, ¬ Ch (kS t) c) (hpar : ∀ c, ¬ Ch kP c) (hcat : ∀ c, ¬ Ch kC c)
    (hkid : ∀ k c, Ch k c → ∀ W, Below w.heap.size w W → Calls Yba.prog 21 #[.pointer (some ⟨c, 0, none⟩)] W fun e w' => ∃ d, e = .returned (.pointer (some ⟨d, 0, none⟩)) ∧ Below W.heap.size W w' ∧ NodeT n w' d (fun q => R (k :: q)) (fun x => W.heap.size ≤ x ∧ x < w'.heap.size)) :
    Calls Yba.prog 21 #[.pointer (some ⟨b, 0, none⟩)] w fun e w' => ∃ d, e = .returned (.pointer (some ⟨d, 0, none⟩)) ∧ Below w.heap.size w w' ∧ NodeT (n + 1) w' d R (fun x => w.heap.size ≤ x ∧ x < w'.heap.size) := by
  have HK4 := hide hk4
  have H4 := hide h4
  have HST := hide hstat
  have HPA := hide hpar
  have HCA := hide hcat
  have HKID := hide hkid
  have hb1 : b < w.heap.size + 1 := by omega
  have hbd : b ≠ w.heap.size := by omega
  have hdb : w.heap.size ≠ b := by omega
  have HBE : Hid (Below w.heap.size w (w.alloc (.cells #[.pointer ro, .pointer none, .pointer none, .pointer none] 54))) := (Below.refl _ _).alloc (Nat.le_refl _) _
  have HC2 := hide c2
  have HC3 := hide c3
  have HRO := hide hro
  clear hk4 h4 hstat hpar hcat hkid hro
  obtain ⟨W1, hW1⟩ : ∃ W1, W1 = w.alloc (.cells #[.pointer ro, .pointer none, .pointer none, .pointer none] 54) := ⟨_, rfl⟩
  have HH1 : Hid (Half n w R Ch 1 W1) :=
    ⟨w.heap.size + 1, w.heap.size + 1, w.heap.size + 1, none, none, none, by rw [hW1]; exact HBE.out, by rw [hW1, HRO.out]; exact heap_alloc_new w _, by omega, Nat.le_refl _, Nat.le_refl _, by rw [hW1]; simp, .inl ⟨rfl, HST.out⟩, fun _ => ⟨rfl, rfl, rfl⟩, fun _ => rfl, fun e => by omega, fun e => by omega⟩
  have HB1 : Hid (Below w.heap.size w W1) := by show Below w.heap.size w W1; rw [hW1]; exact HBE.out
  go_enter Yba.func21, Yba.ntmps21
  go_wp2_with fail
  rw [← hW1]
  have HH2 := hide (HH1.out.param0 HPA.out)
  have HH3 := hide (HH2.out.catch0 HCA.out)
  go_ret
  have hd := HH3.out.done HK4.out H4.out
  exact ⟨_, rfl, hd⟩

set_option maxRecDepth 100000 in
set_option maxHeartbeats 1000000 in
theorem clone_001 (n b : Nat) (w : World) (R : Tell) (Ch : Key → Nat → Prop) (ro : Option Addr) (cc : Nat) (hb : b < w.heap.size) (hro : ptrO (R []) = .pointer ro) (c0 : w.cell? ⟨b, 0, none⟩ = some (.pointer ro)) (c1 : w.cell? ⟨b, 1, none⟩ = some (.pointer none)) (c2 : w.cell? ⟨b, 2, none⟩ = some (.pointer none)) (c3 : w.cell? ⟨b, 3, none⟩ = some (.pointer (some ⟨cc, 0, none⟩)))
    (hk4 : ∀ k, (∀ x, ¬ Ch k x) → ∀ q, R (k :: q) = none) (h4 : ∀ k x, Ch k x → k = kP ∨ k = kC ∨ ∃ t, k = kS t ∧ Clean t.data.toList ∧ t.size ≤ 256)
    (hstat : ∀ t c, ¬ Ch (kS t) c) (hpar : ∀ c, ¬ Ch kP c) (hcat : Ch kC cc)
    (hkid : ∀ k c, Ch k c → ∀ W, Below w.heap.size w W → Calls Yba.prog 21 #[.pointer (some ⟨c, 0, none⟩)] W fun e w' => ∃ d, e = .returned (.pointer (some ⟨d, 0, none⟩)) ∧ Below W.heap.size W w' ∧ NodeT n w' d (fun q => R (k :: q)) (fun x => W.heap.size ≤ x ∧ x < w'.heap.size)) :
    Calls Yba.prog 21 #[.pointer (some ⟨b, 0, none⟩)] w fun e w' => ∃ d, e = .returned (.pointer (some ⟨d, 0, none⟩)) ∧ Below w.heap.size w w' ∧ NodeT (n + 1) w' d R (fun x => w.heap.size ≤ x ∧ x < w'.heap.size) := by
  have HK4 := hide hk4
  have H4 := hide h4
  have HST := hide hstat
  have HPA := hide hpar
  have HCA := hide hcat
  have HKID := hide hkid
  have hb1 : b < w.heap.size + 1 := by omega
  have hbd : b ≠ w.heap.size := by omega
  have hdb : w.heap.size ≠ b := by omega
  have HBE : Hid (Below w.heap.size w (w.alloc (.cells #[.pointer ro, .pointer none, .pointer none, .pointer none] 54))) := (Below.refl _ _).alloc (Nat.le_refl _) _
  have HC2 := hide c2
  have HC3 := hide c3
  have HRO := hide hro
  clear hk4 h4 hstat hpar hcat hkid hro
  obtain ⟨W1, hW1⟩ : ∃ W1, W1 = w.alloc (.cells #[.pointer ro, .pointer none, .pointer none, .pointer none] 54) := ⟨_, rfl⟩
  have HH1 : Hid (Half n w R Ch 1 W1) :=
    ⟨w.heap.size + 1, w.heap.size + 1, w.heap.size + 1, none, none, none, by rw [hW1]; exact HBE.out, by rw [hW1, HRO.out]; exact heap_alloc_new w _, by omega, Nat.le_refl _, Nat.le_refl _, by rw [hW1]; simp, .inl ⟨rfl, HST.out⟩, fun _ => ⟨rfl, rfl, rfl⟩, fun _ => rfl, fun e => by omega, fun e => by omega⟩
  have HB1 : Hid (Below w.heap.size w W1) := by show Below w.heap.size w W1; rw [hW1]; exact HBE.out
  go_enter Yba.func21, Yba.ntmps21
  go_wp2_with fail
  rw [← hW1]
  have HH2 := hide (HH1.out.param0 HPA.out)
  go_at_call 21
  refine (HKID.out kC cc HCA.out W1 HB1.out).mono ?_
  rintro e w6 ⟨cd, rfl, hb6, hN6⟩
  obtain ⟨u3, y3, g3⟩ := HH2.out.cell hb6 3 (by decide)
  have HH3 := hide (HH2.out.catch hb6 HCA.out hN6)
  clear hb6 hN6
  go_wp2_with fail
  go_ret
  have hd := HH3.out.done HK4.out H4.out
  exact ⟨_, rfl, hd⟩

set_option maxRecDepth 100000 in
set_option maxHeartbeats 1000000 in
theorem clone_010 (n b : Nat) (w : World) (R : Tell) (Ch : Key → Nat → Prop) (ro : Option Addr) (pc : Nat) (hb : b < w.heap.size) (hro : ptrO (R []) = .pointer ro) (c0 : w.cell? ⟨b, 0, none⟩ = some (.pointer ro)) (c1 : w.cell? ⟨b, 1, none⟩ = some (.pointer none)) (c2 : w.cell? ⟨b, 2, none⟩ = some (.pointer (some ⟨pc, 0, none⟩))) (c3 : w.cell? ⟨b, 3, none⟩ = some (.pointer none))
    (hk4 : ∀ k, (∀ x, ¬ Ch k x) → ∀ q, R (k :: q) = none) (h4 : ∀ k x, Ch k x → k = kP ∨ k = kC ∨ ∃ t, k = kS t ∧ Clean t.data.toList ∧ t.size ≤ 256)
    (hstat : ∀ t c, ¬ Ch (kS t) c) (hpar : Ch kP pc) (hcat : ∀ c, ¬ Ch kC c)
    (hkid : ∀ k c, Ch k c → ∀ W, Below w.heap.size w W → Calls Yba.prog 21 #[.pointer (some ⟨c, 0, none⟩)] W fun e w' => ∃ d, e = .returned (.pointer (some ⟨d, 0, none⟩)) ∧ Below W.heap.size W w' ∧ NodeT n w' d (fun q => R (k :: q)) (fun x => W.heap.size ≤ x ∧ x < w'.heap.size)) :
    Calls Yba.prog 21 #[.pointer (some ⟨b, 0, none⟩)] w fun e w' => ∃ d, e = .returned (.pointer (some ⟨d, 0, none⟩)) ∧ Below w.heap.size w w' ∧ NodeT (n + 1) w' d R (fun x => w.heap.size ≤ x ∧ x < w'.heap.size) := by
  have HK4 := hide hk4
  have H4 := hide h4
  have HST := hide hstat
  have HPA := hide hpar
  have HCA := hide hcat
  have HKID := hide hkid
  have hb1 : b < w.heap.size + 1 := by omega
  have hbd : b ≠ w.heap.size := by omega
  have hdb : w.heap.size ≠ b := by omega
  have HBE : Hid (Below w.heap.size w (w.alloc (.cells #[.pointer ro, .pointer none, .pointer none, .pointer none] 54))) := (Below.refl _ _).alloc (Nat.le_refl _) _
  have HC2 := hide c2
  have HC3 := hide c3
  have HRO := hide hro
  clear hk4 h4 hstat hpar hcat hkid hro
  obtain ⟨W1, hW1⟩ : ∃ W1, W1 = w.alloc (.cells #[.pointer ro, .pointer none, .pointer none, .pointer none] 54) := ⟨_, rfl⟩
  have HH1 : Hid (Half n w R Ch 1 W1) :=
    ⟨w.heap.size + 1, w.heap.size + 1, w.heap.size + 1, none, none, none, by rw [hW1]; exact HBE.out, by rw [hW1, HRO.out]; exact heap_alloc_new w _, by omega, Nat.le_refl _, Nat.le_refl _, by rw [hW1]; simp, .inl ⟨rfl, HST.out⟩, fun _ => ⟨rfl, rfl, rfl⟩, fun _ => rfl, fun e => by omega, fun e => by omega⟩
  have HB1 : Hid (Below w.heap.size w W1) := by show Below w.heap.size w W1; rw [hW1]; exact HBE.out
  go_enter Yba.func21, Yba.ntmps21
  go_wp2_with fail
  rw [← hW1]
  go_at_call 21
  refine (HKID.out kP pc HPA.out W1 HB1.out).mono ?_
  rintro e w4 ⟨pd, rfl, hb4, hN4⟩
  obtain ⟨u2, y2, g2⟩ := HH1.out.cell hb4 2 (by decide)
  have HH2 := hide (HH1.out.param hb4 HPA.out hN4)
  have hb5 : Below w.heap.size w w4 := HB1.out.trans (hb4.mono HB1.out.size)
  have z3 := (hb5.cell (p := ⟨b, 3, none⟩) (by exact hb)).trans HC3.out
  clear hb4 hN4 hb5 hW1
  obtain ⟨W2, hW2⟩ : ∃ W2, W2 = w4.setCell ⟨w.heap.size, 2, none⟩ (.pointer (some ⟨pd, 0, none⟩)) := ⟨_, rfl⟩
  rw [← hW2] at HH2
  have HB2 : Hid (Below w.heap.size w W2) := HH2.out.below
  go_wp2_with fail
  rw [← hW2]
  have HH3 := hide (HH2.out.catch0 HCA.out)
  go_ret
  have hd := HH3.out.done HK4.out H4.out
  exact ⟨_, rfl, hd⟩

set_option maxRecDepth 100000 in
set_option maxHeartbeats 1000000 in
theorem clone_011 (n b : Nat) (w : World) (R : Tell) (Ch : Key → Nat → Prop) (ro : Option Addr) (pc : Nat) (cc : Nat) (hb : b < w.heap.size) (hro : ptrO (R []) = .pointer ro) (c0 : w.cell? ⟨b, 0, none⟩ = some (.pointer ro)) (c1 : w.cell? ⟨b, 1, none⟩ = some (.pointer none)) (c2 : w.cell? ⟨b, 2, none⟩ = some (.pointer (some ⟨pc, 0, none⟩))) (c3 : w.cell? ⟨b, 3, none⟩ = some (.pointer (some ⟨cc, 0, none⟩)))
    (hk4 : ∀ k, (∀ x, ¬ Ch k x) → ∀ q, R (k :: q) = none) (h4 : ∀ k x, Ch k x → k = kP ∨ k = kC ∨ ∃ t, k = kS t ∧ Clean t.data.toList ∧ t.size ≤ 256)
    (hstat : ∀ t c, ¬ Ch (kS t) c) (hpar : Ch kP pc) (hcat : Ch kC cc)
    (hkid : ∀ k c, Ch k c → ∀ W, Below w.heap.size w W → Calls Yba.prog 21 #[.pointer (some ⟨c, 0, none⟩)] W fun e w' => ∃ d, e = .returned (.pointer (some ⟨d, 0, none⟩)) ∧ Below W.heap.size W w' ∧ NodeT n w' d (fun q => R (k :: q)) (fun x => W.heap.size ≤ x ∧ x < w'.heap.size)) :
    Calls Yba.prog 21 #[.pointer (some ⟨b, 0, none⟩)] w fun e w' => ∃ d, e = .returned (.pointer (some ⟨d, 0, none⟩)) ∧ Below w.heap.size w w' ∧ NodeT (n + 1) w' d R (fun x => w.heap.size ≤ x ∧ x < w'.heap.size) := by
  have HK4 := hide hk4
  have H4 := hide h4
  have HST := hide hstat
  have HPA := hide hpar
  have HCA := hide hcat
  have HKID := hide hkid
  have hb1 : b < w.heap.size + 1 := by omega
  have hbd : b ≠ w.heap.size := by omega
  have hdb : w.heap.size ≠ b := by omega
  have HBE : Hid (Below w.heap.size w (w.alloc (.cells #[.pointer ro, .pointer none, .pointer none, .pointer none] 54))) := (Below.refl _ _).alloc (Nat.le_refl _) _
  have HC2 := hide c2
  have HC3 := hide c3
  have HRO := hide hro
  clear hk4 h4 hstat hpar hcat hkid hro
  obtain ⟨W1, hW1⟩ : ∃ W1, W1 = w.alloc (.cells #[.pointer ro, .pointer none, .pointer none, .pointer none] 54) := ⟨_, rfl⟩
  have HH1 : Hid (Half n w R Ch 1 W1) :=
    ⟨w.heap.size + 1, w.heap.size + 1, w.heap.size + 1, none, none, none, by rw [hW1]; exact HBE.out, by rw [hW1, HRO.out]; exact heap_alloc_new w _, by omega, Nat.le_refl _, Nat.le_refl _, by rw [hW1]; simp, .inl ⟨rfl, HST.out⟩, fun _ => ⟨rfl, rfl, rfl⟩, fun _ => rfl, fun e => by omega, fun e => by omega⟩
  have HB1 : Hid (Below w.heap.size w W1) := by show Below w.heap.size w W1; rw [hW1]; exact HBE.out
  go_enter Yba.func21, Yba.ntmps21
  go_wp2_with fail
  rw [← hW1]
  go_at_call 21
  refine (HKID.out kP pc HPA.out W1 HB1.out).mono ?_
  rintro e w4 ⟨pd, rfl, hb4, hN4⟩
  obtain ⟨u2, y2, g2⟩ := HH1.out.cell hb4 2 (by decide)
  have HH2 := hide (HH1.out.param hb4 HPA.out hN4)
  have hb5 : Below w.heap.size w w4 := HB1.out.trans (hb4.mono HB1.out.size)
  have z3 := (hb5.cell (p := ⟨b, 3, none⟩) (by exact hb)).trans HC3.out
  clear hb4 hN4 hb5 hW1
  obtain ⟨W2, hW2⟩ : ∃ W2, W2 = w4.setCell ⟨w.heap.size, 2, none⟩ (.pointer (some ⟨pd, 0, none⟩)) := ⟨_, rfl⟩
  rw [← hW2] at HH2
  have HB2 : Hid (Below w.heap.size w W2) := HH2.out.below
  go_wp2_with fail
  rw [← hW2]
  go_at_call 21
  refine (HKID.out kC cc HCA.out W2 HB2.out).mono ?_
  rintro e w6 ⟨cd, rfl, hb6, hN6⟩
  obtain ⟨u3, y3, g3⟩ := HH2.out.cell hb6 3 (by decide)
  have HH3 := hide (HH2.out.catch hb6 HCA.out hN6)
  clear hb6 hN6
  go_wp2_with fail
  go_ret
  have hd := HH3.out.done HK4.out H4.out
  exact ⟨_, rfl, hd⟩

set_option maxRecDepth 100000 in
set_option maxHeartbeats 1000000 in
theorem clone_100 (n b : Nat) (w : World) (R : Tell) (Ch : Key → Nat → Prop) (ro : Option Addr) (tb m : Nat) (hb : b < w.heap.size) (hro : ptrO (R []) = .pointer ro) (c0 : w.cell? ⟨b, 0, none⟩ = some (.pointer ro)) (c1 : w.cell? ⟨b, 1, none⟩ = some (.pointer (some ⟨tb, 0, none⟩))) (c2 : w.cell? ⟨b, 2, none⟩ = some (.pointer none)) (c3 : w.cell? ⟨b, 3, none⟩ = some (.pointer none))
    (hk4 : ∀ k, (∀ x, ¬ Ch k x) → ∀ q, R (k :: q) = none) (h4 : ∀ k x, Ch k x → k = kP ∨ k = kC ∨ ∃ t, k = kS t ∧ Clean t.data.toList ∧ t.size ≤ 256)
    (hstat : ∀ W, Below w.heap.size w W → ∃ (p0 : Option Addr) (s1 : ByteArray) (p2 : Option Addr), W.cell? ⟨tb, 0, none⟩ = some (.pointer p0) ∧ W.cell? ⟨tb, 1, none⟩ = some (.string s1) ∧ W.cell? ⟨tb, 2, none⟩ = some (.pointer p2) ∧ Calls Yba.prog 33 #[.agg #[.pointer p0, .string s1, .pointer p2]] W fun e w' => ScloneOk n m W w' (fun t c => Ch (kS t) c) (fun t q => R (kS t :: q)) e) (hpar : ∀ c, ¬ Ch kP c) (hcat : ∀ c, ¬ Ch kC c)
    (hkid : ∀ k c, Ch k c → ∀ W, Below w.heap.size w W → Calls Yba.prog 21 #[.pointer (some ⟨c, 0, none⟩)] W fun e w' => ∃ d, e = .returned (.pointer (some ⟨d, 0, none⟩)) ∧ Below W.heap.size W w' ∧ NodeT n w' d (fun q => R (k :: q)) (fun x => W.heap.size ≤ x ∧ x < w'.heap.size)) :
    Calls Yba.prog 21 #[.pointer (some ⟨b, 0, none⟩)] w fun e w' => ∃ d, e = .returned (.pointer (some ⟨d, 0, none⟩)) ∧ Below w.heap.size w w' ∧ NodeT (n + 1) w' d R (fun x => w.heap.size ≤ x ∧ x < w'.heap.size) := by
  have HK4 := hide hk4
  have H4 := hide h4
  have HST := hide hstat
  have HPA := hide hpar
  have HCA := hide hcat
  have HKID := hide hkid
  have hb1 : b < w.heap.size + 1 := by omega
  have hbd : b ≠ w.heap.size := by omega
  have hdb : w.heap.size ≠ b := by omega
  have HBE : Hid (Below w.heap.size w (w.alloc (.cells #[.pointer ro, .pointer none, .pointer none, .pointer none] 54))) := (Below.refl _ _).alloc (Nat.le_refl _) _
  have HC2 := hide c2
  have HC3 := hide c3
  have HRO := hide hro
  clear hk4 h4 hstat hpar hcat hkid hro
  obtain ⟨p0, s1, p2, t0, t1, t2, hcall⟩ := HST.out _ HBE.out
  have HCALL := hide hcall
  clear hcall
  go_enter Yba.func21, Yba.ntmps21
  go_wp2_with fail
  go_at_call 33
  refine HCALL.out.mono ?_
  rintro e w2 ⟨q0, r1, q2, rfl, hbs, hcl⟩
  have hs0 : w.heap.size < w2.heap.size := by have := hbs.size; simp at this; omega
  have HH1' := hide (Half.stat (n := n) (w := w) (R := R) (Ch := Ch) (W0 := w.alloc (.cells #[.pointer ro, .pointer none, .pointer none, .pointer none] 54)) (by rw [HRO.out]) hbs hcl)
  have hdw : w2.heap[w.heap.size]? = some (.cells #[.pointer ro, .pointer none, .pointer none, .pointer none] 54) := (hbs.block _ (by simp)).trans (heap_alloc_new w _)
  have x1 : w2.cell? ⟨w.heap.size, 1, none⟩ = some (.pointer none) := by simp [World.cell?, hdw]
  have f1 : w2.frozen? ⟨w.heap.size, 1, none⟩ = false := by simp [World.frozen?, hdw]
  have hbw : Below w.heap.size w w2 := HBE.out.trans (hbs.mono (by simp))
  have x2 := (hbw.cell (p := ⟨b, 2, none⟩) (by exact hb)).trans HC2.out
  have x3 := (hbw.cell (p := ⟨b, 3, none⟩) (by exact hb)).trans HC3.out
  have hbw2 : b < w2.heap.size := by omega
  have hbw3 : b < w2.heap.size + 1 := by omega
  have hdw3 : w.heap.size < w2.heap.size + 1 := by omega
  clear hbs hcl hdw hbw
  obtain ⟨W1, hW1⟩ : ∃ W1, W1 = (w2.setCell ⟨w.heap.size, 1, none⟩ (.pointer (some ⟨w2.heap.size, 0, none⟩))).alloc (.cells #[.pointer q0, .string r1, .pointer q2] 83) := ⟨_, rfl⟩
  have HH1 : Hid (Half n w R Ch 1 W1) := by
    have hx := HH1'.out
    rw [World.setCell_alloc_past _ _ _ _ hs0] at hx
    show Half n w R Ch 1 W1
    rw [hW1]; exact hx
  have HB1 : Hid (Below w.heap.size w W1) := HH1.out.below
  go_wp2_with fail
  rw [← hW1]
  have HH2 := hide (HH1.out.param0 HPA.out)
  have HH3 := hide (HH2.out.catch0 HCA.out)
  go_ret
  have hd := HH3.out.done HK4.out H4.out
  exact ⟨_, rfl, hd⟩

set_option maxRecDepth 100000 in
set_option maxHeartbeats 1000000 in
theorem clone_101 (n b : Nat) (w : World) (R : Tell) (Ch : Key → Nat → Prop) (ro : Option Addr) (tb m : Nat) (cc : Nat) (hb : b < w.heap.size) (hro : ptrO (R []) = .pointer ro) (c0 : w.cell? ⟨b, 0, none⟩ = some (.pointer ro)) (c1 : w.cell? ⟨b, 1, none⟩ = some (.pointer (some ⟨tb, 0, none⟩))) (c2 : w.cell? ⟨b, 2, none⟩ = some (.pointer none)) (c3 : w.cell? ⟨b, 3, none⟩ = some (.pointer (some ⟨cc, 0, none⟩)))
    (hk4 : ∀ k, (∀ x, ¬ Ch k x) → ∀ q, R (k :: q) = none) (h4 : ∀ k x, Ch k x → k = kP ∨ k = kC ∨ ∃ t, k = kS t ∧ Clean t.data.toList ∧ t.size ≤ 256)
    (hstat : ∀ W, Below w.heap.size w W → ∃ (p0 : Option Addr) (s1 : ByteArray) (p2 : Option Addr), W.cell? ⟨tb, 0, none⟩ = some (.pointer p0) ∧ W.cell? ⟨tb, 1, none⟩ = some (.string s1) ∧ W.cell? ⟨tb, 2, none⟩ = some (.pointer p2) ∧ Calls Yba.prog 33 #[.agg #[.pointer p0, .string s1, .pointer p2]] W fun e w' => ScloneOk n m W w' (fun t c => Ch (kS t) c) (fun t q => R (kS t :: q)) e) (hpar : ∀ c, ¬ Ch kP c) (hcat : Ch kC cc)
    (hkid : ∀ k c, Ch k c → ∀ W, Below w.heap.size w W → Calls Yba.prog 21 #[.pointer (some ⟨c, 0, none⟩)] W fun e w' => ∃ d, e = .returned (.pointer (some ⟨d, 0, none⟩)) ∧ Below W.heap.size W w' ∧ NodeT n w' d (fun q => R (k :: q)) (fun x => W.heap.size ≤ x ∧ x < w'.heap.size)) :
    Calls Yba.prog 21 #[.pointer (some ⟨b, 0, none⟩)] w fun e w' => ∃ d, e = .returned (.pointer (some ⟨d, 0, none⟩)) ∧ Below w.heap.size w w' ∧ NodeT (n + 1) w' d R (fun x => w.heap.size ≤ x ∧ x < w'.heap.size) := by
  have HK4 := hide hk4
  have H4 := hide h4
  have HST := hide hstat
  have HPA := hide hpar
  have HCA := hide hcat
  have HKID := hide hkid
  have hb1 : b < w.heap.size + 1 := by omega
  have hbd : b ≠ w.heap.size := by omega
  have hdb : w.heap.size ≠ b := by omega
  have HBE : Hid (Below w.heap.size w (w.alloc (.cells #[.pointer ro, .pointer none, .pointer none, .pointer none] 54))) := (Below.refl _ _).alloc (Nat.le_refl _) _
  have HC2 := hide c2
  have HC3 := hide c3
  have HRO := hide hro
  clear hk4 h4 hstat hpar hcat hkid hro
  obtain ⟨p0, s1, p2, t0, t1, t2, hcall⟩ := HST.out _ HBE.out
  have HCALL := hide hcall
  clear hcall
  go_enter Yba.func21, Yba.ntmps21
  go_wp2_with fail
  go_at_call 33
  refine HCALL.out.mono ?_
  rintro e w2 ⟨q0, r1, q2, rfl, hbs, hcl⟩
  have hs0 : w.heap.size < w2.heap.size := by have := hbs.size; simp at this; omega
  have HH1' := hide (Half.stat (n := n) (w := w) (R := R) (Ch := Ch) (W0 := w.alloc (.cells #[.pointer ro, .pointer none, .pointer none, .pointer none] 54)) (by rw [HRO.out]) hbs hcl)
  have hdw : w2.heap[w.heap.size]? = some (.cells #[.pointer ro, .pointer none, .pointer none, .pointer none] 54) := (hbs.block _ (by simp)).trans (heap_alloc_new w _)
  have x1 : w2.cell? ⟨w.heap.size, 1, none⟩ = some (.pointer none) := by simp [World.cell?, hdw]
  have f1 : w2.frozen? ⟨w.heap.size, 1, none⟩ = false := by simp [World.frozen?, hdw]
  have hbw : Below w.heap.size w w2 := HBE.out.trans (hbs.mono (by simp))
  have x2 := (hbw.cell (p := ⟨b, 2, none⟩) (by exact hb)).trans HC2.out
  have x3 := (hbw.cell (p := ⟨b, 3, none⟩) (by exact hb)).trans HC3.out
  have hbw2 : b < w2.heap.size := by omega
  have hbw3 : b < w2.heap.size + 1 := by omega
  have hdw3 : w.heap.size < w2.heap.size + 1 := by omega
  clear hbs hcl hdw hbw
  obtain ⟨W1, hW1⟩ : ∃ W1, W1 = (w2.setCell ⟨w.heap.size, 1, none⟩ (.pointer (some ⟨w2.heap.size, 0, none⟩))).alloc (.cells #[.pointer q0, .string r1, .pointer q2] 83) := ⟨_, rfl⟩
  have HH1 : Hid (Half n w R Ch 1 W1) := by
    have hx := HH1'.out
    rw [World.setCell_alloc_past _ _ _ _ hs0] at hx
    show Half n w R Ch 1 W1
    rw [hW1]; exact hx
  have HB1 : Hid (Below w.heap.size w W1) := HH1.out.below
  go_wp2_with fail
  rw [← hW1]
  have HH2 := hide (HH1.out.param0 HPA.out)
  go_at_call 21
  refine (HKID.out kC cc HCA.out W1 HB1.out).mono ?_
  rintro e w6 ⟨cd, rfl, hb6, hN6⟩
  obtain ⟨u3, y3, g3⟩ := HH2.out.cell hb6 3 (by decide)
  have HH3 := hide (HH2.out.catch hb6 HCA.out hN6)
  clear hb6 hN6
  go_wp2_with fail
  go_ret
  have hd := HH3.out.done HK4.out H4.out
  exact ⟨_, rfl, hd⟩

set_option maxRecDepth 100000 in
set_option maxHeartbeats 1000000 in
theorem clone_110 (n b : Nat) (w : World) (R : Tell) (Ch : Key → Nat → Prop) (ro : Option Addr) (tb m : Nat) (pc : Nat) (hb : b < w.heap.size) (hro : ptrO (R []) = .pointer ro) (c0 : w.cell? ⟨b, 0, none⟩ = some (.pointer ro)) (c1 : w.cell? ⟨b, 1, none⟩ = some (.pointer (some ⟨tb, 0, none⟩))) (c2 : w.cell? ⟨b, 2, none⟩ = some (.pointer (some ⟨pc, 0, none⟩))) (c3 : w.cell? ⟨b, 3, none⟩ = some (.pointer none))
    (hk4 : ∀ k, (∀ x, ¬ Ch k x) → ∀ q, R (k :: q) = none) (h4 : ∀ k x, Ch k x → k = kP ∨ k = kC ∨ ∃ t, k = kS t ∧ Clean t.data.toList ∧ t.size ≤ 256)
    (hstat : ∀ W, Below w.heap.size w W → ∃ (p0 : Option Addr) (s1 : ByteArray) (p2 : Option Addr), W.cell? ⟨tb, 0, none⟩ = some (.pointer p0) ∧ W.cell? ⟨tb, 1, none⟩ = some (.string s1) ∧ W.cell? ⟨tb, 2, none⟩ = some (.pointer p2) ∧ Calls Yba.prog 33 #[.agg #[.pointer p0, .string s1, .pointer p2]] W fun e w' => ScloneOk n m W w' (fun t c => Ch (kS t) c) (fun t q => R (kS t :: q)) e) (hpar : Ch kP pc) (hcat : ∀ c, ¬ Ch kC c)
    (hkid : ∀ k c, Ch k c → ∀ W, Below w.heap.size w W → Calls Yba.prog 21 #[.pointer (some ⟨c, 0, none⟩)] W fun e w' => ∃ d, e = .returned (.pointer (some ⟨d, 0, none⟩)) ∧ Below W.heap.size W w' ∧ NodeT n w' d (fun q => R (k :: q)) (fun x => W.heap.size ≤ x ∧ x < w'.heap.size)) :
    Calls Yba.prog 21 #[.pointer (some ⟨b, 0, none⟩)] w fun e w' => ∃ d, e = .returned (.pointer (some ⟨d, 0, none⟩)) ∧ Below w.heap.size w w' ∧ NodeT (n + 1) w' d R (fun x => w.heap.size ≤ x ∧ x < w'.heap.size) := by
  have HK4 := hide hk4
  have H4 := hide h4
  have HST := hide hstat
  have HPA := hide hpar
  have HCA := hide hcat
  have HKID := hide hkid
  have hb1 : b < w.heap.size + 1 := by omega
  have hbd : b ≠ w.heap.size := by omega
  have hdb : w.heap.size ≠ b := by omega
  have HBE : Hid (Below w.heap.size w (w.alloc (.cells #[.pointer ro, .pointer none, .pointer none, .pointer none] 54))) := (Below.refl _ _).alloc (Nat.le_refl _) _
  have HC2 := hide c2
  have HC3 := hide c3
  have HRO := hide hro
  clear hk4 h4 hstat hpar hcat hkid hro
  obtain ⟨p0, s1, p2, t0, t1, t2, hcall⟩ := HST.out _ HBE.out
  have HCALL := hide hcall
  clear hcall
  go_enter Yba.func21, Yba.ntmps21
  go_wp2_with fail
  go_at_call 33
  refine HCALL.out.mono ?_
  rintro e w2 ⟨q0, r1, q2, rfl, hbs, hcl⟩
  have hs0 : w.heap.size < w2.heap.size := by have := hbs.size; simp at this; omega
  have HH1' := hide (Half.stat (n := n) (w := w) (R := R) (Ch := Ch) (W0 := w.alloc (.cells #[.pointer ro, .pointer none, .pointer none, .pointer none] 54)) (by rw [HRO.out]) hbs hcl)
  have hdw : w2.heap[w.heap.size]? = some (.cells #[.pointer ro, .pointer none, .pointer none, .pointer none] 54) := (hbs.block _ (by simp)).trans (heap_alloc_new w _)
  have x1 : w2.cell? ⟨w.heap.size, 1, none⟩ = some (.pointer none) := by simp [World.cell?, hdw]
  have f1 : w2.frozen? ⟨w.heap.size, 1, none⟩ = false := by simp [World.frozen?, hdw]
  have hbw : Below w.heap.size w w2 := HBE.out.trans (hbs.mono (by simp))
  have x2 := (hbw.cell (p := ⟨b, 2, none⟩) (by exact hb)).trans HC2.out
  have x3 := (hbw.cell (p := ⟨b, 3, none⟩) (by exact hb)).trans HC3.out
  have hbw2 : b < w2.heap.size := by omega
  have hbw3 : b < w2.heap.size + 1 := by omega
  have hdw3 : w.heap.size < w2.heap.size + 1 := by omega
  clear hbs hcl hdw hbw
  obtain ⟨W1, hW1⟩ : ∃ W1, W1 = (w2.setCell ⟨w.heap.size, 1, none⟩ (.pointer (some ⟨w2.heap.size, 0, none⟩))).alloc (.cells #[.pointer q0, .string r1, .pointer q2] 83) := ⟨_, rfl⟩
  have HH1 : Hid (Half n w R Ch 1 W1) := by
    have hx := HH1'.out
    rw [World.setCell_alloc_past _ _ _ _ hs0] at hx
    show Half n w R Ch 1 W1
    rw [hW1]; exact hx
  have HB1 : Hid (Below w.heap.size w W1) := HH1.out.below
  go_wp2_with fail
  rw [← hW1]
  go_at_call 21
  refine (HKID.out kP pc HPA.out W1 HB1.out).mono ?_
  rintro e w4 ⟨pd, rfl, hb4, hN4⟩
  obtain ⟨u2, y2, g2⟩ := HH1.out.cell hb4 2 (by decide)
  have HH2 := hide (HH1.out.param hb4 HPA.out hN4)
  have hb5 : Below w.heap.size w w4 := HB1.out.trans (hb4.mono HB1.out.size)
  have z3 := (hb5.cell (p := ⟨b, 3, none⟩) (by exact hb)).trans HC3.out
  clear hb4 hN4 hb5 hW1
  obtain ⟨W2, hW2⟩ : ∃ W2, W2 = w4.setCell ⟨w.heap.size, 2, none⟩ (.pointer (some ⟨pd, 0, none⟩)) := ⟨_, rfl⟩
  rw [← hW2] at HH2
  have HB2 : Hid (Below w.heap.size w W2) := HH2.out.below
  go_wp2_with fail
  rw [← hW2]
  have HH3 := hide (HH2.out.catch0 HCA.out)
  go_ret
  have hd := HH3.out.done HK4.out H4.out
  exact ⟨_, rfl, hd⟩

set_option maxRecDepth 100000 in
set_option maxHeartbeats 1000000 in
theorem clone_111 (n b : Nat) (w : World) (R : Tell) (Ch : Key → Nat → Prop) (ro : Option Addr) (tb m : Nat) (pc : Nat) (cc : Nat) (hb : b < w.heap.size) (hro : ptrO (R []) = .pointer ro) (c0 : w.cell? ⟨b, 0, none⟩ = some (.pointer ro)) (c1 : w.cell? ⟨b, 1, none⟩ = some (.pointer (some ⟨tb, 0, none⟩))) (c2 : w.cell? ⟨b, 2, none⟩ = some (.pointer (some ⟨pc, 0, none⟩))) (c3 : w.cell? ⟨b, 3, none⟩ = some (.pointer (some ⟨cc, 0, none⟩)))
    (hk4 : ∀ k, (∀ x, ¬ Ch k x) → ∀ q, R (k :: q) = none) (h4 : ∀ k x, Ch k x → k = kP ∨ k = kC ∨ ∃ t, k = kS t ∧ Clean t.data.toList ∧ t.size ≤ 256)
    (hstat : ∀ W, Below w.heap.size w W → ∃ (p0 : Option Addr) (s1 : ByteArray) (p2 : Option Addr), W.cell? ⟨tb, 0, none⟩ = some (.pointer p0) ∧ W.cell? ⟨tb, 1, none⟩ = some (.string s1) ∧ W.cell? ⟨tb, 2, none⟩ = some (.pointer p2) ∧ Calls Yba.prog 33 #[.agg #[.pointer p0, .string s1, .pointer p2]] W fun e w' => ScloneOk n m W w' (fun t c => Ch (kS t) c) (fun t q => R (kS t :: q)) e) (hpar : Ch kP pc) (hcat : Ch kC cc)
    (hkid : ∀ k c, Ch k c → ∀ W, Below w.heap.size w W → Calls Yba.prog 21 #[.pointer (some ⟨c, 0, none⟩)] W fun e w' => ∃ d, e = .returned (.pointer (some ⟨d, 0, none⟩)) ∧ Below W.heap.size W w' ∧ NodeT n w' d (fun q => R (k :: q)) (fun x => W.heap.size ≤ x ∧ x < w'.heap.size)) :
    Calls Yba.prog 21 #[.pointer (some ⟨b, 0, none⟩)] w fun e w' => ∃ d, e = .returned (.pointer (some ⟨d, 0, none⟩)) ∧ Below w.heap.size w w' ∧ NodeT (n + 1) w' d R (fun x => w.heap.size ≤ x ∧ x < w'.heap.size) := by
  have HK4 := hide hk4
  have H4 := hide h4
  have HST := hide hstat
  have HPA := hide hpar
  have HCA := hide hcat
  have HKID := hide hkid
  have hb1 : b < w.heap.size + 1 := by omega
  have hbd : b ≠ w.heap.size := by omega
  have hdb : w.heap.size ≠ b := by omega
  have HBE : Hid (Below w.heap.size w (w.alloc (.cells #[.pointer ro, .pointer none, .pointer none, .pointer none] 54))) := (Below.refl _ _).alloc (Nat.le_refl _) _
  have HC2 := hide c2
  have HC3 := hide c3
  have HRO := hide hro
  clear hk4 h4 hstat hpar hcat hkid hro
  obtain ⟨p0, s1, p2, t0, t1, t2, hcall⟩ := HST.out _ HBE.out
  have HCALL := hide hcall
  clear hcall
  go_enter Yba.func21, Yba.ntmps21
  go_wp2_with fail
  go_at_call 33
  refine HCALL.out.mono ?_
  rintro e w2 ⟨q0, r1, q2, rfl, hbs, hcl⟩
  have hs0 : w.heap.size < w2.heap.size := by have := hbs.size; simp at this; omega
  have HH1' := hide (Half.stat (n := n) (w := w) (R := R) (Ch := Ch) (W0 := w.alloc (.cells #[.pointer ro, .pointer none, .pointer none, .pointer none] 54)) (by rw [HRO.out]) hbs hcl)
  have hdw : w2.heap[w.heap.size]? = some (.cells #[.pointer ro, .pointer none, .pointer none, .pointer none] 54) := (hbs.block _ (by simp)).trans (heap_alloc_new w _)
  have x1 : w2.cell? ⟨w.heap.size, 1, none⟩ = some (.pointer none) := by simp [World.cell?, hdw]
  have f1 : w2.frozen? ⟨w.heap.size, 1, none⟩ = false := by simp [World.frozen?, hdw]
  have hbw : Below w.heap.size w w2 := HBE.out.trans (hbs.mono (by simp))
  have x2 := (hbw.cell (p := ⟨b, 2, none⟩) (by exact hb)).trans HC2.out
  have x3 := (hbw.cell (p := ⟨b, 3, none⟩) (by exact hb)).trans HC3.out
  have hbw2 : b < w2.heap.size := by omega
  have hbw3 : b < w2.heap.size + 1 := by omega
  have hdw3 : w.heap.size < w2.heap.size + 1 := by omega
  clear hbs hcl hdw hbw
  obtain ⟨W1, hW1⟩ : ∃ W1, W1 = (w2.setCell ⟨w.heap.size, 1, none⟩ (.pointer (some ⟨w2.heap.size, 0, none⟩))).alloc (.cells #[.pointer q0, .string r1, .pointer q2] 83) := ⟨_, rfl⟩
  have HH1 : Hid (Half n w R Ch 1 W1) := by
    have hx := HH1'.out
    rw [World.setCell_alloc_past _ _ _ _ hs0] at hx
    show Half n w R Ch 1 W1
    rw [hW1]; exact hx
  have HB1 : Hid (Below w.heap.size w W1) := HH1.out.below
  go_wp2_with fail
  rw [← hW1]
  go_at_call 21
  refine (HKID.out kP pc HPA.out W1 HB1.out).mono ?_
  rintro e w4 ⟨pd, rfl, hb4, hN4⟩
  obtain ⟨u2, y2, g2⟩ := HH1.out.cell hb4 2 (by decide)
  have HH2 := hide (HH1.out.param hb4 HPA.out hN4)
  have hb5 : Below w.heap.size w w4 := HB1.out.trans (hb4.mono HB1.out.size)
  have z3 := (hb5.cell (p := ⟨b, 3, none⟩) (by exact hb)).trans HC3.out
  clear hb4 hN4 hb5 hW1
  obtain ⟨W2, hW2⟩ : ∃ W2, W2 = w4.setCell ⟨w.heap.size, 2, none⟩ (.pointer (some ⟨pd, 0, none⟩)) := ⟨_, rfl⟩
  rw [← hW2] at HH2
  have HB2 : Hid (Below w.heap.size w W2) := HH2.out.below
  go_wp2_with fail
  rw [← hW2]
  go_at_call 21
  refine (HKID.out kC cc HCA.out W2 HB2.out).mono ?_
  rintro e w6 ⟨cd, rfl, hb6, hN6⟩
  obtain ⟨u3, y3, g3⟩ := HH2.out.cell hb6 3 (by decide)
  have HH3 := hide (HH2.out.catch hb6 HCA.out hN6)
  clear hb6 hN6
  go_wp2_with fail
  go_ret
  have hd := HH3.out.done HK4.out H4.out
  exact ⟨_, rfl, hd⟩

theorem clone_step (n : Nat) (hc : CloneLaw n) (hsc : ScloneLaw n) : CloneLaw (n + 1) := by
  intro w b R F hT hlt
  obtain ⟨Ch, Fk, F0, ⟨h0, sp, pp, cp, h1, h2, h3, h4, h5⟩, k2, k3, k4, k5, k6, k7⟩ := hT
  have hb : b < w.heap.size := hlt b (k5 b h0)
  obtain ⟨c0, c1, c2, c3⟩ := ptrO_cell h1
  obtain ⟨ro, hro⟩ : ∃ ro, ptrO (R []) = .pointer ro := ⟨_, rfl⟩
  rw [hro] at c0
  have hkid : ∀ k c, Ch k c → ∀ W, Below w.heap.size w W → Calls Yba.prog 21 #[.pointer (some ⟨c, 0, none⟩)] W fun e w' => ∃ d, e = .returned (.pointer (some ⟨d, 0, none⟩)) ∧ Below W.heap.size W w' ∧ NodeT n w' d (fun q => R (k :: q)) (fun x => W.heap.size ≤ x ∧ x < w'.heap.size) := fun k c hk W hW =>
    hc W c (fun q => R (k :: q)) (Fk k) (NodeT.move n (k3 k c hk) (fun x hx => hW.block x (hlt x (k6 k c x hk hx).1))) (fun x hx => Nat.lt_of_lt_of_le (hlt x (k6 k c x hk hx).1) hW.size)
  have npar : pp = none → ∀ c, ¬ Ch kP c := fun e c hc => by have := (h2 c).1 hc; rw [e] at this; cases this
  have ncat : cp = none → ∀ c, ¬ Ch kC c := fun e c hc => by have := (h3 c).1 hc; rw [e] at this; cases this
  rcases h5 with ⟨rfl, h5⟩ | ⟨tb, m, Ft, rfl, ⟨cs, e2⟩, e3, e4, e5, e6, e7⟩
  · cases hpp : pp with
    | none =>
      cases hcp : cp with
      | none => exact clone_000 n b w R Ch ro hb hro c0 c1 (by rw [hpp] at c2; exact c2) (by rw [hcp] at c3; exact c3) k4 h4 h5 (npar hpp) (ncat hcp) hkid
      | some cc => exact clone_001 n b w R Ch ro cc hb hro c0 c1 (by rw [hpp] at c2; exact c2) (by rw [hcp] at c3; exact c3) k4 h4 h5 (npar hpp) ((h3 cc).2 hcp) hkid
    | some pc =>
      cases hcp : cp with
      | none => exact clone_010 n b w R Ch ro pc hb hro c0 c1 (by rw [hpp] at c2; exact c2) (by rw [hcp] at c3; exact c3) k4 h4 h5 ((h2 pc).2 hpp) (ncat hcp) hkid
      | some cc => exact clone_011 n b w R Ch ro pc cc hb hro c0 c1 (by rw [hpp] at c2; exact c2) (by rw [hcp] at c3; exact c3) k4 h4 h5 ((h2 pc).2 hpp) ((h3 cc).2 hcp) hkid
  · have hstat : ∀ W, Below w.heap.size w W → ∃ (p0 : Option Addr) (s1 : ByteArray) (p2 : Option Addr), W.cell? ⟨tb, 0, none⟩ = some (.pointer p0) ∧ W.cell? ⟨tb, 1, none⟩ = some (.string s1) ∧ W.cell? ⟨tb, 2, none⟩ = some (.pointer p2) ∧ Calls Yba.prog 33 #[.agg #[.pointer p0, .string s1, .pointer p2]] W fun e w' => ScloneOk n m W w' (fun t c => Ch (kS t) c) (fun t q => R (kS t :: q)) e := by
      intro W hW
      have htb : tb < w.heap.size := hlt tb (k5 tb e5)
      have hT : Tri m W tb 0 (fun t d => Ch (kS t) d) Ft := Tri.move m e3 (fun j _ => cell_block (hW.block tb htb) _) (fun x hx => hW.block x (hlt x (k5 x (e7 x hx).1)))
      obtain ⟨p0, s1, p2, a0, a1, a2⟩ := hT.slot
      refine ⟨p0, s1, p2, a0, by simpa using a1, by simpa using a2, ?_⟩
      exact hsc m W tb 0 _ Ft _ (fun t => Fk (kS t)) p0 s1 p2 hT (fun x hx => Nat.lt_of_lt_of_le (hlt x (k5 x (e7 x hx).1)) hW.size)
        (fun t c ht => ⟨NodeT.move n (k3 _ c ht) (fun x hx => hW.block x (hlt x (k6 _ c x ht hx).1)), fun x hx => Nat.lt_of_lt_of_le (hlt x (k6 _ c x ht hx).1) hW.size⟩) a0 a1 a2
    cases hpp : pp with
    | none =>
      cases hcp : cp with
      | none => exact clone_100 n b w R Ch ro tb m hb hro c0 c1 (by rw [hpp] at c2; exact c2) (by rw [hcp] at c3; exact c3) k4 h4 hstat (npar hpp) (ncat hcp) hkid
      | some cc => exact clone_101 n b w R Ch ro tb m cc hb hro c0 c1 (by rw [hpp] at c2; exact c2) (by rw [hcp] at c3; exact c3) k4 h4 hstat (npar hpp) ((h3 cc).2 hcp) hkid
    | some pc =>
      cases hcp : cp with
      | none => exact clone_110 n b w R Ch ro tb m pc hb hro c0 c1 (by rw [hpp] at c2; exact c2) (by rw [hcp] at c3; exact c3) k4 h4 hstat ((h2 pc).2 hpp) (ncat hcp) hkid
      | some cc => exact clone_111 n b w R Ch ro tb m pc cc hb hro c0 c1 (by rw [hpp] at c2; exact c2) (by rw [hcp] at c3; exact c3) k4 h4 hstat ((h2 pc).2 hpp) ((h3 cc).2 hcp) hkid

end Go.Proofs.Ybulkavso
