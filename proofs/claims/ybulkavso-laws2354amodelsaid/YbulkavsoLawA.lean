/-
  LawS2354AModel, walked.
-/
import Derived.Test.YbulkavsoAsk
import Derived.BigRegion
import Derived.Deep.RegionHeld3
namespace Go.Proofs.Ybulkavso
open Go.RowKit

theorem info38 : (Yba.prog.info? 38).map (fun i => (i.zero, i.size, i.bytes)) = some (some (.slice none 0 0), 1, 24) := by kernel_rfl
theorem info44 : (Yba.prog.info? 44).map (fun i => (i.zero, i.size, i.bytes)) = some (some (.pointer none), 1, 8) := by kernel_rfl

theorem make35 (n : Nat) (hn : n ≤ 4096) (w : World) : (Instr.makeSlice 35 (.int .i64 (n : Int)) (.int .i64 (n : Int))).run Yba.prog w = .ok (.slice (some ⟨w.heap.size, 0, none⟩) n n) (w.alloc (.cells (madeCells #[.slice none 0 0] n) 38)) := by
  obtain ⟨i, hi, hz0, hz1, hz2⟩ := info_parts info38
  have h := run_make (P := Yba.prog) w 35 38 i _ Yba.underlying35 hi hz0 .i64 .i64 n n (by omega) (Int.le_refl _) (by rw [hz2]; omega) (by omega)
  simp only [Int.toNat_natCast, hz1, Nat.mul_one] at h
  exact h
theorem make36 (n : Nat) (hn : n ≤ 4096) (w : World) : (Instr.makeSlice 36 (.int .i64 (n : Int)) (.int .i64 (n : Int))).run Yba.prog w = .ok (.slice (some ⟨w.heap.size, 0, none⟩) n n) (w.alloc (.cells (madeCells #[.string ⟨#[]⟩] n) 9)) := by
  obtain ⟨i, hi, hz0, hz1, hz2⟩ := info_parts info9
  have h := run_make (P := Yba.prog) w 36 9 i _ Yba.underlying36 hi hz0 .i64 .i64 n n (by omega) (Int.le_refl _) (by rw [hz2]; omega) (by omega)
  simp only [Int.toNat_natCast, hz1, Nat.mul_one] at h
  exact h
theorem make37 (n : Nat) (hn : n ≤ 4096) (w : World) : (Instr.makeSlice 37 (.int .i64 (n : Int)) (.int .i64 (n : Int))).run Yba.prog w = .ok (.slice (some ⟨w.heap.size, 0, none⟩) n n) (w.alloc (.cells (madeCells #[.pointer none] n) 44)) := by
  obtain ⟨i, hi, hz0, hz1, hz2⟩ := info_parts info44
  have h := run_make (P := Yba.prog) w 37 44 i _ Yba.underlying37 hi hz0 .i64 .i64 n n (by omega) (Int.le_refl _) (by rw [hz2]; omega) (by omega)
  simp only [Int.toNat_natCast, hz1, Nat.mul_one] at h
  exact h

/-- The operations that came in. -/
def OpsIn (w : World) (a : Option Addr) (len : Nat) (M : Nat → Nat) (A : Nat → Option Addr) (Ls C : Nat → Nat) (z : Nat → Nat → Nat) : Prop :=
  0 < len → ∃ b off, a = some ⟨b, off, none⟩ ∧ b < w.heap.size ∧ ∀ r, r < len → w.cell? ⟨b, off + r * 2, none⟩ = some (.int .u8 (M r)) ∧ M r < 256 ∧ w.cell? ⟨b, off + r * 2 + 1, none⟩ = some (.slice (A r) (Ls r) (C r)) ∧ Ls r ≤ maxLen ∧ RowIn w (A r) (Ls r) (z r)

/-- The zero router. -/
def zrout : Array Value := rcells .nilIface .nilIface (.bool false) (.bool false) (fun _ => ⟨#[]⟩) (fun _ => none) none

theorem alloc4 (w : World) (a b c d : Obj) : (((w.alloc a).alloc b).alloc c |>.alloc d).heap[w.heap.size]? = some a ∧ (((w.alloc a).alloc b).alloc c |>.alloc d).heap[w.heap.size + 1]? = some b ∧ (((w.alloc a).alloc b).alloc c |>.alloc d).heap[w.heap.size + 2]? = some c ∧ (((w.alloc a).alloc b).alloc c |>.alloc d).heap[w.heap.size + 3]? = some d := by
  have h : ((((w.alloc a).alloc b).alloc c).alloc d).heap = (((w.heap.push a).push b).push c).push d := rfl
  rw [h]
  simp only [Array.getElem?_push, Array.size_push]
  refine ⟨?_, ?_, ?_, ?_⟩
  · rw [if_neg (by omega), if_neg (by omega), if_neg (by omega), if_pos trivial]
  · rw [if_neg (by omega), if_neg (by omega), if_pos trivial]
  · rw [if_neg (by omega), if_pos trivial]
  · rw [if_pos trivial]

theorem inv_start (w : World) (L : Nat) (mm : Nat → Nat) (SS : Nat → List Seg) : Inv w L mm SS (fun _ => False) 0 0 ((((w.alloc (.cells zrout 34)).alloc (.cells (madeCells #[.slice none 0 0] L) 38)).alloc (.cells (madeCells #[.string ⟨#[]⟩] L) 9)).alloc (.cells (madeCells #[.pointer none] L) 44)) := by
  obtain ⟨h1, h2, h3, h4⟩ := alloc4 w (.cells zrout 34) (.cells (madeCells #[.slice none 0 0] L) 38) (.cells (madeCells #[.string ⟨#[]⟩] L) 9) (.cells (madeCells #[.pointer none] L) 44)
  have off : ∀ k, ¬ FR w.heap.size (fun _ _ => False) (w.heap.size + (k + 1)) := fun k e => by
    rcases e with e | ⟨_, e⟩
    · omega
    · exact e
  refine ⟨((((Below.refl _ _).alloc (Nat.le_refl _) _).alloc (by simp) _).alloc (by simp; omega) _).alloc (by simp; omega) _, fun _ => none, fun _ _ => none, fun _ => false, fun _ _ => False, fun _ => 0, _, _, _, ⟨⟨_, _, _, _, _, none, h1, .inl ⟨rfl, rfl⟩⟩, fun _ _ _ h => (by cases h), fun _ _ _ _ => rfl, fun _ _ h => h.elim, fun _ _ _ h => h.elim⟩, fun _ _ => ⟨fun _ => rfl, fun _ => rfl⟩, Sound.start _ _ _, ?_, fun _ h => h.elim, h2, size_madeCells _ _, h3, size_madeCells _ _, h4, size_madeCells _ _, ⟨off 0, off 1, off 2⟩, fun j hj => by omega⟩
  rintro x (rfl | ⟨_, e⟩)
  · exact Nat.le_refl _
  · exact e.elim

/-- What the loop's round finds in the rows. -/
theorem Inv.cells {w wr : World} {L c i : Nat} {mm : Nat → Nat} {SS : Nat → List Seg} {Pr : Nat → Prop} (h : Inv w L mm SS Pr c i wr) {j : Nat} (hj : j < L) {w1 : World} (hb : Below wr.heap.size wr w1) :
    ∃ u1 u2 u3, w1.cell? ⟨w.heap.size + 1, j, none⟩ = some u1 ∧ w1.cell? ⟨w.heap.size + 2, j, none⟩ = some u2 ∧ w1.cell? ⟨w.heap.size + 3, j, none⟩ = some u3 ∧ w1.frozen? ⟨w.heap.size + 1, j, none⟩ = false ∧ w1.frozen? ⟨w.heap.size + 2, j, none⟩ = false ∧ w1.frozen? ⟨w.heap.size + 3, j, none⟩ = false := by
  obtain ⟨_, root, R, has, F, Rb, csS, csM, csR, _, _, _, _, _, h6, h7, h8, h9, h10, h11, _⟩ := h.below hb
  refine ⟨csS[j]'(by omega), csM[j]'(by omega), csR[j]'(by omega), ?_, ?_, ?_, not_frozen h6 (.inl rfl) (by omega), not_frozen h8 (.inl rfl) (by omega), not_frozen h10 (.inl rfl) (by omega)⟩
  · rw [cell_at h6]; exact Array.getElem?_eq_getElem _
  · rw [cell_at h8]; exact Array.getElem?_eq_getElem _
  · rw [cell_at h10]; exact Array.getElem?_eq_getElem _

/-- The segments of an operation, made. -/
theorem segs_round {w wr : World} {L i G1 G2 G3 b off Mi Li Ci : Nat} {Ai : Option Addr} {zi : Nat → Nat} {mm : Nat → Nat} {SS : Nat → List Seg} {Pr : Nat → Prop} {c : Nat} (h : Inv w L mm SS Pr c i wr) (hi : i < L) (h1 : G1 = w.heap.size + 1) (h2 : G2 = w.heap.size + 1 + 1) (h3 : G3 = w.heap.size + 1 + 1 + 1)
    (hb : b < w.heap.size) (c0 : w.cell? ⟨b, off + i * 2, none⟩ = some (.int .u8 Mi)) (c1 : w.cell? ⟨b, off + i * 2 + 1, none⟩ = some (.slice Ai Li Ci)) (hL : Li ≤ maxLen) (hrow : RowIn w Ai Li zi) (hS : SS i = segsOf Li zi) :
    Calls Yba.prog 8 #[.slice Ai Li Ci] wr fun e w1 => ∃ u1 u2 u3, e = .returned (.slice (some ⟨wr.heap.size, 0, none⟩) (SS i).length (SS i).length) ∧ w1.cell? ⟨G1, i, none⟩ = some u1 ∧ w1.cell? ⟨G2, i, none⟩ = some u2 ∧ w1.cell? ⟨G3, i, none⟩ = some u3 ∧ w1.frozen? ⟨G1, i, none⟩ = false ∧ w1.frozen? ⟨G2, i, none⟩ = false ∧ w1.frozen? ⟨G3, i, none⟩ = false ∧
      w1.cell? ⟨b, off + i * 2, none⟩ = some (.int .u8 Mi) ∧ w1.cell? ⟨b, off + i * 2 + 1, none⟩ = some (.slice Ai Li Ci) ∧ G1 < w1.heap.size ∧ G2 < w1.heap.size ∧ G3 < w1.heap.size ∧ b < w1.heap.size ∧ Hid (Below wr.heap.size wr w1 ∧ New wr w1 wr.heap.size ∧ SegRow w1 wr.heap.size (SS i)) := by
  subst h1 h2 h3
  have hbel := h.1
  have hs := hbel.size
  have hrow2 : RowIn wr Ai Li zi := fun hp => by
    obtain ⟨b', off', e1, e2, e3⟩ := hrow hp
    exact ⟨b', off', e1, by omega, fun j hj => ⟨(hbel.cell (by exact e2)).trans (e3 j hj).1, (e3 j hj).2⟩⟩
  refine (segs_any Ai Li Ci zi wr hL hrow2).mono ?_
  rintro e w1 ⟨rfl, g1, g2, g3⟩
  have hk : (SS i).length = min Li 8 := by rw [hS, segsOf_len]
  rw [hk]
  obtain ⟨u1, u2, u3, d1, d2, d3, d4, d5, d6⟩ := h.cells hi g1
  have hwb : Below w.heap.size w w1 := hbel.trans (g1.mono hs)
  have l3 : w.heap.size + 3 < w1.heap.size := by
    obtain ⟨_, root, R, has, F, Rb, csS, csM, csR, _, _, _, _, _, h6, h7, h8, h9, h10, h11, _⟩ := h.below g1
    exact (Array.getElem?_eq_some_iff.1 h10).1
  exact ⟨u1, u2, u3, rfl, d1, d2, d3, d4, d5, d6, (hwb.cell (by exact hb)).trans c0, (hwb.cell (by exact hb)).trans c1, by omega, by omega, by omega, by have := hwb.size; omega, g1, ⟨Nat.le_refl _, g2⟩, by rw [hS]; exact g3⟩

/-- The operation is laid: what its store needs. -/
theorem laid_round (hins : InsertLaw) {w wr w1 W : World} {L i N G1 G2 G3 b off Mi Li Ci : Nat} {Ai : Option Addr} {zi : Nat → Nat} {mm : Nat → Nat} {SS : Nat → List Seg} {Pr : Nat → Prop} {o : Obj} (h : Inv w L mm SS Pr i i wr) (hi : i < L) (h0 : N = w.heap.size) (h1 : G1 = w.heap.size + 1) (h2 : G2 = w.heap.size + 1 + 1) (h3 : G3 = w.heap.size + 1 + 1 + 1)
    (hb : b < w.heap.size) (c0 : w.cell? ⟨b, off + i * 2, none⟩ = some (.int .u8 Mi)) (c1 : w.cell? ⟨b, off + i * 2 + 1, none⟩ = some (.slice Ai Li Ci)) (hL : Li ≤ maxLen) (hrow : RowIn w Ai Li zi) (hS : SS i = segsOf Li zi) (hm : mm i < 5)
    (hX : Below wr.heap.size wr w1 ∧ New wr w1 wr.heap.size ∧ SegRow w1 wr.heap.size (SS i))
    (hW : W = (((w1.setCell ⟨G1, i, none⟩ (.slice (some ⟨wr.heap.size, 0, none⟩) (SS i).length (SS i).length)).setCell ⟨G2, i, none⟩ (.string (meth (mm i)))).setCell ⟨G3, i, none⟩ (.pointer (some ⟨w1.heap.size, 0, none⟩))).alloc o) :
    W.cell? ⟨G2, i, none⟩ = some (.string (meth (mm i))) ∧ W.cell? ⟨G3, i, none⟩ = some (.pointer (some ⟨w1.heap.size, 0, none⟩)) ∧ W.cell? ⟨b, off + i * 2 + 1, none⟩ = some (.slice Ai Li Ci) ∧
    Hid (∀ wx, Drawn W wx → Calls Yba.prog 8 #[.slice Ai Li Ci] wx fun e w2 => e = .returned (.slice (some ⟨W.heap.size, 0, none⟩) (SS i).length (SS i).length) ∧ w2.cell? ⟨G2, i, none⟩ = some (.string (meth (mm i))) ∧ w2.cell? ⟨G3, i, none⟩ = some (.pointer (some ⟨w1.heap.size, 0, none⟩)) ∧ w2.cell? ⟨b, off + i * 2 + 1, none⟩ = some (.slice Ai Li Ci) ∧
      Hid (Calls Yba.prog 10 #[.pointer (some ⟨N, 0, none⟩), .string (meth (mm i)), .slice (some ⟨W.heap.size, 0, none⟩) (SS i).length (SS i).length, .pointer (some ⟨w1.heap.size, 0, none⟩)] w2 fun e w5 => ∃ v, e = .returned v ∧ w5.cell? ⟨G2, i, none⟩ = some (.string (meth (mm i))) ∧ w5.cell? ⟨G3, i, none⟩ = some (.pointer (some ⟨w1.heap.size, 0, none⟩)) ∧ w5.cell? ⟨b, off + i * 2 + 1, none⟩ = some (.slice Ai Li Ci) ∧ Hid (Inv w L mm SS (fun _ => False) (i + 1) (i + 1) w5))) := by
  subst h0 h1 h2 h3
  obtain ⟨x1, x2, x3⟩ := hX
  have f1 := h.fill (rb := w1.heap.size) hi x1 x2 x3
  have f2 : Inv w L mm SS (fun _ => False) (i + 1) i W := by
    rw [hW]
    exact (f1.below ((Below.refl _ _).alloc (Nat.le_refl _) o)).weak (fun _ e => e.elim)
  have hwb := f2.1
  have cM : W.cell? ⟨w.heap.size + 1 + 1, i, none⟩ = some (.string (meth (mm i))) := by
    obtain ⟨_, root, R, has, F, Rb, csS, csM, csR, _, _, _, _, _, h6, h7, h8, h9, h10, h11, _, h13⟩ := f2
    rw [show w.heap.size + 1 + 1 = w.heap.size + 2 from rfl, cell_at h8]
    exact (h13 i (by omega)).1
  have l3 : w.heap.size + 3 < (((w1.setCell ⟨w.heap.size + 1, i, none⟩ (.slice (some ⟨wr.heap.size, 0, none⟩) (SS i).length (SS i).length)).setCell ⟨w.heap.size + 2, i, none⟩ (.string (meth (mm i)))).setCell ⟨w.heap.size + 3, i, none⟩ (.pointer (some ⟨w1.heap.size, 0, none⟩))).heap.size := by
    obtain ⟨_, root, R, has, F, Rb, csS, csM, csR, _, _, _, _, _, h6, h7, h8, h9, h10, h11, _, h13⟩ := f1
    exact (Array.getElem?_eq_some_iff.1 h10).1
  have cR : W.cell? ⟨w.heap.size + 1 + 1 + 1, i, none⟩ = some (.pointer (some ⟨w1.heap.size, 0, none⟩)) := by
    obtain ⟨_, root, R, has, F, Rb, csS, csM, csR, _, _, _, _, _, h6, h7, h8, h9, h10, h11, _, h13⟩ := h.below x1
    have e : W.heap[w.heap.size + 3]? = some (.cells (csR.setIfInBounds i (.pointer (some ⟨w1.heap.size, 0, none⟩))) 44) := by
      rw [hW]
      exact (heap_alloc_old _ o l3).trans (heap_set_same ((heap_set_other _ (by omega)).trans ((heap_set_other _ (by omega)).trans h10)) _)
    rw [show w.heap.size + 1 + 1 + 1 = w.heap.size + 3 from rfl, cell_at e, Array.getElem?_setIfInBounds_self_of_lt (by omega)]
  have lW3 : w.heap.size + 3 < W.heap.size := by
    rw [hW]
    simp at l3 ⊢
    omega
  refine ⟨cM, cR, (hwb.cell (by exact hb)).trans c1, fun wx hx => ?_⟩
  have hxs := hx.sizes
  have f3 : Inv w L mm SS (fun _ => False) (i + 1) i wx := (f2.below hx.below).weak (fun _ e => e.elim)
  have q := segs_round (G1 := w.heap.size + 1) (G2 := w.heap.size + 1 + 1) (G3 := w.heap.size + 1 + 1 + 1) f3 hi rfl rfl rfl hb c0 c1 hL hrow hS
  refine q.mono ?_
  rintro e w2 ⟨_, _, _, rfl, _, _, _, _, _, _, _, _, _, _, _, _, HX⟩
  obtain ⟨y1, y2, y3⟩ := HX.out
  have hW2 : Below W.heap.size W w2 := hx.below.trans (y1.mono (by omega))
  rw [hxs] at y2 y3 ⊢
  have kR : w2.cell? ⟨w.heap.size + 1 + 1 + 1, i, none⟩ = some (.pointer (some ⟨w1.heap.size, 0, none⟩)) := (hW2.cell (by exact lW3)).trans cR
  have kM : w2.cell? ⟨w.heap.size + 1 + 1, i, none⟩ = some (.string (meth (mm i))) := (hW2.cell (show w.heap.size + 1 + 1 < W.heap.size by omega)).trans cM
  refine ⟨rfl, kM, kR, ((hwb.trans (hW2.mono hwb.size)).cell (by exact hb)).trans c1, ?_⟩
  have hfit : ∀ s ∈ SS i, SegOk s := by rw [hS]; exact segsOf_ok _ _
  have hlen : (SS i).length ≤ 256 := by rw [hS, segsOf_len]; omega
  refine ((f2.below hW2).store hins (g := W.heap.size) (cap := (SS i).length) hm ⟨Nat.le_refl _, y2.2⟩ y3 hfit hlen kR).mono ?_
  rintro e w5 ⟨⟨v, rfl⟩, e2, e3, hI⟩
  exact ⟨v, rfl, (cell_block e2 _).trans kM, (cell_block e3 _).trans kR, (hI.1.cell (by exact hb)).trans c1, hI⟩

set_option maxRecDepth 100000 in
set_option maxHeartbeats 1000000 in
theorem law_small (hins : InsertLaw) (a : Option Addr) (len cap : Nat) (M : Nat → Nat) (A : Nat → Option Addr) (Ls C : Nat → Nat) (z : Nat → Nat → Nat) (w : World) (hlen : len ≤ 256) (hops : OpsIn w a len M A Ls C z) :
    Calls Yba.prog 3 #[.slice a len cap] w fun e w' => e = .returned (.bool true) ∧ Below w.heap.size w w' := by
  have hq : decide ((256 : Int) < (len : Int)) = false := by simp; omega
  have hm35 := make35 len (by omega)
  have hm36 := make36 len (by omega)
  have hm37 := make37 len (by omega)
  have HO := hide hops
  clear hops
  obtain ⟨mm, hmm⟩ : ∃ mm : Nat → Nat, ∀ i, mm i = M i % 5 := ⟨fun i => M i % 5, fun _ => rfl⟩
  obtain ⟨SS, hSS⟩ : ∃ SS : Nat → List Seg, ∀ i, SS i = segsOf (Ls i) (z i) := ⟨fun i => segsOf (Ls i) (z i), fun _ => rfl⟩
  have HMM := hide hmm
  have HSS := hide hSS
  have HST := hide (inv_start w len mm SS)
  have HI := hide hins
  clear hmm hSS hins
  obtain ⟨N, hN⟩ : ∃ N, N = w.heap.size := ⟨_, rfl⟩
  obtain ⟨G1, hG1⟩ : ∃ G, G = w.heap.size + 1 := ⟨_, rfl⟩
  obtain ⟨G2, hG2⟩ : ∃ G, G = w.heap.size + 1 + 1 := ⟨_, rfl⟩
  obtain ⟨G3, hG3⟩ : ∃ G, G = w.heap.size + 1 + 1 + 1 := ⟨_, rfl⟩
  obtain ⟨zr, hzr⟩ : ∃ zr, zr = zrout := ⟨_, rfl⟩
  have HN := hide hN
  have HG1 := hide hG1
  have HG2 := hide hG2
  have HG3 := hide hG3
  have HZR := hide hzr
  clear hN hG1 hG2 hG3 hzr
  go_enter Yba.func3, Yba.ntmps3
  go_wp2_with fail
  rw [← HG3.out, ← HG2.out, ← HG1.out]
  clear hm35 hm36 hm37 hq
  obtain ⟨W0, hW0⟩ : ∃ W0, W0 = ((((w.alloc (.cells zrout 34)).alloc (.cells (madeCells #[.slice none 0 0] len) 38)).alloc (.cells (madeCells #[.string ⟨#[]⟩] len) 9)).alloc (.cells (madeCells #[.pointer none] len) 44)) := ⟨_, rfl⟩
  rw [show (#[Value.nilIface, Value.nilIface, Value.bool false, Value.bool false, Value.string ⟨#[]⟩, Value.pointer none, Value.string ⟨#[]⟩, Value.pointer none, Value.string ⟨#[]⟩, Value.pointer none, Value.string ⟨#[]⟩, Value.pointer none, Value.string ⟨#[]⟩, Value.pointer none, Value.string ⟨#[]⟩, Value.pointer none, Value.string ⟨#[]⟩, Value.pointer none, Value.string ⟨#[]⟩, Value.pointer none, Value.string ⟨#[]⟩, Value.pointer none, Value.map none, Value.pointer none] : Array Value) = zrout from rfl, ← hW0, ← HZR.out, ← HN.out]
  rw [← hW0] at HST
  clear hW0
  go_loopw [7] (fun v wr => ∃ i : Nat, i ≤ len ∧ v = .int .i64 i ∧ Inv w len mm SS (fun _ => False) i i wr) (fun v _ => len - (intOf v).toNat)
  case atStart => exact ⟨0, Nat.zero_le _, rfl, HST.out⟩
  case round =>
    obtain ⟨i, hi, rfl, hinv⟩ := hrel
    have HV := hide hinv
    clear hinv
    by_cases hlt : i < len
    · obtain ⟨b, off, rfl, hb, hc⟩ := HO.out (by omega)
      obtain ⟨c0, hM, c1, hL, hrow⟩ := hc i hlt
      have HS8 := hide (segs_round HV.out hlt HG1.out HG2.out HG3.out hb c0 c1 hL hrow (HSS.out i))
      have H9 : Hid (∀ wx, Calls Yba.prog 9 #[.int .u8 (M i)] wx fun e w' => e = .returned (.string (meth (mm i))) ∧ w' = wx) := fun wx => by rw [HMM.out i]; exact method_any (M i) hM wx
      have r0 : wr.cell? ⟨b, off + i * 2, none⟩ = some (.int .u8 (M i)) := (HV.out.1.cell (by exact hb)).trans c0
      have r1 : wr.cell? ⟨b, off + i * 2 + 1, none⟩ = some (.slice (A i) (Ls i) (C i)) := (HV.out.1.cell (by exact hb)).trans c1
      have x1 : b ≠ G1 := by have := HG1.out; omega
      have x2 : b ≠ G2 := by have := HG2.out; omega
      have x3 : b ≠ G3 := by have := HG3.out; omega
      have x4 : G1 ≠ G2 := by have := HG1.out; have := HG2.out; omega
      have x5 : G1 ≠ G3 := by have := HG1.out; have := HG3.out; omega
      have x6 : G2 ≠ G3 := by have := HG2.out; have := HG3.out; omega
      have y1 := Ne.symm x1
      have y2 := Ne.symm x2
      have y3 := Ne.symm x3
      have y4 := Ne.symm x4
      have y5 := Ne.symm x5
      have y6 := Ne.symm x6
      clear hc
      go_wp2_with (first
        | (go_at_call 8; refine HS8.out.mono ?_; rintro e w1 ⟨v1, v2, v3, rfl, d1, d2, d3, d4, d5, d6, d7, d8, d9, d10, d11, d12, HX⟩)
        | (go_at_call 9; refine (H9.out _).mono ?_; rintro e w' ⟨rfl, rfl⟩))
      have hm5 : mm i < 5 := by rw [HMM.out i]; exact Nat.mod_lt _ (by decide)
      obtain ⟨W, hW⟩ : ∃ W, W = (((w1.setCell ⟨G1, i, none⟩ (.slice (some ⟨wr.heap.size, 0, none⟩) (SS i).length (SS i).length)).setCell ⟨G2, i, none⟩ (.string (meth (mm i)))).setCell ⟨G3, i, none⟩ (.pointer (some ⟨w1.heap.size, 0, none⟩))).alloc (.cells #[.string ⟨#[112]⟩, .slice none 0 0, .nilFunc, .bool false, .bool false, .bool false] 49) := ⟨_, rfl⟩
      obtain ⟨k1, k2, k3, HR8⟩ := laid_round HI.out HV.out hlt HN.out HG1.out HG2.out HG3.out hb c0 c1 hL hrow (HSS.out i) hm5 HX.out hW
      rw [← hW]
      clear hW d1 d2 d3 d4 d5 d6 d7 d8 d9 d10 d11 d12 HX HS8 H9 r0 r1 hrow
      have i0 : (0 : Int) ≤ (i : Int) := by omega
      have i1 : (i : Int) < (len : Int) := by omega
      go_region_held3 (fun w' => w'.cell? ⟨G2, i, none⟩ = some (.string (meth (mm i))) ∧ w'.cell? ⟨G3, i, none⟩ = some (.pointer (some ⟨w1.heap.size, 0, none⟩)) ∧ w'.cell? ⟨b, off + i * 2 + 1, none⟩ = some (.slice (A i) (Ls i) (C i))) (go_keep)
        (first
        | (go_at_call 8; refine (HR8.out _ ?_).mono ?_; exact ⟨1, rfl⟩; rintro e w2 ⟨rfl, e1, e2, e3, HR10⟩)
        | (go_at_call 10; refine HR10.out.mono ?_; rintro e w5 ⟨v5, rfl, e4, e5, e6, HNX⟩))
      go_wp2_with fail
      go_roundw
      case rel => exact ⟨i + 1, by omega, by go_num, HNX.out⟩
      case measure => simp [intOf]; omega
    · have hie : i = len := by omega
      rw [hie] at HV
      rw [hie]
      clear hie hlt hi
      obtain ⟨WL, hWL⟩ : ∃ WL, WL = wr := ⟨_, rfl⟩
      subst hWL
      obtain ⟨hbW, root, R, has, F, Rb, hR, hSn, hLd⟩ := HV.out.open (fun i _ => by rw [HMM.out i]; exact Nat.mod_lt _ (by decide)) (fun i _ => by rw [HSS.out i]; exact ⟨segsOf_ok _ _, by rw [segsOf_len]; omega⟩)
      have HBW := hide hbW
      have HR := hide hR
      have HSN := hide hSn
      have HLD : Hid (Laid WL G2 G1 G3 len mm SS Rb) := by
        have e1 : G1 = w.heap.size + 1 := HG1.out
        have e2 : G2 = w.heap.size + 2 := HG2.out
        have e3 : G3 = w.heap.size + 3 := HG3.out
        rw [e1, e2, e3]
        exact hLd
      have HK : Hid (WL.cell? ⟨N, 23, none⟩ = some (ptrO (root 0))) := by
        have e0 : N = w.heap.size := HN.out
        obtain ⟨c0, c1, c2, c3, ms, mo, o1, _⟩ := hR.obj
        rw [e0]
        exact (cell_at o1 _).trans rfl
      have hneq := neq44
      clear hbW hR hSn hLd
      go_wp2_with fail
      go_loopw [8] (fun v wr => ∃ q : Nat, q ≤ len ∧ v = .int .i64 q ∧ Below WL.heap.size WL wr) (fun v _ => len - (intOf v).toNat)
      case atStart => exact ⟨0, Nat.zero_le _, rfl, Below.refl _ _⟩
      case round =>
        obtain ⟨q, hq, rfl, hbq⟩ := hrel
        have HBQ := hide hbq
        clear hbq
        by_cases hltq : q < len
        · obtain ⟨g, hcell, hrow⟩ := HLD.out.segs q hltq
          obtain ⟨hokq, hlenq⟩ := HLD.out.ok q hltq
          have HCELL := hide hcell
          have HROW := hide hrow
          have HOKQ := hide hokq
          clear hcell hrow hokq
          go_wp2_with fail
          go_loopw [9] (fun v wr => ∃ mi : Nat, mi ≤ 5 ∧ v = .int .u8 mi ∧ Below WL.heap.size WL wr) (fun v _ => 5 - (intOf v).toNat)
          case atStart => exact ⟨0, by omega, rfl, HBQ.out⟩
          case round =>
            obtain ⟨mi, hmi, rfl, hbm⟩ := hrel
            have HBM := hide hbm
            clear hbm
            by_cases hlt5 : mi < 5
            · have kA : wr.cell? ⟨N, 23, none⟩ = some (ptrO (root 0)) := (HBM.out.cell (by exact cell_in HK.out)).trans HK.out
              have kS : wr.cell? ⟨G1, q, none⟩ = some (.slice (some ⟨g, 0, none⟩) (SS q).length (SS q).length) := (HBM.out.cell (by exact cell_in HCELL.out)).trans HCELL.out
              have hK9 : Hid (∀ wx, Calls Yba.prog 9 #[.int .u8 mi] wx fun e w' => e = .returned (.string (meth mi)) ∧ w' = wx) := fun wx => by
                have := method_any mi (by omega) wx
                rw [Nat.mod_eq_of_lt hlt5] at this
                exact this
              have q0 : (0 : Int) ≤ (q : Int) := by omega
              have q1 : (q : Int) < (len : Int) := by omega
              obtain ⟨rho, hrho⟩ : ∃ rho, rho = R mi (keys (SS q)) := ⟨_, rfl⟩
              have HM : Hid (∀ wx, Below WL.heap.size WL wx → Calls Yba.prog 13 #[.string (meth mi), .slice (some ⟨g, 0, none⟩) (SS q).length (SS q).length, .slice (some ⟨G2, 0, none⟩) len len, .slice (some ⟨G1, 0, none⟩) len len, .slice (some ⟨G3, 0, none⟩) len len] wx fun e w2 => e = .returned (ptrO rho) ∧ Hid (Below WL.heap.size WL w2)) := by
                intro wx hx
                rw [hrho]
                exact ask_model HLD.out HSN.out hlen hlt5 hltq HROW.out hx
              have HW : Hid (∀ wx, Below WL.heap.size WL wx → Calls Yba.prog 11 #[ptrO (root mi), .slice (some ⟨g, 0, none⟩) (SS q).length (SS q).length, .bool false] wx fun e w2 => ∃ v, e = .returned v ∧ w2.cell? ⟨N, 23, none⟩ = some (ptrO (root 0)) ∧ w2.cell? ⟨G1, q, none⟩ = some (.slice (some ⟨g, 0, none⟩) (SS q).length (SS q).length) ∧ Hid (Below WL.heap.size WL w2) ∧ Hid (Got w2 v rho)) := by
                intro wx hx
                rw [hrho]
                refine (ask_walk HR.out hlt5 hx HROW.out HOKQ.out hlenq).mono ?_
                rintro e w2 ⟨v, rfl, hb2, hgot⟩
                exact ⟨v, rfl, (hb2.cell (by exact cell_in HK.out)).trans HK.out, (hb2.cell (by exact cell_in HCELL.out)).trans HCELL.out, hb2, hgot⟩
              have HGET : Hid (¬ mi = 0 → ∀ wx, Below WL.heap.size WL wx → Calls Yba.prog 12 #[.pointer (some ⟨N, 4, none⟩), .string (meth mi)] wx fun e w' => e = .returned (ptrO (root mi)) ∧ w' = wx) := fun h0 wx hx => by
                rw [HN.out]
                exact get_any wx _ mi root R F (HR.out.below hx) hlt5 h0
              clear hrho
              by_cases hm0 : mi = 0
              · subst hm0
                simp only [meth, if_true] at HM hK9
                simp only [show ((0 : Nat) : Int) = 0 from rfl] at hK9 ⊢
                go_wp2_with (go_at_call 9; refine (hK9.out _).mono ?_; rintro e w' ⟨rfl, rfl⟩)
                go_region_held3 (fun w' => w'.cell? ⟨N, 23, none⟩ = some (ptrO (root 0)) ∧ w'.cell? ⟨G1, q, none⟩ = some (.slice (some ⟨g, 0, none⟩) (SS q).length (SS q).length)) (go_keep)
                  (first
                  | (go_at_call 11; refine (HW.out _ ?_).mono ?_; (first | exact HBM.out.drew | exact HBM.out); rintro e w2 ⟨v, rfl, z1, z2, HB2, HGOT⟩))
                rcases HGOT.out with ⟨rfl, hr0⟩ | ⟨d, rfl, hdc⟩
                · cases hr0
                  simp only [show ptrO none = Value.pointer none from rfl] at HM
                  go_wp2_with (go_at_call 13; refine (HM.out _ ?_).mono ?_; (first | exact HB2.out | exact HB2.out.drew); rintro e w3 ⟨rfl, HB3⟩)
                  go_roundw
                  case rel => exact ⟨1, by omega, by go_num, HB3.out⟩
                  case measure => simp [intOf]; try omega
                · cases rho with
                  | none =>
                    simp only [show ptrO none = Value.pointer none from rfl] at HM hdc
                    go_wp2_with (go_at_call 13; refine (HM.out _ ?_).mono ?_; (first | exact HB2.out | exact HB2.out.drew); rintro e w3 ⟨rfl, HB3⟩)
                    go_roundw
                    case rel => exact ⟨1, by omega, by go_num, HB3.out⟩
                    case measure => simp [intOf]; try omega
                  | some x =>
                    simp only [show ptrO (some x) = Value.pointer (some ⟨x, 0, none⟩) from rfl] at HM hdc
                    go_wp2_with (go_at_call 13; refine (HM.out _ ?_).mono ?_; (first | exact HB2.out | exact HB2.out.drew); rintro e w3 ⟨rfl, HB3⟩)
                    go_roundw
                    case rel => exact ⟨1, by omega, by go_num, HB3.out⟩
                    case measure => simp [intOf]; try omega
              · have qa : ((meth mi).toList == [65, 78, 89]) = false := any_f hlt5 hm0
                have HG := hide (HGET.out hm0)
                go_wp2_with (go_at_call 9; refine (hK9.out _).mono ?_; rintro e w' ⟨rfl, rfl⟩)
                go_region_held3 (fun w' => w'.cell? ⟨N, 23, none⟩ = some (ptrO (root 0)) ∧ w'.cell? ⟨G1, q, none⟩ = some (.slice (some ⟨g, 0, none⟩) (SS q).length (SS q).length)) (go_keep)
                  (first
                  | (go_at_call 12; refine (HG.out _ ?_).mono ?_; (first | exact HBM.out.drew | exact HBM.out); rintro e w' ⟨rfl, rfl⟩)
                  | (go_at_call 11; refine (HW.out _ ?_).mono ?_; (first | exact HBM.out.drew | exact HBM.out); rintro e w2 ⟨v, rfl, z1, z2, HB2, HGOT⟩))
                rcases HGOT.out with ⟨rfl, hr0⟩ | ⟨d, rfl, hdc⟩
                · cases hr0
                  simp only [show ptrO none = Value.pointer none from rfl] at HM
                  go_wp2_with (go_at_call 13; refine (HM.out _ ?_).mono ?_; (first | exact HB2.out | exact HB2.out.drew); rintro e w3 ⟨rfl, HB3⟩)
                  go_roundw
                  case rel => exact ⟨mi + 1, by omega, by go_num, HB3.out⟩
                  case measure => simp [intOf]; try omega
                · cases rho with
                  | none =>
                    simp only [show ptrO none = Value.pointer none from rfl] at HM hdc
                    go_wp2_with (go_at_call 13; refine (HM.out _ ?_).mono ?_; (first | exact HB2.out | exact HB2.out.drew); rintro e w3 ⟨rfl, HB3⟩)
                    go_roundw
                    case rel => exact ⟨mi + 1, by omega, by go_num, HB3.out⟩
                    case measure => simp [intOf]; try omega
                  | some x =>
                    simp only [show ptrO (some x) = Value.pointer (some ⟨x, 0, none⟩) from rfl] at HM hdc
                    go_wp2_with (go_at_call 13; refine (HM.out _ ?_).mono ?_; (first | exact HB2.out | exact HB2.out.drew); rintro e w3 ⟨rfl, HB3⟩)
                    go_roundw
                    case rel => exact ⟨mi + 1, by omega, by go_num, HB3.out⟩
                    case measure => simp [intOf]; try omega
            · obtain rfl : mi = 5 := by omega
              simp only [show ((5 : Nat) : Int) = 5 from rfl]
              go_wp2_with fail
              go_roundw
              case rel => exact ⟨q + 1, by omega, by go_num, HBM.out⟩
              case measure => simp [intOf]; omega
        · go_wp2_with fail
          go_ret
          exact ⟨rfl, HBW.out.trans (HBQ.out.mono HBW.out.size)⟩

end Go.Proofs.Ybulkavso
