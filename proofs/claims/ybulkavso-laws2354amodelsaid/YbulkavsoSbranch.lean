/-
  (statics).clone, walked: a branch.
-/
import Derived.Test.YbulkavsoArmsEnd
import Derived.BigRegion
import Derived.Deep.RegionHeld3
namespace Go.Proofs.Ybulkavso
open Go.RowKit

set_option maxRecDepth 100000 in
set_option maxHeartbeats 4000000 in
theorem sclone_branch (n m : Nat) (bb ab k pos : Nat) (P : ByteArray) (l0 : UInt8) (ch : Nat → UInt8) (Sf : Nat → ByteArray → Nat → Prop) (S : ByteArray → Nat → Prop) (Rt : ByteArray → Tell) (cs : Array Value) (w : World)
    (hb : w.heap[bb]? = some (.cells #[.int .i64 pos, .string P, .int .u8 l0.toNat, .slice (some ⟨ab, 0, none⟩) k k] 88)) (ha : w.heap[ab]? = some (.cells cs 83)) (hcs : cs.size = 3 * k) (hk : 2 ≤ k) (hk2 : k ≤ 256) (hp : pos ≤ 256) (hP : Picks P.data.toList l0 k ch)
    (h3 : ∀ t c, S t c ↔ ∃ i, i < k ∧ Sf i t c) (h4 : ∀ t c t' c', S t c → S t' c' → ∀ j, j < pos → bAt t.data.toList j = bAt t'.data.toList j) (h5 : ∀ i t c, i < k → Sf i t c → bAt t.data.toList pos = ch i)
    (harm : ∀ i, i < k → ∃ (p0 : Option Addr) (s1 : ByteArray) (p2 : Option Addr), cs[3 * i]? = some (.pointer p0) ∧ cs[3 * i + 1]? = some (.string s1) ∧ cs[3 * i + 2]? = some (.pointer p2) ∧
      ∀ w2, Below w.heap.size w w2 → Calls Yba.prog 33 #[.agg #[.pointer p0, .string s1, .pointer p2]] w2 fun e w' => ScloneOk n m w2 w' (Sf i) Rt e) :
    Calls Yba.prog 33 #[.agg #[.pointer (some ⟨bb, 0, none⟩), .string ⟨#[]⟩, .pointer none]] w fun e w' => ScloneOk n (m + 1) w w' S Rt e := by
  obtain ⟨W0, hW0⟩ : ∃ W0, W0 = (w.alloc (.cells #[.pointer (some ⟨bb, 0, none⟩), .string ⟨#[]⟩, .pointer none] 83)).alloc (.cells #[.pointer none, .string ⟨#[]⟩, .pointer none] 83) := ⟨_, rfl⟩
  have hbl : bb < w.heap.size := (Array.getElem?_eq_some_iff.1 hb).1
  have hal : ab < w.heap.size := (Array.getElem?_eq_some_iff.1 ha).1
  have hsz : W0.heap.size = w.heap.size + 2 := by rw [hW0]; simp
  have b1 : W0.heap[w.heap.size]? = some (.cells #[.pointer (some ⟨bb, 0, none⟩), .string ⟨#[]⟩, .pointer none] 83) := by
    rw [hW0]; exact (Below.heap_alloc _ _ _ (by simp)).trans (heap_alloc_new w _)
  have b2 : W0.heap[w.heap.size + 1]? = some (.cells #[.pointer none, .string ⟨#[]⟩, .pointer none] 83) := by
    rw [hW0]
    have := heap_alloc_new (w.alloc (.cells #[.pointer (some ⟨bb, 0, none⟩), .string ⟨#[]⟩, .pointer none] 83)) (.cells #[.pointer none, .string ⟨#[]⟩, .pointer none] 83)
    simpa using this
  have hbel : Below w.heap.size w W0 := by rw [hW0]; exact ((Below.refl _ _).alloc (Nat.le_refl _) _).alloc (by simp) _
  have hb0 : W0.heap[bb]? = some (.cells #[.int .i64 pos, .string P, .int .u8 l0.toNat, .slice (some ⟨ab, 0, none⟩) k k] 88) := (hbel.block bb hbl).trans hb
  have k0 : W0.cell? ⟨w.heap.size, 0, none⟩ = some (.pointer (some ⟨bb, 0, none⟩)) := by simp [World.cell?, b1]
  have q0 : W0.cell? ⟨bb, 0, none⟩ = some (.int .i64 pos) := by simp [World.cell?, hb0]
  have q1 : W0.cell? ⟨bb, 1, none⟩ = some (.string P) := by simp [World.cell?, hb0]
  have q2 : W0.cell? ⟨bb, 2, none⟩ = some (.int .u8 l0.toNat) := by simp [World.cell?, hb0]
  have q3 : W0.cell? ⟨bb, 3, none⟩ = some (.slice (some ⟨ab, 0, none⟩) k k) := by simp [World.cell?, hb0]
  have hmk := make83 k (by omega)
  have hbW : bb < W0.heap.size := by omega
  have hwW : w.heap.size < W0.heap.size := by omega
  have hw1W : w.heap.size + 1 < W0.heap.size := by omega
  have haW : ab < W0.heap.size := by omega
  have HSZ := hide hsz
  have HB1 := hide b1
  have HB2 := hide b2
  have HBEL := hide hbel
  have HB := hide hb
  have HA := hide ha
  have HCS := hide hcs
  have HP := hide hP
  have H3 := hide h3
  have H4 := hide h4
  have H5 := hide h5
  have HARM := hide harm
  clear b1 b2 hbel hb ha hcs hP h3 h4 h5 harm hb0 hsz
  go_enter Yba.func33, Yba.ntmps33
  go_wp2_with fail
  rw [← hW0]
  clear hW0
  go_region_held3 (fun w' => w'.cell? ⟨w.heap.size, 0, none⟩ = some (.pointer (some ⟨bb, 0, none⟩)) ∧ w'.cell? ⟨bb, 0, none⟩ = some (.int .i64 pos) ∧ w'.cell? ⟨bb, 1, none⟩ = some (.string P) ∧ w'.cell? ⟨bb, 2, none⟩ = some (.int .u8 l0.toNat) ∧ w'.cell? ⟨bb, 3, none⟩ = some (.slice (some ⟨ab, 0, none⟩) k k)) (go_keep) (fail)
  go_wp2_with fail
  obtain ⟨A, hAe⟩ : ∃ A, A = W0.heap.size := ⟨_, rfl⟩
  obtain ⟨W1, hW1⟩ : ∃ W1, W1 = ((W0.alloc (.cells (madeCells #[.pointer none, .string ⟨#[]⟩, .pointer none] (k * 3)) 83)).alloc (.cells #[.int .i64 pos, .string P, .int .u8 l0.toNat, .slice (some ⟨W0.heap.size, 0, none⟩) k k] 88)).drew := ⟨_, rfl⟩
  have HINV : Hid (ArmInv n m w A (A + 1) (w.heap.size + 1) (A + 2) k (.cells #[.int .i64 pos, .string P, .int .u8 l0.toNat, .slice (some ⟨A, 0, none⟩) k k] 88) (.cells #[.pointer none, .string ⟨#[]⟩, .pointer none] 83) Sf Rt 0 W1) := by
      have hs := HSZ.out
      have e1 : W1.heap[A]? = some (.cells (madeCells #[.pointer none, .string ⟨#[]⟩, .pointer none] (k * 3)) 83) := by
        rw [hW1, hAe]; exact (Below.heap_alloc _ _ _ (by simp)).trans (heap_alloc_new W0 _)
      have e2 : W1.heap[A + 1]? = some (.cells #[.int .i64 pos, .string P, .int .u8 l0.toNat, .slice (some ⟨A, 0, none⟩) k k] 88) := by
        rw [hW1, hAe]
        exact heap_alloc2_new W0 _ _
      have e3 : W1.heap[w.heap.size + 1]? = some (.cells #[.pointer none, .string ⟨#[]⟩, .pointer none] 83) := by
        rw [hW1]
        exact (Below.heap_alloc _ _ _ (by simp; omega)).trans ((Below.heap_alloc W0 _ _ hw1W).trans HB2.out)
      have e4 : Below w.heap.size w W1 := by
        rw [hW1]
        exact ((HBEL.out.alloc (by omega) _).alloc (by simp; omega) _).drew
      exact ArmInv.start e4 e2 e3 e1 (by rw [size_madeCells]; omega) (by rw [hW1, hAe]; simp)
  rw [← hW1, ← hAe]
  have hAw : A = w.heap.size + 2 := by rw [hAe]; exact HSZ.out
  have HAW := hide hAw
  have hA1 : w.heap.size + 1 < A := by omega
  clear hW1 hAe hmk q0 q1 q2 q3 k0 hbW hwW hw1W haW HB1 HB2 HBEL HSZ hAw
  go_loopw [45] (fun v wr => ∃ i : Nat, i ≤ k ∧ v = .int .i64 i ∧ ArmInv n m w A (A + 1) (w.heap.size + 1) (A + 2) k (.cells #[.int .i64 pos, .string P, .int .u8 l0.toNat, .slice (some ⟨A, 0, none⟩) k k] 88) (.cells #[.pointer none, .string ⟨#[]⟩, .pointer none] 83) Sf Rt i wr) (fun v _ => k - (intOf v).toNat)
  case atStart => exact ⟨0, Nat.zero_le _, rfl, HINV.out⟩
  case round =>
    obtain ⟨i, hi, rfl, hinv⟩ := hrel
    have HV := hide hinv
    clear hinv
    by_cases hlt : i < k
    · obtain ⟨p0, s1, p2, a0, a1, a2, hcall⟩ := HARM.out i hlt
      have HCALL := hide hcall
      have har : wr.heap[ab]? = some (.cells cs 83) := (HV.out.1.block ab hal).trans HA.out
      have r0 : wr.cell? ⟨ab, i * 3, none⟩ = some (.pointer p0) := by simp only [World.cell?, har]; rw [Nat.mul_comm]; exact a0
      have r1 : wr.cell? ⟨ab, i * 3 + 1, none⟩ = some (.string s1) := by simp only [World.cell?, har]; rw [Nat.mul_comm]; exact a1
      have r2 : wr.cell? ⟨ab, i * 3 + 2, none⟩ = some (.pointer p2) := by simp only [World.cell?, har]; rw [Nat.mul_comm]; exact a2
      have hBr : A + 1 < wr.heap.size := (Array.getElem?_eq_some_iff.1 HV.out.2.1).1
      have c3 : wr.cell? ⟨A + 1, 3, none⟩ = some (.slice (some ⟨A, 0, none⟩) k k) := by simp only [World.cell?, HV.out.2.1]; rfl
      have HC := hide (HV.out.contract hlt HAW.out HCALL.out)
      clear a0 a1 a2 hcall har
      go_wp2_with fail
      go_region_with (go_at_call 33; refine (HC.out _ ?_).mono ?_; exact ⟨1, rfl⟩; rintro e w2 ⟨q0, t1, q2, u0, u1, u2, rfl, d0, d1, d2, d3, d4, d5, d6, HN⟩)
      all_goals
        go_wp2_with fail
        go_roundw
        case rel => exact ⟨i + 1, by omega, by go_num, HN⟩
        case measure => simp [intOf]; omega
    · obtain rfl : i = k := by omega
      obtain ⟨s0, s1, s2, f0, f1, f2, HG, HFIN⟩ := HV.out.done HAW.out hk hp HP.out H3.out H4.out H5.out
      go_wp2_with fail
      exact bodyPost_ret (res83 _ rfl HG.out rfl) rfl HFIN.out

end Go.Proofs.Ybulkavso
