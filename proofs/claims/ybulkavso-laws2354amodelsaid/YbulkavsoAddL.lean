import Derived.Test.YbulkavsoAdd
import Derived.Deep.OwnRows
namespace Go.Proofs.Ybulkavso
open Go.RowKit

/-- 'append(make([]byte, m), picks...)': a new row, m zeros and then the old bytes. -/
theorem append_rows (P : ByteArray) (m : Nat) (w : World) (g1 g2 cap2 : Nat) (h1 : w.heap[g1]? = some (.cells (madeCells #[.int .u8 0] m) 5)) (h2 : BRow w 5 g2 P.size cap2 (P.data.toList.map fun b => Value.int .u8 b.toNat)) (hp : 0 < P.size) (hs : P.size ≤ 256) (hm : m ≤ 255) :
    ∃ (cap' : Nat) (w' : World), (∀ ty, (Builtin.append_ #[40, 40] ty #[.slice (some ⟨g1, 0, none⟩) m m, .slice (some ⟨g2, 0, none⟩) P.size cap2]).run Yba.prog w = .ok (.slice (some ⟨w.heap.size, 0, none⟩) (m + P.size) cap') w') ∧
      BRow w' 5 w.heap.size (m + P.size) cap' ((List.replicate m (0 : UInt8) ++ P.data.toList).map fun b : UInt8 => Value.int .u8 b.toNat) ∧ w.grownBy w' none := by
  obtain ⟨i, hi, hz0, hz1, hz2⟩ := info_parts info5'
  obtain ⟨cur, fz, hg, hfz, hc, hn, ht, hl⟩ := h2
  have hPl : P.data.toList.length = P.size := Array.length_toList
  have hr := fun ty => run_append_grow (P := Yba.prog) w 40 ty 5 i (.int .u8 0) Yba.underlying40 hi hz0 ⟨g1, 0, none⟩ m m (List.replicate m (.int .u8 0)) (by simp [hz1]) (by
    intro j v hj
    have hadd : (⟨g1, 0, none⟩ : Addr).add j = ⟨g1, j, none⟩ := by unfold Addr.add; split <;> simp_all
    rw [hadd]
    simp only [World.cell?, h1]
    have : (madeCells #[Value.int .u8 0] m)[j]? = (List.replicate m (Value.int .u8 0))[j]? := by rw [← Array.getElem?_toList, toList_madeCells_one]
    simpa [this] using hj) ⟨g2, 0, none⟩ P.size cap2 (P.data.toList.map fun b => Value.int .u8 b.toNat) (by simp [hz1]) (by
    intro j v hj
    have hadd : (⟨g2, 0, none⟩ : Addr).add j = ⟨g2, j, none⟩ := by unfold Addr.add; split <;> simp_all
    rw [hadd]
    simp only [World.cell?, hg]
    have hjn : j < P.size := by have := (List.getElem?_eq_some_iff.1 hj).1; simp at this; omega
    rw [← ht, List.getElem?_take, if_pos hjn] at hj
    simpa using hj) (by omega) (by omega) (growslice_fits (by omega) (by rw [hz2]; omega))
  refine ⟨_, _, hr, ⟨_, _, heap_alloc_new w.drew _, .inl rfl, ?_, grownCap_ge w _ _ _, ?_, by simp⟩, ⟨rfl, rfl, rfl, by simp, fun k hk _ => Below.heap_alloc w.drew _ k hk⟩⟩
  · have := grownCap_ge w (m + P.size) m 5
    have hz3 : (Value.int .u8 0).cells.size = 1 := rfl
    simp [size_zeroCells, hz3]
    omega
  · simp only [Array.toList_append]
    have e : m + P.size = ((List.replicate m (Value.int .u8 0)).toArray.toList ++ (P.data.toList.map fun b => Value.int .u8 b.toNat).toArray.toList).length := by simp
    rw [e, List.take_left]
    simp

set_option maxRecDepth 100000 in
set_option maxHeartbeats 1000000 in
theorem add_less (bb pos k : Nat) (P : ByteArray) (lo c : UInt8) (ao : Option Addr) (cs : Array Value) (p0 p2 : Option Addr) (s1 : ByteArray) (w : World)
    (hb : w.heap[bb]? = some (.cells #[.int .i64 pos, .string P, .int .u8 lo.toNat, .slice ao k k] 88))
    (hsl : (k = 0 ∧ ao = none) ∨ ∃ ab, ao = some ⟨ab, 0, none⟩ ∧ w.heap[ab]? = some (.cells cs 83) ∧ ab ≠ bb)
    (hcs : cs.size = 3 * k) (hone : ∀ v ∈ cs.toList, v.oneCell' = true) (hk : k ≤ 255) (_hPs : P.size ≤ 256) (hP : P.data.toList ≠ []) (h1 : c < lo) :
    Calls Yba.prog 36 #[.pointer (some ⟨bb, 0, none⟩), .int .u8 c.toNat, .agg #[.pointer p0, .string s1, .pointer p2]] w fun e w' => e = .returned (.tuple #[]) ∧ Added w bb pos k P lo c cs p0 s1 p2 w' := by
  have q0 : w.cell? ⟨bb, 0, none⟩ = some (.int .i64 pos) := by simp [World.cell?, hb]
  have q1 : w.cell? ⟨bb, 1, none⟩ = some (.string P) := by simp [World.cell?, hb]
  have q2 : w.cell? ⟨bb, 2, none⟩ = some (.int .u8 lo.toNat) := by simp [World.cell?, hb]
  have q3 : w.cell? ⟨bb, 3, none⟩ = some (.slice ao k k) := by simp [World.cell?, hb]
  have hbb : bb < w.heap.size := (Array.getElem?_eq_some_iff.1 hb).1
  have hbb1 : bb < w.heap.size + 1 := by omega
  have hcl := c.toNat_lt
  have hll := lo.toNat_lt
  obtain ⟨cap0, W0, hrun0, hrow0, hg0, hsz0⟩ := bytes_row' (w.alloc (.cells #[.pointer p0, .string s1, .pointer p2] 83)) P (w.heap.size + 1) (by simp)
  have HA0 : Hid (W0.heap[w.heap.size]? = some (.cells #[.pointer p0, .string s1, .pointer p2] 83)) :=
    (hg0.block _ (by simp) (by simp)).trans (heap_alloc_new w _)
  have HG0 : Hid (w.grownBy W0 none) := (World.grownBy_alloc w _ none).trans hg0
  have HB0 : Hid (W0.heap[bb]? = some (.cells #[.int .i64 pos, .string P, .int .u8 lo.toNat, .slice ao k k] 88)) := (HG0.out.block _ hbb (by simp)).trans hb
  have r1 : W0.cell? ⟨bb, 1, none⟩ = some (.string P) := by simp [World.cell?, HB0.out]
  have r2 : W0.cell? ⟨bb, 2, none⟩ = some (.int .u8 lo.toNat) := by simp [World.cell?, HB0.out]
  have r3 : W0.cell? ⟨bb, 3, none⟩ = some (.slice ao k k) := by simp [World.cell?, HB0.out]
  have fz2 : W0.frozen? ⟨bb, 2, none⟩ = false := by simp [World.frozen?, HB0.out]
  have HROW0 := hideIt hrow0
  have HSL := hideIt hsl
  have HCS := hideIt hcs
  have HONE := hideIt hone
  have HB := hideIt hb
  clear hg0 hrow0 hsl hcs hone hb
  rw [lt_nat] at h1
  obtain ⟨m, hm⟩ : ∃ m : Nat, m = lo.toNat - c.toNat := ⟨_, rfl⟩
  have hmm : ((lo.toNat : Int) - c.toNat) % 256 = m := by omega
  have hmm2 : ((lo.toNat : Int) - c.toNat) = m := by omega
  have hPpos : 0 < P.size := by
    rcases Nat.eq_zero_or_pos P.size with h | h
    · exact absurd (List.length_eq_zero_iff.1 (by have h1 : P.data.toList.length = P.size := Array.length_toList; omega)) hP
    · exact h
  have hP0 : ((P.size : Int) == 0) = false := beq_eq_false_iff_ne.2 (by omega)
  have hm256 : m ≤ 255 := by omega
  have hmpos : 0 < m := by omega
  have HP := hideIt hP
  clear hP
  have hmk1 := run_make_row' (P := Yba.prog) 40 5 (.int .u8 0) 1 Yba.underlying40 info5' rfl .u8 .u8 m (by omega) (by omega)
  obtain ⟨cap1, W1, hap, hrow1, hg1⟩ := append_rows P m (W0.alloc (.cells (madeCells #[.int .u8 0] m) 5)) W0.heap.size (w.heap.size + 1) cap0 (heap_alloc_new W0 _) (HROW0.out.kept (Below.heap_alloc W0 _ _ (by omega))) hPpos _hPs hm256
  have hbbW0 : bb < W0.heap.size := by omega
  have hle0 : w.heap.size + 1 < W0.heap.size := by omega
  have HM := hideIt hm
  have HMM := hideIt hmm2
  clear hm hsz0
  have hbW1 : Hid (W1.heap[bb]? = some (.cells #[.int .i64 pos, .string P, .int .u8 lo.toNat, .slice ao k k] 88)) :=
    (hg1.block bb (by simp; omega) (by simp)).trans ((Below.heap_alloc W0 _ _ hbbW0).trans HB0.out)
  have hA1 : Hid (W1.heap[w.heap.size]? = some (.cells #[.pointer p0, .string s1, .pointer p2] 83)) :=
    (hg1.block _ (by simp; omega) (by simp)).trans ((Below.heap_alloc W0 _ _ (by omega)).trans HA0.out)
  have hG1 : Hid (w.grownBy W1 none) := HG0.out.trans ((World.grownBy_alloc W0 _ none).trans hg1)
  have y2 : W1.cell? ⟨bb, 2, none⟩ = some (.int .u8 lo.toNat) := by simp [World.cell?, hbW1.out]
  have yf : W1.frozen? ⟨bb, 2, none⟩ = false := by simp [World.frozen?, hbW1.out]
  have hszA : (W0.alloc (.cells (madeCells #[.int .u8 0] m) 5)).heap.size = W0.heap.size + 1 := by simp
  rw [hszA] at hap hrow1
  have HROW1 := hideIt hrow1
  clear hrow1 hg1 hszA
  have hd1 : decide (c.toNat < lo.toNat) = true := decide_eq_true h1
  go_enter Yba.func36, Yba.ntmps36
  go_wp2_with (at_builtin; refine Lib.wpList_append_run _ rfl (.tmp 35) (.tmp 36) 40 40 rfl _ _ rfl rfl _ _ (hap _) ?_)
  obtain ⟨W, hWW⟩ : ∃ W, W = W1.setCell ⟨bb, 2, none⟩ (.int .u8 (c.toNat : Int)) := ⟨_, rfl⟩
  obtain ⟨g, hgg⟩ : ∃ g, g = W0.heap.size + 1 := ⟨_, rfl⟩
  obtain ⟨n, hnn⟩ : ∃ n, n = m + P.size := ⟨_, rfl⟩
  obtain ⟨X, hXX⟩ : ∃ X : List UInt8, X = List.replicate m 0 ++ P.data.toList := ⟨_, rfl⟩
  have hbW : W.heap[bb]? = some (.cells #[.int .i64 pos, .string P, .int .u8 c.toNat, .slice ao k k] 88) := by
    rw [hWW]; exact (heap_set_same hbW1.out _).trans rfl
  have hA0W : W.heap[w.heap.size]? = some (.cells #[.pointer p0, .string s1, .pointer p2] 83) := by
    rw [hWW]; exact (heap_set_other _ (by omega)).trans hA1.out
  have hgW : w.grownBy W (some bb) := by
    rw [hWW]
    refine ⟨hG1.out.os, hG1.out.tape, hG1.out.output, ?_, fun x hx hxb => ?_⟩
    · have := hG1.out.size; simp; omega
    · exact (heap_set_other _ (fun e => hxb (by rw [e]))).trans (hG1.out.block x hx (by simp))
  have hrow : BRow W 5 g n cap1 (X.map fun b => Value.int .u8 b.toNat) := by
    rw [hWW, hgg, hnn, hXX]
    exact HROW1.out.kept (heap_set_other _ (by omega))
  have hgge : w.heap.size < g := by omega
  have hidx : 0 < n := by omega
  have HPUR : Hid ((X).set 0 (UInt8.ofNat k) = growP P.data.toList lo c k ∧ c = growLo P.data.toList lo c) := by
    have hcl : c < lo := by rw [lt_nat]; exact h1
    have hd : (lo - c).toNat = m := by rw [sub_nat, HM.out]; omega
    unfold growP growLo
    rw [if_neg HP.out, if_neg HP.out, if_pos hcl, if_pos hcl, hXX, hd]
    exact ⟨rfl, rfl⟩
  rw [← hWW, ← hgg, ← hnn]
  clear hgg hnn hXX hWW r1 r2 r3 fz2 q0 q1 q2 q3 hrun0 HP HROW0 HROW1 HA0 HB0 HG0 hP0 hmk1 hap hmm hmm2 HM HMM hbW1 hA1 hG1 y2 yf hd1 h1

  have HB1 := hideIt hbW
  have t1 : W.cell? ⟨bb, 1, none⟩ = some (.string P) := by simp [World.cell?, HB1.out]
  have t2 : W.cell? ⟨bb, 2, none⟩ = some (.int .u8 c.toNat) := by simp [World.cell?, HB1.out]
  have t3 : W.cell? ⟨bb, 3, none⟩ = some (.slice ao k k) := by simp [World.cell?, HB1.out]
  have tf1 : W.frozen? ⟨bb, 1, none⟩ = false := by simp [World.frozen?, HB1.out]
  have tf3 : W.frozen? ⟨bb, 3, none⟩ = false := by simp [World.frozen?, HB1.out]
  have HSET := hideIt (hrow.set 0 hidx (UInt8.ofNat k))
  obtain ⟨u, hu⟩ := HSET.out.2.1
  have hfu := HSET.out.2.2
  have hkk : (UInt8.ofNat k).toNat = k := ofNat_nat (by omega)
  have hconv : (convert 40 9 (.slice (some ⟨g, 0, none⟩) n cap1)).run Yba.prog (W.setCell ⟨g, 0, none⟩ (.int .u8 (k : Int))).drew = .ok (.string ⟨((X).set 0 (UInt8.ofNat k)).toArray⟩) (W.setCell ⟨g, 0, none⟩ (.int .u8 (k : Int))).drew := by
    have := HSET.out.1
    rw [hkk] at this
    exact BRow.str (w := (W.setCell ⟨g, 0, none⟩ (.int .u8 (k : Int))).drew) this
  have hbg : ¬ bb = g := by omega
  have hgb : ¬ g = bb := by omega
  have hgsz : g < W.heap.size := hrow.lt
  have HROW := hideIt hrow
  have HGW := hideIt hgW
  have HA1 := hideIt hA0W
  have hk1 : (k : Int) % 256 = k := by omega
  have hmk := make83 (k + 1) (by omega)
  have ek : ((k + 1 : Nat) : Int) = (k : Int) + 1 := by omega
  rw [ek] at hmk
  have HKK := hideIt hkk
  have hidxI' : ((0 : Nat) : Int) < (n : Int) := by omega
  clear hrow hgW hA0W hbW ek hkk
  have hbbW : bb < W.heap.size := by have := HGW.out.size; omega
  have hAW : w.heap.size < W.heap.size := (Array.getElem?_eq_some_iff.1 HA1.out).1
  obtain ⟨W5, hc5, hN5, hg5⟩ := copy_arms ao k cs (((W.setCell ⟨g, 0, none⟩ (.int .u8 (k : Int))).setCell ⟨bb, 1, none⟩ (.string ⟨((X).set 0 (UInt8.ofNat k)).toArray⟩))) W.heap.size (by simp) HCS.out HONE.out (by
    rcases HSL.out with ⟨h1, h2⟩ | ⟨ab, h1, h2, h3⟩
    · exact .inl ⟨h1, h2⟩
    · have hablt : ab < w.heap.size := (Array.getElem?_eq_some_iff.1 h2).1
      refine .inr ⟨ab, h1, ?_⟩
      rw [heap_set_other _ (by omega), heap_set_other _ (by omega), HGW.out.block ab hablt (by simp; omega)]
      exact h2)
  have hg5' : W.heap.size < W5.heap.size := (Array.getElem?_eq_some_iff.1 hN5).1
  have HB5 : Hid (W5.heap[bb]? = some (.cells #[.int .i64 pos, .string ⟨((X).set 0 (UInt8.ofNat k)).toArray⟩, .int .u8 c.toNat, .slice ao k k] 88)) := by
    refine (hg5.block bb ?_ ?_).trans ?_
    · simp; omega
    · simp; omega
    · refine (Below.heap_alloc _ _ _ (by simp; omega)).trans ?_
      have h1 : (W.setCell ⟨g, 0, none⟩ (.int .u8 (k : Int))).heap[bb]? = some (.cells #[.int .i64 pos, .string P, .int .u8 c.toNat, .slice ao k k] 88) := (heap_set_other _ hbg).trans HB1.out
      exact (heap_set_same h1 _).trans rfl
  have HA5 : Hid (W5.heap[w.heap.size]? = some (.cells #[.pointer p0, .string s1, .pointer p2] 83)) := by
    refine (hg5.block _ ?_ ?_).trans ?_
    · simp; omega
    · simp; omega
    · refine (Below.heap_alloc _ _ _ (by simp; omega)).trans ?_
      rw [heap_set_other _ (by omega), heap_set_other _ (by omega)]
      exact HA1.out
  have HG5 : Hid (w.grownBy W5 (some bb)) := by
    refine ⟨hg5.os.trans HGW.out.os, hg5.tape.trans HGW.out.tape, hg5.output.trans HGW.out.output, ?_, fun x hx hxb => ?_⟩
    · have := HGW.out.size; omega
    · have hxb' : x ≠ bb := fun e => hxb (by rw [e])
      refine (hg5.block x ?_ ?_).trans ?_
      · simp; omega
      · simp; omega
      · refine (Below.heap_alloc _ _ _ (by simp; omega)).trans ?_
        rw [heap_set_other _ hxb', heap_set_other _ (by omega)]
        exact HGW.out.block x hx hxb
  have HN5 := hideIt hN5
  have e1 : W5.cell? ⟨bb, 3, none⟩ = some (.slice ao k k) := by simp [World.cell?, HB5.out]
  have e2 : W5.frozen? ⟨bb, 3, none⟩ = false := by simp [World.frozen?, HB5.out]
  have e3 : W5.cell? ⟨w.heap.size, 0, none⟩ = some (.pointer p0) := by simp [World.cell?, HA5.out]
  have e4 : W5.cell? ⟨w.heap.size, 1, none⟩ = some (.string s1) := by simp [World.cell?, HA5.out]
  have e5 : W5.cell? ⟨w.heap.size, 2, none⟩ = some (.pointer p2) := by simp [World.cell?, HA5.out]
  have hsz5 : ((cs.toList ++ (madeCells #[Value.pointer none, .string ⟨#[]⟩, .pointer none] ((k + 1) * 3)).toList.drop cs.toList.length).toArray).size = (k + 1) * 3 := by
    have := HCS.out
    simp [size_madeCells]; omega
  obtain ⟨u0, e6⟩ := cell_of_size hN5 (k * 3) (by rw [hsz5]; omega)
  obtain ⟨u1, e7⟩ := cell_of_size hN5 (k * 3 + 1) (by rw [hsz5]; omega)
  obtain ⟨u2, e8⟩ := cell_of_size hN5 (k * 3 + 2) (by rw [hsz5]; omega)
  have e9 : W5.frozen? ⟨W.heap.size, k * 3, none⟩ = false := by simp [World.frozen?, HN5.out]
  have e10 : W5.frozen? ⟨W.heap.size, k * 3 + 1, none⟩ = false := by simp [World.frozen?, HN5.out]
  have e11 : W5.frozen? ⟨W.heap.size, k * 3 + 2, none⟩ = false := by simp [World.frozen?, HN5.out]
  have e12 : ¬ bb = W.heap.size := by omega
  have e13 : ¬ W.heap.size = bb := by omega
  have e14 : ¬ w.heap.size = W.heap.size := by omega
  clear hN5 hg5 hsz5
  go_region
  go_wp2_with fail
  go_region
  go_wp2_with fail
  go_end0
  refine ⟨rfl, ?_⟩
  refine ⟨W.heap.size, ?_, ?_, by omega, ?_⟩
  · rw [← HPUR.out.1, ← HPUR.out.2]
    have h1 : ((((W5.setCell ⟨W.heap.size, k * 3, none⟩ (.pointer p0)).setCell ⟨W.heap.size, k * 3 + 1, none⟩ (.string s1)).setCell ⟨W.heap.size, k * 3 + 2, none⟩ (.pointer p2)).heap[bb]?) = some (.cells #[.int .i64 pos, .string ⟨((X).set 0 (UInt8.ofNat k)).toArray⟩, .int .u8 c.toNat, .slice ao k k] 88) := by
      rw [heap_set_other _ e12, heap_set_other _ e12, heap_set_other _ e12]
      exact HB5.out
    exact (heap_set_same h1 _).trans rfl
  · refine (heap_set_other _ e13).trans ?_
    refine (heap_set_same (heap_set_same (heap_set_same HN5.out _) _) _).trans ?_
    rw [made_tail cs k HCS.out]
  · refine ⟨HG5.out.os, HG5.out.tape, HG5.out.output, ?_, fun x hx hxb => ?_⟩
    · have := HG5.out.size
      simp
      omega
    · have hxb' : x ≠ bb := fun e => hxb (by rw [e])
      refine (heap_set_other _ hxb').trans ?_
      rw [heap_set_other _ (by omega), heap_set_other _ (by omega), heap_set_other _ (by omega)]
      exact HG5.out.block x hx hxb

end Go.Proofs.Ybulkavso
