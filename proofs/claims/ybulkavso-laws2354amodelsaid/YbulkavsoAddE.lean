import Derived.Test.YbulkavsoAdd
import Derived.Deep.OwnRows
namespace Go.Proofs.Ybulkavso
open Go.RowKit

set_option maxRecDepth 100000 in
set_option maxHeartbeats 1000000 in
theorem add_empty (bb pos k : Nat) (P : ByteArray) (lo c : UInt8) (ao : Option Addr) (cs : Array Value) (p0 p2 : Option Addr) (s1 : ByteArray) (w : World)
    (hb : w.heap[bb]? = some (.cells #[.int .i64 pos, .string P, .int .u8 lo.toNat, .slice ao k k] 88))
    (hsl : (k = 0 ∧ ao = none) ∨ ∃ ab, ao = some ⟨ab, 0, none⟩ ∧ w.heap[ab]? = some (.cells cs 83) ∧ ab ≠ bb)
    (hcs : cs.size = 3 * k) (hone : ∀ v ∈ cs.toList, v.oneCell' = true) (hk : k ≤ 255) (_hPs : P.size ≤ 256) (hP : P.data.toList = []) :
    Calls Yba.prog 36 #[.pointer (some ⟨bb, 0, none⟩), .int .u8 c.toNat, .agg #[.pointer p0, .string s1, .pointer p2]] w fun e w' => e = .returned (.tuple #[]) ∧ Added w bb pos k P lo c cs p0 s1 p2 w' := by
  have q0 : w.cell? ⟨bb, 0, none⟩ = some (.int .i64 pos) := by simp [World.cell?, hb]
  have q1 : w.cell? ⟨bb, 1, none⟩ = some (.string P) := by simp [World.cell?, hb]
  have q2 : w.cell? ⟨bb, 2, none⟩ = some (.int .u8 lo.toNat) := by simp [World.cell?, hb]
  have q3 : w.cell? ⟨bb, 3, none⟩ = some (.slice ao k k) := by simp [World.cell?, hb]
  have hbb : bb < w.heap.size := (Array.getElem?_eq_some_iff.1 hb).1
  have hbb1 : bb < w.heap.size + 1 := by omega
  have hcl := c.toNat_lt
  have hll := lo.toNat_lt
  obtain ⟨cap0, W0, hrun0, hrow0, hg0, hsz0⟩ := bytes_row' (w.alloc (.cells #[.pointer p0, .string s1, .pointer p2] 83)) P (w.heap.size + 1) (by simp)
  have HA0 : Hid (W0.heap[w.heap.size]? = some (.cells #[.pointer p0, .string s1, .pointer p2] 83)) :=
    (hg0.block _ (by simp) (by simp)).trans (heap_alloc_new w _)
  have HG0 : Hid (w.grownBy W0 none) := (World.grownBy_alloc w _ none).trans hg0
  have HB0 : Hid (W0.heap[bb]? = some (.cells #[.int .i64 pos, .string P, .int .u8 lo.toNat, .slice ao k k] 88)) := (HG0.out.block _ hbb (by simp)).trans hb
  have r1 : W0.cell? ⟨bb, 1, none⟩ = some (.string P) := by simp [World.cell?, HB0.out]
  have r2 : W0.cell? ⟨bb, 2, none⟩ = some (.int .u8 lo.toNat) := by simp [World.cell?, HB0.out]
  have r3 : W0.cell? ⟨bb, 3, none⟩ = some (.slice ao k k) := by simp [World.cell?, HB0.out]
  have fz2 : W0.frozen? ⟨bb, 2, none⟩ = false := by simp [World.frozen?, HB0.out]
  have HROW0 := hideIt hrow0
  have HSL := hideIt hsl
  have HCS := hideIt hcs
  have HONE := hideIt hone
  have HB := hideIt hb
  clear hg0 hrow0 hsl hcs hone hb
  have hP0 : ((P.size : Int) == 0) = true := beq_iff_eq.2 (by have h1 : P.data.toList.length = P.size := Array.length_toList; rw [hP] at h1; simp only [List.length_nil] at h1; omega)
  have HP := hideIt hP
  clear hP
  have hmk1 : ∀ wx : World, (Instr.makeSlice 40 (.int .i64 1) (.int .i64 1)).run Yba.prog wx = .ok (.slice (some ⟨wx.heap.size, 0, none⟩) 1 1) (wx.alloc (.cells #[.int .u8 0] 5)) := fun _ => by kernel_rfl
  have hbbW0 : bb < W0.heap.size := by omega
  go_enter Yba.func36, Yba.ntmps36
  go_wp2_with fail
  go_region
  go_wp2_with fail
  obtain ⟨W, hWW⟩ : ∃ W, W = ((W0.setCell ⟨bb, 2, none⟩ (.int .u8 (c.toNat : Int))).alloc (.cells #[.int .u8 0] 5)).drew := ⟨_, rfl⟩
  obtain ⟨g, hgg⟩ : ∃ g, g = w.heap.size + 1 + 1 := ⟨_, rfl⟩
  have hsz1 : (W0.setCell ⟨bb, 2, none⟩ (.int .u8 (c.toNat : Int))).heap.size = g := by simp; omega
  have hold : ∀ x, x < g → W.heap[x]? = (W0.setCell ⟨bb, 2, none⟩ (.int .u8 (c.toNat : Int))).heap[x]? := fun x hx => by
    rw [hWW]; exact Below.heap_alloc _ _ _ (by omega)
  have hbW : W.heap[bb]? = some (.cells #[.int .i64 pos, .string P, .int .u8 c.toNat, .slice ao k k] 88) :=
    (hold bb (by omega)).trans ((heap_set_same HB0.out _).trans rfl)
  have hA0W : W.heap[w.heap.size]? = some (.cells #[.pointer p0, .string s1, .pointer p2] 83) :=
    (hold _ (by omega)).trans ((heap_set_other _ (by omega)).trans HA0.out)
  have hgW : w.grownBy W (some bb) := by
    rw [hWW]
    refine ⟨HG0.out.os, HG0.out.tape, HG0.out.output, ?_, fun x hx hxb => ?_⟩
    · have := HG0.out.size; simp; omega
    · refine (Below.heap_alloc _ _ _ (by simp; omega)).trans ?_
      exact (heap_set_other _ (fun e => hxb (by rw [e]))).trans (HG0.out.block x hx (by simp))
  obtain ⟨X, hXX⟩ : ∃ X : List UInt8, X = [0] := ⟨_, rfl⟩
  have hrow : BRow W 5 g 1 1 (X.map fun b => Value.int .u8 b.toNat) := by
    rw [hXX]
    refine ⟨#[.int .u8 0], (0, 0), ?_, .inl rfl, rfl, Nat.le_refl _, rfl, rfl⟩
    rw [hWW, ← hsz1]
    exact heap_alloc_new _ _
  have hgge : w.heap.size < g := by omega
  have hidx : 0 < 1 := by omega
  have HPUR : Hid ((X).set 0 (UInt8.ofNat k) = growP P.data.toList lo c k ∧ c = growLo P.data.toList lo c) := by
    unfold growP growLo
    rw [if_pos HP.out, if_pos HP.out, hXX]
    exact ⟨rfl, rfl⟩
  rw [← hWW, ← hgg]
  clear hgg hXX hWW r1 r2 r3 fz2 q0 q1 q2 q3 hrun0 HP HROW0 HA0 HB0 HG0 hP0 hsz0 hsz1 hold hmk1

  have HB1 := hideIt hbW
  have t1 : W.cell? ⟨bb, 1, none⟩ = some (.string P) := by simp [World.cell?, HB1.out]
  have t2 : W.cell? ⟨bb, 2, none⟩ = some (.int .u8 c.toNat) := by simp [World.cell?, HB1.out]
  have t3 : W.cell? ⟨bb, 3, none⟩ = some (.slice ao k k) := by simp [World.cell?, HB1.out]
  have tf1 : W.frozen? ⟨bb, 1, none⟩ = false := by simp [World.frozen?, HB1.out]
  have tf3 : W.frozen? ⟨bb, 3, none⟩ = false := by simp [World.frozen?, HB1.out]
  have HSET := hideIt (hrow.set 0 hidx (UInt8.ofNat k))
  obtain ⟨u, hu⟩ := HSET.out.2.1
  have hfu := HSET.out.2.2
  have hkk : (UInt8.ofNat k).toNat = k := ofNat_nat (by omega)
  have hconv : (convert 40 9 (.slice (some ⟨g, 0, none⟩) 1 1)).run Yba.prog (W.setCell ⟨g, 0, none⟩ (.int .u8 (k : Int))).drew = .ok (.string ⟨((X).set 0 (UInt8.ofNat k)).toArray⟩) (W.setCell ⟨g, 0, none⟩ (.int .u8 (k : Int))).drew := by
    have := HSET.out.1
    rw [hkk] at this
    exact BRow.str (w := (W.setCell ⟨g, 0, none⟩ (.int .u8 (k : Int))).drew) this
  have hbg : ¬ bb = g := by omega
  have hgb : ¬ g = bb := by omega
  have hgsz : g < W.heap.size := hrow.lt
  have HROW := hideIt hrow
  have HGW := hideIt hgW
  have HA1 := hideIt hA0W
  have hk1 : (k : Int) % 256 = k := by omega
  have hmk := make83 (k + 1) (by omega)
  have ek : ((k + 1 : Nat) : Int) = (k : Int) + 1 := by omega
  rw [ek] at hmk
  have HKK := hideIt hkk
  have hidxI' : ((0 : Nat) : Int) < (1 : Int) := by omega
  clear hrow hgW hA0W hbW ek hkk
  have hbbW : bb < W.heap.size := by have := HGW.out.size; omega
  have hAW : w.heap.size < W.heap.size := (Array.getElem?_eq_some_iff.1 HA1.out).1
  obtain ⟨W5, hc5, hN5, hg5⟩ := copy_arms ao k cs (((W.setCell ⟨g, 0, none⟩ (.int .u8 (k : Int))).setCell ⟨bb, 1, none⟩ (.string ⟨((X).set 0 (UInt8.ofNat k)).toArray⟩))) W.heap.size (by simp) HCS.out HONE.out (by
    rcases HSL.out with ⟨h1, h2⟩ | ⟨ab, h1, h2, h3⟩
    · exact .inl ⟨h1, h2⟩
    · have hablt : ab < w.heap.size := (Array.getElem?_eq_some_iff.1 h2).1
      refine .inr ⟨ab, h1, ?_⟩
      rw [heap_set_other _ (by omega), heap_set_other _ (by omega), HGW.out.block ab hablt (by simp; omega)]
      exact h2)
  have hg5' : W.heap.size < W5.heap.size := (Array.getElem?_eq_some_iff.1 hN5).1
  have HB5 : Hid (W5.heap[bb]? = some (.cells #[.int .i64 pos, .string ⟨((X).set 0 (UInt8.ofNat k)).toArray⟩, .int .u8 c.toNat, .slice ao k k] 88)) := by
    refine (hg5.block bb ?_ ?_).trans ?_
    · simp; omega
    · simp; omega
    · refine (Below.heap_alloc _ _ _ (by simp; omega)).trans ?_
      have h1 : (W.setCell ⟨g, 0, none⟩ (.int .u8 (k : Int))).heap[bb]? = some (.cells #[.int .i64 pos, .string P, .int .u8 c.toNat, .slice ao k k] 88) := (heap_set_other _ hbg).trans HB1.out
      exact (heap_set_same h1 _).trans rfl
  have HA5 : Hid (W5.heap[w.heap.size]? = some (.cells #[.pointer p0, .string s1, .pointer p2] 83)) := by
    refine (hg5.block _ ?_ ?_).trans ?_
    · simp; omega
    · simp; omega
    · refine (Below.heap_alloc _ _ _ (by simp; omega)).trans ?_
      rw [heap_set_other _ (by omega), heap_set_other _ (by omega)]
      exact HA1.out
  have HG5 : Hid (w.grownBy W5 (some bb)) := by
    refine ⟨hg5.os.trans HGW.out.os, hg5.tape.trans HGW.out.tape, hg5.output.trans HGW.out.output, ?_, fun x hx hxb => ?_⟩
    · have := HGW.out.size; omega
    · have hxb' : x ≠ bb := fun e => hxb (by rw [e])
      refine (hg5.block x ?_ ?_).trans ?_
      · simp; omega
      · simp; omega
      · refine (Below.heap_alloc _ _ _ (by simp; omega)).trans ?_
        rw [heap_set_other _ hxb', heap_set_other _ (by omega)]
        exact HGW.out.block x hx hxb
  have HN5 := hideIt hN5
  have e1 : W5.cell? ⟨bb, 3, none⟩ = some (.slice ao k k) := by simp [World.cell?, HB5.out]
  have e2 : W5.frozen? ⟨bb, 3, none⟩ = false := by simp [World.frozen?, HB5.out]
  have e3 : W5.cell? ⟨w.heap.size, 0, none⟩ = some (.pointer p0) := by simp [World.cell?, HA5.out]
  have e4 : W5.cell? ⟨w.heap.size, 1, none⟩ = some (.string s1) := by simp [World.cell?, HA5.out]
  have e5 : W5.cell? ⟨w.heap.size, 2, none⟩ = some (.pointer p2) := by simp [World.cell?, HA5.out]
  have hsz5 : ((cs.toList ++ (madeCells #[Value.pointer none, .string ⟨#[]⟩, .pointer none] ((k + 1) * 3)).toList.drop cs.toList.length).toArray).size = (k + 1) * 3 := by
    have := HCS.out
    simp [size_madeCells]; omega
  obtain ⟨u0, e6⟩ := cell_of_size hN5 (k * 3) (by rw [hsz5]; omega)
  obtain ⟨u1, e7⟩ := cell_of_size hN5 (k * 3 + 1) (by rw [hsz5]; omega)
  obtain ⟨u2, e8⟩ := cell_of_size hN5 (k * 3 + 2) (by rw [hsz5]; omega)
  have e9 : W5.frozen? ⟨W.heap.size, k * 3, none⟩ = false := by simp [World.frozen?, HN5.out]
  have e10 : W5.frozen? ⟨W.heap.size, k * 3 + 1, none⟩ = false := by simp [World.frozen?, HN5.out]
  have e11 : W5.frozen? ⟨W.heap.size, k * 3 + 2, none⟩ = false := by simp [World.frozen?, HN5.out]
  have e12 : ¬ bb = W.heap.size := by omega
  have e13 : ¬ W.heap.size = bb := by omega
  have e14 : ¬ w.heap.size = W.heap.size := by omega
  clear hN5 hg5 hsz5
  go_region
  go_wp2_with fail
  go_region
  go_wp2_with fail
  go_end0
  refine ⟨rfl, ?_⟩
  refine ⟨W.heap.size, ?_, ?_, by omega, ?_⟩
  · rw [← HPUR.out.1, ← HPUR.out.2]
    have h1 : ((((W5.setCell ⟨W.heap.size, k * 3, none⟩ (.pointer p0)).setCell ⟨W.heap.size, k * 3 + 1, none⟩ (.string s1)).setCell ⟨W.heap.size, k * 3 + 2, none⟩ (.pointer p2)).heap[bb]?) = some (.cells #[.int .i64 pos, .string ⟨((X).set 0 (UInt8.ofNat k)).toArray⟩, .int .u8 c.toNat, .slice ao k k] 88) := by
      rw [heap_set_other _ e12, heap_set_other _ e12, heap_set_other _ e12]
      exact HB5.out
    exact (heap_set_same h1 _).trans rfl
  · refine (heap_set_other _ e13).trans ?_
    refine (heap_set_same (heap_set_same (heap_set_same HN5.out _) _) _).trans ?_
    rw [made_tail cs k HCS.out]
  · refine ⟨HG5.out.os, HG5.out.tape, HG5.out.output, ?_, fun x hx hxb => ?_⟩
    · have := HG5.out.size
      simp
      omega
    · have hxb' : x ≠ bb := fun e => hxb (by rw [e])
      refine (heap_set_other _ hxb').trans ?_
      rw [heap_set_other _ (by omega), heap_set_other _ (by omega), heap_set_other _ (by omega)]
      exact HG5.out.block x hx hxb

end Go.Proofs.Ybulkavso
