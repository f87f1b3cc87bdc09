/-
  (*branch).add: the table widened to reach the byte, and one arm more, in a new row.
-/
import Derived.Test.YbulkavsoByte
import Derived.Test.YbulkavsoLaws
import Derived.Laws.BytesArg
import Derived.Deep.RegionWith
namespace Go.Proofs.Ybulkavso
open Go.RowKit

theorem hideIt {p : Prop} (h : p) : Hid p := h

theorem info83 : (Yba.prog.info? 83).map (fun i => (i.zero, i.size, i.bytes)) = some (some (.agg #[.pointer none, .string ⟨#[]⟩, .pointer none]), 3, 32) := by kernel_rfl
theorem size83 : (Yba.prog.info? 83).map (·.size) = some 3 := by kernel_rfl
theorem info5' : (Yba.prog.info? 5).map (fun i => (i.zero, i.size, i.bytes)) = some (some (.int .u8 0), 1, 1) := by kernel_rfl

theorem bytes_row' (w : World) (s : ByteArray) (g : Nat) (hg : w.heap.size = g) :
    ∃ (cap : Nat) (w' : World), (convert 9 40 (.string s)).run Yba.prog w = .ok (.slice (some ⟨g, 0, none⟩) s.size cap) w' ∧
      BRow w' 5 g s.size cap (s.data.toList.map fun b => Value.int .u8 b.toNat) ∧ w.grownBy w' none ∧ w'.heap.size = g + 1 := by
  subst hg
  exact bytes_row w 9 40 5 s Yba.underlying9 Yba.underlying40 Yba.underlying5

/-- 'make([]statics, n)'. -/
theorem make83 (n : Nat) (hn : n ≤ 4096) (w : World) : (Instr.makeSlice 86 (.int .i64 (n : Int)) (.int .i64 (n : Int))).run Yba.prog w =
    .ok (.slice (some ⟨w.heap.size, 0, none⟩) n n) (w.alloc (.cells (madeCells #[.pointer none, .string ⟨#[]⟩, .pointer none] (n * 3)) 83)) := by
  obtain ⟨i, hi, hz0, hz1, hz2⟩ := info_parts info83
  have h := run_make (P := Yba.prog) w 86 83 i _ Yba.underlying86 hi hz0 .i64 .i64 n n (by omega) (Int.le_refl _) (by rw [hz2]; omega) (by omega)
  simp only [Int.toNat_natCast, hz1] at h
  exact h

/-- What the walk of 'add' comes to. -/
def Added (w : World) (bb pos k : Nat) (P : ByteArray) (lo c : UInt8) (cs : Array Value) (p0 : Option Addr) (s1 : ByteArray) (p2 : Option Addr) (w' : World) : Prop :=
  ∃ A : Nat, w'.heap[bb]? = some (.cells #[.int .i64 pos, .string ⟨(growP P.data.toList lo c k).toArray⟩, .int .u8 (growLo P.data.toList lo c).toNat, .slice (some ⟨A, 0, none⟩) (k + 1) (k + 1)] 88) ∧
    w'.heap[A]? = some (.cells (cs ++ #[.pointer p0, .string s1, .pointer p2]) 83) ∧ w.heap.size ≤ A ∧ w.grownBy w' (some bb)

/-- A row with one cell written. -/
theorem BRow.set {w : World} {e g n cap : Nat} {X : List UInt8} (h : BRow w e g n cap (X.map fun b => Value.int .u8 b.toNat)) (j : Nat) (hj : j < n) (v : UInt8) :
    BRow (w.setCell ⟨g, j, none⟩ (.int .u8 v.toNat)) e g n cap ((X.set j v).map fun b => Value.int .u8 b.toNat) ∧ (∃ u, w.cell? ⟨g, j, none⟩ = some u) ∧ w.frozen? ⟨g, j, none⟩ = false := by
  obtain ⟨cur, fz, hg, hfz, hc, hn, ht, hl⟩ := h
  refine ⟨⟨cur.setIfInBounds j (.int .u8 v.toNat), fz, heap_set_same hg _, by simpa using hfz, by simpa using hc, hn, ?_, by simpa using hl⟩, ?_, not_frozen hg hfz (by omega)⟩
  · rw [Array.toList_setIfInBounds, List.take_set, ht, List.map_set]
  · have : j < cur.size := by omega
    exact ⟨cur[j], by simp [World.cell?, hg, this]⟩

theorem BRow.str {w : World} {g n cap : Nat} {X : List UInt8} (h : BRow w 5 g n cap (X.map fun b => Value.int .u8 b.toNat)) :
    (convert 40 9 (.slice (some ⟨g, 0, none⟩) n cap)).run Yba.prog w = .ok (.string ⟨X.toArray⟩) w := by
  obtain ⟨cur, fz, hg, hfz, hc, hn, ht, hl⟩ := h
  have hXn : X.length = n := by simpa using hl
  have hr := run_convert_bytes_arg w 40 5 Yba.underlying40 Yba.underlying5 g 0 n cap (X.map fun b => (b.toNat : Int)) (by simpa using hXn) (fun i hi => by
    rw [Nat.zero_add]
    have h1 : (cur.toList.take n)[i]? = (X.map fun b => Value.int .u8 b.toNat)[i]? := by rw [ht]
    rw [List.getElem?_take, if_pos hi] at h1
    have hiX : i < X.length := by omega
    rw [List.getElem?_map, List.getElem?_eq_getElem hiX] at h1
    simp only [World.cell?, hg]
    have h2 : cur[i]? = some (.int .u8 X[i].toNat) := by simpa using h1
    simp [h2, List.getD, List.getElem?_eq_getElem hiX]) 9 Yba.underlying9
  have e : strOfNums (X.map fun b => (b.toNat : Int)) = ⟨X.toArray⟩ := by
    unfold strOfNums
    rw [List.map_map]
    have : (fun n : Int => UInt8.ofNat n.toNat) ∘ (fun b : UInt8 => (b.toNat : Int)) = id := by
      funext b
      simp
    rw [this, List.map_id]
  rw [hr, e]

theorem BRow.kept {w w' : World} {e g n cap : Nat} {xs : List Value} (h : BRow w e g n cap xs) (hk : w'.heap[g]? = w.heap[g]?) : BRow w' e g n cap xs := by
  obtain ⟨cur, fz, hg, r⟩ := h
  exact ⟨cur, fz, hk.trans hg, r⟩

theorem BRow.lt {w : World} {e g n cap : Nat} {xs : List Value} (h : BRow w e g n cap xs) : g < w.heap.size := by
  obtain ⟨cur, fz, hg, _⟩ := h
  exact (Array.getElem?_eq_some_iff.1 hg).1

theorem cell_of_size {w : World} {b : Nat} {cs : Array Value} {t : TypeId} {fz : Nat × Nat} (h : w.heap[b]? = some (.cells cs t fz)) (j : Nat) (hj : j < cs.size) : ∃ u, w.cell? ⟨b, j, none⟩ = some u :=
  ⟨cs[j], by simp [World.cell?, h, hj]⟩

/-- 'copy(arms, b.arms)' onto the new row. -/
theorem copy_arms (ao : Option Addr) (k : Nat) (cs : Array Value) (W : World) (N : Nat) (hN : W.heap.size = N) (hcs : cs.size = 3 * k) (hone : ∀ v ∈ cs.toList, v.oneCell' = true)
    (hsl : (k = 0 ∧ ao = none) ∨ ∃ ab, ao = some ⟨ab, 0, none⟩ ∧ W.heap[ab]? = some (.cells cs 83)) :
    ∃ W5, (∀ ty, (Builtin.copy_ #[86, 86] ty #[.slice (some ⟨N, 0, none⟩) (k + 1) (k + 1), .slice ao k k]).run Yba.prog (W.alloc (.cells (madeCells #[.pointer none, .string ⟨#[]⟩, .pointer none] ((k + 1) * 3)) 83)).drew = .ok (goInt k) W5) ∧
      W5.heap[N]? = some (.cells (cs.toList ++ (madeCells #[Value.pointer none, .string ⟨#[]⟩, .pointer none] ((k + 1) * 3)).toList.drop cs.toList.length).toArray 83) ∧
      (W.alloc (.cells (madeCells #[.pointer none, .string ⟨#[]⟩, .pointer none] ((k + 1) * 3)) 83)).grownBy W5 (some N) := by
  subst hN
  rcases hsl with ⟨rfl, rfl⟩ | ⟨ab, rfl, hab⟩
  · have hc0 : cs = #[] := Array.eq_empty_of_size_eq_zero (by omega)
    subst hc0
    refine ⟨_, fun ty => run_copy_nil Yba.prog _ 86 86 ty 83 _ 1 1 Yba.underlying86 (by rw [size83]; rfl), ?_, ?_⟩
    · exact (heap_alloc_new W _).trans (by simp)
    · exact ⟨rfl, rfl, rfl, Nat.le_refl _, fun _ _ _ => rfl⟩
  · have habl : ab < W.heap.size := (Array.getElem?_eq_some_iff.1 hab).1
    have hm : Nat.min k (k + 1) = k := Nat.min_eq_left (by omega)
    have hr := fun ty => run_copy_rows (P := Yba.prog) (W.alloc (.cells (madeCells #[.pointer none, .string ⟨#[]⟩, .pointer none] ((k + 1) * 3)) 83)).drew 86 86 ty 83 3 W.heap.size (k + 1) (k + 1) ⟨ab, 0, none⟩ k k
      (madeCells #[.pointer none, .string ⟨#[]⟩, .pointer none] ((k + 1) * 3)) 83 cs.toList Yba.underlying86 size83 (heap_alloc_new W _) (by rw [hm]; simp; omega) (by
        intro j v hj
        have hadd : (⟨ab, 0, none⟩ : Addr).add j = ⟨ab, j, none⟩ := by unfold Addr.add; split <;> simp_all
        rw [hadd]
        have hb : (W.alloc (.cells (madeCells #[.pointer none, .string ⟨#[]⟩, .pointer none] ((k + 1) * 3)) 83)).drew.heap[ab]? = some (.cells cs 83) := (Below.heap_alloc W _ ab habl).trans hab
        simp only [World.cell?, hb]
        simpa using hj) (by simp [size_madeCells]; omega) hone
    rw [hm] at hr
    refine ⟨_, hr, ?_, ?_⟩
    · exact setRow_heap _ _ _ _ _ _ (heap_alloc_new W _)
    · have hq := grownBy_setRow (W.alloc (.cells (madeCells #[.pointer none, .string ⟨#[]⟩, .pointer none] ((k + 1) * 3)) 83)).drew W.heap.size (cs.toList ++ (madeCells #[Value.pointer none, .string ⟨#[]⟩, .pointer none] ((k + 1) * 3)).toList.drop cs.toList.length).toArray
      exact ⟨hq.os, hq.tape, hq.output, hq.size, hq.block⟩

theorem made_tail (cs : Array Value) (k : Nat) (hcs : cs.size = 3 * k) (a b c : Value) :
    ((((cs.toList ++ (madeCells #[Value.pointer none, .string ⟨#[]⟩, .pointer none] ((k + 1) * 3)).toList.drop cs.toList.length).toArray.setIfInBounds (k * 3) a).setIfInBounds (k * 3 + 1) b).setIfInBounds (k * 3 + 2) c) = cs ++ #[a, b, c] := by
  apply Array.ext'
  have hd : ((madeCells #[Value.pointer none, .string ⟨#[]⟩, .pointer none] ((k + 1) * 3)).toList.drop cs.toList.length).length = 3 := by simp [size_madeCells]; omega
  generalize hD : (madeCells #[Value.pointer none, .string ⟨#[]⟩, .pointer none] ((k + 1) * 3)).toList.drop cs.toList.length = D at hd
  match D, hd with
  | [x, y, z], _ =>
    have hl : cs.toList.length = k * 3 := by simp; omega
    simp only [Array.toList_setIfInBounds, Array.toList_append]
    rw [List.set_append_right _ _ (by omega), List.set_append_right _ _ (by omega), List.set_append_right _ _ (by omega), hl]
    simp

set_option maxRecDepth 100000 in
set_option maxHeartbeats 1000000 in
theorem add_mid (bb pos k : Nat) (P : ByteArray) (lo c : UInt8) (ao : Option Addr) (cs : Array Value) (p0 p2 : Option Addr) (s1 : ByteArray) (w : World)
    (hb : w.heap[bb]? = some (.cells #[.int .i64 pos, .string P, .int .u8 lo.toNat, .slice ao k k] 88))
    (hsl : (k = 0 ∧ ao = none) ∨ ∃ ab, ao = some ⟨ab, 0, none⟩ ∧ w.heap[ab]? = some (.cells cs 83) ∧ ab ≠ bb)
    (hcs : cs.size = 3 * k) (hone : ∀ v ∈ cs.toList, v.oneCell' = true) (hk : k ≤ 255) (_hPs : P.size ≤ 256) (hP : P.data.toList ≠ []) (h1 : ¬ c < lo) (h2 : (c - lo).toNat < P.size) :
    Calls Yba.prog 36 #[.pointer (some ⟨bb, 0, none⟩), .int .u8 c.toNat, .agg #[.pointer p0, .string s1, .pointer p2]] w fun e w' => e = .returned (.tuple #[]) ∧ Added w bb pos k P lo c cs p0 s1 p2 w' := by
  have q0 : w.cell? ⟨bb, 0, none⟩ = some (.int .i64 pos) := by simp [World.cell?, hb]
  have q1 : w.cell? ⟨bb, 1, none⟩ = some (.string P) := by simp [World.cell?, hb]
  have q2 : w.cell? ⟨bb, 2, none⟩ = some (.int .u8 lo.toNat) := by simp [World.cell?, hb]
  have q3 : w.cell? ⟨bb, 3, none⟩ = some (.slice ao k k) := by simp [World.cell?, hb]
  have hbb : bb < w.heap.size := (Array.getElem?_eq_some_iff.1 hb).1
  have hbb1 : bb < w.heap.size + 1 := by omega
  have hcl := c.toNat_lt
  have hll := lo.toNat_lt
  obtain ⟨cap0, W0, hrun0, hrow0, hg0, hsz0⟩ := bytes_row' (w.alloc (.cells #[.pointer p0, .string s1, .pointer p2] 83)) P (w.heap.size + 1) (by simp)
  have HA0 : Hid (W0.heap[w.heap.size]? = some (.cells #[.pointer p0, .string s1, .pointer p2] 83)) :=
    (hg0.block _ (by simp) (by simp)).trans (heap_alloc_new w _)
  have HG0 : Hid (w.grownBy W0 none) := (World.grownBy_alloc w _ none).trans hg0
  have HB0 : Hid (W0.heap[bb]? = some (.cells #[.int .i64 pos, .string P, .int .u8 lo.toNat, .slice ao k k] 88)) := (HG0.out.block _ hbb (by simp)).trans hb
  have r1 : W0.cell? ⟨bb, 1, none⟩ = some (.string P) := by simp [World.cell?, HB0.out]
  have r2 : W0.cell? ⟨bb, 2, none⟩ = some (.int .u8 lo.toNat) := by simp [World.cell?, HB0.out]
  have r3 : W0.cell? ⟨bb, 3, none⟩ = some (.slice ao k k) := by simp [World.cell?, HB0.out]
  have fz2 : W0.frozen? ⟨bb, 2, none⟩ = false := by simp [World.frozen?, HB0.out]
  have HROW0 := hideIt hrow0
  have HSL := hideIt hsl
  have HCS := hideIt hcs
  have HONE := hideIt hone
  have HB := hideIt hb
  clear hg0 hrow0 hsl hcs hone hb
  rw [lt_nat] at h1
  obtain ⟨d, hd⟩ : ∃ d : Nat, d = (c - lo).toNat := ⟨_, rfl⟩
  have hdd : ((c.toNat : Int) - lo.toNat) % 256 = d := by rw [hd, sub_nat]; omega
  rw [← hd] at h2
  have HD := hideIt hd
  clear hd
  have hP0 : ((P.size : Int) == 0) = false := beq_eq_false_iff_ne.2 (by omega)
  have HP := hideIt hP
  clear hP
  go_enter Yba.func36, Yba.ntmps36
  go_wp2_with fail
  obtain ⟨lo', hlo⟩ : ∃ lo', lo' = lo := ⟨_, rfl⟩
  obtain ⟨W, hWW⟩ : ∃ W, W = W0 := ⟨_, rfl⟩
  obtain ⟨g, hgg⟩ : ∃ g, g = w.heap.size + 1 := ⟨_, rfl⟩
  obtain ⟨n, hnn⟩ : ∃ n, n = P.size := ⟨_, rfl⟩
  obtain ⟨X, hXX⟩ : ∃ X, X = P.data.toList := ⟨_, rfl⟩
  obtain ⟨cap, hcap⟩ : ∃ cap, cap = cap0 := ⟨_, rfl⟩
  obtain ⟨idx, hii⟩ : ∃ idx, idx = d := ⟨_, rfl⟩
  have hbW : W.heap[bb]? = some (.cells #[.int .i64 pos, .string P, .int .u8 lo'.toNat, .slice ao k k] 88) := by rw [hWW, hlo]; exact HB0.out
  have hA0W : W.heap[w.heap.size]? = some (.cells #[.pointer p0, .string s1, .pointer p2] 83) := by rw [hWW]; exact HA0.out
  have hgW : w.grownBy W (some bb) := by rw [hWW]; exact ⟨HG0.out.os, HG0.out.tape, HG0.out.output, HG0.out.size, fun x hx _ => HG0.out.block x hx (by simp)⟩
  have hrow : BRow W 5 g n cap (X.map fun b => Value.int .u8 b.toNat) := by rw [hWW, hgg, hnn, hXX, hcap]; exact HROW0.out
  have hgge : w.heap.size < g := by omega
  have hidxI : ((c.toNat : Int) - lo'.toNat) % 256 = idx := by rw [hlo, hii]; exact hdd
  have hidx : idx < n := by omega
  have HPUR : Hid (X.set idx (UInt8.ofNat k) = growP P.data.toList lo c k ∧ lo' = growLo P.data.toList lo c) := by
    unfold growP growLo
    have hnl : ¬ c < lo := by rw [lt_nat]; exact h1
    have hln : ¬ P.data.toList.length ≤ (c - lo).toNat := by rw [← HD.out]; simp; omega
    rw [if_neg HP.out, if_neg hnl, if_neg hln, if_neg HP.out, if_neg hnl, hXX, hii, HD.out, hlo]
    exact ⟨rfl, rfl⟩
  rw [← hWW, ← hgg, ← hnn, ← hcap]
  clear hgg hWW hnn hXX hcap hii hlo hdd r1 r2 r3 fz2 q0 q1 q2 q3 hrun0 HD HP HROW0 HA0 HB0 HG0 h2 h1 hP0 hsz0

  have HB1 := hideIt hbW
  have t1 : W.cell? ⟨bb, 1, none⟩ = some (.string P) := by simp [World.cell?, HB1.out]
  have t2 : W.cell? ⟨bb, 2, none⟩ = some (.int .u8 lo'.toNat) := by simp [World.cell?, HB1.out]
  have t3 : W.cell? ⟨bb, 3, none⟩ = some (.slice ao k k) := by simp [World.cell?, HB1.out]
  have tf1 : W.frozen? ⟨bb, 1, none⟩ = false := by simp [World.frozen?, HB1.out]
  have tf3 : W.frozen? ⟨bb, 3, none⟩ = false := by simp [World.frozen?, HB1.out]
  have HSET := hideIt (hrow.set idx hidx (UInt8.ofNat k))
  obtain ⟨u, hu⟩ := HSET.out.2.1
  have hfu := HSET.out.2.2
  have hkk : (UInt8.ofNat k).toNat = k := ofNat_nat (by omega)
  have hconv : (convert 40 9 (.slice (some ⟨g, 0, none⟩) n cap)).run Yba.prog (W.setCell ⟨g, idx, none⟩ (.int .u8 (k : Int))).drew = .ok (.string ⟨(X.set idx (UInt8.ofNat k)).toArray⟩) (W.setCell ⟨g, idx, none⟩ (.int .u8 (k : Int))).drew := by
    have := HSET.out.1
    rw [hkk] at this
    exact BRow.str (w := (W.setCell ⟨g, idx, none⟩ (.int .u8 (k : Int))).drew) this
  have hbg : ¬ bb = g := by omega
  have hgb : ¬ g = bb := by omega
  have hgsz : g < W.heap.size := hrow.lt
  have HROW := hideIt hrow
  have HGW := hideIt hgW
  have HA1 := hideIt hA0W
  have hk1 : (k : Int) % 256 = k := by omega
  have hmk := make83 (k + 1) (by omega)
  have ek : ((k + 1 : Nat) : Int) = (k : Int) + 1 := by omega
  rw [ek] at hmk
  have HKK := hideIt hkk
  have hidxI' : ((idx : Nat) : Int) < (n : Int) := by omega
  clear hrow hgW hA0W hbW ek hkk
  have hbbW : bb < W.heap.size := by have := HGW.out.size; omega
  have hAW : w.heap.size < W.heap.size := (Array.getElem?_eq_some_iff.1 HA1.out).1
  obtain ⟨W5, hc5, hN5, hg5⟩ := copy_arms ao k cs (((W.setCell ⟨g, idx, none⟩ (.int .u8 (k : Int))).setCell ⟨bb, 1, none⟩ (.string ⟨(X.set idx (UInt8.ofNat k)).toArray⟩))) W.heap.size (by simp) HCS.out HONE.out (by
    rcases HSL.out with ⟨h1, h2⟩ | ⟨ab, h1, h2, h3⟩
    · exact .inl ⟨h1, h2⟩
    · have hablt : ab < w.heap.size := (Array.getElem?_eq_some_iff.1 h2).1
      refine .inr ⟨ab, h1, ?_⟩
      rw [heap_set_other _ (by omega), heap_set_other _ (by omega), HGW.out.block ab hablt (by simp; omega)]
      exact h2)
  have hg5' : W.heap.size < W5.heap.size := (Array.getElem?_eq_some_iff.1 hN5).1
  have HB5 : Hid (W5.heap[bb]? = some (.cells #[.int .i64 pos, .string ⟨(X.set idx (UInt8.ofNat k)).toArray⟩, .int .u8 lo'.toNat, .slice ao k k] 88)) := by
    refine (hg5.block bb ?_ ?_).trans ?_
    · simp; omega
    · simp; omega
    · refine (Below.heap_alloc _ _ _ (by simp; omega)).trans ?_
      have h1 : (W.setCell ⟨g, idx, none⟩ (.int .u8 (k : Int))).heap[bb]? = some (.cells #[.int .i64 pos, .string P, .int .u8 lo'.toNat, .slice ao k k] 88) := (heap_set_other _ hbg).trans HB1.out
      exact (heap_set_same h1 _).trans rfl
  have HA5 : Hid (W5.heap[w.heap.size]? = some (.cells #[.pointer p0, .string s1, .pointer p2] 83)) := by
    refine (hg5.block _ ?_ ?_).trans ?_
    · simp; omega
    · simp; omega
    · refine (Below.heap_alloc _ _ _ (by simp; omega)).trans ?_
      rw [heap_set_other _ (by omega), heap_set_other _ (by omega)]
      exact HA1.out
  have HG5 : Hid (w.grownBy W5 (some bb)) := by
    refine ⟨hg5.os.trans HGW.out.os, hg5.tape.trans HGW.out.tape, hg5.output.trans HGW.out.output, ?_, fun x hx hxb => ?_⟩
    · have := HGW.out.size; omega
    · have hxb' : x ≠ bb := fun e => hxb (by rw [e])
      refine (hg5.block x ?_ ?_).trans ?_
      · simp; omega
      · simp; omega
      · refine (Below.heap_alloc _ _ _ (by simp; omega)).trans ?_
        rw [heap_set_other _ hxb', heap_set_other _ (by omega)]
        exact HGW.out.block x hx hxb
  have HN5 := hideIt hN5
  have e1 : W5.cell? ⟨bb, 3, none⟩ = some (.slice ao k k) := by simp [World.cell?, HB5.out]
  have e2 : W5.frozen? ⟨bb, 3, none⟩ = false := by simp [World.frozen?, HB5.out]
  have e3 : W5.cell? ⟨w.heap.size, 0, none⟩ = some (.pointer p0) := by simp [World.cell?, HA5.out]
  have e4 : W5.cell? ⟨w.heap.size, 1, none⟩ = some (.string s1) := by simp [World.cell?, HA5.out]
  have e5 : W5.cell? ⟨w.heap.size, 2, none⟩ = some (.pointer p2) := by simp [World.cell?, HA5.out]
  have hsz5 : ((cs.toList ++ (madeCells #[Value.pointer none, .string ⟨#[]⟩, .pointer none] ((k + 1) * 3)).toList.drop cs.toList.length).toArray).size = (k + 1) * 3 := by
    have := HCS.out
    simp [size_madeCells]; omega
  obtain ⟨u0, e6⟩ := cell_of_size hN5 (k * 3) (by rw [hsz5]; omega)
  obtain ⟨u1, e7⟩ := cell_of_size hN5 (k * 3 + 1) (by rw [hsz5]; omega)
  obtain ⟨u2, e8⟩ := cell_of_size hN5 (k * 3 + 2) (by rw [hsz5]; omega)
  have e9 : W5.frozen? ⟨W.heap.size, k * 3, none⟩ = false := by simp [World.frozen?, HN5.out]
  have e10 : W5.frozen? ⟨W.heap.size, k * 3 + 1, none⟩ = false := by simp [World.frozen?, HN5.out]
  have e11 : W5.frozen? ⟨W.heap.size, k * 3 + 2, none⟩ = false := by simp [World.frozen?, HN5.out]
  have e12 : ¬ bb = W.heap.size := by omega
  have e13 : ¬ W.heap.size = bb := by omega
  have e14 : ¬ w.heap.size = W.heap.size := by omega
  clear hN5 hg5 hsz5
  go_region
  go_wp2_with fail
  go_region
  go_wp2_with fail
  go_end0
  refine ⟨rfl, ?_⟩
  refine ⟨W.heap.size, ?_, ?_, by omega, ?_⟩
  · rw [← HPUR.out.1, ← HPUR.out.2]
    have h1 : ((((W5.setCell ⟨W.heap.size, k * 3, none⟩ (.pointer p0)).setCell ⟨W.heap.size, k * 3 + 1, none⟩ (.string s1)).setCell ⟨W.heap.size, k * 3 + 2, none⟩ (.pointer p2)).heap[bb]?) = some (.cells #[.int .i64 pos, .string ⟨(X.set idx (UInt8.ofNat k)).toArray⟩, .int .u8 lo'.toNat, .slice ao k k] 88) := by
      rw [heap_set_other _ e12, heap_set_other _ e12, heap_set_other _ e12]
      exact HB5.out
    exact (heap_set_same h1 _).trans rfl
  · refine (heap_set_other _ e13).trans ?_
    refine (heap_set_same (heap_set_same (heap_set_same HN5.out _) _) _).trans ?_
    rw [made_tail cs k HCS.out]
  · refine ⟨HG5.out.os, HG5.out.tape, HG5.out.output, ?_, fun x hx hxb => ?_⟩
    · have := HG5.out.size
      simp
      omega
    · have hxb' : x ≠ bb := fun e => hxb (by rw [e])
      refine (heap_set_other _ hxb').trans ?_
      rw [heap_set_other _ (by omega), heap_set_other _ (by omega), heap_set_other _ (by omega)]
      exact HG5.out.block x hx hxb

end Go.Proofs.Ybulkavso
