/-
  (*methodTrees).all: its iterator, for every loop body that keeps the router's own block, the box and the map.
-/
import Derived.Test.YbulkavsoAllL
import Derived.RangeFuncNested
import Derived.RangeFuncBound
import Derived.RangeFuncCalls
import Derived.RangeFuncLeaves
import Derived.Shelf.Abstract
import Derived.Shelf.RegionOpen
import Derived.WalkKit
import Derived.OwnWalkIn
import Derived.TacticsInMore
import Derived.LoopNIn
import Derived.LoopIn
namespace Go.Proofs.Ybulkavso
open Go.RowKit Go.Shelf
attribute [local go_sem] Oper.semAt_some

/-- A method with a tree, and the tree's root. -/
abbrev TM (root : Nat → Option Nat) := { x : Nat × Nat // 1 ≤ x.1 ∧ x.1 < 5 ∧ root x.1 = some x.2 }

/-- The method's name, as it stands. -/
def nmT (ms : Nat → ByteArray) (m : Nat) : ByteArray := if m = 4 then ⟨#[88]⟩ else ms m

/-- What the iterator hands out for it. -/
def encT (ms : Nat → ByteArray) {root : Nat → Option Nat} (x : TM root) : Array Value := #[.string (nmT ms x.1.1), .pointer (some ⟨x.1.2, 0, none⟩)]

/-- What a round keeps. -/
def KpT (rt Bt : Nat) (W W' : World) : Prop := KeepsWalks W W' ∧ W'.heap[rt]? = W.heap[rt]? ∧ W'.heap[Bt]? = W.heap[Bt]?

theorem KpT.refl (rt Bt : Nat) (W : World) : KpT rt Bt W W := ⟨KeepsWalks.refl W, rfl, rfl⟩
theorem KpT.trans {rt Bt : Nat} {A B C : World} (h : KpT rt Bt A B) (h' : KpT rt Bt B C) : KpT rt Bt A C := ⟨h.1.trans h'.1, h'.2.1.trans h.2.1, h'.2.2.trans h.2.2⟩
theorem KpT.alloc {rt Bt : Nat} {A B : World} (h : KpT rt Bt A B) (o : Obj) (h1 : rt < B.heap.size) (h2 : Bt < B.heap.size) : KpT rt Bt A (B.alloc o) :=
  h.trans ⟨⟨by simp, fun k o' hk _ => (heap_alloc_old B o (Array.getElem?_eq_some_iff.1 hk).1).trans hk⟩, heap_alloc_old B o h1, heap_alloc_old B o h2⟩

/-- All have come. -/
def AllT {root : Nat → Option Nat} (xs : List (TM root)) : Prop := ∀ m b, 1 ≤ m → m < 5 → root m = some b → ∃ x ∈ xs, x.1 = (m, b)

/-- The known ones among the first i have come. -/
def UpT {root : Nat → Option Nat} (i : Nat) (xs : List (TM root)) : Prop := ∀ j b, j < i → rr root j = some b → ∃ x ∈ xs, x.1 = (mmOf j, b)

theorem UpT.skip {root : Nat → Option Nat} {i : Nat} {xs : List (TM root)} (h : UpT i xs) (hr : rr root i = none) : UpT (i + 1) xs := by
  intro j b hj hb
  rcases Nat.lt_or_ge j i with h' | h'
  · exact h j b h' hb
  · obtain rfl : j = i := by omega
    rw [hr] at hb; cases hb

theorem UpT.more {root : Nat → Option Nat} {i b : Nat} {xs : List (TM root)} (h : UpT i xs) (hr : rr root i = some b) (x : TM root) (hx : x.1 = (mmOf i, b)) : UpT (i + 1) (xs ++ [x]) := by
  intro j b' hj hb
  rcases Nat.lt_or_ge j i with h' | h'
  · obtain ⟨y, hy, e⟩ := h j b' h' hb
    exact ⟨y, by simp [hy], e⟩
  · obtain rfl : j = i := by omega
    rw [hr] at hb
    cases hb
    exact ⟨x, by simp, hx⟩

theorem rr_some {root : Nat → Option Nat} {i b : Nat} (ms : Nat → ByteArray) (hr : rr root i = some b) : ∃ x : TM root, x.1 = (mmOf i, b) ∧ encT ms x = #[.string (nm ms i), .pointer (some ⟨b, 0, none⟩)] := by
  by_cases h0 : i = 0
  · subst h0
    exact ⟨⟨(1, b), by simp, by simp, hr⟩, rfl, rfl⟩
  · by_cases h1 : i = 1
    · subst h1
      exact ⟨⟨(2, b), by simp, by simp, hr⟩, rfl, rfl⟩
    · by_cases h5 : i = 5
      · subst h5
        exact ⟨⟨(3, b), by simp, by simp, hr⟩, rfl, rfl⟩
      · simp [rr, h0, h1, h5] at hr

theorem UpT.all {root : Nat → Option Nat} {xs : List (TM root)} (h : UpT 9 xs) (h4 : ∀ b, root 4 = some b → ∃ x ∈ xs, x.1 = (4, b)) : AllT xs := by
  intro m b h1 h5 hr
  have hm : m = 1 ∨ m = 2 ∨ m = 3 ∨ m = 4 := by omega
  rcases hm with rfl | rfl | rfl | rfl
  · exact h 0 b (by omega) hr
  · exact h 1 b (by omega) hr
  · exact h 5 b (by omega) hr
  · exact h4 b hr

theorem UpT.grow {root : Nat → Option Nat} {i : Nat} {xs : List (TM root)} (h : UpT i xs) (y : TM root) : UpT i (xs ++ [y]) := by
  intro j b hj hb
  obtain ⟨x, hx, e⟩ := h j b hj hb
  exact ⟨x, by simp [hx], e⟩

/-- A load whose run is known. -/
theorem wpListIn_load_run {F : Fence} {n : Nat} {P : Program} {w : World} {ops : Array Oper} {rest : List Oper} {o : Oper} {a : Act} {Q : Exit → Act → World → Prop} {t : TypeId} {x : Operand} {p v : Value} (hg : o.guard = none) (hop : o.op = Op.load t x) (hx : a.eval x = p)
    (hrun : (Instr.loadAt t p).run P w = .ok v w) (hK : wpListIn F n P ops Q rest (a.put o.dst v) w) : wpListIn F n P ops Q (o :: rest) a w := by
  refine wpListIn_plain hg fun K' hK' => ?_
  unfold Oper.wpIn
  refine ⟨?_, ?_⟩
  · simp [Oper.about, hop]
  · rw [Oper.semAt_plain F _ _ (by rw [hop]; intro c hc'; cases hc')]
    simp [execOp, hop, hx, hrun, Result.andThen]
    exact hK' _ _ hK

/-- How much of the map's walk is left. -/
def leftM (r : Nat) (w : World) : Nat := match w.heap[r]? with
  | some (.mapIter _ _ seen _) => 1 - seen.size
  | _ => 0

set_option maxRecDepth 100000 in
set_option maxHeartbeats 1000000 in
theorem all1_in (F : Fence) (n : Nat) (h32 : F.fn 32) (hro : F.round = none) (hn : 1 ≤ n) (l Bt rt : Nat) (root : Nat → Option Nat) (ms : Nat → ByteArray) (c0 c1 c2 c3 : Value) (mo : Option Nat) (J Jx : List (TM root) → World → Prop)
    (hY : ∀ pre x W, J pre W → pre.length < 20 → YieldAt F (n - 1) Yba.prog l (encT ms x) W fun e W' => (e = .returned (.bool true) ∧ J (pre ++ [x]) W' ∧ KpT rt Bt W W') ∨ (e = .returned (.bool false) ∧ Jx (pre ++ [x]) W'))
    (W : World) (hJ : AbidesFrom W.heap.size J) (hBt : W.heap[Bt]? = some (.cells #[.pointer (some ⟨rt, 4, none⟩)] 78)) (hrt : W.heap[rt]? = some (.cells (rcells c0 c1 c2 c3 ms root mo) 34)) (hmap : MapIs W mo (root 4)) (h0 : J [] W) :
    CallsIn F n Yba.prog 32 #[.func (.yield l) #[] #[], .pointer (some ⟨Bt, 0, none⟩)] W fun e W' => (∃ v, e = .returned v) ∧ ((∃ xs, AllT xs ∧ J xs W') ∨ (∃ pre : List (TM root), True ∧ Jx pre W')) := by
  have kB : W.cell? ⟨Bt, 0, none⟩ = some (.pointer (some ⟨rt, 4, none⟩)) := (cell_at hBt _).trans rfl
  have hload := load29 hrt
  have HIX : Hid (∀ (i : Nat) (wx : World), i < 9 → (Instr.index 29 (.agg (kcells ms root).toArray) (.int .i64 (i : Int))).run Yba.prog wx = .ok (.agg #[.string (nm ms i), ptrO (rr root i)]) wx) := fun i wx hi => index_known wx ms root i hi
  generalize (kcells ms root).toArray = kn at hload HIX
  have HY := hide hY
  have HJ := hide hJ
  have HB := hide hBt
  have HRT := hide hrt
  have HM := hide hmap
  clear hY hJ hBt hrt hmap
  refine callsIn_of_wp Yba.func32 rfl h32 ?_ hro
  simp only [Yba.ntmps32, List.size_toArray, List.length_cons, List.length_nil, Nat.reduceAdd, Nat.reduceSub, Array.replicate_succ, Array.replicate_zero, List.push_toArray, List.append_toArray, List.nil_append, List.cons_append]
  gi_wp2_with (first | (refine wpListIn_load_run rfl rfl rfl hload ?_) | gi_in)
  clear hload kB
  gi_loopw [11] (fun v wr => ∃ (i : Nat) (pre : List (TM root)), i ≤ 9 ∧ v = .int .i64 i ∧ pre.length ≤ i ∧ UpT i pre ∧ KpT rt Bt W wr ∧ J pre wr) (fun v _ => 9 - (intOf v).toNat)
  case atStart => exact ⟨0, [], by omega, rfl, by simp, fun j b hj => by omega, KpT.refl _ _ _, h0⟩
  case round =>
    obtain ⟨i, pre, hi, rfl, hlen, hup, hkp, hJp⟩ := hrel
    have HUP := hide hup
    have HKP := hide hkp
    have HJP := hide hJp
    clear hup hkp hJp
    have hrtl : rt < wr.heap.size := (Array.getElem?_eq_some_iff.1 (HKP.out.2.1.trans HRT.out)).1
    have hBtl : Bt < wr.heap.size := (Array.getElem?_eq_some_iff.1 (HKP.out.2.2.trans HB.out)).1
    by_cases hlt : i < 9
    · have hix := fun wx => HIX.out i wx hlt
      have HK2 : Hid (∀ o, KpT rt Bt W (wr.alloc o)) := fun o => HKP.out.alloc o hrtl hBtl
      have HJ2 : Hid (∀ o, J pre (wr.alloc o)) := fun o => HJ.out pre wr (wr.alloc o) none HJP.out (World.grownBy_alloc wr o none) (fun r e => by cases e)
      cases hrr : rr root i with
      | none =>
        have HR := hide (HUP.out.skip hrr)
        rw [hrr] at hix
        simp only [show ptrO none = Value.pointer none from rfl] at hix
        clear hrr
        gi_wp2
        refine ⟨fun _ h => (by cases h), ?_⟩
        gi_wp2
        go_roundw
        case rel => exact ⟨i + 1, pre, by omega, by go_num, by omega, HR.out, HK2.out _, HJ2.out _⟩
        case measure => simp [intOf]; omega
      | some b =>
        obtain ⟨x, hx, henc⟩ := rr_some ms hrr
        have HR := hide (HUP.out.more hrr x hx)
        rw [hrr] at hix
        simp only [show ptrO (some b) = Value.pointer (some ⟨b, 0, none⟩) from rfl] at hix
        obtain ⟨fn, tmps, assign, body, hy, hR⟩ := HY.out pre x (wr.alloc (.cells #[.string (nm ms i), .pointer (some ⟨b, 0, none⟩)] 28)) (HJ2.out _) (by omega)
        rw [henc] at hy
        clear hrr hx henc
        gi_wp2
        refine hR.mono ?_
        rintro e W3 (⟨rfl, hJ3, hk3⟩ | ⟨rfl, hJx3⟩)
        · have HK3 := hide ((HK2.out _).trans hk3)
          have HJ3 := hide hJ3
          clear hJ3 hk3
          gi_wp2
          go_roundw
          case rel => exact ⟨i + 1, pre ++ [x], by omega, by go_num, by simp; omega, HR.out, HK3.out, HJ3.out⟩
          case measure => simp [intOf]; omega
        · have HJX := hide hJx3
          clear hJx3
          gi_wp2
          refine bodyPost_ret (results_none rfl _ _ _) rfl ?_
          exact ⟨⟨_, rfl⟩, .inr ⟨_, trivial, HJX.out⟩⟩
    · obtain rfl : i = 9 := by omega
      simp only [show ((9 : Nat) : Int) = 9 from rfl]
      have kB : wr.cell? ⟨Bt, 0, none⟩ = some (.pointer (some ⟨rt, 4, none⟩)) := (cell_at (HKP.out.2.2.trans HB.out) _).trans rfl
      have k22 : wr.cell? ⟨rt, 22, none⟩ = some (.map mo) := (cell_at (HKP.out.2.1.trans HRT.out) _).trans rfl
      rcases HM.out with ⟨hr4, rfl⟩ | ⟨b, mb, hr4, rfl, hmb⟩
      · have hrange := run_range_nilMap (P := Yba.prog) wr 30 9 26 Yba.underlying30
        have HA : Hid (AllT pre) := HUP.out.all (fun b e => by rw [hr4] at e; cases e)
        have HJ2 : Hid (J pre (wr.alloc (.mapIter none 0 #[] 0))) := HJ.out pre wr _ none HJP.out (World.grownBy_alloc wr _ none) (fun r e => by cases e)
        clear hr4
        gi_wp2
        clear hrange
        gi_loopw [5, 6] (fun _ _ wr2 => wr2 = wr.alloc (.mapIter none 0 #[] 0)) (fun _ _ _ => 0)
        case atStart => exact rfl
        case round =>
          obtain rfl := hrel
          have hnext := next_nil 0 (heap_alloc_new wr (.mapIter none 0 #[] 0))
          gi_wp2
          go_end0
          exact ⟨⟨_, rfl⟩, .inl ⟨_, HA.out, HJ2.out⟩⟩
      · have hmr : wr.heap[mb]? = some (.map #[⟨.string ⟨#[88]⟩, .pointer (some ⟨b, 0, none⟩), 0⟩] 1) := HKP.out.1.same mb _ hmb rfl
        have hrange := run_range_map (P := Yba.prog) wr 30 9 26 mb _ 1 Yba.underlying30 hmr
        obtain ⟨x, hx, henc⟩ : ∃ x : TM root, x.1 = (4, b) ∧ encT ms x = #[.string ⟨#[88]⟩, .pointer (some ⟨b, 0, none⟩)] := ⟨⟨(4, b), by simp, by simp, hr4⟩, rfl, rfl⟩
        have HA : Hid (AllT (pre ++ [x])) := (HUP.out.grow x).all (fun b' e => ⟨x, by simp, by rw [hr4] at e; cases e; exact hx⟩)
        have hWs : W.heap.size ≤ wr.heap.size := HKP.out.1.size
        have HST : Hid ((wr.alloc (.mapIter (some mb) 1 #[] 1)).heap[mb]? = some (.map #[⟨.string ⟨#[88]⟩, .pointer (some ⟨b, 0, none⟩), 0⟩] 1) ∧ (wr.alloc (.mapIter (some mb) 1 #[] 1)).heap[wr.heap.size]? = some (.mapIter (some mb) 1 #[] 1) ∧ J pre (wr.alloc (.mapIter (some mb) 1 #[] 1))) :=
          ⟨(heap_alloc_old wr _ (Array.getElem?_eq_some_iff.1 hmr).1).trans hmr, heap_alloc_new wr _, HJ.out pre wr _ none HJP.out (World.grownBy_alloc wr _ none) (fun r e => by cases e)⟩
        have HENC := hide henc
        clear hr4 hmb hmr hx henc
        gi_wp2
        clear hrange
        obtain ⟨r0, hr0⟩ : ∃ r0, r0 = wr.heap.size := ⟨_, rfl⟩
        rw [← hr0]
        rw [← hr0] at HST hWs
        clear hr0
        gi_loopw [5, 6] (fun _ _ wr2 => wr2.heap[mb]? = some (.map #[⟨.string ⟨#[88]⟩, .pointer (some ⟨b, 0, none⟩), 0⟩] 1) ∧ ((wr2.heap[r0]? = some (.mapIter (some mb) 1 #[] 1) ∧ J pre wr2) ∨ (wr2.heap[r0]? = some (.mapIter (some mb) 1 #[0] 1) ∧ J (pre ++ [x]) wr2))) (fun _ _ wr2 => leftM r0 wr2)
        case atStart => exact ⟨HST.out.1, .inl HST.out.2⟩
        case round =>
          obtain ⟨hm2, hrel⟩ := hrel
          rcases hrel with ⟨hr2, hJ2⟩ | ⟨hr2, hJ2⟩
          · obtain ⟨W2, hnext, hg2, hs2, hr3, hm3, hent⟩ := next_first 0 hr2 hm2
            have hJ3 : J pre W2 := HJ.out pre _ W2 (some r0) hJ2 hg2 (fun r e => by cases e; exact ⟨hWs, _, hr2, rfl⟩)
            obtain ⟨fn, tmps, assign, body, hy, hR⟩ := HY.out pre x W2 hJ3 (by omega)
            rw [HENC.out] at hy
            have HR2 := hide hr2
            have HR3 := hide hr3
            have HM3 := hide (hm3.trans hm2)
            clear hJ3 hJ2 hg2 hs2 hr3 hr2 hm2 hm3
            gi_wp2
            refine hR.mono ?_
            rintro e W3 (⟨rfl, hJ3, hk3⟩ | ⟨rfl, hJx3⟩)
            · have HJ3 := hide hJ3
              have HA3 := hide (hk3.1.same _ _ HM3.out rfl)
              have HB3 := hide (hk3.1.same _ _ HR3.out rfl)
              clear hJ3 hk3
              gi_wp2
              go_roundw
              case rel => exact ⟨HA3.out, .inr ⟨HB3.out, HJ3.out⟩⟩
              case measure => simp [leftM, HB3.out, HR2.out]
            · have HJX := hide hJx3
              clear hJx3
              gi_wp2
              refine bodyPost_ret (results_none rfl _ _ _) rfl ?_
              exact ⟨⟨_, rfl⟩, .inr ⟨_, trivial, HJX.out⟩⟩
          · have hnext := next_last 0 hr2 hm2
            have HJ3 := hide hJ2
            clear hJ2 hr2 hm2
            gi_wp2
            go_end0
            exact ⟨⟨_, rfl⟩, .inl ⟨_, HA.out, HJ3.out⟩⟩

end Go.Proofs.Ybulkavso
