/-
  (*node).child, walked at a parameter and at a catch-all, and where it may not make.
-/
import Derived.Test.YbulkavsoKidWalk
namespace Go.Proofs.Ybulkavso
open Go.RowKit

set_option maxRecDepth 100000 in
set_option maxHeartbeats 1000000 in
theorem child_param (n b : Nat) (R : Tell) (F : Nat → Prop) (T : ByteArray) (w : World) (hT : NodeT (n + 1) w b R F) (hlt : ∀ x, F x → x < w.heap.size) :
    Calls Yba.prog 23 #[.pointer (some ⟨b, 0, none⟩), segV 1 T, .bool true] w fun e w' => ∃ c, e = .returned (.pointer (some ⟨c, 0, none⟩)) ∧ ChildOk w w' b R F kP c := by
  obtain ⟨Ch, Fk, F0, hk⟩ := hT
  have HK := hide hk
  have HLT := hide hlt
  have HLT0 : Hid (∀ x, F0 x → x < w.heap.size) := fun x hx => hlt x (hk.2.2.2.2.1 x hx)
  have hb : b < w.heap.size := hlt b (hk.2.2.2.2.1 b hk.1.1)
  have hb1 : b < w.heap.size + 1 := by omega
  have hb2 : b < w.heap.size + 1 + 1 := by omega
  obtain ⟨h0, sp, pp, cp, h1, h2, h3, h4, h5⟩ := hk.1
  obtain ⟨-, -, c2, c3⟩ := ptrO_cell h1
  have f2 := ptrO_frozen h1 2
  have H2 := hide h2
  have hbel : Below w.heap.size w (w.alloc (.cells #[.int .i64 1, .string T] 71)) := ⟨rfl, rfl, rfl, by simp, fun k hk => Below.heap_alloc w _ k hk⟩
  have HBEL := hide hbel
  clear hk hlt h0 h1 h2 h3 h4 h5 hbel c3
  unfold segV
  cases pp with
  | none =>
    change w.cell? ⟨b, 2, none⟩ = some (.pointer none) at c2
    have HNO : Hid (∀ c, ¬ Ch kP c) := fun c hc => by
      have := (HK.out.1)
      have := (H2.out c).1 hc
      cases this
    have hadd := added_slot (k := kP) (j := 2) (w := w.alloc (.cells #[.int .i64 1, .string T] 71)) (HK.out.1.move (fun x hx => HBEL.out.block x (HLT0.out x hx))) (fun x hx => by have := HLT0.out x hx; simp; omega) (.inl ⟨rfl, rfl⟩) HNO.out
    have HADD := hide (ChildOk.fresh HK.out HLT.out HNO.out HBEL.out hadd)
    clear hadd
    go_enter Yba.func23, Yba.ntmps23
    go_wp2_with fail
    go_ret
    have hfin := HADD.out
    rw [World.setCell_alloc_past _ _ _ _ (by simp; omega), World.setCell_alloc_past _ _ _ _ hb] at hfin
    exact ⟨_, rfl, by simpa using hfin⟩
  | some c =>
    change w.cell? ⟨b, 2, none⟩ = some (.pointer (some ⟨c, 0, none⟩)) at c2
    have HC : Hid (Ch kP c) := (H2.out c).2 rfl
    go_enter Yba.func23, Yba.ntmps23
    go_wp2_with fail
    go_ret
    exact ⟨c, rfl, ChildOk.found HK.out HLT.out HC.out HBEL.out⟩

set_option maxRecDepth 100000 in
set_option maxHeartbeats 1000000 in
theorem child_catch (n b : Nat) (R : Tell) (F : Nat → Prop) (T : ByteArray) (w : World) (hT : NodeT (n + 1) w b R F) (hlt : ∀ x, F x → x < w.heap.size) :
    Calls Yba.prog 23 #[.pointer (some ⟨b, 0, none⟩), segV 2 T, .bool true] w fun e w' => ∃ c, e = .returned (.pointer (some ⟨c, 0, none⟩)) ∧ ChildOk w w' b R F kC c := by
  obtain ⟨Ch, Fk, F0, hk⟩ := hT
  have HK := hide hk
  have HLT := hide hlt
  have HLT0 : Hid (∀ x, F0 x → x < w.heap.size) := fun x hx => hlt x (hk.2.2.2.2.1 x hx)
  have hb : b < w.heap.size := hlt b (hk.2.2.2.2.1 b hk.1.1)
  have hb1 : b < w.heap.size + 1 := by omega
  have hb2 : b < w.heap.size + 1 + 1 := by omega
  obtain ⟨h0, sp, pp, cp, h1, h2, h3, h4, h5⟩ := hk.1
  obtain ⟨-, -, c2, c3⟩ := ptrO_cell h1
  have f2 := ptrO_frozen h1 3
  have H2 := hide h3
  have hbel : Below w.heap.size w (w.alloc (.cells #[.int .i64 2, .string T] 71)) := ⟨rfl, rfl, rfl, by simp, fun k hk => Below.heap_alloc w _ k hk⟩
  have HBEL := hide hbel
  clear hk hlt h0 h1 h2 h3 h4 h5 hbel c2
  unfold segV
  cases cp with
  | none =>
    change w.cell? ⟨b, 3, none⟩ = some (.pointer none) at c3
    have HNO : Hid (∀ c, ¬ Ch kC c) := fun c hc => by
      have := (HK.out.1)
      have := (H2.out c).1 hc
      cases this
    have hadd := added_slot (k := kC) (j := 3) (w := w.alloc (.cells #[.int .i64 2, .string T] 71)) (HK.out.1.move (fun x hx => HBEL.out.block x (HLT0.out x hx))) (fun x hx => by have := HLT0.out x hx; simp; omega) (.inr ⟨rfl, rfl⟩) HNO.out
    have HADD := hide (ChildOk.fresh HK.out HLT.out HNO.out HBEL.out hadd)
    clear hadd
    go_enter Yba.func23, Yba.ntmps23
    go_wp2_with fail
    go_ret
    have hfin := HADD.out
    rw [World.setCell_alloc_past _ _ _ _ (by simp; omega), World.setCell_alloc_past _ _ _ _ hb] at hfin
    exact ⟨_, rfl, by simpa using hfin⟩
  | some c =>
    change w.cell? ⟨b, 3, none⟩ = some (.pointer (some ⟨c, 0, none⟩)) at c3
    have HC : Hid (Ch kC c) := (H2.out c).2 rfl
    go_enter Yba.func23, Yba.ntmps23
    go_wp2_with fail
    go_ret
    exact ⟨c, rfl, ChildOk.found HK.out HLT.out HC.out HBEL.out⟩

/-- What child comes to, where it may not make. -/
def ChildIs (w w' : World) (Ch : Key → Nat → Prop) (k : Key) (e : Ending) : Prop :=
  Below w.heap.size w w' ∧ ((e = .returned (.pointer none) ∧ ∀ c, ¬ Ch k c) ∨ ∃ c, e = .returned (.pointer (some ⟨c, 0, none⟩)) ∧ Ch k c)

set_option maxRecDepth 100000 in
set_option maxHeartbeats 1000000 in
theorem read_static (b : Nat) (r : Option Nat) (Ch : Key → Nat → Prop) (F0 : Nat → Prop) (T : ByteArray) (w : World) (hobj : NodeObj w b r Ch F0) (hfun : ∀ k d d', Ch k d → Ch k d' → d = d') (hlt : ∀ x, F0 x → x < w.heap.size) (hTc : Clean T.data.toList) (hT2 : T.size ≤ 256) :
    Calls Yba.prog 23 #[.pointer (some ⟨b, 0, none⟩), segV 0 T, .bool false] w fun e w' => ChildIs w w' Ch (kS T) e := by
  obtain ⟨sp, o, N, hc1, hcase, hfind⟩ := find_text hobj hfun T hTc hT2
  have hb : b < w.heap.size := hlt b hobj.1
  have hb1 : b < w.heap.size + 1 := by omega
  have HF : Hid (∀ nq, Calls Yba.prog 16 #[ptrO sp, .string T] ((w.alloc (.cells #[.int .i64 0, .string T] 71)).drewN nq) fun e w' => e = .returned (.tuple #[ptrO o, .int .i64 N]) ∧ ∃ m, w' = ((w.alloc (.cells #[.int .i64 0, .string T] 71)).drewN nq).drewN m) := fun nq =>
    hfind _ (fun x hx => Below.heap_alloc w _ x (hlt x hx))
  have hbel : ∀ nq, Below w.heap.size w ((w.alloc (.cells #[.int .i64 0, .string T] 71)).drewN nq) := fun nq => ⟨rfl, rfl, rfl, by simp, fun k hk => Below.heap_alloc w _ k hk⟩
  have HBEL := hide hbel
  clear hobj hfun hlt hfind hTc hbel
  unfold segV
  rcases hcase with ⟨rfl, hno⟩ | ⟨c, rfl, hc⟩
  · have HNO := hide hno
    clear hno
    change Hid (∀ nq, Calls Yba.prog 16 #[ptrO sp, .string T] ((w.alloc (.cells #[.int .i64 0, .string T] 71)).drewN nq) fun e w' => e = .returned (.tuple #[.pointer none, .int .i64 N]) ∧ ∃ m, w' = ((w.alloc (.cells #[.int .i64 0, .string T] 71)).drewN nq).drewN m) at HF
    generalize ptrO sp = vsp at *
    go_enter Yba.func23, Yba.ntmps23
    go_wp2_with fail
    go_quiet ((go_at_call 16; exact Calls.quiet_of (HF.out _)))
    go_wp2_with fail
    go_ret
    exact ⟨HBEL.out _, .inl ⟨rfl, HNO.out⟩⟩
  · have HC := hide hc
    clear hc
    change Hid (∀ nq, Calls Yba.prog 16 #[ptrO sp, .string T] ((w.alloc (.cells #[.int .i64 0, .string T] 71)).drewN nq) fun e w' => e = .returned (.tuple #[.pointer (some ⟨c, 0, none⟩), .int .i64 N]) ∧ ∃ m, w' = ((w.alloc (.cells #[.int .i64 0, .string T] 71)).drewN nq).drewN m) at HF
    generalize ptrO sp = vsp at *
    go_enter Yba.func23, Yba.ntmps23
    go_wp2_with fail
    go_quiet ((go_at_call 16; exact Calls.quiet_of (HF.out _)))
    go_wp2_with fail
    go_ret
    exact ⟨HBEL.out _, .inr ⟨c, rfl, HC.out⟩⟩

set_option maxRecDepth 100000 in
set_option maxHeartbeats 1000000 in
theorem read_param (b : Nat) (r : Option Nat) (Ch : Key → Nat → Prop) (F0 : Nat → Prop) (T : ByteArray) (w : World) (hobj : NodeObj w b r Ch F0) (hlt : ∀ x, F0 x → x < w.heap.size) :
    Calls Yba.prog 23 #[.pointer (some ⟨b, 0, none⟩), segV 1 T, .bool false] w fun e w' => ChildIs w w' Ch kP e := by
  have hb : b < w.heap.size := hlt b hobj.1
  have hb1 : b < w.heap.size + 1 := by omega
  obtain ⟨h0, sp, pp, cp, h1, h2, h3, h4, h5⟩ := hobj
  obtain ⟨-, -, c2, c3⟩ := ptrO_cell h1
  have H2 := hide h2
  have hbel : Below w.heap.size w (w.alloc (.cells #[.int .i64 1, .string T] 71)) := ⟨rfl, rfl, rfl, by simp, fun k hk => Below.heap_alloc w _ k hk⟩
  have HBEL := hide hbel
  clear hlt h0 h1 h2 h3 h4 h5 hbel c3
  unfold segV
  cases pp with
  | none =>
    change w.cell? ⟨b, 2, none⟩ = some (.pointer none) at c2
    have HNO : Hid (∀ c, ¬ Ch kP c) := fun c hc => by
      have := (H2.out c).1 hc
      cases this
    go_enter Yba.func23, Yba.ntmps23
    go_wp2_with fail
    go_ret
    exact ⟨HBEL.out, .inl ⟨rfl, HNO.out⟩⟩
  | some c =>
    change w.cell? ⟨b, 2, none⟩ = some (.pointer (some ⟨c, 0, none⟩)) at c2
    have HC : Hid (Ch kP c) := (H2.out c).2 rfl
    go_enter Yba.func23, Yba.ntmps23
    go_wp2_with fail
    go_ret
    exact ⟨HBEL.out, .inr ⟨c, rfl, HC.out⟩⟩

set_option maxRecDepth 100000 in
set_option maxHeartbeats 1000000 in
theorem read_catch (b : Nat) (r : Option Nat) (Ch : Key → Nat → Prop) (F0 : Nat → Prop) (T : ByteArray) (w : World) (hobj : NodeObj w b r Ch F0) (hlt : ∀ x, F0 x → x < w.heap.size) :
    Calls Yba.prog 23 #[.pointer (some ⟨b, 0, none⟩), segV 2 T, .bool false] w fun e w' => ChildIs w w' Ch kC e := by
  have hb : b < w.heap.size := hlt b hobj.1
  have hb1 : b < w.heap.size + 1 := by omega
  obtain ⟨h0, sp, pp, cp, h1, h2, h3, h4, h5⟩ := hobj
  obtain ⟨-, -, c2, c3⟩ := ptrO_cell h1
  have H2 := hide h3
  have hbel : Below w.heap.size w (w.alloc (.cells #[.int .i64 2, .string T] 71)) := ⟨rfl, rfl, rfl, by simp, fun k hk => Below.heap_alloc w _ k hk⟩
  have HBEL := hide hbel
  clear hlt h0 h1 h2 h3 h4 h5 hbel c2
  unfold segV
  cases cp with
  | none =>
    change w.cell? ⟨b, 3, none⟩ = some (.pointer none) at c3
    have HNO : Hid (∀ c, ¬ Ch kC c) := fun c hc => by
      have := (H2.out c).1 hc
      cases this
    go_enter Yba.func23, Yba.ntmps23
    go_wp2_with fail
    go_ret
    exact ⟨HBEL.out, .inl ⟨rfl, HNO.out⟩⟩
  | some c =>
    change w.cell? ⟨b, 3, none⟩ = some (.pointer (some ⟨c, 0, none⟩)) at c3
    have HC : Hid (Ch kC c) := (H2.out c).2 rfl
    go_enter Yba.func23, Yba.ntmps23
    go_wp2_with fail
    go_ret
    exact ⟨HBEL.out, .inr ⟨c, rfl, HC.out⟩⟩

end Go.Proofs.Ybulkavso
