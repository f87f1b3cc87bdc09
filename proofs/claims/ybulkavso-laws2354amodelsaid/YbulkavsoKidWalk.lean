/-
  (*node).child, walked: where it may make, and where it may not.
-/
import Derived.Test.YbulkavsoKid
import Derived.Deep.QuietTactic
namespace Go.Proofs.Ybulkavso
open Go.RowKit

theorem ptrO_cell {w : World} {b : Nat} {r sp pp cp : Option Nat} (h : w.heap[b]? = some (.cells #[ptrO r, ptrO sp, ptrO pp, ptrO cp] 54)) :
    w.cell? ⟨b, 0, none⟩ = some (ptrO r) ∧ w.cell? ⟨b, 1, none⟩ = some (ptrO sp) ∧ w.cell? ⟨b, 2, none⟩ = some (ptrO pp) ∧ w.cell? ⟨b, 3, none⟩ = some (ptrO cp) := by
  simp [World.cell?, h]

theorem ptrO_frozen {w : World} {b : Nat} {cs : Array Value} (h : w.heap[b]? = some (.cells cs 54)) (j : Nat) : w.frozen? ⟨b, j, none⟩ = false := by
  simp [World.frozen?, h]

set_option maxRecDepth 100000 in
set_option maxHeartbeats 1000000 in
/-- A static segment. -/
theorem child_static (hins : InsertLaw) (n b : Nat) (R : Tell) (F : Nat → Prop) (T : ByteArray) (w : World) (hT : NodeT (n + 1) w b R F) (hlt : ∀ x, F x → x < w.heap.size) (hTc : Clean T.data.toList) (hT2 : T.size ≤ 256) :
    Calls Yba.prog 23 #[.pointer (some ⟨b, 0, none⟩), segV 0 T, .bool true] w fun e w' => ∃ c, e = .returned (.pointer (some ⟨c, 0, none⟩)) ∧ ChildOk w w' b R F (kS T) c := by
  obtain ⟨Ch, Fk, F0, hk⟩ := hT
  have HI := hide hins
  have HK := hide hk
  have HLT := hide hlt
  have HTC := hide hTc
  obtain ⟨sp, o, N, hc1, hcase, hfind⟩ := find_text hk.1 hk.2.1 T hTc hT2
  have hb : b < w.heap.size := hlt b (hk.2.2.2.2.1 b hk.1.1)
  have hb1 : b < w.heap.size + 1 := by omega
  have HF : Hid (∀ nq, Calls Yba.prog 16 #[ptrO sp, .string T] ((w.alloc (.cells #[.int .i64 0, .string T] 71)).drewN nq) fun e w' => e = .returned (.tuple #[ptrO o, .int .i64 N]) ∧ ∃ m, w' = ((w.alloc (.cells #[.int .i64 0, .string T] 71)).drewN nq).drewN m) := fun nq =>
    hfind _ (fun x hx => Below.heap_alloc w _ x (hlt x (hk.2.2.2.2.1 x hx)))
  clear hins hk hlt hfind hTc
  unfold segV
  rcases hcase with ⟨rfl, hno⟩ | ⟨c, rfl, hc⟩
  · have HNO := hide hno
    clear hno
    change Hid (∀ nq, Calls Yba.prog 16 #[ptrO sp, .string T] ((w.alloc (.cells #[.int .i64 0, .string T] 71)).drewN nq) fun e w' => e = .returned (.tuple #[.pointer none, .int .i64 N]) ∧ ∃ m, w' = ((w.alloc (.cells #[.int .i64 0, .string T] 71)).drewN nq).drewN m) at HF
    generalize ptrO sp = vsp at *
    go_enter Yba.func23, Yba.ntmps23
    go_wp2_with fail
    go_quiet ((go_at_call 16; exact Calls.quiet_of (HF.out _)))
    go_wp2_with fail
    go_at_call 34
    have hbel : Below w.heap.size w ((w.alloc (.cells #[.int .i64 0, .string T] 71)).drewN nq) := ⟨rfl, rfl, rfl, by simp, fun k hk => Below.heap_alloc w _ k hk⟩
    refine (addStatic_any HI.out b (R []) Ch F0 T _ (HK.out.1.move (fun x hx => hbel.block x (HLT.out x (HK.out.2.2.2.2.1 x hx)))) (fun x hx => by have := HLT.out x (HK.out.2.2.2.2.1 x hx); simp; omega) HTC.out hT2 HNO.out).mono ?_
    rintro e w2 ⟨d, rfl, hadd⟩
    have HADD := hide (ChildOk.fresh HK.out HLT.out HNO.out hbel hadd)
    clear hadd hbel
    go_wp2_with fail
    go_ret
    exact ⟨d, rfl, HADD.out⟩
  · have HC := hide hc
    clear hc
    change Hid (∀ nq, Calls Yba.prog 16 #[ptrO sp, .string T] ((w.alloc (.cells #[.int .i64 0, .string T] 71)).drewN nq) fun e w' => e = .returned (.tuple #[.pointer (some ⟨c, 0, none⟩), .int .i64 N]) ∧ ∃ m, w' = ((w.alloc (.cells #[.int .i64 0, .string T] 71)).drewN nq).drewN m) at HF
    generalize ptrO sp = vsp at *
    go_enter Yba.func23, Yba.ntmps23
    go_wp2_with fail
    go_quiet ((go_at_call 16; exact Calls.quiet_of (HF.out _)))
    go_wp2_with fail
    go_ret
    have hbel : ∀ nq, Below w.heap.size w ((w.alloc (.cells #[.int .i64 0, .string T] 71)).drewN nq) := fun nq => ⟨rfl, rfl, rfl, by simp, fun k hk => Below.heap_alloc w _ k hk⟩
    exact ⟨c, rfl, ChildOk.found HK.out HLT.out HC.out (hbel _)⟩

end Go.Proofs.Ybulkavso
