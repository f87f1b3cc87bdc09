/-
  byteAt and (*branch).pick.
-/
import Derived.Test.YbulkavsoRows
import Derived.Test.YbulkavsoTrie
import Derived.WalkSpells
import Derived.BigQuiet
import Derived.Deep.QuietTactic
namespace Go.Proofs.Ybulkavso
open Go.RowKit

theorem bAt_get (s : ByteArray) (i : Nat) (h : i < s.size) : bAt s.data.toList i = s[i] := by
  rw [bAt_lt (by simpa using h)]; rfl

theorem ret_int {k : IntKind} {a b : Int} (h : a = b) : Ending.returned (.int k a) = .returned (.int k b) := by rw [h]

theorem ret_ptr {b o o' : Nat} (h : o = o') : Ending.returned (.pointer (some ⟨b, o, none⟩)) = .returned (.pointer (some ⟨b, o', none⟩)) := by rw [h]

theorem byteAt_any (s : ByteArray) (i : Nat) (w : World) :
    Calls Yba.prog 27 #[.string s, .int .i64 i] w fun e w' => e = .returned (.int .u8 (bAt s.data.toList i).toNat) ∧ w = w' := by
  by_cases h : i < s.size
  · go_enter Yba.func27, Yba.ntmps27
    go_wp2
    go_ret
    exact ⟨ret_int (by rw [bAt_get s i h]), rfl⟩
  · go_enter Yba.func27, Yba.ntmps27
    go_wp2
    go_ret
    exact ⟨ret_int (by rw [bAt_ge (by simp; omega)]; rfl), rfl⟩

set_option maxHeartbeats 400000 in
theorem pick_any (bb pos : Nat) (P : ByteArray) (lo c : UInt8) (ab k : Nat) (ch : Nat → UInt8) (w : World) (hb : BranchObj w bb pos P lo ab k) (hP : Picks P.data.toList lo k ch) (hk : 2 ≤ k) :
    Calls Yba.prog 35 #[.pointer (some ⟨bb, 0, none⟩), .int .u8 c.toNat] w fun e w' => e = .returned (.pointer (some ⟨ab, 3 * pickIdx P.data.toList lo c, none⟩)) ∧ ∃ n, w' = w.drewN n := by
  have c1 : w.cell? ⟨bb, 1, none⟩ = some (.string P) := by simp [World.cell?, show w.heap[bb]? = _ from hb]
  have c2 : w.cell? ⟨bb, 2, none⟩ = some (.int .u8 lo.toNat) := by simp [World.cell?, show w.heap[bb]? = _ from hb]
  have c3 : w.cell? ⟨bb, 3, none⟩ = some (.slice (some ⟨ab, 0, none⟩) k k) := by simp [World.cell?, show w.heap[bb]? = _ from hb]
  have hcl := c.toNat_lt
  have hll := lo.toNat_lt
  have hfit := hP.fit
  obtain ⟨d, hd⟩ : ∃ d : Nat, d = (c - lo).toNat := ⟨_, rfl⟩
  have hdd : ((c.toNat : Int) - lo.toNat) % 256 = d := by rw [hd, sub_nat]; omega
  have HI : Hid (pickIdx P.data.toList lo c = (P.data.toList.getD d 0).toNat) := by unfold pickIdx; rw [← hd]; rfl
  have HX : Hid (pickIdx P.data.toList lo c < k) := hP.idx_lt (by omega) c
  clear hd hfit
  by_cases h : d < P.size
  · have hg : P.data.toList.getD d 0 = P[d] := by rw [List.getD, List.getElem?_eq_getElem (by simpa using h)]; rfl
    have hp : P[d].toNat < k := by have := HX.out; rw [HI.out, hg] at this; exact this
    have hp' : ((P[d].toNat : Nat) : Int) < (k : Int) := by omega
    have HE : Hid (pickIdx P.data.toList lo c = P[d].toNat) := by rw [HI.out, hg]; rfl
    clear hg HI HX
    go_enter Yba.func35, Yba.ntmps35
    go_wp2
    go_quiet (fail)
    go_wp2
    go_ret
    exact ⟨ret_ptr (by rw [HE.out, Nat.mul_comm]), nq, rfl⟩
  · have HE : Hid (pickIdx P.data.toList lo c = 0) := by rw [HI.out, List.getD, List.getElem?_eq_none (by simp; omega)]; rfl
    clear HI HX
    go_enter Yba.func35, Yba.ntmps35
    go_wp2
    go_ret
    exact ⟨ret_ptr (by rw [HE.out]), 0, rfl⟩

end Go.Proofs.Ybulkavso
