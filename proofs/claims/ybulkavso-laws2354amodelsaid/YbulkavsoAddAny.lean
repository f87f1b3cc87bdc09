/-
  (*branch).add, its four ways in one contract.
-/
import Derived.Test.YbulkavsoAddE
import Derived.Test.YbulkavsoAddL
import Derived.Test.YbulkavsoAddX
namespace Go.Proofs.Ybulkavso
open Go.RowKit

theorem add_any (bb pos k : Nat) (P : ByteArray) (lo c : UInt8) (ao : Option Addr) (cs : Array Value) (p0 p2 : Option Addr) (s1 : ByteArray) (w : World)
    (hb : w.heap[bb]? = some (.cells #[.int .i64 pos, .string P, .int .u8 lo.toNat, .slice ao k k] 88))
    (hsl : (k = 0 ∧ ao = none) ∨ ∃ ab, ao = some ⟨ab, 0, none⟩ ∧ w.heap[ab]? = some (.cells cs 83) ∧ ab ≠ bb)
    (hcs : cs.size = 3 * k) (hone : ∀ v ∈ cs.toList, v.oneCell' = true) (hk : k ≤ 255) (hPs : P.size ≤ 256) :
    Calls Yba.prog 36 #[.pointer (some ⟨bb, 0, none⟩), .int .u8 c.toNat, .agg #[.pointer p0, .string s1, .pointer p2]] w fun e w' => e = .returned (.tuple #[]) ∧ Added w bb pos k P lo c cs p0 s1 p2 w' := by
  by_cases hP : P.data.toList = []
  · exact add_empty bb pos k P lo c ao cs p0 p2 s1 w hb hsl hcs hone hk hPs hP
  · by_cases h1 : c < lo
    · exact add_less bb pos k P lo c ao cs p0 p2 s1 w hb hsl hcs hone hk hPs hP h1
    · by_cases h2 : (c - lo).toNat < P.size
      · exact add_mid bb pos k P lo c ao cs p0 p2 s1 w hb hsl hcs hone hk hPs hP h1 h2
      · exact add_ext bb pos k P lo c ao cs p0 p2 s1 w hb hsl hcs hone hk hPs hP h1 (by omega)

end Go.Proofs.Ybulkavso
