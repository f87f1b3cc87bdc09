/-
  '==' and '!=' between two pointers, both not nil: the same address; two addresses in plain blocks.
-/
import Derived.Test.YbulkavqyRows
import Derived.LaidEqlPtr
namespace Go.Proofs.Ybulkavqy

section
variable {P : Program} (w : World)

theorem eql_ptr_same {tp te : TypeId} {s : Nat} (a : Addr) (hp : P.underlying tp = some (.pointer te)) (hte : (P.info? te).map (·.size) = some s) :
    (binOp .eql tp (.pointer (some a)) (.pointer (some a))).run P w = .ok (.bool true) w := by
  obtain ⟨j, hj, _⟩ := Option.map_eq_some_iff.1 hte
  exact run_eql_ptr_same w a hp hj

theorem eql_ptr_other {tp te : TypeId} {s : Nat} {a b : Addr} {ca cb : Array Value} {ta tb : TypeId} (hp : P.underlying tp = some (.pointer te)) (hte : (P.info? te).map (·.size) = some (s + 1))
    (hne : a ≠ b) (ha : w.heap[a.block]? = some (.cells ca ta (0, 0))) (hb : w.heap[b.block]? = some (.cells cb tb (0, 0))) :
    (binOp .eql tp (.pointer (some a)) (.pointer (some b))).run P w = .ok (.bool false) w := by
  obtain ⟨j, hj, hs⟩ := Option.map_eq_some_iff.1 hte
  exact run_eql_ptr_other w hp hj (by omega) hne ha hb

theorem neq_ptr_same {tp te : TypeId} {s : Nat} (a : Addr) (hp : P.underlying tp = some (.pointer te)) (hte : (P.info? te).map (·.size) = some s) :
    (binOp .neq tp (.pointer (some a)) (.pointer (some a))).run P w = .ok (.bool false) w := by
  obtain ⟨j, hj, _⟩ := Option.map_eq_some_iff.1 hte
  have h : ∀ d : Nat, (Op.equalIn (d + 1) tp (.pointer (some a)) (.pointer (some a))).run P w = .ok true w := fun d => by
    simp [Op.equalIn, run_underlying hp, sizeOf, typeInfo, hj, run_sameAddr_same]
  simp only [binOp]
  simp [Op.equal, Op.maxDepth, h 9999]

theorem neq_ptr_other {tp te : TypeId} {s : Nat} {a b : Addr} {ca cb : Array Value} {ta tb : TypeId} (hp : P.underlying tp = some (.pointer te)) (hte : (P.info? te).map (·.size) = some (s + 1))
    (hne : a ≠ b) (ha : w.heap[a.block]? = some (.cells ca ta (0, 0))) (hb : w.heap[b.block]? = some (.cells cb tb (0, 0))) :
    (binOp .neq tp (.pointer (some a)) (.pointer (some b))).run P w = .ok (.bool true) w := by
  obtain ⟨j, hj, hs⟩ := Option.map_eq_some_iff.1 hte
  have h : ∀ d : Nat, (Op.equalIn (d + 1) tp (.pointer (some a)) (.pointer (some b))).run P w = .ok false w := fun d => by
    simp [Op.equalIn, run_underlying hp, sizeOf, typeInfo, hj, hs, run_sameAddr_other w hne ha hb]
  simp only [binOp]
  simp [Op.equal, Op.maxDepth, h 9999]
end

theorem size58 : (Yba.prog.info? 58).map (·.size) = some 16 := by kernel_rfl
theorem size55 : (Yba.prog.info? 55).map (·.size) = some 9 := by kernel_rfl

end Go.Proofs.Ybulkavqy
