/-
  Laws of no program that the walk of (*branch).add wants: a row that may bear a mark behind its end; '[]byte(s)' as such a row; append of so many zeros to it; copy of elements of several cells; one cell of it written.
-/
import Derived.WalkKit
import Derived.Lib.AppendZeros
import Derived.Lib.FrozenHead
import Derived.Laws.IdiomStrings
import Derived.Laws.CopyRow
namespace Go.Proofs.Ybulkavso
open Go.RowKit

/-- Block g is a row of cap cells of type e, none of them frozen, whose first n cells are xs. -/
def BRow (w : World) (e : TypeId) (g n cap : Nat) (xs : List Value) : Prop :=
  ∃ (cur : Array Value) (fz : Nat × Nat), w.heap[g]? = some (.cells cur e fz) ∧ (fz.2 = 0 ∨ cur.size ≤ fz.1) ∧ cur.size = cap ∧ n ≤ cap ∧ cur.toList.take n = xs ∧ xs.length = n

theorem not_frozen {w : World} {g o : Nat} {t : TypeId} {cur : Array Value} {fz : Nat × Nat} (hg : w.heap[g]? = some (.cells cur t fz)) (hf : fz.2 = 0 ∨ cur.size ≤ fz.1) (ho : o < cur.size) : w.frozen? ⟨g, o, none⟩ = false := by
  obtain ⟨lo, hi⟩ := fz
  simp only [World.frozen?, hg, Bool.and_eq_false_iff, decide_eq_false_iff_not]
  simp only at hf
  rcases hf with hf | hf
  · right; omega
  · left; omega

theorem run_storeCells_row (P : Program) (g o : Nat) (t : TypeId) (fz : Nat × Nat) : ∀ (vs : List Value) (i : Nat) (cur : Array Value) (w : World), w.heap[g]? = some (.cells cur t fz) → (fz.2 = 0 ∨ cur.size ≤ fz.1) → o + i + vs.length ≤ cur.size → (∀ v ∈ vs, v.oneCell' = true) →
    (storeCells ⟨g, o, none⟩ vs i).run P w = .ok () (w.setRow g (cur.toList.take (o + i) ++ vs ++ cur.toList.drop (o + i + vs.length)).toArray)
  | [], i, cur, w, hg, _, _, _ => by
    simp only [storeCells, List.append_nil, List.length_nil, Nat.add_zero, List.take_append_drop, Array.toArray_toList]
    rw [setRow_self w g cur t fz hg]
    rfl
  | v :: rest, i, cur, w, hg, hfz, hl, h1 => by
    have hi : o + i < cur.size := by simp at hl; omega
    have hadd : (⟨g, o, none⟩ : Addr).add i = ⟨g, o + i, none⟩ := by unfold Addr.add; split <;> simp_all
    have hcell : w.cell? ⟨g, o + i, none⟩ = some cur[o + i] := by simp [World.cell?, hg, hi]
    have hfro : w.frozen? ⟨g, o + i, none⟩ = false := not_frozen hg hfz hi
    have hst : (store ((⟨g, o, none⟩ : Addr).add i) v).run P w = .ok () (w.setRow g (cur.setIfInBounds (o + i) v)) := by
      rw [hadd, run_store P w _ v _ (h1 v (by simp)), hcell]
      simp [hfro, setCell_eq_setRow w g (o + i) cur t fz v hg]
    have ih := run_storeCells_row P g o t fz rest (i + 1) (cur.setIfInBounds (o + i) v) (w.setRow g (cur.setIfInBounds (o + i) v)) (setRow_heap w g cur _ t _ hg) (by simpa using hfz) (by simp at hl ⊢; omega) (fun x hx => h1 x (by simp [hx]))
    simp only [storeCells, Sem.run_bind, hst, Result.andThen_ok, ih, setRow_setRow]
    congr 3
    have e := list_seg_step cur.toList (o + i) v rest (by simp at hl ⊢; omega)
    simpa [Array.toList_setIfInBounds, Nat.add_assoc] using e

theorem zeroCells_one (z : Value) (n : Nat) : (Builtin.zeroCells #[z] n).toList = List.replicate n z := by
  apply List.ext_getElem
  · simp [Builtin.zeroCells]
  · intro i h1 h2
    simp [Builtin.zeroCells, Nat.mod_one]

theorem grownBy_setRow (w : World) (g : Nat) (cs : Array Value) : w.grownBy (w.setRow g cs) (some g) :=
  ⟨rfl, rfl, rfl, by simp, fun k _ hk => setRow_other w g k _ (fun e => hk (by simp [e]))⟩

/-- 'append(x, make([]T, m)...)': m zeros behind the row's elements, in the row itself or in a new one. -/
theorem run_append_zeros {P : Program} (w : World) (t tn ty e : TypeId) (i : TypeInfo) (z : Value) (k kn : IntKind) (ht : P.underlying t = some (.slice e)) (htn : P.underlying tn = some (.int kn)) (hi : P.info? e = some i) (hz : i.zero = some z)
    (hs : i.size = 1) (hb : i.bytes = 1) (hz1 : z.cells = #[z]) (hzc : z.oneCell' = true) (g n cap m : Nat) (xs : List Value) (hrow : BRow w e g n cap xs) (hm : 0 < m) (hsm : n + m ≤ 4096) :
    ∃ (g' cap' : Nat) (w' : World), (Builtin.append_ #[t, tn] ty #[.slice (some ⟨g, 0, none⟩) n cap, .int k m]).run P w = .ok (.slice (some ⟨g', 0, none⟩) (n + m) cap') w' ∧
      BRow w' e g' (n + m) cap' (xs ++ List.replicate m z) ∧ (g' = g ∨ g' = w.heap.size) ∧ w.grownBy w' (some g) := by
  obtain ⟨cur, fz, hg, hfz, hcs, hnc, htake, hxl⟩ := hrow
  have hw : IntKind.i64.wrap (m : Int) = m := by rw [IntKind.wrap_i64]; omega
  have hneg : ¬ ((m : Int) < 0) := by omega
  have h48i : ¬ (281474976710656 < (m : Int) * (i.bytes : Int)) := by rw [hb]; omega
  have hm0 : m ≠ 0 := by omega
  have hns : ¬ (m * i.size = 0) := by rw [hs]; omega
  by_cases hroom : n + m ≤ cap
  · have hst := run_storeCells_row P g n e fz (List.replicate m z) 0 cur w hg hfz (by simp; omega) (by intro v hv; rw [List.eq_of_mem_replicate hv]; exact hzc)
    simp only [Nat.add_zero, List.length_replicate] at hst
    refine ⟨g, cap, _, ?_, ⟨(cur.toList.take n ++ List.replicate m z ++ cur.toList.drop (n + m)).toArray, fz, setRow_heap w g cur _ e fz hg, ?_, ?_, hroom, ?_, by simp [hxl]⟩, .inl rfl, grownBy_setRow w g _⟩
    · simp [Builtin.append_, run_underlying ht, run_underlying htn, sizeOf, typeInfo, zeroValue, hi, hz, hs, hz1, asInt, asIntOf, hw, hneg, h48i, hm0, hroom, Addr.add_lit, zeroCells_one, hst]
    · rcases hfz with h | h
      · exact .inl h
      · right; simp; omega
    · simp; omega
    · rw [htake]
      show List.take (n + m) (xs ++ List.replicate m z ++ cur.toList.drop (n + m)) = _
      have : n + m = (xs ++ List.replicate m z).length := by simp [hxl]
      rw [this]
      exact List.take_left
  · have h63' : ¬ (9223372036854775807 < ((n : Int) + (m : Int))) := by omega
    have h48' : ¬ (281474976710656 < Builtin.nextslicecap (n + m) cap * i.bytes) := by
      have := growslice_fits (need := n + m) (old := cap) (bytes := i.bytes) (by omega) (by rw [hb]; omega)
      omega
    have hfo := run_firstCells_some (P := P) w.drew i.size n ⟨g, 0, none⟩ n cap xs (by rw [hxl, hs]; omega) (by
      intro j v hj
      have hjn : j < n := by have := (List.getElem?_eq_some_iff.1 hj).1; omega
      rw [← htake, List.getElem?_take, if_pos hjn] at hj
      have hadd : (⟨g, 0, none⟩ : Addr).add j = ⟨g, j, none⟩ := by unfold Addr.add; split <;> simp_all
      rw [hadd]
      show w.cell? ⟨g, j, none⟩ = some v
      simpa [World.cell?, hg] using hj)
    have hge := grownCap_ge w (n + m) cap e
    refine ⟨w.heap.size, grownCap w (n + m) cap e, w.drew.alloc (.cells (xs.toArray ++ (List.replicate m z).toArray ++ Builtin.zeroCells z.cells (grownCap w (n + m) cap e - (n + m))) e), ?_, ⟨_, _, heap_alloc_new w.drew _, .inl rfl, ?_, hge, ?_, by simp [hxl]⟩, .inr rfl, ⟨rfl, rfl, rfl, by simp, fun k hk _ => Below.heap_alloc w.drew _ k hk⟩⟩
    · rw [hs] at hfo
      simp [Builtin.append_, run_underlying ht, run_underlying htn, sizeOf, typeInfo, zeroValue, hi, hz, hs, hz1, asInt, asIntOf, hw, hneg, h48i, hm0, hroom, h63', h48', Question.forced, hfo, newRow, grownCap]
      congr 2
      apply Array.ext'
      simp [zeroCells_one]
    · simp [size_zeroCells, hz1, hxl]
      omega
    · simp only [Array.toList_append]
      have : n + m = (xs ++ List.replicate m z).length := by simp [hxl]
      rw [this]
      exact List.take_left

/-- '[]byte(s)' as such a row. -/
theorem bytes_row {P : Program} (w : World) (src dst e : TypeId) (s : ByteArray) (hs : P.underlying src = some .string) (hd : P.underlying dst = some (.slice e)) (he : P.underlying e = some (.int .u8)) :
    ∃ (cap : Nat) (w' : World), (convert src dst (.string s)).run P w = .ok (.slice (some ⟨w.heap.size, 0, none⟩) s.size cap) w' ∧
      BRow w' e w.heap.size s.size cap (s.data.toList.map fun b => Value.int .u8 b.toNat) ∧ w.grownBy w' none ∧ w'.heap.size = w.heap.size + 1 := by
  refine ⟨_, _, run_bytes_of_string w src dst e s hs hd he, ⟨_, _, heap_alloc_new w.drew _, .inr (Nat.le_refl _), ?_, grownCap_ge w s.size 0 e, ?_, by simp⟩, ⟨rfl, rfl, rfl, by simp, fun k hk _ => Below.heap_alloc w.drew _ k hk⟩, by simp⟩
  · have := grownCap_ge w s.size 0 e
    have hss : s.data.size = s.size := rfl
    simp [bytesRow, hss]
    omega
  · have hss : s.size = ((s.data.toList.map fun b => Value.int .u8 b.toNat) : List Value).length := by simp
    simp only [bytesRow, Array.toList_append, Array.toList_map]
    rw [hss]
    exact List.take_left

/-- 'copy(dst, src)' of elements of several cells, onto a row's head. -/
theorem run_copy_rows {P : Program} (w : World) (dT sT ty elem : TypeId) (size : Nat) (g dLen dCap : Nat) (a : Addr) (sLen sCap : Nat) (cur : Array Value) (t : TypeId) (cs : List Value)
    (hu : P.underlying dT = some (.slice elem)) (hs : (P.info? elem).map (·.size) = some size)
    (hg : w.heap[g]? = some (.cells cur t (0, 0))) (hn : cs.length = Nat.min sLen dLen * size)
    (hsrc : ∀ j v, cs[j]? = some v → w.cell? (a.add j) = some v) (hfit : cs.length ≤ cur.size) (h1 : ∀ v ∈ cs, v.oneCell' = true) :
    (Builtin.copy_ #[dT, sT] ty #[.slice (some ⟨g, 0, none⟩) dLen dCap, .slice (some a) sLen sCap]).run P w =
      .ok (goInt (Nat.min sLen dLen)) (w.setRow g (cs ++ cur.toList.drop cs.length).toArray) := by
  have hl := run_loadCells_list (P := P) w a cs hsrc
  have hst := run_storeCells_at P g 0 t cs 0 cur w hg (by simpa using hfit) h1
  simp only [Nat.add_zero, Nat.zero_add, List.take_zero, List.nil_append] at hst
  cases hq : P.info? elem with
  | none => simp [hq] at hs
  | some i =>
    have hi : i.size = size := by simpa [hq] using hs
    simp [Builtin.copy_, run_underlying hu, Builtin.lenOf, Builtin.firstCells, sizeOf, typeInfo, hq, hi, ← hn, hl, hst]

theorem wpList_copy_run {P : Program} (w : World) {ops : Array Oper} {rest : List Oper} {o : Oper} {a : Act} {Q : Exit → Act → World → Prop} (hgd : o.guard = none) (s x : Operand) (t tn : TypeId)
    (ho : o.op = .call { callee := .builtin .copy, args := #[s, x], argTypes := #[t, tn] }) (vs vx : Value) (hs : a.eval s = vs) (hx : a.eval x = vx)
    (v' : Value) (w' : World) (hr : (Builtin.copy_ #[t, tn] o.type #[vs, vx]).run P w = .ok v' w') (h : wpList P ops Q rest (a.put o.dst v') w') : wpList P ops Q (o :: rest) a w := by
  refine wpList_plain hgd fun K hK => ?_
  unfold Oper.wp
  simp [execOp, ho, resolve, invoke, builtin, hs, hx, hr, Result.andThen]
  exact hK _ _ h

theorem heap_set_same {w : World} {b o : Nat} {cs : Array Value} {t : TypeId} {fz : Nat × Nat} (h : w.heap[b]? = some (.cells cs t fz)) (v : Value) : (w.setCell ⟨b, o, none⟩ v).heap[b]? = some (.cells (cs.setIfInBounds o v) t fz) := by
  rw [setCell_eq_setRow w b o cs t fz v h]
  exact setRow_heap w b cs _ t fz h

theorem heap_set_other {w : World} {b o x : Nat} (v : Value) (h : x ≠ b) : (w.setCell ⟨b, o, none⟩ v).heap[x]? = w.heap[x]? := Below.heap_setCell w ⟨b, o, none⟩ v x h

end Go.Proofs.Ybulkavso
