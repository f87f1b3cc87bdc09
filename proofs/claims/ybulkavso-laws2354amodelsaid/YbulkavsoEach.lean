/-
  LawS2354BFindsEach: the walk (given insert).
-/
import Derived.Test.YbulkavsoBuild
import Derived.LaidEqlPtr
namespace Go.Proofs.Ybulkavso
open Go.RowKit

theorem neq_ptr_same {P : Program} (w : World) {tp te : TypeId} {s : Nat} (a : Addr) (hp : P.underlying tp = some (.pointer te)) (hte : (P.info? te).map (·.size) = some s) :
    (binOp .neq tp (.pointer (some a)) (.pointer (some a))).run P w = .ok (.bool false) w := by
  obtain ⟨j, hj, _⟩ := Option.map_eq_some_iff.1 hte
  have h : ∀ d : Nat, (Op.equalIn (d + 1) tp (.pointer (some a)) (.pointer (some a))).run P w = .ok true w := fun d => by
    simp [Op.equalIn, run_underlying hp, sizeOf, typeInfo, hj, run_sameAddr_same]
  simp only [binOp]
  simp [Op.equal, Op.maxDepth, h 9999]
theorem size54 : (Yba.prog.info? 54).map (·.size) = some 4 := by kernel_rfl

theorem Drawn.below {w w' : World} (h : Drawn w w') : Below w.heap.size w w' := by
  obtain ⟨m, rfl⟩ := h
  exact ⟨rfl, rfl, rfl, Nat.le_refl _, fun _ _ => rfl⟩
theorem Drawn.cell {w w' : World} (h : Drawn w w') (a : Addr) : w'.cell? a = w.cell? a := by
  obtain ⟨m, rfl⟩ := h
  rfl

theorem find_built {w0 w : World} {vt vx vk : Value} {X : List ByteArray} {K : List Nat} (h : Built w0 w vt vx vk X K) (q : ByteArray) (hq : q.size ≤ 4096) :
    ∀ wx, Drawn w wx → Calls Yba.prog 16 #[vt, .string q] wx fun e w' => Found (Pairs X K) q e ∧ Drawn w w' := by
  intro wx hd
  have h' := h.later hd.below
  obtain ⟨h1, h2, h3, h4⟩ := h'
  rcases h4 with ⟨rfl, rfl, _⟩ | ⟨rb, rfl, _, hh⟩
  · refine (find_nil q wx).mono ?_
    rintro e w' ⟨rfl, rfl⟩
    exact ⟨.inr ⟨fun t c ⟨i, hi, _⟩ => by simp at hi, rfl⟩, hd⟩
  · obtain ⟨_, _, _, _, _, n, F, hT, _⟩ := hh
    refine (find_any n rb 0 (Pairs X K) F q wx hT (fun t c ⟨i, hi, _⟩ => (h3 t (List.mem_of_getElem? hi)).1) (fun t c ⟨i, hi, _⟩ => by have := (h3 t (List.mem_of_getElem? hi)).2; omega) hq).mono ?_
    rintro e w' ⟨hf, m, rfl⟩
    exact ⟨hf, hd.more m⟩

theorem Match.unique {q t t' : ByteArray} (h : Match q.data.toList t.data.toList) (h' : Match q.data.toList t'.data.toList) (hc : Clean t.data.toList) (hc' : Clean t'.data.toList) : t = t' := by
  rcases Nat.le_total t.data.toList.length t'.data.toList.length with hl | hl
  · exact Go.WideShapes.bytes_inj (eq_of_agree hc hc' (fun j hj => (h.agree j hj).symm.trans (h'.agree j (by omega))))
  · exact (Go.WideShapes.bytes_inj (eq_of_agree hc' hc (fun j hj => (h'.agree j hj).symm.trans (h.agree j (by omega))))).symm

theorem nodup_inj {X : List ByteArray} (hn : X.Nodup) {i j : Nat} (hi : i < X.length) (hj : j < X.length) (e : X[i] = X[j]) : i = j := by
  rw [List.nodup_iff_pairwise_ne, List.pairwise_iff_getElem] at hn
  rcases Nat.lt_trichotomy i j with h | h | h
  · exact absurd e (hn i j hi hj h)
  · exact h
  · exact absurd e.symm (hn j i hj hi h)

theorem pair_of {X : List ByteArray} {K : List Nat} (hn : X.Nodup) {i : Nat} (hi : i < X.length) (hk : i < K.length) {c : Nat} (h : Pairs X K X[i] c) : c = K[i] := by
  obtain ⟨j, h1, h2⟩ := h
  obtain ⟨hj, e⟩ := List.getElem?_eq_some_iff.1 h1
  have : j = i := nodup_inj hn hj hi e
  subst this
  rw [List.getElem?_eq_getElem hk] at h2
  exact (Option.some.inj h2).symm

theorem found_own {X : List ByteArray} {K : List Nat} {q : ByteArray} {e : Ending} (hn : X.Nodup) (hc : ∀ x ∈ X, Clean x.data.toList ∧ x.size ≤ 256) {i : Nat} (hi : i < X.length) (hk : i < K.length)
    (hM : Match q.data.toList X[i].data.toList) (hF : Found (Pairs X K) q e) : e = .returned (.tuple #[.pointer (some ⟨K[i], 0, none⟩), .int .i64 X[i].size]) := by
  rcases hF with ⟨t, c, ht, hm, rfl⟩ | ⟨hno, _⟩
  · have htX : t ∈ X := by
      obtain ⟨j, h1, _⟩ := ht
      exact List.mem_of_getElem? h1
    obtain rfl : t = X[i] := hm.unique hM (hc t htX).1 (hc _ (List.getElem_mem hi)).1
    rw [pair_of hn hi hk ht]
  · exact absurd hM (hno X[i] K[i] ⟨i, by simp [hi], by simp [hk]⟩)

theorem match_self (s : ByteArray) : Match s.data.toList s.data.toList := ⟨List.take_length, bAt_ge (Nat.le_refl _)⟩
def slashx : ByteArray := ⟨#[47, 120]⟩
theorem slash_data (s : ByteArray) : (s ++ slashx).data.toList = s.data.toList ++ [47, 120] := by simp [slashx]
theorem match_slash (s : ByteArray) : Match (s ++ slashx).data.toList s.data.toList := by
  rw [slash_data]
  refine ⟨List.take_left, ?_⟩
  rw [bAt_lt (by simp)]
  rw [List.getElem_append_right (Nat.le_refl _)]
  simp

theorem each_self {w0 w : World} {vt vx vk : Value} {X : List ByteArray} {K : List Nat} (h : Built w0 w vt vx vk X K) {i : Nat} (hi : i < X.length) (hk : i < K.length) :
    ∀ wx, Drawn w wx → Calls Yba.prog 16 #[vt, .string X[i]] wx fun e w' => e = .returned (.tuple #[.pointer (some ⟨K[i], 0, none⟩), .int .i64 X[i].size]) ∧ Drawn w w' := fun wx hd =>
  (find_built h X[i] (by have := (h.2.2.1 _ (List.getElem_mem hi)).2; omega) wx hd).mono fun _ _ hx => ⟨found_own h.2.1 h.2.2.1 hi hk (match_self _) hx.1, hx.2⟩

theorem each_slash {w0 w : World} {vt vx vk : Value} {X : List ByteArray} {K : List Nat} (h : Built w0 w vt vx vk X K) {i : Nat} (hi : i < X.length) (hk : i < K.length) :
    ∀ wx, Drawn w wx → Calls Yba.prog 16 #[vt, .string (X[i] ++ slashx)] wx fun e w' => e = .returned (.tuple #[.pointer (some ⟨K[i], 0, none⟩), .int .i64 X[i].size]) ∧ Drawn w w' := fun wx hd =>
  (find_built h (X[i] ++ slashx) (by
    have h1 := (h.2.2.1 _ (List.getElem_mem hi)).2
    have h2 : (X[i] ++ slashx).size = X[i].size + 2 := by rw [ByteArray.size_append]; rfl
    omega) wx hd).mono fun _ _ hx => ⟨found_own h.2.1 h.2.2.1 hi hk (match_slash _) hx.1, hx.2⟩

set_option maxRecDepth 100000 in
set_option maxHeartbeats 2000000 in
theorem each_any (hins : InsertLaw) (a : Option Addr) (len cap : Nat) (A : Nat → Option Addr) (L C : Nat → Nat) (z : Nat → Nat → Nat) (w0 : World) (hlen : len ≤ maxLen) (hm : MatIn w0 a len A L C z) :
    Calls Yba.prog 4 #[.slice a len cap] w0 fun e w' => e = .returned (.bool true) ∧ Below w0.heap.size w0 w' := by
  have HM := hideIt hm
  have HI := hideIt hins
  have HLEN := hideIt hlen
  clear hm hins hlen
  go_enter Yba.func4, Yba.ntmps4
  go_wp2_with fail
  go_at_call 14
  refine (small_any a len cap A L C z w0 HLEN.out HM.out).mono ?_
  rintro e w' ⟨rfl, bs, rfl, hbs⟩
  cases bs with
  | false =>
    go_wp2_with fail
    go_ret
    exact ⟨rfl, Below.refl _ _⟩
  | true =>
    have HSH := hideIt (hbs rfl)
    clear hbs
    go_wp2_with fail
    go_at_call 15
    refine (build_any HI.out a len cap A L C z w' HSH.out HM.out).mono ?_
    rintro e w1 ⟨vt, vx, vk, X, K, rfl, hbt, hX⟩
    have HBT := hideIt hbt
    clear hbt
    obtain ⟨ax, cx, rfl, hxr⟩ := HBT.out.row
    obtain ⟨ak, ck, rfl, hkr⟩ := HBT.out.krow
    have HXR := hideIt hxr
    have HKR := hideIt hkr
    have HXK : Hid (X.length = K.length) := HBT.out.1
    clear hxr hkr
    have hneq : ∀ (wx : World) (c : Nat), (binOp .neq 26 (.pointer (some ⟨c, 0, none⟩)) (.pointer (some ⟨c, 0, none⟩))).run Yba.prog wx = .ok (.bool false) wx := fun wx c => neq_ptr_same wx _ Yba.underlying26 size54
    go_wp2_with fail
    go_loopw [21] (fun v wr => ∃ i : Nat, i ≤ X.length ∧ v = .int .i64 i ∧ Drawn w1 wr) (fun v _ => X.length - (intOf v).toNat)
    case atStart => exact ⟨0, Nat.zero_le _, rfl, Drawn.refl _⟩
    case round =>
      obtain ⟨i, hi, rfl, hdr⟩ := hrel
      have HDR := hideIt hdr
      clear hdr
      by_cases hlt : i < X.length
      · have hk : i < K.length := by have := HXK.out; omega
        obtain ⟨gx, rfl, hcx⟩ := HXR.out (by omega)
        obtain ⟨gk, rfl, hck⟩ := HKR.out (by omega)
        have x1 : wr.cell? ⟨gx, i, none⟩ = some (.string X[i]) := (HDR.out.cell _).trans (hcx i hlt)
        have HCK : Hid (w1.cell? ⟨gk, i, none⟩ = some (.pointer (some ⟨K[i], 0, none⟩))) := hck i hk
        have hs256 : X[i].size ≤ 256 := (HBT.out.2.2.1 _ (List.getElem_mem hlt)).2
        have HF1 := hideIt (each_self HBT.out hlt hk)
        have hf2 := each_slash HBT.out hlt hk
        unfold slashx at hf2
        have HF2 := hideIt hf2
        clear hf2
        clear hcx hck
        generalize X[i] = s at *
        generalize K[i] = c at *
        go_wp2_with fail
        go_at_call 16
        refine (HF1.out _ HDR.out).mono ?_
        rintro e w2 ⟨rfl, hd2⟩
        have HD2 := hideIt hd2
        have k2 : w2.cell? ⟨gk, i, none⟩ = some (.pointer (some ⟨c, 0, none⟩)) := (HD2.out.cell _).trans HCK.out
        clear hd2 x1
        go_wp2_with fail
        go_at_call 16
        refine (HF2.out _ HD2.out).mono ?_
        rintro e w3 ⟨rfl, hd3⟩
        have HD3 := hideIt hd3
        have k3 : w3.cell? ⟨gk, i, none⟩ = some (.pointer (some ⟨c, 0, none⟩)) := (HD3.out.cell _).trans HCK.out
        clear hd3 k2
        go_wp2_with fail
        go_roundw
        case rel => exact ⟨i + 1, by omega, by go_num, HD3.out⟩
        case measure => simp [intOf]; omega
      · obtain rfl : i = X.length := by omega
        go_wp2_with fail
        go_ret
        exact ⟨rfl, HBT.out.below.trans (HDR.out.below.mono HBT.out.below.size)⟩

end Go.Proofs.Ybulkavso
