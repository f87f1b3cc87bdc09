/-
  LawS2354BProbes: the walk (given insert).
-/
import Derived.Test.YbulkavsoEach
namespace Go.Proofs.Ybulkavso
open Go.RowKit

/-- What the plain scan has come to behind the first j texts. -/
def Scan (q : ByteArray) (X : List ByteArray) (K : List Nat) (j : Nat) (want wantN : Value) : Prop :=
  (want = .pointer none ∧ wantN = .int .i64 0 ∧ ∀ m, (hm : m < X.length) → m < j → ¬ Match q.data.toList X[m].data.toList) ∨
  ∃ m, ∃ (hm : m < X.length) (hk : m < K.length), m < j ∧ Match q.data.toList X[m].data.toList ∧ want = .pointer (some ⟨K[m], 0, none⟩) ∧ wantN = .int .i64 X[m].size

theorem Scan.hit {q : ByteArray} {X : List ByteArray} {K : List Nat} {j : Nat} (hj : j < X.length) (hk : j < K.length) (hM : Match q.data.toList X[j].data.toList) : Scan q X K (j + 1) (.pointer (some ⟨K[j], 0, none⟩)) (.int .i64 X[j].size) :=
  .inr ⟨j, hj, hk, Nat.lt_succ_self _, hM, rfl, rfl⟩

theorem Scan.miss {q : ByteArray} {X : List ByteArray} {K : List Nat} {j : Nat} {want wantN : Value} (h : Scan q X K j want wantN) (hj : j < X.length) (hM : ¬ Match q.data.toList X[j].data.toList) : Scan q X K (j + 1) want wantN := by
  rcases h with ⟨h1, h2, h3⟩ | ⟨m, hm, hk, h1, h2⟩
  · refine .inl ⟨h1, h2, fun m hm hmj => ?_⟩
    rcases Nat.lt_or_ge m j with h | h
    · exact h3 m hm h
    · obtain rfl : m = j := by omega
      exact hM
  · exact .inr ⟨m, hm, hk, by omega, h2⟩

/-- What the find answers is what the scan has come to. -/
theorem scan_found {w0 w : World} {vt vx vk : Value} {X : List ByteArray} {K : List Nat} (h : Built w0 w vt vx vk X K) {q : ByteArray} {want wantN : Value} (hs : Scan q X K X.length want wantN) {e : Ending} (hF : Found (Pairs X K) q e) :
    e = .returned (.tuple #[want, wantN]) ∧ ((want = .pointer none ∧ wantN = .int .i64 0) ∨ ∃ c n : Nat, want = .pointer (some ⟨c, 0, none⟩) ∧ wantN = .int .i64 n) := by
  rcases hs with ⟨rfl, rfl, h3⟩ | ⟨m, hm, hk, _, hM, rfl, rfl⟩
  · refine ⟨?_, .inl ⟨rfl, rfl⟩⟩
    rcases hF with ⟨t, c, ⟨i, h1, h2⟩, hM, _⟩ | ⟨_, he⟩
    · obtain ⟨hi, rfl⟩ := List.getElem?_eq_some_iff.1 h1
      exact absurd hM (h3 i hi hi)
    · exact he
  · exact ⟨found_own h.2.1 h.2.2.1 hm hk hM hF, .inr ⟨_, _, rfl, rfl⟩⟩

set_option maxRecDepth 100000 in
set_option maxHeartbeats 2000000 in
theorem probes_any (hins : InsertLaw) (a : Option Addr) (len cap : Nat) (A : Nat → Option Addr) (L C : Nat → Nat) (z : Nat → Nat → Nat) (a' : Option Addr) (len' cap' : Nat) (A' : Nat → Option Addr) (L' C' : Nat → Nat) (z' : Nat → Nat → Nat) (w0 : World)
    (hlen : len ≤ maxLen) (hlen' : len' ≤ maxLen) (hm : MatIn w0 a len A L C z) (hm' : MatIn w0 a' len' A' L' C' z') :
    Calls Yba.prog 5 #[.slice a len cap, .slice a' len' cap'] w0 fun e w' => e = .returned (.bool true) ∧ Below w0.heap.size w0 w' := by
  have HM := hideIt hm
  have HM' := hideIt hm'
  have HI := hideIt hins
  have HLEN := hideIt hlen
  have HLEN' := hideIt hlen'
  clear hm hins hlen hm' hlen'
  go_enter Yba.func5, Yba.ntmps5
  go_wp2_with fail
  go_at_call 14
  refine (small_any a len cap A L C z w0 HLEN.out HM.out).mono ?_
  rintro e w' ⟨rfl, bs, rfl, hbs⟩
  cases bs with
  | false =>
    go_wp2_with fail
    go_ret
    exact ⟨rfl, Below.refl _ _⟩
  | true =>
    have HSH := hideIt (hbs rfl)
    clear hbs
    go_wp2_with fail
    go_at_call 14
    refine (small_any a' len' cap' A' L' C' z' w' HLEN'.out HM'.out).mono ?_
    rintro e w2 ⟨rfl, bs, rfl, hbs⟩
    cases bs with
    | false =>
      go_wp2_with fail
      go_ret
      exact ⟨rfl, Below.refl _ _⟩
    | true =>
      have HSH' := hideIt (hbs rfl)
      have hl' : len' ≤ 256 := (hbs rfl).1
      clear hbs
      go_wp2_with fail
      go_at_call 15
      refine (build_any HI.out a len cap A L C z w2 HSH.out HM.out).mono ?_
      rintro e w1 ⟨vt, vx, vk, X, K, rfl, hbt, hX⟩
      have HBT0 := hideIt hbt
      clear hbt
      have HXK : Hid (X.length = K.length) := HBT0.out.1
      have hneq : ∀ (wx : World) (c : Nat), (binOp .neq 26 (.pointer (some ⟨c, 0, none⟩)) (.pointer (some ⟨c, 0, none⟩))).run Yba.prog wx = .ok (.bool false) wx := fun wx c => neq_ptr_same wx _ Yba.underlying26 size54
      obtain ⟨ax, cx, rfl, -⟩ := HBT0.out.row
      obtain ⟨ak, ck, rfl, -⟩ := HBT0.out.krow
      go_wp2_with fail
      go_loopw [33] (fun v wr => ∃ i : Nat, i ≤ len' ∧ v = .int .i64 i ∧ Built w2 wr vt (.slice ax X.length cx) (.slice ak K.length ck) X K) (fun v _ => len' - (intOf v).toNat)
      case atStart => exact ⟨0, Nat.zero_le _, rfl, HBT0.out⟩
      case round =>
        obtain ⟨i, hi, rfl, hbt⟩ := hrel
        have HBT := hideIt hbt
        clear hbt
        by_cases hlt : i < len'
        · obtain ⟨b, off, rfl, hb, hc⟩ := HM'.out (by omega)
          obtain ⟨hcell, _, hrow⟩ := hc i hlt
          have hcw : wr.cell? ⟨b, off + i, none⟩ = some (.slice (A' i) (L' i) (C' i)) := (HBT.out.below.cell (by exact hb)).trans hcell
          have HROW : Hid (RowIn wr (A' i) (L' i) (z' i)) := hrow.below HBT.out.below
          have hLi := HSH'.out.2 i hlt
          clear hc hcell hrow
          generalize A' i = Ai at *
          generalize L' i = Li at *
          generalize C' i = Ci at *
          generalize z' i = zi at *
          go_wp2_with (go_at_call 17; refine (word_any Ai Li Ci _ zi _ hLi (by decide) (by decide) HROW.out).mono ?_; rintro e w3 ⟨q, rfl, hq, _, hbel⟩)
          have HB1 := hideIt (HBT.out.later hbel)
          have hq256 : q.size ≤ 256 := by omega
          clear hcw HROW hbel
          go_loopw [11, 12, 41] (fun want wantN v wx => ∃ j : Nat, j ≤ X.length ∧ v = .int .i64 j ∧ Scan q X K j want wantN ∧ wx = w3) (fun _ _ v _ => X.length - (intOf v).toNat)
          case atStart => exact ⟨0, Nat.zero_le _, rfl, .inl ⟨rfl, rfl, fun m _ h => by omega⟩, rfl⟩
          case round =>
            obtain ⟨j, hj, rfl, hscan, rfl⟩ := hrel
            have HSC := hideIt hscan
            clear hscan
            by_cases hjl : j < X.length
            · have hjk : j < K.length := by have := HXK.out; omega
              obtain ⟨_, _, e1, hxr⟩ := HB1.out.row
              obtain ⟨_, _, e2, hkr⟩ := HB1.out.krow
              simp only [Value.slice.injEq, true_and] at e1 e2
              obtain ⟨rfl, rfl⟩ := e1
              obtain ⟨rfl, rfl⟩ := e2
              obtain ⟨gx, rfl, hcx⟩ := hxr (by omega)
              obtain ⟨gk, rfl, hck⟩ := hkr (by omega)
              have x1 := hcx j hjl
              have k1 := hck j hjk
              have hs256 : X[j].size ≤ 256 := (HB1.out.2.2.1 _ (List.getElem_mem hjl)).2
              clear hcx hck hxr hkr
              by_cases hM : Match q.data.toList X[j].data.toList
              · have HNX : Hid (Scan q X K (j + 1) (.pointer (some ⟨K[j], 0, none⟩)) (.int .i64 X[j].size)) := Scan.hit hjl hjk hM
                generalize X[j] = s at *
                generalize K[j] = c at *
                have m1 := hM.size
                have m2 := hM.head
                have HM3 := hideIt (fun h => hM.next h)
                clear hM
                by_cases hls : s.size < q.size
                · have m3 : (((q[s.size].toNat : Nat) : Int) == 47) = true := by rw [HM3.out hls]; rfl
                  have m4 : ((q.size : Int) == (s.size : Int)) = false := by rw [beq_eq_false_iff_ne]; omega
                  go_wp2_with fail
                  go_roundw
                  case rel => exact ⟨j + 1, by omega, by go_num, HNX.out, by trivial⟩
                  case measure => simp [intOf]; omega
                · have m4 : ((q.size : Int) == (s.size : Int)) = true := by rw [beq_iff_eq]; omega
                  go_wp2_with fail
                  go_roundw
                  case rel => exact ⟨j + 1, by omega, by go_num, HNX.out, by trivial⟩
                  case measure => simp [intOf]; omega
              · have HNX := hideIt (HSC.out.miss hjl hM)
                generalize X[j] = s at *
                generalize K[j] = c at *
                by_cases m1 : s.size ≤ q.size
                · by_cases m2 : (q.extract 0 s.size).toList = s.toList
                  · by_cases hls : s.size < q.size
                    · have m3 : (((q[s.size].toNat : Nat) : Int) == 47) = false := by
                        rw [beq_eq_false_iff_ne]
                        intro e
                        exact hM (match_of m2 fun _ => e)
                      have m4 : ((q.size : Int) == (s.size : Int)) = false := by rw [beq_eq_false_iff_ne]; omega
                      clear hM
                      go_wp2_with fail
                      go_roundw
                      case rel => exact ⟨j + 1, by omega, by go_num, HNX.out, by trivial⟩
                      case measure => simp [intOf]; omega
                    · exact absurd (match_of m2 fun h => absurd h hls) hM
                  · clear hM
                    go_wp2_with fail
                    go_roundw
                    case rel => exact ⟨j + 1, by omega, by go_num, HNX.out, by trivial⟩
                    case measure => simp [intOf]; omega
                · clear hM
                  go_wp2_with fail
                  go_roundw
                  case rel => exact ⟨j + 1, by omega, by go_num, HNX.out, by trivial⟩
                  case measure => simp [intOf]; omega
            · obtain rfl : j = X.length := by omega
              go_wp2_with fail
              go_at_call 16
              refine (find_built HB1.out q (by omega) _ (Drawn.refl _)).mono ?_
              rintro e w4 ⟨hF, hd4⟩
              obtain ⟨rfl, hcase⟩ := scan_found HB1.out HSC.out hF
              have HB2 := hideIt (HB1.out.later hd4.below)
              clear hF hd4
              rcases hcase with ⟨rfl, rfl⟩ | ⟨c, n, rfl, rfl⟩
              · go_wp2_with fail
                go_roundw
                case rel => exact ⟨i + 1, by omega, by go_num, HB2.out⟩
                case measure => simp [intOf]; omega
              · go_wp2_with fail
                go_roundw
                case rel => exact ⟨i + 1, by omega, by go_num, HB2.out⟩
                case measure => simp [intOf]; omega
        · obtain rfl : i = len' := by omega
          go_wp2_with fail
          go_ret
          exact ⟨rfl, HBT.out.below⟩

end Go.Proofs.Ybulkavso
