/-
  zzs2354amodel.
-/
import Derived.Test.YbulkavsoSegs
namespace Go.Proofs.Ybulkavso
open Go.RowKit

/-- What is laid of the operations: n of them; the i-th: its method, its segments, its route. -/
structure Laid (w : World) (gm gs gr n : Nat) (mm : Nat → Nat) (SS : Nat → List Seg) (Rb : Nat → Nat) : Prop where
  five : ∀ i, i < n → mm i < 5
  meth : ∀ i, i < n → w.cell? ⟨gm, i, none⟩ = some (.string (meth (mm i)))
  segs : ∀ i, i < n → ∃ g, w.cell? ⟨gs, i, none⟩ = some (.slice (some ⟨g, 0, none⟩) (SS i).length (SS i).length) ∧ SegRow w g (SS i)
  ok : ∀ i, i < n → (∀ s ∈ SS i, SegOk s) ∧ (SS i).length ≤ 256
  route : ∀ i, i < n → w.cell? ⟨gr, i, none⟩ = some (.pointer (some ⟨Rb i, 0, none⟩))

theorem Laid.drawn {w w' : World} {gm gs gr n : Nat} {mm : Nat → Nat} {SS : Nat → List Seg} {Rb : Nat → Nat} (h : Laid w gm gs gr n mm SS Rb) (hd : Drawn w w') : Laid w' gm gs gr n mm SS Rb :=
  ⟨h.five, fun i hi => (hd.cell _).trans (h.meth i hi), fun i hi => by
    obtain ⟨g, h1, h2⟩ := h.segs i hi
    exact ⟨g, (hd.cell _).trans h1, h2.move (by rw [hd.heap])⟩, h.ok, fun i hi => (hd.cell _).trans (h.route i hi)⟩

/-- One operation, as the model counts it: the any-method route, the method's route, has the method a tree? -/
def mstep (mq : Nat) (kq : List Key) (mi : Nat) (ki : List Key) (r : Nat) (s : Option Nat × Option Nat × Bool) : Option Nat × Option Nat × Bool :=
  if mi = 0 then (if ki = kq then (some r, (if s.2.2 = true ∧ s.2.1 = none then some r else s.2.1), s.2.2) else s)
  else if mi = mq then (s.1, (if ki = kq then some r else if s.2.2 = true then s.2.1 else s.1), true) else s

def mrun (mq : Nat) (kq : List Key) (mm : Nat → Nat) (SS : Nat → List Seg) (Rb : Nat → Nat) : Nat → Option Nat × Option Nat × Bool
  | 0 => (none, none, false)
  | i + 1 => mstep mq kq (mm i) (keys (SS i)) (Rb i) (mrun mq kq mm SS Rb i)

def mres (mq : Nat) (s : Option Nat × Option Nat × Bool) : Option Nat := if mq = 0 then s.1 else s.2.1

theorem meth_inj {a b : Nat} (ha : a < 5) (hb : b < 5) (h : meth a = meth b) : a = b := by
  have h1 : a = 0 ∨ a = 1 ∨ a = 2 ∨ a = 3 ∨ a = 4 := by omega
  have h2 : b = 0 ∨ b = 1 ∨ b = 2 ∨ b = 3 ∨ b = 4 := by omega
  rcases h1 with rfl | rfl | rfl | rfl | rfl <;> rcases h2 with rfl | rfl | rfl | rfl | rfl <;> first | rfl | (simp [meth] at h)

theorem any_f {a : Nat} (ha : a < 5) (h : ¬ a = 0) : ((meth a).toList == [65, 78, 89]) = false := by
  have hx := str_eq_f (a := meth a) (b := ⟨#[65, 78, 89]⟩) (fun e => h (meth_inj ha (by decide) e))
  rw [show (⟨#[65, 78, 89]⟩ : ByteArray).toList = [65, 78, 89] from ByteArray.toList_eq _] at hx
  exact hx

set_option maxRecDepth 100000 in
set_option maxHeartbeats 1000000 in
theorem model_any (gm gs gr n cm cs cr g c mq : Nat) (mm : Nat → Nat) (SS : Nat → List Seg) (Rb : Nat → Nat) (ss : List Seg) (w : World) (hl : Laid w gm gs gr n mm SS Rb) (hn : n ≤ 256) (hmq : mq < 5) (hrow : SegRow w g ss) (hok : ∀ s ∈ ss, SegOk s) :
    Calls Yba.prog 13 #[.string (meth mq), .slice (some ⟨g, 0, none⟩) ss.length c, .slice (some ⟨gm, 0, none⟩) n cm, .slice (some ⟨gs, 0, none⟩) n cs, .slice (some ⟨gr, 0, none⟩) n cr] w
      fun e w' => e = .returned (ptrO (mres mq (mrun mq (keys ss) mm SS Rb n))) ∧ Drawn w w' := by
  have HL := hide hl
  have HROW := hide hrow
  have HOK := hide hok
  clear hl hrow hok
  go_enter Yba.func13, Yba.ntmps13
  go_wp2_with fail
  go_loopw [11, 12, 13, 14] (fun va vv vh vi wr => ∃ (i : Nat) (a v : Option Nat) (h : Bool), i ≤ n ∧ va = ptrO a ∧ vv = ptrO v ∧ vh = .bool h ∧ vi = .int .i64 i ∧ mrun mq (keys ss) mm SS Rb i = (a, v, h) ∧ Drawn w wr) (fun _ _ _ vi _ => n - (intOf vi).toNat)
  case atStart => exact ⟨0, none, none, false, Nat.zero_le _, rfl, rfl, rfl, rfl, rfl, Drawn.refl _⟩
  case round =>
    obtain ⟨i, a, v, h, hi, rfl, rfl, rfl, rfl, hrun, hd⟩ := hrel
    have HRUN := hide hrun
    have HD := hide hd
    clear hrun hd
    by_cases hlt : i < n
    · have hl2 := HL.out.drawn HD.out
      obtain ⟨gi, c1, hrow2⟩ := hl2.segs i hlt
      have c2 := hl2.meth i hlt
      have c3 := hl2.route i hlt
      have HC : Hid (∀ wx, Drawn wr wx → Calls Yba.prog 25 #[.slice (some ⟨gi, 0, none⟩) (SS i).length (SS i).length, .slice (some ⟨g, 0, none⟩) ss.length c] wx fun e w' => Says e (keys (SS i) = keys ss) ∧ Drawn wr w') := fun wx hx =>
        (same_any gi g _ c (SS i) ss wx (hrow2.move (by rw [hx.heap])) (HROW.out.move (by rw [hx.heap, HD.out.heap])) (fun s hs => ((hl2.ok i hlt).1 s hs).kind) (fun s hs => (HOK.out s hs).kind) (hl2.ok i hlt).2).mono fun e w' h => by
          obtain ⟨m, rfl⟩ := h.2
          exact ⟨h.1, hx.more m⟩
      clear hl2 hrow2
      go_wp2_with fail
      go_at_call 25
      refine (HC.out _ (Drawn.refl _)).mono ?_
      rintro e w2 ⟨⟨eq, rfl, heq⟩, hd2⟩
      have HD2 := hide hd2
      have HEQ := hide heq
      have d2 := (HD2.out.cell _).trans c2
      have d3 := (HD2.out.cell _).trans c3
      have HDD : Hid (Drawn w w2) := by
        obtain ⟨m, hm⟩ := HD2.out
        exact show Drawn w w2 from hm ▸ HD.out.more m
      have HNX : Hid (mrun mq (keys ss) mm SS Rb (i + 1) = mstep mq (keys ss) (mm i) (keys (SS i)) (Rb i) (a, v, h)) := by
        show mrun mq (keys ss) mm SS Rb (i + 1) = _
        rw [← HRUN.out]
        rfl
      have hm5 := HL.out.five i hlt
      clear hd2 heq c1 c2 c3 HC HRUN
      generalize mm i = mi at *
      generalize Rb i = rb at *
      by_cases h0 : mi = 0
      · subst h0
        simp only [meth, if_true] at d2
        cases eq with
        | false =>
          have HV : Hid (mrun mq (keys ss) mm SS Rb (i + 1) = (a, v, h)) := by
            show mrun mq (keys ss) mm SS Rb (i + 1) = _
            rw [HNX.out]
            have hne : ¬ keys (SS i) = keys ss := fun e => by have := HEQ.out.2 e; cases this
            simp [mstep, hne]
          go_wp2_with fail
          go_roundw
          case rel => exact ⟨i + 1, a, v, h, by omega, rfl, rfl, rfl, by go_num, HV.out, HDD.out⟩
          case measure => simp [intOf]; omega
        | true =>
          have hke : keys (SS i) = keys ss := HEQ.out.1 rfl
          cases h with
          | false =>
            have HV : Hid (mrun mq (keys ss) mm SS Rb (i + 1) = (some rb, v, false)) := by
              show mrun mq (keys ss) mm SS Rb (i + 1) = _
              rw [HNX.out]
              simp [mstep, hke]
            clear hke
            go_wp2_with fail
            go_roundw
            case rel => exact ⟨i + 1, some rb, v, false, by omega, rfl, rfl, rfl, by go_num, HV.out, HDD.out⟩
            case measure => simp [intOf]; omega
          | true =>
            cases v with
            | none =>
              have HV : Hid (mrun mq (keys ss) mm SS Rb (i + 1) = (some rb, some rb, true)) := by
                show mrun mq (keys ss) mm SS Rb (i + 1) = _
                rw [HNX.out]
                simp [mstep, hke]
              clear hke
              simp only [show ptrO none = Value.pointer none from rfl]
              go_wp2_with fail
              go_roundw
              case rel => exact ⟨i + 1, some rb, some rb, true, by omega, rfl, rfl, rfl, by go_num, HV.out, HDD.out⟩
              case measure => simp [intOf]; omega
            | some v =>
              have HV : Hid (mrun mq (keys ss) mm SS Rb (i + 1) = (some rb, some v, true)) := by
                show mrun mq (keys ss) mm SS Rb (i + 1) = _
                rw [HNX.out]
                simp [mstep, hke]
              clear hke
              simp only [show ptrO (some v) = Value.pointer (some ⟨v, 0, none⟩) from rfl]
              go_wp2_with fail
              go_roundw
              case rel => exact ⟨i + 1, some rb, some v, true, by omega, rfl, rfl, rfl, by go_num, HV.out, HDD.out⟩
              case measure => simp [intOf]; omega
      · have qa : ((meth mi).toList == [65, 78, 89]) = false := any_f hm5 h0
        by_cases h1 : mi = mq
        · subst h1
          have qb : ((meth mi).toList == (meth mi).toList) = true := str_eq_t rfl
          cases eq with
          | true =>
            have HV : Hid (mrun mi (keys ss) mm SS Rb (i + 1) = (a, some rb, true)) := by
              show mrun mi (keys ss) mm SS Rb (i + 1) = _
              rw [HNX.out]
              simp [mstep, h0, HEQ.out.1 rfl]
            cases h with
            | false =>
              go_wp2_with fail
              go_roundw
              case rel => exact ⟨i + 1, a, some rb, true, by omega, rfl, rfl, rfl, by go_num, HV.out, HDD.out⟩
              case measure => simp [intOf]; omega
            | true =>
              go_wp2_with fail
              go_roundw
              case rel => exact ⟨i + 1, a, some rb, true, by omega, rfl, rfl, rfl, by go_num, HV.out, HDD.out⟩
              case measure => simp [intOf]; omega
          | false =>
            have hne : ¬ keys (SS i) = keys ss := fun e => by have := HEQ.out.2 e; cases this
            cases h with
            | false =>
              have HV : Hid (mrun mi (keys ss) mm SS Rb (i + 1) = (a, a, true)) := by
                show mrun mi (keys ss) mm SS Rb (i + 1) = _
                rw [HNX.out]
                simp [mstep, h0, hne]
              go_wp2_with fail
              go_roundw
              case rel => exact ⟨i + 1, a, a, true, by omega, rfl, rfl, rfl, by go_num, HV.out, HDD.out⟩
              case measure => simp [intOf]; omega
            | true =>
              have HV : Hid (mrun mi (keys ss) mm SS Rb (i + 1) = (a, v, true)) := by
                show mrun mi (keys ss) mm SS Rb (i + 1) = _
                rw [HNX.out]
                simp [mstep, h0, hne]
              go_wp2_with fail
              go_roundw
              case rel => exact ⟨i + 1, a, v, true, by omega, rfl, rfl, rfl, by go_num, HV.out, HDD.out⟩
              case measure => simp [intOf]; omega
        · have qb : ((meth mi).toList == (meth mq).toList) = false := str_eq_f (fun e => h1 (meth_inj hm5 hmq e))
          have HV : Hid (mrun mq (keys ss) mm SS Rb (i + 1) = (a, v, h)) := by
            show mrun mq (keys ss) mm SS Rb (i + 1) = _
            rw [HNX.out]
            simp [mstep, h0, h1]
          go_wp2_with fail
          go_roundw
          case rel => exact ⟨i + 1, a, v, h, by omega, rfl, rfl, rfl, by go_num, HV.out, HDD.out⟩
          case measure => simp [intOf]; omega
    · obtain rfl : i = n := by omega
      by_cases hq0 : mq = 0
      · subst hq0
        have HV : Hid (mres 0 (mrun 0 (keys ss) mm SS Rb i) = a) := by
          show mres 0 (mrun 0 (keys ss) mm SS Rb i) = _
          rw [HRUN.out]
          rfl
        simp only [meth, if_true]
        go_wp2_with fail
        go_ret
        exact ⟨by rw [HV.out]; rfl, HD.out⟩
      · have qa : ((meth mq).toList == [65, 78, 89]) = false := any_f hmq hq0
        have HV : Hid (mres mq (mrun mq (keys ss) mm SS Rb i) = v) := by
          show mres mq (mrun mq (keys ss) mm SS Rb i) = _
          rw [HRUN.out]
          simp [mres, hq0]
        go_wp2_with fail
        go_ret
        exact ⟨by rw [HV.out]; rfl, HD.out⟩

end Go.Proofs.Ybulkavso
