/-
  zzs2354amethod, knownMethod, zzs2354asame.
-/
import Derived.Test.YbulkavsoWay
import Derived.WalkSpells
import Derived.Deep.QuietTactic
namespace Go.Proofs.Ybulkavso
open Go.RowKit

/-- The five methods of the law. -/
def meth (m : Nat) : ByteArray := if m = 0 then ⟨#[65, 78, 89]⟩ else if m = 1 then ⟨#[71, 69, 84]⟩ else if m = 2 then ⟨#[80, 79, 83, 84]⟩ else if m = 3 then ⟨#[72, 69, 65, 68]⟩ else ⟨#[88]⟩

set_option maxHeartbeats 1000000 in
theorem method_any (c : Nat) (_hc : c < 256) (w : World) : Calls Yba.prog 9 #[.int .u8 c] w fun e w' => e = .returned (.string (meth (c % 5))) ∧ w' = w := by
  have hm : (c : Int) % 5 = ((c % 5 : Nat) : Int) := by omega
  have h5 : c % 5 < 5 := Nat.mod_lt _ (by decide)
  generalize c % 5 = r at *
  have hr : r = 0 ∨ r = 1 ∨ r = 2 ∨ r = 3 ∨ r = 4 := by omega
  rcases hr with rfl | rfl | rfl | rfl | rfl
  all_goals
    go_enter Yba.func9, Yba.ntmps9
    go_wp2_with fail
    go_ret
    exact ⟨rfl, rfl⟩

/-- The place of a method of the law among the known ones. -/
def known (m : Nat) : Int := if m = 1 then 0 else if m = 2 then 1 else if m = 3 then 5 else -1

set_option maxHeartbeats 1000000 in
theorem known_any (m : Nat) (hm : m < 5) (w : World) : Calls Yba.prog 24 #[.string (meth m)] w fun e w' => e = .returned (.int .i64 (known m)) ∧ w' = w := by
  have hr : m = 0 ∨ m = 1 ∨ m = 2 ∨ m = 3 ∨ m = 4 := by omega
  rcases hr with rfl | rfl | rfl | rfl | rfl
  all_goals
    simp only [meth]
    go_enter Yba.func24, Yba.ntmps24
    go_wp2_with fail
    go_ret
    exact ⟨rfl, rfl⟩

/-- The answer is the truth of p. -/
def Says (e : Ending) (p : Prop) : Prop := ∃ b : Bool, e = .returned (.bool b) ∧ (b = true ↔ p)

theorem keyOf_eq {a b : Nat} {s t : ByteArray} (ha : a ≤ 2) (hb : b ≤ 2) : keyOf a s = keyOf b t ↔ a = b ∧ (a = 0 → s = t) := by
  have h1 : a = 0 ∨ a = 1 ∨ a = 2 := by omega
  have h2 : b = 0 ∨ b = 1 ∨ b = 2 := by omega
  rcases h1 with rfl | rfl | rfl <;> rcases h2 with rfl | rfl | rfl <;> simp [keyOf, kS, kP, kC]

theorem keys_eq {ss ss' : List Seg} (hl : ss.length = ss'.length) : keys ss = keys ss' ↔ ∀ i, (h : i < ss.length) → keyOf ss[i].1 ss[i].2 = keyOf (ss'[i]'(hl ▸ h)).1 (ss'[i]'(hl ▸ h)).2 := by
  constructor
  · intro h i hi
    have e1 : (keys ss)[i]? = (keys ss')[i]? := by rw [h]
    have hi' : i < ss'.length := by omega
    simpa [keys, hi, hi'] using e1
  · intro h
    refine List.ext_getElem (by simp [keys, hl]) (fun i h1 h2 => ?_)
    have hi : i < ss.length := by simpa [keys] using h1
    simpa [keys] using h i hi

set_option maxRecDepth 100000 in
set_option maxHeartbeats 1000000 in
theorem same_any (g g' cap cap' : Nat) (ss ss' : List Seg) (w : World) (hr : SegRow w g ss) (hr' : SegRow w g' ss') (hk : ∀ s ∈ ss, s.1 ≤ 2) (hk' : ∀ s ∈ ss', s.1 ≤ 2) (hl : ss.length ≤ 256) :
    Calls Yba.prog 25 #[.slice (some ⟨g, 0, none⟩) ss.length cap, .slice (some ⟨g', 0, none⟩) ss'.length cap'] w fun e w' => Says e (keys ss = keys ss') ∧ Drawn w w' := by
  have HR := hide hr
  have HR' := hide hr'
  have HK := hide hk
  have HK' := hide hk'
  clear hr hr' hk hk'
  by_cases heq : ss.length = ss'.length
  · have HEQ := hide heq
    obtain ⟨n, hn⟩ : ∃ n, n = ss.length := ⟨_, rfl⟩
    have hn' : ss'.length = n := by omega
    rw [← hn, hn']
    have HN := hide hn
    have hn256 : n ≤ 256 := by omega
    clear heq hn hn' hl
    go_enter Yba.func25, Yba.ntmps25
    go_wp2_with fail
    go_loopw [5] (fun v wr => ∃ i : Nat, i ≤ n ∧ v = .int .i64 i ∧ (∀ j, (h : j < ss.length) → j < i → keyOf ss[j].1 ss[j].2 = keyOf (ss'[j]'(HEQ.out ▸ h)).1 (ss'[j]'(HEQ.out ▸ h)).2) ∧ Drawn w wr) (fun v _ => n - (intOf v).toNat)
    case atStart => exact ⟨0, Nat.zero_le _, rfl, fun j _ h => by omega, Drawn.refl _⟩
    case round =>
      obtain ⟨i, hi, rfl, hall, hd⟩ := hrel
      have HALL := hide hall
      have HD := hide hd
      clear hall hd
      by_cases hlt : i < n
      · have hi1 : i < ss.length := by have := HN.out; omega
        have hi2 : i < ss'.length := by have := HEQ.out; omega
        obtain ⟨r1, r2⟩ := (HR.out.move (by rw [HD.out.heap])).cell i hi1 (w := wr)
        obtain ⟨r3, r4⟩ := (HR'.out.move (by rw [HD.out.heap])).cell i hi2 (w := wr)
        have HK1 := hide (HK.out _ (List.getElem_mem hi1))
        have HK2 := hide (HK'.out _ (List.getElem_mem hi2))
        have HNX : Hid (keyOf ss[i].1 ss[i].2 = keyOf ss'[i].1 ss'[i].2 → ∀ j, (h : j < ss.length) → j < i + 1 → keyOf ss[j].1 ss[j].2 = keyOf (ss'[j]'(HEQ.out ▸ h)).1 (ss'[j]'(HEQ.out ▸ h)).2) := fun e j hj hji => by
          rcases Nat.lt_or_ge j i with h | h
          · exact HALL.out j hj h
          · obtain rfl : j = i := by omega
            exact e
        have HNO : Hid (keyOf ss[i].1 ss[i].2 ≠ keyOf ss'[i].1 ss'[i].2 → keys ss ≠ keys ss') := fun e h => e ((keys_eq HEQ.out).1 h i hi1)
        generalize ss[i] = s at *
        generalize ss'[i] = s' at *
        obtain ⟨kd, T⟩ := s
        obtain ⟨kd', T'⟩ := s'
        simp only at r1 r2 r3 r4
        by_cases h1 : kd = kd'
        · subst h1
          have q1 : ((kd : Int) != (kd : Int)) = false := by simp
          by_cases h0 : kd = 0
          · subst h0
            by_cases hT : T = T'
            · have q2 := str_eq_t hT
              have HG := hide (HNX.out ((keyOf_eq HK1.out HK2.out).2 ⟨rfl, fun _ => hT⟩))
              go_wp2_with fail
              go_quiet (fail)
              go_wp2_with fail
              go_quiet (fail)
              go_wp2_with fail
              go_roundw
              case rel => exact ⟨i + 1, by omega, by go_num, HG.out, HD.out.more _⟩
              case measure => simp [intOf]; omega
            · have q2 := str_eq_f hT
              have HG := hide (HNO.out (fun e => hT (((keyOf_eq HK1.out HK2.out).1 e).2 rfl)))
              go_wp2_with fail
              go_quiet (fail)
              go_wp2_with fail
              go_quiet (fail)
              go_wp2_with fail
              go_ret
              exact ⟨⟨false, rfl, by simp; exact HG.out⟩, (HD.out.more _).more _⟩
          · have q2 : ((kd : Int) == 0) = false := by rw [beq_eq_false_iff_ne]; omega
            have HG := hide (HNX.out ((keyOf_eq HK1.out HK2.out).2 ⟨rfl, fun e => absurd e h0⟩))
            go_wp2_with fail
            go_quiet (fail)
            go_wp2_with fail
            go_quiet (fail)
            go_wp2_with fail
            go_roundw
            case rel => exact ⟨i + 1, by omega, by go_num, HG.out, HD.out.more _⟩
            case measure => simp [intOf]; omega
        · have q1 : ((kd : Int) != (kd' : Int)) = true := by rw [bne_iff_ne]; omega
          have HG := hide (HNO.out (fun e => h1 ((keyOf_eq HK1.out HK2.out).1 e).1))
          go_wp2_with fail
          go_quiet (fail)
          go_wp2_with fail
          go_ret
          exact ⟨⟨false, rfl, by simp; exact HG.out⟩, HD.out.more _⟩
      · obtain rfl : i = n := by omega
        go_wp2_with fail
        go_ret
        refine ⟨⟨true, rfl, ?_⟩, HD.out⟩
        simp only [true_iff]
        exact (keys_eq HEQ.out).2 (fun j hj => HALL.out j hj (by have := HN.out; omega))
  · have hq : ((ss.length : Int) != (ss'.length : Int)) = true := by rw [bne_iff_ne]; omega
    go_enter Yba.func25, Yba.ntmps25
    go_wp2_with fail
    go_ret
    refine ⟨⟨false, rfl, ?_⟩, Drawn.refl _⟩
    simp
    intro e
    have := congrArg List.length e
    simp [keys] at this
    exact heq this

end Go.Proofs.Ybulkavso
