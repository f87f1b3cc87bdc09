/-
  isRunOf at isName's closure, isName, the model: each answers 'a run of name bytes that is not empty'.
-/
import Derived.Test.YbulkavsoName
namespace Go.Proofs.Ybulkavso
open Go.RowKit

/-- A name: not empty, each byte a name's. -/
def allName (l : List UInt8) : Bool := !l.isEmpty && l.all (fun c => nameB c.toNat)

theorem take_snoc (s : ByteArray) (k : Nat) (h : k < s.size) : s.data.toList.take (k + 1) = s.data.toList.take k ++ [s[k]] := by
  rw [List.take_succ_eq_append_getElem (by simpa using h)]; rfl

theorem all_snoc (l : List UInt8) (c : UInt8) (h : l.all (fun c => nameB c.toNat) = true) (hc : nameB c.toNat = true) : (l ++ [c]).all (fun c => nameB c.toNat) = true := by
  simp [List.all_append, h, hc]

theorem not_all (s : ByteArray) (k : Nat) (h : k < s.size) (hc : nameB s[k].toNat = false) : allName s.data.toList = false := by
  have hm : s[k] ∈ s.data.toList := by simp [ByteArray.getElem_eq_getElem_data]
  unfold allName
  rw [Bool.and_eq_false_iff]
  right
  rw [List.all_eq_false]
  exact ⟨_, hm, by simp [hc]⟩

set_option maxHeartbeats 1000000 in
theorem isRunOf_any (s : ByteArray) (w : World) (hs : s.size ≤ maxLen) :
    Calls Yba.prog 28 #[.string s, .func (.func 29) #[] #[]] w fun e w' => e = .returned (.bool (allName s.data.toList)) ∧ w = w' := by
  unfold maxLen at hs
  have hnot : ∀ (x : Bool) (w : World), (Op.unary .not (.bool x)).run Yba.prog w = .ok (.bool (!x)) w := fun _ _ => rfl
  cases h0 : s.toList.isEmpty
  · go_enter Yba.func28, Yba.ntmps28
    go_wp2_with fail
    go_loop [5] (fun i => ∃ k : Nat, k ≤ s.size ∧ i = .int .i64 k ∧ (s.data.toList.take k).all (fun c => nameB c.toNat) = true) (fun i => s.size - (intOf i).toNat)
    case atStart => exact ⟨0, Nat.zero_le _, rfl, rfl⟩
    case round =>
      obtain ⟨k, hk, rfl, hall⟩ := hrel
      have HA : Hid ((s.data.toList.take k).all (fun c => nameB c.toNat) = true) := hall
      clear hall
      by_cases hlt : k < s.size
      · cases hc : nameB s[k].toNat
        · go_wp2_with (go_at_call 29; refine (closure_any _ _).mono ?_; rintro e w' ⟨rfl, rfl⟩)
          go_ret
          exact ⟨ret_bool (not_all s k hlt hc).symm, rfl⟩
        · go_wp2_with (go_at_call 29; refine (closure_any _ _).mono ?_; rintro e w' ⟨rfl, rfl⟩)
          go_round
          case rel => exact ⟨k + 1, by omega, by go_num, by rw [take_snoc s k hlt]; exact all_snoc _ _ HA.out hc⟩
          case measure => simp [intOf]; omega
      · go_wp2_with fail
        go_ret
        have hkk : s.data.toList.take k = s.data.toList := List.take_of_length_le (by simp; omega)
        have := HA.out
        rw [hkk] at this
        exact ⟨ret_bool (by unfold allName; rw [this, ← ByteArray.toList_eq, h0]; rfl), rfl⟩
  · go_enter Yba.func28, Yba.ntmps28
    go_wp2_with fail
    go_ret
    exact ⟨ret_bool (by unfold allName; rw [← ByteArray.toList_eq, h0]; rfl), rfl⟩

set_option maxHeartbeats 400000 in
theorem isName_any (s : ByteArray) (w : World) (hs : s.size ≤ maxLen) :
    Calls Yba.prog 18 #[.string s] w fun e w' => e = .returned (.bool (allName s.data.toList)) ∧ w = w' := by
  go_enter Yba.func18, Yba.ntmps18
  go_wp2_with (go_at_call 28; refine (isRunOf_any s _ hs).mono ?_; rintro e w' ⟨rfl, rfl⟩)
  go_ret
  exact ⟨rfl, rfl⟩

set_option maxHeartbeats 1000000 in
theorem model_any (s : ByteArray) (w : World) (hs : s.size ≤ maxLen) :
    Calls Yba.prog 19 #[.string s] w fun e w' => e = .returned (.bool (allName s.data.toList)) ∧ w = w' := by
  unfold maxLen at hs
  have hnot : ∀ (x : Bool) (w : World), (Op.unary .not (.bool x)).run Yba.prog w = .ok (.bool (!x)) w := fun _ _ => rfl
  by_cases h0 : 0 < s.size
  · have hz : ((s.size : Int) == 0) = false := beq_eq_false_iff_ne.2 (by omega)
    have he : s.data.toList.isEmpty = false := by
      rw [List.isEmpty_eq_false_iff]
      intro e
      have e2 : s.data.toList.length = s.size := Array.length_toList
      rw [e] at e2
      simp only [List.length_nil] at e2
      omega
    go_enter Yba.func19, Yba.ntmps19
    go_wp2_with fail
    go_loop [3] (fun i => ∃ k : Nat, k ≤ s.size ∧ i = .int .i64 k ∧ (s.data.toList.take k).all (fun c => nameB c.toNat) = true) (fun i => s.size - (intOf i).toNat)
    case atStart => exact ⟨0, Nat.zero_le _, rfl, rfl⟩
    case round =>
      obtain ⟨k, hk, rfl, hall⟩ := hrel
      have HA : Hid ((s.data.toList.take k).all (fun c => nameB c.toNat) = true) := hall
      clear hall
      by_cases hlt : k < s.size
      · cases hc : nameB s[k].toNat
        · go_wp2_with (go_at_call 31; refine (ok_any _ _).mono ?_; rintro e w' ⟨rfl, rfl⟩)
          go_ret
          exact ⟨ret_bool (not_all s k hlt hc).symm, rfl⟩
        · go_wp2_with (go_at_call 31; refine (ok_any _ _).mono ?_; rintro e w' ⟨rfl, rfl⟩)
          go_round
          case rel => exact ⟨k + 1, by omega, by go_num, by rw [take_snoc s k hlt]; exact all_snoc _ _ HA.out hc⟩
          case measure => simp [intOf]; omega
      · go_wp2_with fail
        go_ret
        have hkk : s.data.toList.take k = s.data.toList := List.take_of_length_le (by simp; omega)
        have := HA.out
        rw [hkk] at this
        exact ⟨ret_bool (by unfold allName; rw [this, he]; rfl), rfl⟩
  · have hz : ((s.size : Int) == 0) = true := beq_iff_eq.2 (by omega)
    have he : s.data.toList = [] := List.length_eq_zero_iff.1 (by have e2 : s.data.toList.length = s.size := Array.length_toList; omega)
    go_enter Yba.func19, Yba.ntmps19
    go_wp2_with fail
    go_ret
    exact ⟨ret_bool (by unfold allName; rw [he]; rfl), rfl⟩

set_option maxHeartbeats 400000 in
theorem walk_model (s : ByteArray) (hs : s.size ≤ maxLen) (w : World) :
    Calls Yba.prog 6 #[.string s] w fun e w' => e = .returned (.bool true) ∧ w = w' := by
  cases h : allName s.data.toList
  all_goals
    go_enter Yba.func6, Yba.ntmps6
    go_wp2_with fail
    refine (isName_any s _ hs).mono ?_
    rintro e w' ⟨rfl, rfl⟩
    go_wp2_with fail
    refine (model_any s _ hs).mono ?_
    rintro e w' ⟨rfl, rfl⟩
    go_wp2_with fail
    go_ret
    exact ⟨rfl, rfl⟩

end Go.Proofs.Ybulkavso
