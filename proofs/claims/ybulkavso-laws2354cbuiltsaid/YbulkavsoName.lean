/-
  isAlnum, isName's closure, isRunOf, isName, the model's zzs2354cok and zzs2354cmodel: each computes a plain function.
-/
import Derived.Test.YbulkavsoRows
import Derived.WalkKit
import Derived.WalkSpells
namespace Go.Proofs.Ybulkavso
open Go.RowKit

/-- Is the byte a letter or a digit? -/
def alnumB (c : Int) : Bool := decide ((97 ≤ c ∧ c ≤ 122) ∨ (65 ≤ c ∧ c ≤ 90) ∨ (48 ≤ c ∧ c ≤ 57))
/-- Is it one of a name's bytes? -/
def nameB (c : Int) : Bool := decide ((97 ≤ c ∧ c ≤ 122) ∨ (65 ≤ c ∧ c ≤ 90) ∨ (48 ≤ c ∧ c ≤ 57) ∨ c = 95)

theorem parts (c : Int) : c < 48 ∨ (48 ≤ c ∧ c ≤ 57) ∨ (57 < c ∧ c < 65) ∨ (65 ≤ c ∧ c ≤ 90) ∨ (90 < c ∧ c < 95) ∨ c = 95 ∨ (95 < c ∧ c < 97) ∨ (97 ≤ c ∧ c ≤ 122) ∨ 122 < c := by omega

theorem alnum_t {c : Int} (h : (97 ≤ c ∧ c ≤ 122) ∨ (65 ≤ c ∧ c ≤ 90) ∨ (48 ≤ c ∧ c ≤ 57)) : true = alnumB c := (decide_eq_true h).symm
theorem alnum_f {c : Int} (h : ¬((97 ≤ c ∧ c ≤ 122) ∨ (65 ≤ c ∧ c ≤ 90) ∨ (48 ≤ c ∧ c ≤ 57))) : false = alnumB c := (decide_eq_false h).symm
theorem name_t {c : Int} (h : (97 ≤ c ∧ c ≤ 122) ∨ (65 ≤ c ∧ c ≤ 90) ∨ (48 ≤ c ∧ c ≤ 57) ∨ c = 95) : true = nameB c := (decide_eq_true h).symm
theorem name_f {c : Int} (h : ¬((97 ≤ c ∧ c ≤ 122) ∨ (65 ≤ c ∧ c ≤ 90) ∨ (48 ≤ c ∧ c ≤ 57) ∨ c = 95)) : false = nameB c := (decide_eq_false h).symm

theorem ret_bool {a b : Bool} (h : a = b) : Ending.returned (.bool a) = .returned (.bool b) := by rw [h]

set_option maxHeartbeats 1000000 in
theorem alnum_any (c : Int) (w : World) : Calls Yba.prog 30 #[.int .u8 c] w fun e w' => e = .returned (.bool (alnumB c)) ∧ w' = w := by
  rcases parts c with h | ⟨h, h'⟩ | ⟨h, h'⟩ | ⟨h, h'⟩ | ⟨h, h'⟩ | h | ⟨h, h'⟩ | ⟨h, h'⟩ | h
  case inr.inr.inr.inr.inr.inl =>
    subst h
    go_enter Yba.func30, Yba.ntmps30
    go_wp2
    go_ret
    exact ⟨rfl, rfl⟩
  all_goals
    go_enter Yba.func30, Yba.ntmps30
    go_wp2
    go_ret
    exact ⟨ret_bool (by first | (refine alnum_t ?_; omega) | (refine alnum_f ?_; omega) | (rw [Bool.eq_iff_iff]; simp only [Bool.or_eq_true, decide_eq_true_eq, alnumB]; omega)), rfl⟩

set_option maxHeartbeats 1000000 in
theorem closure_any (c : Int) (w : World) : Calls Yba.prog 29 #[.int .u8 c] w fun e w' => e = .returned (.bool (nameB c)) ∧ w' = w := by
  cases ha : alnumB c
  · by_cases h : c = 95
    · subst h
      go_enter Yba.func29, Yba.ntmps29
      go_wp2_with (go_at_call 30; refine (alnum_any _ _).mono ?_; rintro e w' ⟨rfl, rfl⟩)
      go_ret
      exact ⟨rfl, rfl⟩
    · have hb : (c == 95) = false := by simpa using h
      go_enter Yba.func29, Yba.ntmps29
      go_wp2_with (go_at_call 30; refine (alnum_any _ _).mono ?_; rintro e w' ⟨rfl, rfl⟩)
      go_ret
      exact ⟨ret_bool (by unfold alnumB at ha; unfold nameB; simp at ha ⊢; omega), rfl⟩
  · go_enter Yba.func29, Yba.ntmps29
    go_wp2_with (go_at_call 30; refine (alnum_any _ _).mono ?_; rintro e w' ⟨rfl, rfl⟩)
    go_ret
    exact ⟨ret_bool (by unfold alnumB at ha; unfold nameB; simp at ha ⊢; omega), rfl⟩

set_option maxHeartbeats 1000000 in
theorem ok_any (c : Int) (w : World) : Calls Yba.prog 31 #[.int .u8 c] w fun e w' => e = .returned (.bool (nameB c)) ∧ w' = w := by
  rcases parts c with h | ⟨h, h'⟩ | ⟨h, h'⟩ | ⟨h, h'⟩ | ⟨h, h'⟩ | h | ⟨h, h'⟩ | ⟨h, h'⟩ | h
  case inr.inr.inr.inr.inr.inl =>
    subst h
    go_enter Yba.func31, Yba.ntmps31
    go_wp2
    go_ret
    exact ⟨rfl, rfl⟩
  all_goals
    go_enter Yba.func31, Yba.ntmps31
    go_wp2
    go_ret
    exact ⟨ret_bool (by first | (refine name_t ?_; omega) | (refine name_f ?_; omega)), rfl⟩

end Go.Proofs.Ybulkavso
