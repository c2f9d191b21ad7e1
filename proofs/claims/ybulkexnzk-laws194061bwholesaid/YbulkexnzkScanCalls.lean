/-
  THE SMALL CALLEES OF scan.LawS194061BWhole: IsLetter, IsNameStart, IsDigit and the law's own zzs194061bword, each by its contract; the plain functions that they compute.
-/
import Derived.Test.YbulkexnzkRows
import Derived.WalkKit
import Derived.ProofKit
import Derived.Below
namespace Go.Proofs.Ybulkexnzk
open Go.RowKit

def letB (c : Int) : Bool := decide ((97 ≤ c ∧ c ≤ 122) ∨ (65 ≤ c ∧ c ≤ 90))
def digB (c : Int) : Bool := decide (48 ≤ c ∧ c ≤ 57)
def startB (c : Int) : Bool := decide ((97 ≤ c ∧ c ≤ 122) ∨ (65 ≤ c ∧ c ≤ 90) ∨ c = 95)
def wordB (c : Int) : Bool := decide ((97 ≤ c ∧ c ≤ 122) ∨ (65 ≤ c ∧ c ≤ 90) ∨ c = 95 ∨ (48 ≤ c ∧ c ≤ 57))

theorem word_split (c : Int) : wordB c = (startB c || digB c) := by
  unfold wordB startB digB
  rw [Bool.eq_iff_iff]; simp; omega

theorem ret_bool {a b : Bool} (h : a = b) : Ending.returned (.bool a) = .returned (.bool b) := by rw [h]

theorem letter_any (c : Int) (w : World) : Calls Yba.prog 9 #[.int .u8 c] w fun e w' => e = .returned (.bool (letB c)) ∧ w' = w := by
  go_enter Yba.func9, Yba.ntmps9
  go_wp2
  all_goals (go_ret; refine ⟨ret_bool ?_, rfl⟩; try simp only [beq_iff_eq, beq_eq_false_iff_ne, ne_eq] at *)
  all_goals (unfold letB; rw [Bool.eq_iff_iff]; simp; omega)

theorem digit_any (c : Int) (w : World) : Calls Yba.prog 8 #[.int .u8 c] w fun e w' => e = .returned (.bool (digB c)) ∧ w' = w := by
  go_enter Yba.func8, Yba.ntmps8
  go_wp2
  all_goals (go_ret; refine ⟨ret_bool ?_, rfl⟩; try simp only [beq_iff_eq, beq_eq_false_iff_ne, ne_eq] at *)
  all_goals (unfold digB; rw [Bool.eq_iff_iff]; simp; omega)

theorem word_any (c : Int) (w : World) : Calls Yba.prog 4 #[.int .u8 c] w fun e w' => e = .returned (.bool (wordB c)) ∧ w' = w := by
  go_enter Yba.func4, Yba.ntmps4
  go_wp2
  all_goals (go_ret; refine ⟨ret_bool ?_, rfl⟩; try simp only [beq_iff_eq, beq_eq_false_iff_ne, ne_eq] at *)
  all_goals (unfold wordB; rw [Bool.eq_iff_iff]; simp; omega)

theorem start_any (c : Int) (w : World) : Calls Yba.prog 7 #[.int .u8 c] w fun e w' => e = .returned (.bool (startB c)) ∧ w' = w := by
  by_cases h : letB c = true
  · go_enter Yba.func7, Yba.ntmps7
    go_wp2_with (go_at_call 9; refine (letter_any _ _).mono ?_; rintro e w' ⟨rfl, rfl⟩)
    go_ret
    refine ⟨ret_bool ?_, rfl⟩
    revert h; unfold letB startB; simp; omega
  · have h' : letB c = false := by simpa using h
    clear h
    go_enter Yba.func7, Yba.ntmps7
    go_wp2_with (go_at_call 9; refine (letter_any _ _).mono ?_; rintro e w' ⟨rfl, rfl⟩)
    go_ret
    refine ⟨ret_bool ?_, rfl⟩
    unfold letB at h'; simp at h'; unfold startB; rw [Bool.eq_iff_iff]; simp; omega
end Go.Proofs.Ybulkexnzk
