/-
  THE LEXER's SMALLEST CALLEES: isDigit, isIdentStart, isIdentPart, digitsEnd.
-/
import Derived.Test.YbulkexobaGreatFmtBase
import Derived.LoopTactic
namespace Go.Proofs.YbulkexobaGreatFmt
open Go.RowKit

def digB (c : Int) : Bool := decide (48 ≤ c) && decide (c ≤ 57)
def startB (c : Int) : Bool := (decide (97 ≤ c) && decide (c ≤ 122)) || (decide (65 ≤ c) && decide (c ≤ 90)) || decide (c = 95) || decide (128 ≤ c)
def partB (c : Int) : Bool := startB c || digB c || decide (c = 36)

set_option linter.unusedSimpArgs false in
theorem isDigit_any (c : Int) (w : World) : Calls Ybaz.prog 23 #[.int .u8 c] w fun e w' => e = .returned (.bool (digB c)) ∧ w = w' := by
  unfold digB
  by_cases h1 : 48 ≤ c
  all_goals (
    go_enter Ybaz.func23, Ybaz.ntmps23
    go_wp2_with fail
    go_ret
    refine ⟨congrArg (fun b => Ending.returned (Value.bool b)) ?_, rfl⟩
    first
      | rfl
      | (rw [Bool.eq_iff_iff]; simp; done)
      | (rw [Bool.eq_iff_iff]; simp; omega))

set_option linter.unusedSimpArgs false in
theorem isIdentStart_any (c : Int) (w : World) : Calls Ybaz.prog 25 #[.int .u8 c] w fun e w' => e = .returned (.bool (startB c)) ∧ w = w' := by
  unfold startB
  by_cases h1 : 97 ≤ c <;> by_cases h2 : c ≤ 122 <;> by_cases h3 : 65 ≤ c <;> by_cases h4 : c ≤ 90 <;> by_cases h5 : c = 95 <;> try omega
  all_goals (
    try have h5' : (c == 95) = false := beq_eq_false_iff_ne.2 h5
    go_enter Ybaz.func25, Ybaz.ntmps25
    go_wp2_with fail
    go_ret
    refine ⟨congrArg (fun b => Ending.returned (Value.bool b)) ?_, rfl⟩
    first
      | rfl
      | (rw [Bool.eq_iff_iff]; simp; done)
      | (rw [Bool.eq_iff_iff]; simp; omega))

set_option linter.unusedSimpArgs false in
theorem isIdentPart_any (c : Int) (w : World) : Calls Ybaz.prog 26 #[.int .u8 c] w fun e w' => e = .returned (.bool (partB c)) ∧ w = w' := by
  unfold partB
  cases h1 : startB c <;> cases h2 : digB c
  all_goals (
    go_enter Ybaz.func26, Ybaz.ntmps26
    go_wp2_with (first
      | (go_at_call 25; refine (isIdentStart_any c _).mono ?_; rintro e w' ⟨rfl, rfl⟩; rw [h1])
      | (go_at_call 23; refine (isDigit_any c _).mono ?_; rintro e w' ⟨rfl, rfl⟩; rw [h2]))
    go_ret
    refine ⟨congrArg (fun b => Ending.returned (Value.bool b)) ?_, rfl⟩
    first
      | rfl
      | (rw [Bool.eq_iff_iff]; simp; done)
      | (rw [Bool.eq_iff_iff]; simp; omega))

/-- The byte at i, as a number. -/
def byteAt (s : ByteArray) (i : Nat) : Int := ((s.data.toList.getD i 0).toNat : Int)

theorem byteAt_eq (s : ByteArray) (i : Nat) (h : i < s.size) : byteAt s i = (s[i].toNat : Int) := by
  unfold byteAt
  obtain ⟨⟨l⟩⟩ := s
  have h' : i < l.length := h
  show ((l.getD i 0).toNat : Int) = (l[i].toNat : Int)
  simp [List.getD, h']

/-- digitsEnd: the digits run to j. -/
theorem digitsEnd_any (s : ByteArray) (i j : Nat) (w : World) (hij : i ≤ j) (hj : j ≤ s.size) (hd : ∀ k, i ≤ k → k < j → digB (byteAt s k) = true) (hend : j < s.size → digB (byteAt s j) = false) (hs : s.size ≤ 1000000000) :
    Calls Ybaz.prog 24 #[.string s, .int .i64 i] w fun e w' => e = .returned (.int .i64 j) ∧ w = w' := by
  go_enter Ybaz.func24, Ybaz.ntmps24
  go_wp2_with fail
  go_loopw [1] (fun v wr => ∃ k : Nat, v = .int .i64 k ∧ i ≤ k ∧ k ≤ j ∧ wr = w) (fun v _ => j - (intOf v).toNat)
  case atStart => exact ⟨i, rfl, Nat.le_refl _, hij, rfl⟩
  case round =>
    obtain ⟨k, rfl, hik, hkj, rfl⟩ := hrel
    by_cases hk : k < j
    · have hks : k < s.size := by omega
      have hd1 := hd k hik hk
      rw [byteAt_eq s k hks] at hd1
      have hks' : (k : Int) < (s.size : Int) := by omega
      clear hd hend
      go_wp2_with (go_at_call 23; refine (isDigit_any _ _).mono ?_; rintro e w' ⟨rfl, rfl⟩; rw [hd1])
      go_roundw
      case measure => simp [intOf]; omega
      case rel => exact ⟨k + 1, rfl, by omega, by omega, by trivial⟩
    · obtain rfl : k = j := by omega
      by_cases hks : k < s.size
      · have hd1 := hend hks
        rw [byteAt_eq s k hks] at hd1
        have hks' : (k : Int) < (s.size : Int) := by omega
        clear hd hend
        go_wp2_with (go_at_call 23; refine (isDigit_any _ _).mono ?_; rintro e w' ⟨rfl, rfl⟩; rw [hd1])
        go_ret
        exact ⟨rfl, rfl⟩
      · have hks' : ¬ (k : Int) < (s.size : Int) := by omega
        clear hd hend
        go_wp2_with fail
        go_ret
        exact ⟨rfl, rfl⟩

end Go.Proofs.YbulkexobaGreatFmt
