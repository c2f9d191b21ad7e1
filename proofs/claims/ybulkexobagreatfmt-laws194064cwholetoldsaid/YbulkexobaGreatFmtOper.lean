/-
  operatorAt at the five operators that the law writes.
-/
import Derived.Test.YbulkexobaGreatFmtFold2
namespace Go.Proofs.YbulkexobaGreatFmt
open Go.RowKit

theorem two_ne (s : ByteArray) (c : UInt8) (rest : List UInt8) (hs : s.data.toList = c :: rest) (a b : UInt8) (h : c ≠ a) : ((s.extract 0 2).toList == [a, b]) = false := by
  rw [ByteArray.toList_eq, ext_eq, hs]
  simp only [List.drop_zero]
  cases rest with
  | nil => simp
  | cons x r => simp [h]

set_option maxHeartbeats 1000000 in
theorem operator_any (s : ByteArray) (c : UInt8) (rest : List UInt8) (w : World) (hs : s.data.toList = c :: rest) (hc : c = 41 ∨ c = 44 ∨ c = 59 ∨ c = 45 ∨ c = 61) :
    Calls Ybaz.prog 29 #[.string s] w fun e w' => e = .returned (.string ⟨#[c]⟩) ∧ w = w' := by
  have h0 := byteAt_mid (s := s) (pre := []) (b := c) (suf := rest) hs
  have hlt : 0 < s.size := h0.1
  have hlt' : (0 : Int) < (s.size : Int) := by omega
  have hle' : (1 : Int) ≤ (s.size : Int) := by omega
  have hb : (s[0].toNat : Int) = (c.toNat : Int) := by rw [← byteAt_eq s 0 hlt]; exact h0.2
  have he : s.extract 0 1 = ⟨#[c]⟩ := by rw [ext_eq, hs]; rfl
  have n1 := two_ne s c rest hs 60 62 (by rcases hc with h | h | h | h | h <;> rw [h] <;> decide)
  have n2 := two_ne s c rest hs 33 61 (by rcases hc with h | h | h | h | h <;> rw [h] <;> decide)
  have n3 := two_ne s c rest hs 60 61 (by rcases hc with h | h | h | h | h <;> rw [h] <;> decide)
  have n4 := two_ne s c rest hs 62 61 (by rcases hc with h | h | h | h | h <;> rw [h] <;> decide)
  clear h0 hs
  by_cases h2 : (2 : Int) ≤ (s.size : Int)
  all_goals (
    rcases hc with rfl | rfl | rfl | rfl | rfl
    all_goals (
      simp at hb
      go_enter Ybaz.func29, Ybaz.ntmps29
      go_wp2_with fail
      go_ret
      exact ⟨rfl, rfl⟩))

end Go.Proofs.YbulkexobaGreatFmt
