/-
  THE LAW, its ways out ahead of the text.
-/
import Derived.Test.YbulkexobaGreatFmtLawIn
import Derived.Deep.CutBlock
namespace Go.Proofs.YbulkexobaGreatFmt
open Go.RowKit Go.Extern.Stop Go.Stop Go.Extern
set_option linter.unusedSimpArgs false
set_option linter.unusedVariables false

theorem tot_zero (ns : Nat → ByteArray) : ∀ j, j ≤ 0 → tot ns j ≤ 1048576 := fun j hj => by
  cases j with
  | zero => exact Nat.zero_le _
  | succ j => omega
set_option maxRecDepth 100000 in
set_option maxHeartbeats 4000000 in
theorem law_name (w : World) (sel fl : Int) (name : ByteArray) (ao : Option Addr) (nn nc : Nat) (bo : Option Addr) (mn mc : Nat) (num : Nat) (h1 : 1048576 < name.size) :
    Calls Ybaz.prog 3 #[.int .u8 sel, .int .u8 fl, .string name, .slice ao nn nc, .slice bo mn mc, .int .u64 num] w fun e w' => e = .returned (.bool true) ∧ w.grownBy w' none := by
  have h1' : (1048576 : Int) < name.size := by omega
  go_enter Ybaz.func3, Ybaz.ntmps3
  go_wp2_with fail
  go_ret
  exact ⟨rfl, grown_refl _ _⟩

set_option maxRecDepth 100000 in
set_option maxHeartbeats 4000000 in
theorem law_nn (w : World) (sel fl : Int) (name : ByteArray) (ao : Option Addr) (nn nc : Nat) (bo : Option Addr) (mn mc : Nat) (num : Nat) (h1 : ¬ 1048576 < name.size) (h2 : 65536 < nn) :
    Calls Ybaz.prog 3 #[.int .u8 sel, .int .u8 fl, .string name, .slice ao nn nc, .slice bo mn mc, .int .u64 num] w fun e w' => e = .returned (.bool true) ∧ w.grownBy w' none := by
  have h1' : ¬ ((1048576 : Int) < name.size) := by omega
  have h2' : (65536 : Int) < nn := by omega
  go_enter Ybaz.func3, Ybaz.ntmps3
  go_wp2_with fail
  go_ret
  exact ⟨rfl, grown_refl _ _⟩

set_option maxRecDepth 100000 in
set_option maxHeartbeats 4000000 in
theorem law_mn (w : World) (sel fl : Int) (name : ByteArray) (ao : Option Addr) (nn nc : Nat) (bo : Option Addr) (mn mc : Nat) (num : Nat) (h1 : ¬ 1048576 < name.size) (h2 : ¬ 65536 < nn) (h3 : 65536 < mn) :
    Calls Ybaz.prog 3 #[.int .u8 sel, .int .u8 fl, .string name, .slice ao nn nc, .slice bo mn mc, .int .u64 num] w fun e w' => e = .returned (.bool true) ∧ w.grownBy w' none := by
  have h1' : ¬ ((1048576 : Int) < name.size) := by omega
  have h2' : ¬ ((65536 : Int) < nn) := by omega
  have h3' : (65536 : Int) < mn := by omega
  go_enter Ybaz.func3, Ybaz.ntmps3
  go_wp2_with fail
  go_ret
  exact ⟨rfl, grown_refl _ _⟩

set_option maxRecDepth 100000 in
set_option maxHeartbeats 4000000 in
theorem law_tot (w : World) (sel fl : Int) (name : ByteArray) (ao : Option Addr) (nb no nn nc : Nat) (ns : Nat → ByteArray) (bo : Option Addr) (mn mc : Nat) (num : Nat) (h1 : ¬ 1048576 < name.size) (h2 : ¬ 65536 < nn) (h3 : ¬ 65536 < mn)
    (hao : 0 < nn → ao = some ⟨nb, no, none⟩) (hnc : ∀ i, i < nn → w.cell? ⟨nb, no + i, none⟩ = some (.string (ns i))) (hns : ∀ i, i < nn → (ns i).size ≤ 140737488355328) (ht : ¬ ∀ i, i ≤ nn → tot ns i ≤ 1048576) :
    Calls Ybaz.prog 3 #[.int .u8 sel, .int .u8 fl, .string name, .slice ao nn nc, .slice bo mn mc, .int .u64 num] w fun e w' => e = .returned (.bool true) ∧ w.grownBy w' none := by
  have h1' : ¬ ((1048576 : Int) < name.size) := by omega
  have h2' : ¬ ((65536 : Int) < nn) := by omega
  have h3' : ¬ ((65536 : Int) < mn) := by omega
  have HT : Hid (¬ ∀ i, i ≤ nn → tot ns i ≤ 1048576) := ht
  clear ht
  go_enter Ybaz.func3, Ybaz.ntmps3
  go_wp2_with fail
  go_loopg [13, 14] nn (fun g tv iv wr => ∃ i : Nat, g = nn - i ∧ i ≤ nn ∧ tv = .int .i64 (tot ns i) ∧ iv = .int .i64 i ∧ (∀ j, j ≤ i → tot ns j ≤ 1048576) ∧ wr = w)
  case atStart => exact ⟨0, rfl, Nat.zero_le _, rfl, rfl, tot_zero ns, rfl⟩
  case round =>
    obtain ⟨i, hgk, hile, rfl, rfl, hall, hw⟩ := hrel
    rw [hw]
    clear hw
    by_cases hi : i < nn
    · have hi2 : (i : Int) < (nn : Int) := by omega
      obtain rfl := hao (by omega)
      have hci := hnc i hi
      have hsi := hns i hi
      have hti : tot ns (i + 1) = tot ns i + (ns i).size := rfl
      have hl := hall i (Nat.le_refl _)
      by_cases hb : 1048576 < tot ns i + (ns i).size
      · have hb' : (1048576 : Int) < (tot ns i : Int) + (ns i).size := by omega
        clear hall hti
        go_wp2_with fail
        go_ret
        exact ⟨rfl, grown_refl _ _⟩
      · have hnb : ¬ ((1048576 : Int) < (tot ns i : Int) + (ns i).size) := by omega
        have HA : Hid (∀ j, j ≤ i + 1 → tot ns j ≤ 1048576) := fun j hj => by
          by_cases h : j = i + 1
          · rw [h, hti]; omega
          · exact hall j (by omega)
        clear hall
        go_wp2_with fail
        go_roundg (gk - 1)
        case measure => omega
        case rel => exact ⟨i + 1, by omega, by omega, by rw [hti]; simp, by simp, HA.out, rfl⟩
    · exact absurd (fun j hj => hall j (by omega)) HT.out

end Go.Proofs.YbulkexobaGreatFmt
