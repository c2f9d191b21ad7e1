/-
  THE LAW, WHOLE.
-/
import Derived.Test.YbulkexobaGreatFmtL0
import Derived.Test.YbulkexobaGreatFmtL1f
import Derived.Test.YbulkexobaGreatFmtL1t
import Derived.Test.YbulkexobaGreatFmtL2f
import Derived.Test.YbulkexobaGreatFmtL2t
import Derived.Test.YbulkexobaGreatFmtL3f
import Derived.Test.YbulkexobaGreatFmtL3t
import Derived.Test.YbulkexobaGreatFmtL4
import Derived.Test.YbulkexobaGreatFmtL5f
import Derived.Test.YbulkexobaGreatFmtL5t
import Derived.Test.YbulkexobaGreatFmtL6
import Derived.Test.YbulkexobaGreatFmtL7ff
import Derived.Test.YbulkexobaGreatFmtL7ft
import Derived.Test.YbulkexobaGreatFmtL7tf
import Derived.Test.YbulkexobaGreatFmtL7tt
import Derived.Test.YbulkexobaGreatFmtL8ff
import Derived.Test.YbulkexobaGreatFmtL8ft
import Derived.Test.YbulkexobaGreatFmtL8tf
import Derived.Test.YbulkexobaGreatFmtL8tt
import Derived.Test.YbulkexobaGreatFmtL9f
import Derived.Test.YbulkexobaGreatFmtL9t
import Derived.Test.YbulkexobaGreatFmtL10
import Derived.Test.YbulkexobaGreatFmtL11f
import Derived.Test.YbulkexobaGreatFmtL11t
import Derived.Test.YbulkexobaGreatFmtEarly
namespace Go.Proofs.YbulkexobaGreatFmt
open Go.RowKit Go.Extern.Stop Go.Stop Go.Extern
set_option linter.unusedVariables false

theorem wi_all : ∀ n : Fin 256, 0 ≤ (wrap64 (bits BinOp.and IntKind.u8 ((n.val : Int) / 8) 3)).tmod 3 := by decide +kernel
theorem wi_of (fl : Int) (h : 0 ≤ fl ∧ fl ≤ 255) : ∃ wi : Nat, (wrap64 (bits BinOp.and IntKind.u8 (fl / 8) 3)).tmod 3 = (wi : Int) := by
  have h1 := wi_all ⟨fl.toNat, by omega⟩
  have e : ((fl.toNat : Nat) : Int) = fl := by omega
  simp only [e] at h1
  exact ⟨_, (Int.toNat_of_nonneg h1).symm⟩

theorem law_in (F : Interp) (w : World) (sel fl : Int) (name : ByteArray) (ao : Option Addr) (nb no nn nc : Nat) (ns : Nat → ByteArray) (bo : Option Addr) (mb mo mn mc : Nat) (xs : Nat → Int) (num : Nat) (up alt alt2 semi par : Bool) (wi : Nat)
    (H : LawIn w sel fl name ao nb no nn ns bo mb mo mn xs num up alt alt2 semi par wi) (hF : F.answers w.tape) :
    Calls Ybaz.prog 3 #[.int .u8 sel, .int .u8 fl, .string name, .slice ao nn nc, .slice bo mn mc, .int .u64 num] w fun e w' => e = .returned (.bool true) ∧ w.grownBy w' none := by
  have hs := H.hsel
  have hk : sel % 12 = 0 ∨ sel % 12 = 1 ∨ sel % 12 = 2 ∨ sel % 12 = 3 ∨ sel % 12 = 4 ∨ sel % 12 = 5 ∨ sel % 12 = 6 ∨ sel % 12 = 7 ∨ sel % 12 = 8 ∨ sel % 12 = 9 ∨ sel % 12 = 10 ∨ sel % 12 = 11 := by omega
  rcases hk with hk | hk | hk | hk | hk | hk | hk | hk | hk | hk | hk | hk
  · exact law_0 F w sel fl name ao nb no nn nc ns bo mb mo mn mc xs num up alt alt2 semi par wi H hF hk
  · cases alt
    · exact law_1f F w sel fl name ao nb no nn nc ns bo mb mo mn mc xs num up alt2 semi par wi H hF hk
    · exact law_1t F w sel fl name ao nb no nn nc ns bo mb mo mn mc xs num up alt2 semi par wi H hF hk
  · cases alt
    · exact law_2f F w sel fl name ao nb no nn nc ns bo mb mo mn mc xs num up alt2 semi par wi H hF hk
    · exact law_2t F w sel fl name ao nb no nn nc ns bo mb mo mn mc xs num up alt2 semi par wi H hF hk
  · cases alt
    · exact law_3f F w sel fl name ao nb no nn nc ns bo mb mo mn mc xs num up alt2 semi par wi H hF hk
    · exact law_3t F w sel fl name ao nb no nn nc ns bo mb mo mn mc xs num up alt2 semi par wi H hF hk
  · exact law_4 F w sel fl name ao nb no nn nc ns bo mb mo mn mc xs num up alt alt2 semi par wi H hF hk
  · cases alt
    · exact law_5f F w sel fl name ao nb no nn nc ns bo mb mo mn mc xs num up alt2 semi par wi H hF hk
    · exact law_5t F w sel fl name ao nb no nn nc ns bo mb mo mn mc xs num up alt2 semi par wi H hF hk
  · exact law_6 F w sel fl name ao nb no nn nc ns bo mb mo mn mc xs num up alt alt2 semi par wi H hF hk
  · cases alt <;> cases alt2
    · exact law_7ff F w sel fl name ao nb no nn nc ns bo mb mo mn mc xs num up semi par wi H hF hk
    · exact law_7ft F w sel fl name ao nb no nn nc ns bo mb mo mn mc xs num up semi par wi H hF hk
    · exact law_7tf F w sel fl name ao nb no nn nc ns bo mb mo mn mc xs num up semi par wi H hF hk
    · exact law_7tt F w sel fl name ao nb no nn nc ns bo mb mo mn mc xs num up semi par wi H hF hk
  · cases alt <;> cases alt2
    · exact law_8ff F w sel fl name ao nb no nn nc ns bo mb mo mn mc xs num up semi par wi H hF hk
    · exact law_8ft F w sel fl name ao nb no nn nc ns bo mb mo mn mc xs num up semi par wi H hF hk
    · exact law_8tf F w sel fl name ao nb no nn nc ns bo mb mo mn mc xs num up semi par wi H hF hk
    · exact law_8tt F w sel fl name ao nb no nn nc ns bo mb mo mn mc xs num up semi par wi H hF hk
  · cases alt
    · exact law_9f F w sel fl name ao nb no nn nc ns bo mb mo mn mc xs num up alt2 semi par wi H hF hk
    · exact law_9t F w sel fl name ao nb no nn nc ns bo mb mo mn mc xs num up alt2 semi par wi H hF hk
  · exact law_10 F w sel fl name ao nb no nn nc ns bo mb mo mn mc xs num up alt alt2 semi par wi H hF hk
  · cases alt
    · exact law_11f F w sel fl name ao nb no nn nc ns bo mb mo mn mc xs num up alt2 semi par wi H hF hk
    · exact law_11t F w sel fl name ao nb no nn nc ns bo mb mo mn mc xs num up alt2 semi par wi H hF hk

/-- THE LAW, whatever the input. -/
theorem law_any (F : Interp) (w : World) (sel fl : Int) (name : ByteArray) (ao : Option Addr) (nb no nn nc : Nat) (ns : Nat → ByteArray) (bo : Option Addr) (mb mo mn mc : Nat) (xs : Nat → Int) (num : Nat)
    (hsel : 0 ≤ sel ∧ sel ≤ 255) (hfl : 0 ≤ fl ∧ fl ≤ 255) (hao : 0 < nn → ao = some ⟨nb, no, none⟩) (hnc : ∀ w', w.grownBy w' none → ∀ i, i < nn → w'.cell? ⟨nb, no + i, none⟩ = some (.string (ns i)))
    (hns : ∀ i, i < nn → (ns i).size ≤ 140737488355328) (hbo : 0 < mn → bo = some ⟨mb, mo, none⟩) (hmc : ∀ w', w.grownBy w' none → ∀ i, i < mn → w'.cell? ⟨mb, mo + i, none⟩ = some (.int .u8 (xs i)))
    (hxs : ∀ i, i < mn → 0 ≤ xs i ∧ xs i ≤ 255) (hnum : num < 18446744073709551616) (htab : ∀ w', w.grownBy w' none → Lib.TabIs Ybaz.prog w' (Rows.lawS194064CWholeRow.named.getD 0 "") .u64 Lib.pow10Tab) (hF : F.answers w.tape) :
    Calls Ybaz.prog 3 #[.int .u8 sel, .int .u8 fl, .string name, .slice ao nn nc, .slice bo mn mc, .int .u64 num] w fun e w' => e = .returned (.bool true) ∧ w.grownBy w' none := by
  by_cases h1 : 1048576 < name.size
  · exact law_name w sel fl name ao nn nc bo mn mc num h1
  by_cases h2 : 65536 < nn
  · exact law_nn w sel fl name ao nn nc bo mn mc num h1 h2
  by_cases h3 : 65536 < mn
  · exact law_mn w sel fl name ao nn nc bo mn mc num h1 h2 h3
  by_cases ht : ∀ i, i ≤ nn → tot ns i ≤ 1048576
  · obtain ⟨wi, hwi⟩ := wi_of fl hfl
    exact law_in F w sel fl name ao nb no nn nc ns bo mb mo mn mc xs num _ _ _ _ _ wi
      ⟨hsel, hfl, by omega, by omega, by omega, hao, hnc, ht, hbo, hmc, hxs, hnum, htab, rfl, rfl, rfl, rfl, rfl, hwi⟩ hF
  · exact law_tot w sel fl name ao nb no nn nc ns bo mn mc num h1 h2 h3 hao (hnc w (grown_refl _ _)) hns ht

end Go.Proofs.YbulkexobaGreatFmt
