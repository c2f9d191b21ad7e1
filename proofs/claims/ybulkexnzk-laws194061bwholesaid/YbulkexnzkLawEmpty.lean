import Derived.Test.YbulkexnzkLawWalk
import Derived.LoopN
namespace Go.Proofs.Ybulkexnzk
open Go.RowKit

theorem below_q {B : Nat} {a w : World} (h : Below B a w) (q : Nat) : Below B a (w.drewN q) := h.trans ⟨rfl, rfl, rfl, by simp, fun _ _ => by simp⟩

theorem conv_zero (ao : Option Addr) (c : Nat) (w : World) : (convert 22 9 (.slice ao 0 c)).run Yba.prog w = .ok (.string ⟨#[]⟩) w := by
  cases ao with
  | none => rw [run_convert_bytes_nil (P := Yba.prog) w 22 5 Yba.underlying22 Yba.underlying5 0 c 9 Yba.underlying9]; rfl
  | some ad => exact conv_none ad c w 0

theorem name_empty (b : Nat) (a0 : Option Addr) (cap : Nat) (w : World) (hS : w.cell? ⟨b, 0, none⟩ = some (.slice a0 0 cap)) (hI : w.cell? ⟨b, 1, none⟩ = some (.int .i64 0)) :
    Calls Yba.prog 5 #[.pointer (some ⟨b, 0, none⟩)] w fun r w' => r = .returned (.string ⟨#[]⟩) ∧ ∃ n, w' = w.drewN n := by
  have hcv := conv_zero
  go_enter Yba.func5, Yba.ntmps5
  go_wp2_with fail
  refine wp_loop_rounds 1 ?_
  rw [rounds_succ]
  go_wp2_with fail
  go_quiet ((go_at_call 6; exact Calls.quiet_of (more_no b _ 0 cap _ _ (by simpa using hS) (by simpa using hI) (by simp))))
  go_wp2_with fail
  go_quiet (fail)
  go_wp2
  go_ret
  exact ⟨rfl, _, World.drewN_drewN _ _ _⟩

theorem walk_empty (a0 : Option Addr) (cap : Nat) (i line lst : Int) (w : World) :
    Calls Yba.prog 3 #[.slice a0 0 cap, .int .i64 i, .int .i64 line, .int .i64 lst] w fun e w' => e = .returned (.bool true) ∧ Below w.heap.size w w' := by
  obtain ⟨i0, hi, hz0, hz1, hz2⟩ := info_parts Yba.info5
  have hcv := conv_zero
  go_enter Yba.func3, Yba.ntmps3
  go_wp2_with (at_make; refine wpList_make_full _ rfl (.tmp 32) (.tmp 32) 22 rfl w.heap.size 5 i0 (.int .u8 0) 1 Yba.underlying22 hi hz0 hz1 .i64 .i64 _ _ 0 rfl rfl rfl rfl (by omega) (by unfold maxLen; omega) (Nat.le_refl _) ?_)
  intro wa hown hgrow
  have hba : Below w.heap.size w wa := (Below.refl _ _).grown hgrow (Nat.le_refl _) (by simp)
  clear hown hgrow
  go_wp2_with (refine wpList_copy_nothing rfl (.tmp 34) (.tmp 35) 22 22 rfl 5 Yba.underlying22 (by kernel_rfl) _ _ _ _ _ _ rfl rfl (by simp) ?_)
  go_wp2_with fail
  refine wp_loop_rounds 1 ?_
  rw [rounds_succ]
  go_wp2_with (at_make; refine wpList_make_full _ rfl (.const (.int .i64 0)) (.tmp 52) 22 rfl wa.heap.size 5 i0 (.int .u8 0) 1 Yba.underlying22 hi hz0 hz1 .i64 .i64 _ _ 0 rfl rfl rfl rfl (by omega) (by unfold maxLen; omega) (Nat.le_refl _) ?_)
  intro wb hown hgrow
  have hbb : Below w.heap.size w wb := hba.grown hgrow hba.size (by simp)
  clear hown hgrow hba
  go_wp2_with fail
  refine wp_loop_rounds 1 ?_
  rw [rounds_succ]
  go_wp2_with fail
  refine (name_empty wb.heap.size a0 cap _ (by simp) (by simp)).mono ?_
  rintro r w5 ⟨rfl, q, rfl⟩
  go_wp2_with fail
  refine wp_loop_rounds 1 ?_
  rw [rounds_succ]
  go_wp2_with fail
  go_ret
  exact ⟨rfl, below_q (hbb.alloc hbb.size _) q⟩
end Go.Proofs.Ybulkexnzk
