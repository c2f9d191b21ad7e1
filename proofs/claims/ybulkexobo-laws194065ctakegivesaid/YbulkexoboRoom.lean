/-
  room.give, room.take and (*sync.Mutex).TryLock, each by its contract, one goroutine, the lock free.
-/
import Derived.Test.YbulkexoboLocks
import Derived.WalkKit
import Derived.ProofKit
import Derived.Below
import Derived.Deep.QuietTactic
import Derived.BigQuiet
namespace Go.Proofs.Ybulkexobo
open Go.RowKit Go.MuLone

set_option maxHeartbeats 800000 in
/-- give, the lock free. -/
theorem give_any (b : Nat) (held n : Int) (w : World)
    (h0 : w.cell? ⟨b, 0, none⟩ = some (.int .i32 0)) (h3 : w.cell? ⟨b, 3, none⟩ = some (.int .i64 held))
    (f0 : w.frozen? ⟨b, 0, none⟩ = false) (f3 : w.frozen? ⟨b, 3, none⟩ = false) :
    Calls Yba.prog 5 #[.pointer (some ⟨b, 0, none⟩), .int .i64 n] w fun e w' => e = .returned (.tuple #[]) ∧
      w' = ((w.setCell ⟨b, 0, none⟩ (.int .i32 1)).setCell ⟨b, 3, none⟩ (.int .i64 (wrap64 (held - n)))).setCell ⟨b, 0, none⟩ (.int .i32 0) := by
  go_enter_defers Yba.func5, Yba.ntmps5
  go_wp2_with (go_at_call 9; refine (lock_free muLib ⟨b, 0, none⟩ _ h0 f0).mono ?_; rintro e w' ⟨rfl, rfl⟩)
  refine leaves_cons (f := 7) (args := #[.pointer (some ⟨b, 0, none⟩)]) (by simp) (by simp [go_sem]) ?_
  refine (unlock_deferred muLib ⟨b, 0, none⟩ .returning _ ?_ ?_).mono ?_
  · exact (World.cell?_setCell_other _ ⟨b, 3, none⟩ ⟨b, 0, none⟩ _ (by simp)).trans (World.cell?_setCell_same w ⟨b, 0, none⟩ (.int .i32 1) h0)
  · simp [f0]
  rintro e u' w'' ⟨rfl, rfl, rfl⟩
  exact ⟨_, results_none rfl _ _ _, rfl, rfl⟩

set_option maxHeartbeats 800000 in
/-- take, too little room. -/
theorem take_no (b : Nat) (size held n : Int) (w : World)
    (h0 : w.cell? ⟨b, 0, none⟩ = some (.int .i32 0)) (h2 : w.cell? ⟨b, 2, none⟩ = some (.int .i64 size)) (h3 : w.cell? ⟨b, 3, none⟩ = some (.int .i64 held))
    (f0 : w.frozen? ⟨b, 0, none⟩ = false) (hn : wrap64 (size - held) < n) :
    Calls Yba.prog 8 #[.pointer (some ⟨b, 0, none⟩), .int .i64 n] w fun e w' => e = .returned (.tuple #[.int .i64 (wrap64 (size - held)), .bool false]) ∧
      ∃ q, w' = ((w.setCell ⟨b, 0, none⟩ (.int .i32 1)).setCell ⟨b, 0, none⟩ (.int .i32 0)).drewN q := by
  go_enter_defers Yba.func8, Yba.ntmps8
  go_wp2_with (go_at_call 9; refine (lock_free muLib ⟨b, 0, none⟩ _ h0 f0).mono ?_; rintro e w' ⟨rfl, rfl⟩)
  go_quiet (fail)
  go_wp2_with fail
  refine leaves_cons (f := 7) (args := #[.pointer (some ⟨b, 0, none⟩)]) (by simp) (by simp [go_sem]) ?_
  refine (unlock_deferred muLib ⟨b, 0, none⟩ .returning _ ?_ ?_).mono ?_
  · rw [World.cell?_drewN]; exact World.cell?_setCell_same w ⟨b, 0, none⟩ (.int .i32 1) h0
  · simp [f0]
  rintro e u' w'' ⟨rfl, rfl, rfl⟩
  exact ⟨_, results_tmp2 rfl _ _ _, rfl, nq, rfl⟩

set_option maxHeartbeats 800000 in
/-- take, room enough. -/
theorem take_yes (b : Nat) (size held n : Int) (w : World)
    (h0 : w.cell? ⟨b, 0, none⟩ = some (.int .i32 0)) (h2 : w.cell? ⟨b, 2, none⟩ = some (.int .i64 size)) (h3 : w.cell? ⟨b, 3, none⟩ = some (.int .i64 held))
    (f0 : w.frozen? ⟨b, 0, none⟩ = false) (f3 : w.frozen? ⟨b, 3, none⟩ = false) (hn : n ≤ wrap64 (size - held)) :
    Calls Yba.prog 8 #[.pointer (some ⟨b, 0, none⟩), .int .i64 n] w fun e w' => e = .returned (.tuple #[.int .i64 (wrap64 (size - held)), .bool true]) ∧
      ∃ q, w' = (((w.setCell ⟨b, 0, none⟩ (.int .i32 1)).setCell ⟨b, 3, none⟩ (.int .i64 (wrap64 (held + n)))).setCell ⟨b, 0, none⟩ (.int .i32 0)).drewN q := by
  go_enter_defers Yba.func8, Yba.ntmps8
  go_wp2_with (go_at_call 9; refine (lock_free muLib ⟨b, 0, none⟩ _ h0 f0).mono ?_; rintro e w' ⟨rfl, rfl⟩)
  go_quiet (fail)
  go_wp2_with fail
  refine leaves_cons (f := 7) (args := #[.pointer (some ⟨b, 0, none⟩)]) (by simp) (by simp [go_sem]) ?_
  refine (unlock_deferred muLib ⟨b, 0, none⟩ .returning _ ?_ ?_).mono ?_
  · exact (World.cell?_setCell_other _ ⟨b, 3, none⟩ ⟨b, 0, none⟩ _ (by simp)).trans (World.cell?_setCell_same w ⟨b, 0, none⟩ (.int .i32 1) h0)
  · simp [f0]
  rintro e u' w'' ⟨rfl, rfl, rfl⟩
  exact ⟨_, results_tmp2 rfl _ _ _, rfl, nq, rfl⟩

set_option maxHeartbeats 800000 in
/-- (*internal/sync.Mutex).TryLock, the lock free. -/
theorem itry_free (a : Addr) (w : World) (hc : w.cell? a = some (.int .i32 0)) (hz : w.frozen? a = false) :
    Calls Yba.prog 10 #[.pointer (some a)] w fun e w' => e = .returned (.bool true) ∧ w' = w.setCell a (.int .i32 1) := by
  have hd := disable muLib
  have he := enable muLib
  have ha := acquire muLib
  have hcas := run_call_cas_hit (P := Yba.prog) Yba.func15 (by kernel_rfl) (by kernel_rfl) (by kernel_rfl) .i32 (by kernel_rfl) (x := 0) (y := 1) hc hz
  have hcv := run_convert_to_unsafe (P := Yba.prog) (src := 39) (dst := 43) Yba.underlying39 Yba.underlying43 (by kernel_rfl) (World.cell?_setCell_same w a (.int .i32 1) hc)
  have hbits : (bits BinOp.and IntKind.i32 0 5 != 0) = false := by decide
  go_enter Yba.func10, Yba.ntmps10
  go_wp2
  go_ret
  exact ⟨rfl, rfl⟩

set_option maxHeartbeats 800000 in
/-- (*sync.Mutex).TryLock, the lock free. -/
theorem try_free (b : Nat) (w : World) (hc : w.cell? ⟨b, 0, none⟩ = some (.int .i32 0)) (hz : w.frozen? ⟨b, 0, none⟩ = false) :
    Calls Yba.prog 6 #[.pointer (some ⟨b, 0, none⟩)] w fun e w' => e = .returned (.bool true) ∧ w' = w.setCell ⟨b, 0, none⟩ (.int .i32 1) := by
  go_enter Yba.func6, Yba.ntmps6
  go_wp2_with (go_at_call 10; refine (itry_free _ _ hc hz).mono ?_; rintro e w' ⟨rfl, rfl⟩)
  go_ret
  exact ⟨rfl, rfl⟩
end Go.Proofs.Ybulkexobo
