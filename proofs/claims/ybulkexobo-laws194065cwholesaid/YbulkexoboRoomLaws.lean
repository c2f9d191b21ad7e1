/-
  A room in a block that the call itself has laid, the lock free: what give, take, TryLock and Unlock make of it.
-/
import Derived.Test.YbulkexoboRoom
namespace Go.Proofs.Ybulkexobo
open Go.RowKit Go.MuLone

/-- A room of size 'size', of which 'held' is held, in block b, which is new since W0; its lock's word is 'st'. -/
structure Room (W0 : World) (b : Nat) (st size held : Int) (w : World) : Prop where
  new : W0.heap.size ≤ b
  c0 : w.cell? ⟨b, 0, none⟩ = some (.int .i32 st)
  c2 : w.cell? ⟨b, 2, none⟩ = some (.int .i64 size)
  c3 : w.cell? ⟨b, 3, none⟩ = some (.int .i64 held)
  f0 : w.frozen? ⟨b, 0, none⟩ = false
  f3 : w.frozen? ⟨b, 3, none⟩ = false
  grown : Grown W0 w

theorem room_new (w : World) (size held : Int) : Room w w.heap.size 0 size held (w.alloc (.cells #[.int .i32 0, .int .u32 0, .int .i64 size, .int .i64 held] 31)) :=
  ⟨Nat.le_refl _, by simp, by simp, by simp, by simp, by simp, (Grown.refl _).alloc _ _⟩

theorem Room.lock {W0 : World} {b : Nat} {st size held : Int} {w : World} (h : Room W0 b st size held w) (s : Int) : Room W0 b s size held (w.setCell ⟨b, 0, none⟩ (.int .i32 s)) :=
  ⟨h.new, World.cell?_setCell_same w ⟨b, 0, none⟩ _ h.c0, (World.cell?_setCell_other w ⟨b, 0, none⟩ ⟨b, 2, none⟩ _ (by simp)).trans h.c2, (World.cell?_setCell_other w ⟨b, 0, none⟩ ⟨b, 3, none⟩ _ (by simp)).trans h.c3,
    (World.frozen?_setCell _ _ _ _).trans h.f0, (World.frozen?_setCell _ _ _ _).trans h.f3, h.grown.setCell (a := ⟨b, 0, none⟩) h.new _⟩

theorem Room.hold {W0 : World} {b : Nat} {st size held : Int} {w : World} (h : Room W0 b st size held w) (n : Int) : Room W0 b st size n (w.setCell ⟨b, 3, none⟩ (.int .i64 n)) :=
  ⟨h.new, (World.cell?_setCell_other w ⟨b, 3, none⟩ ⟨b, 0, none⟩ _ (by simp)).trans h.c0, (World.cell?_setCell_other w ⟨b, 3, none⟩ ⟨b, 2, none⟩ _ (by simp)).trans h.c2, World.cell?_setCell_same w ⟨b, 3, none⟩ _ h.c3,
    (World.frozen?_setCell _ _ _ _).trans h.f0, (World.frozen?_setCell _ _ _ _).trans h.f3, h.grown.setCell (a := ⟨b, 3, none⟩) h.new _⟩

theorem grown_drewN {W w : World} (h : Grown W w) : ∀ q, Grown W (w.drewN q)
  | 0 => h
  | q + 1 => (grown_drewN h q).drew

theorem Room.draws {W0 : World} {b : Nat} {st size held : Int} {w : World} (h : Room W0 b st size held w) (q : Nat) : Room W0 b st size held (w.drewN q) :=
  ⟨h.new, by simpa using h.c0, by simpa using h.c2, by simpa using h.c3, by simpa using h.f0, by simpa using h.f3, grown_drewN h.grown q⟩

theorem give_room {W0 : World} {b : Nat} {size held n : Int} {w : World} (h : Room W0 b 0 size held w) :
    Calls Yba.prog 5 #[.pointer (some ⟨b, 0, none⟩), .int .i64 n] w fun e w' => e = .returned (.tuple #[]) ∧ Room W0 b 0 size (wrap64 (held - n)) w' :=
  (give_any b held n w h.c0 h.c3 h.f0 h.f3).mono fun _ _ ⟨he, hw⟩ => ⟨he, by rw [hw]; exact ((h.lock 1).hold _).lock 0⟩

theorem take_room_no {W0 : World} {b : Nat} {size held n : Int} {w : World} (h : Room W0 b 0 size held w) (hn : wrap64 (size - held) < n) :
    Calls Yba.prog 8 #[.pointer (some ⟨b, 0, none⟩), .int .i64 n] w fun e w' => e = .returned (.tuple #[.int .i64 (wrap64 (size - held)), .bool false]) ∧ Room W0 b 0 size held w' :=
  (take_no b size held n w h.c0 h.c2 h.c3 h.f0 hn).mono fun _ _ ⟨he, q, hw⟩ => ⟨he, by rw [hw]; exact ((h.lock 1).lock 0).draws q⟩

theorem take_room_yes {W0 : World} {b : Nat} {size held n : Int} {w : World} (h : Room W0 b 0 size held w) (hn : n ≤ wrap64 (size - held)) :
    Calls Yba.prog 8 #[.pointer (some ⟨b, 0, none⟩), .int .i64 n] w fun e w' => e = .returned (.tuple #[.int .i64 (wrap64 (size - held)), .bool true]) ∧ Room W0 b 0 size (wrap64 (held + n)) w' :=
  (take_yes b size held n w h.c0 h.c2 h.c3 h.f0 h.f3 hn).mono fun _ _ ⟨he, q, hw⟩ => ⟨he, by rw [hw]; exact (((h.lock 1).hold _).lock 0).draws q⟩

theorem try_room {W0 : World} {b : Nat} {size held : Int} {w : World} (h : Room W0 b 0 size held w) :
    Calls Yba.prog 6 #[.pointer (some ⟨b, 0, none⟩)] w fun e w' => e = .returned (.bool true) ∧ Room W0 b 1 size held w' :=
  (try_free b w h.c0 h.f0).mono fun _ _ ⟨he, hw⟩ => ⟨he, by rw [hw]; exact h.lock 1⟩

theorem unlock_room {W0 : World} {b : Nat} {size held : Int} {w : World} (h : Room W0 b 1 size held w) :
    Calls Yba.prog 7 #[.pointer (some ⟨b, 0, none⟩)] w fun e w' => e = .returned (.tuple #[]) ∧ Room W0 b 0 size held w' :=
  (unlock_held muLib ⟨b, 0, none⟩ w h.c0 h.f0).mono fun _ _ ⟨he, hw⟩ => ⟨he, by rw [hw]; exact h.lock 0⟩

/-! int64's arithmetic by way of uint64 -/
theorem sub_u64 (a b : Int) : wrap64 (IntKind.u64.wrap (IntKind.u64.wrap a - IntKind.u64.wrap b)) = wrap64 (a - b) := by
  simp only [IntKind.wrap_u64, wrap64]; omega
theorem add_u64 (a b : Int) : wrap64 (IntKind.u64.wrap (IntKind.u64.wrap a + IntKind.u64.wrap b)) = wrap64 (a + b) := by
  simp only [IntKind.wrap_u64, wrap64]; omega
theorem back_sub (a b : Int) (h : (Lit.int .i64 a).wf = true) : wrap64 (wrap64 (a + b) - b) = a := by
  simp [Lit.wf, IntKind.min, IntKind.max, IntKind.bits, IntKind.signed] at h
  simp only [wrap64]; omega
end Go.Proofs.Ybulkexobo
