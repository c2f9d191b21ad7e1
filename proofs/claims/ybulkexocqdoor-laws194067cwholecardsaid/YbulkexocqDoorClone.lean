/-
  slices.Clone and slices.Equal at the nodes, by their contracts.
-/
import Derived.Test.YbulkexocqDoorNodes
import Derived.WalkSpells
namespace Go.Proofs.YbulkexocqDoor
open Go.RowKit

def zeroNd : Value := .agg #[.int .u8 0, .int .u8 0, .int .i32 0, .int .i32 0, .int .i32 0]
theorem Ybad.info25 : (Ybad.prog.info? 25).map (fun i => (i.zero, i.size, i.bytes)) = some (some zeroNd, 5, 16) := by kernel_rfl

theorem clone_any (B g n cap : Nat) (xs : List Value) (w : World) (hown : w.ownsRow B 25 5 (.slice (some ⟨g, 0, none⟩) n cap) n xs) (h1 : ∀ u ∈ xs, u.oneCell' = true) (hn : n ≤ 1000) :
    Calls Ybad.prog 4 #[.slice (some ⟨g, 0, none⟩) n cap] w fun e w' => ∃ v, e = .returned v ∧ w'.ownsRow w.heap.size 25 5 v n xs ∧ v ≠ .slice none 0 0 ∧ w.grownBy w' none := by
  obtain ⟨i0, hi, hz0, hz1, hz2⟩ := info_parts Ybad.info25
  have heq := fun wx => Lib.run_eql_slice_nil (P := Ybad.prog) wx 26 25 (some ⟨g, 0, none⟩) n cap 0 0 Ybad.underlying26
  simp at heq
  go_enter Ybad.func4, Ybad.ntmps4
  go_wp2_with (at_builtin; refine wpList_append_own _ rfl (.tmp 5) (.tmp 6) 26 rfl w.heap.size 25 i0 zeroNd 5 16 Ybad.underlying26 hi hz0 hz1 hz2 rfl (by decide) _ 0 [] rfl (World.ownsRow_made w #[] 0 (Nat.le_refl _) (by decide) rfl) ⟨g, 0, none⟩ n cap xs rfl (by have := hown.1; omega) (fun j u hu => by exact (hown.alloc _).cells (g := g) rfl j u hu) h1 (by unfold maxLen; omega) (by omega) (by simp) ?_)
  intro v' w1 hown' hgrow hnil
  go_wp2_with fail
  go_ret
  exact ⟨v', rfl, hown', hnil, ⟨hgrow.os, hgrow.tape, hgrow.output, by have := hgrow.size; simp at this; omega, fun k hk _ => by
    rw [hgrow.block k (by simp; omega) (by simp [Value.ownBlock]; omega)]; exact Below.heap_alloc w _ k hk⟩⟩

/-- The cells of node i lie in block g. -/
def CellsAt (w : World) (g i : Nat) (x : Nd) : Prop :=
  w.cell? ⟨g, i * 5, none⟩ = some (.int .u8 x.k) ∧ w.cell? ⟨g, i * 5 + 1, none⟩ = some (.int .u8 x.op) ∧ w.cell? ⟨g, i * 5 + 2, none⟩ = some (.int .i32 x.a) ∧ w.cell? ⟨g, i * 5 + 3, none⟩ = some (.int .i32 x.b) ∧ w.cell? ⟨g, i * 5 + 4, none⟩ = some (.int .i32 x.c)

set_option maxHeartbeats 1000000 in
theorem equal_any (g1 c1 g2 c2 n : Nat) (f : Nat → Nd) (w : World) (hn : n ≤ 1000) (h1 : ∀ i, i < n → CellsAt w g1 i (f i)) (h2 : ∀ i, i < n → CellsAt w g2 i (f i)) :
    Calls Ybad.prog 7 #[.slice (some ⟨g1, 0, none⟩) n c1, .slice (some ⟨g2, 0, none⟩) n c2] w fun e w' => e = .returned (.bool true) ∧ ∃ q, w' = w.drewN q := by
  have H1 : Hid (∀ i, i < n → CellsAt w g1 i (f i)) := h1
  have H2 : Hid (∀ i, i < n → CellsAt w g2 i (f i)) := h2
  clear h1 h2
  go_enter Ybad.func7, Ybad.ntmps7
  go_wp2_with fail
  go_loopw [13] (fun v wr => ∃ k q : Nat, v = .int .i64 k ∧ k ≤ n ∧ wr = w.drewN q) (fun v _ => n - (intOf v).toNat)
  case atStart => exact ⟨0, 0, rfl, Nat.zero_le _, rfl⟩
  case round =>
    obtain ⟨k, q, rfl, hk, rfl⟩ := hrel
    by_cases hlt : k < n
    · obtain ⟨a0, a1, a2, a3, a4⟩ := H1.out k hlt
      obtain ⟨b0, b1, b2, b3, b4⟩ := H2.out k hlt
      have hlt' : (k : Int) < (n : Int) := by omega
      go_wp2_with fail
      go_quiet (fail)
      go_wp2_with fail
      go_roundw
      case rel => exact ⟨k + 1, q + nq, by go_num, by omega, by simp⟩
      case measure => simp [intOf]; omega
    · go_wp2_with fail
      go_ret
      exact ⟨rfl, q, rfl⟩
end Go.Proofs.YbulkexocqDoor
