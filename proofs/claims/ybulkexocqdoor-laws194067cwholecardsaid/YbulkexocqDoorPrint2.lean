/-
  print at node 0, by its contract.
-/
import Derived.Test.YbulkexocqDoorPrint
namespace Go.Proofs.YbulkexocqDoor
open Go.RowKit

theorem own_zero {w : World} {base e g n cap : Nat} {xs : List Value} (h : w.ownsRow base e 1 (.slice (some ⟨g, 0, none⟩) n cap) n xs) : w.ownsRow base e 1 (.slice (some ⟨g, 0, none⟩) 0 cap) 0 [] := by
  refine ⟨by simp, ?_⟩
  rcases h.2 with ⟨hv, _⟩ | ⟨g', cap', cur, hv, hb, hg, hnc, hcm, hcs, _⟩
  · cases hv
  · injection hv with h1 h2 h3
    injection h1 with h1
    injection h1 with h1
    subst h1; subst h3
    exact .inr ⟨_, _, cur, rfl, hb, hg, Nat.zero_le _, hcm, hcs, by simp⟩

set_option maxRecDepth 100000 in
set_option maxHeartbeats 1000000 in
/-- print at node 0. -/
theorem print_any {L : Lay} {t : St} {w : World} (h : Pr L t w) (hpv : t.pv = .slice none 0 0) (hpt : t.path = []) (hs0 : t.steps = 0) (hs1 : 1 ≤ L.s.size) (ho : t.out.length + L.s.size ≤ 100000000) (hn : 0 < L.n)
    (n0 : L.nc[0]? = some (.int .u8 0)) (n1 : L.nc[1]? = some (.int .u8 0)) (n2 : L.nc[2]? = some (.int .i32 1)) (n3 : L.nc[3]? = some (.int .i32 L.s.size)) (n4 : L.nc[4]? = some (.int .i32 0)) :
    Calls Ybad.prog 12 #[.pointer (some ⟨L.bR, 0, none⟩), .int .i32 0] w fun e w' => e = .returned (.tuple #[]) ∧
      ∃ gO cO g c, Pr L { t with gO := gO, cO := cO, out := t.out ++ (L.s.extract 1 L.s.size).data.toList, last := lastB t.last (L.s.extract 1 L.s.size).data.toList, steps := 1, pv := .slice (some ⟨g, 0, none⟩) 0 c } w' := by
  obtain ⟨i0, hi, hz0, hz1, hz2⟩ := info_parts Ybad.info27
  have c12 : w.cell? ⟨L.bR, 12, none⟩ = some (.slice none 0 0) := by rw [← hpv]; exact cells_at h.r 12
  have H : Hid (Pr L t w) := h
  have N : Hid (L.nc[0]? = some (.int .u8 0) ∧ L.nc[1]? = some (.int .u8 0) ∧ L.nc[2]? = some (.int .i32 1) ∧ L.nc[3]? = some (.int .i32 L.s.size) ∧ L.nc[4]? = some (.int .i32 0)) := ⟨n0, n1, n2, n3, n4⟩
  have Hs0 : Hid (t.steps = 0) := hs0
  have Hpt : Hid (t.path = []) := hpt
  have Hpv : Hid (t.pv = .slice none 0 0) := hpv
  clear h n0 n1 n2 n3 n4 hs0 hpv hpt
  go_enter Ybad.func12, Ybad.ntmps12
  go_wp2_with fail
  refine (step_any H.out (by rw [Hs0.out]; omega) (by rw [Hs0.out]; omega) (by omega) (by omega)).mono ?_
  rintro e w1 ⟨rfl, h1⟩
  have H1 : Hid (Pr L { t with steps := t.steps + 1 } w1) := h1
  have c12 : w1.cell? ⟨L.bR, 12, none⟩ = some (.slice none 0 0) := by rw [← Hpv.out]; exact cells_at h1.r 12
  have f12 : w1.frozen? ⟨L.bR, 12, none⟩ = false := free_at h1.r 12
  have hbR : L.bR < w1.heap.size := (Array.getElem?_eq_some_iff.1 h1.r).1
  have hB1 := h1.hB
  clear h1 H
  go_wp2_with (at_builtin; refine wpList_append_own _ rfl (.tmp 22) (.tmp 24) 32 rfl L.B 27 i0 (.int .i32 0) 1 4 Ybad.underlying32 hi hz0 hz1 hz2 rfl (by decide) _ 0 [] rfl (World.ownsRow_nil _ _ _ _) ⟨w1.heap.size, 0, none⟩ 1 1 [.int .i32 0] rfl rfl (cell_one_new _ _ _) (by simp [Value.oneCell']) (by decide) (by decide) (by simp; omega) ?_)
  intro v' w2 hown hgrow hnil
  have hne' : v' ≠ .slice none 0 0 := fun e => by simp [e] at hnil
  obtain ⟨g, cap, hv⟩ := own_shape hown hne'
  rw [hv] at hown ⊢
  have h2 : Pr L { t with steps := t.steps + 1 } w2 := (H1.out.grew (World.grownBy_alloc _ _ none)).grew hgrow
  have H2 : Hid (Pr L { t with steps := t.steps + 1, pv := .slice (some ⟨g, 0, none⟩) 1 cap, path := [0] } (w2.setCell ⟨L.bR, 12, none⟩ (.slice (some ⟨g, 0, none⟩) 1 cap))) := h2.store _ 12 _ rfl h2.o hown
  have c12' : w2.cell? ⟨L.bR, 12, none⟩ = some (.slice none 0 0) := by rw [← Hpv.out]; exact cells_at h2.r 12
  have f12' : w2.frozen? ⟨L.bR, 12, none⟩ = false := free_at h2.r 12
  clear hown hgrow hnil hne' hv H1 h2 c12 f12 hbR hB1
  go_wp2_with fail
  obtain ⟨n0, n1, n2, n3, n4⟩ := N.out
  refine (printName_any H2.out hs1 (by omega) hn n0 n1 n2 n3 n4).mono ?_
  rintro e w3 ⟨rfl, gO, cO, h3⟩
  have c12 : w3.cell? ⟨L.bR, 12, none⟩ = some (.slice (some ⟨g, 0, none⟩) 1 cap) := cells_at h3.r 12
  have f12 : w3.frozen? ⟨L.bR, 12, none⟩ = false := free_at h3.r 12
  have hcap : 1 ≤ cap := by
    rcases h3.pt.2 with ⟨hv, _⟩ | ⟨_, _, _, hv, _, _, hnc, _⟩
    · cases hv
    · injection hv with _ _ h3; subst h3; exact hnc
  have hcap' : (1 : Int) ≤ (cap : Int) := by omega
  have H3 : Hid (Pr L { t with gO := gO, cO := cO, out := t.out ++ (L.s.extract 1 L.s.size).data.toList, last := lastB t.last (L.s.extract 1 L.s.size).data.toList, steps := 1, pv := .slice (some ⟨g, 0, none⟩) 0 cap } (w3.setCell ⟨L.bR, 12, none⟩ (.slice (some ⟨g, 0, none⟩) 0 cap))) := by
    refine h3.store _ 12 _ ?_ h3.o ?_
    · simp [prCells, Hs0.out]
    · show w3.ownsRow L.B 27 1 (.slice (some ⟨g, 0, none⟩) 0 cap) t.path.length (t.path.map (Value.int .i32))
      rw [Hpt.out]; exact own_zero h3.pt
  clear n0 n1 n2 n3 n4 N H2 h3 c12' f12'
  go_wp2_with fail
  go_region
  all_goals
    go_wp2_with fail
    go_end0
    exact ⟨rfl, gO, cO, g, cap, H3.out.draws 1⟩
end Go.Proofs.YbulkexocqDoor
