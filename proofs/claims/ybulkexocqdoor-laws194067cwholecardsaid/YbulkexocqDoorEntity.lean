/-
  printLocalEntity, by its contract.
-/
import Derived.Test.YbulkexocqDoorPrint2
namespace Go.Proofs.YbulkexocqDoor
open Go.RowKit

/-- WHAT THE WALK ASKS OF THE NODES: node 0 the name; nodes 1 to q function qualifiers, each over the one before. -/
structure Quals (L : Lay) (q : Nat) : Prop where
  n0 : L.nc[0]? = some (.int .u8 0)
  n1 : L.nc[1]? = some (.int .u8 0)
  n2 : L.nc[2]? = some (.int .i32 1)
  n3 : L.nc[3]? = some (.int .i32 L.s.size)
  n4 : L.nc[4]? = some (.int .i32 0)
  qk : ∀ i, 1 ≤ i → i ≤ q → L.nc[i * 5]? = some (.int .u8 22)
  qa : ∀ i, 1 ≤ i → i ≤ q → L.nc[i * 5 + 2]? = some (.int .i32 ((i : Int) - 1))
  lt : q < L.n
  sz : L.n ≤ 100

theorem at_to {L : Lay} {t : St} {w : World} (h : Pr L t w) (i : Nat) (hi : i < L.n) (j : Int) (hj : j = i) :
    Calls Ybad.prog 11 #[.pointer (some ⟨L.bR, 0, none⟩), .int .i32 j] w fun e w' => e = .returned (.pointer (some ⟨L.gN, i * 5, none⟩)) ∧ w = w' := by
  subst hj; exact at_any h i hi

theorem kind_to {L : Lay} {t : St} {w : World} (h : Pr L t w) (i : Nat) (v : Int) (hi : i < L.n) (hv : L.nc[i * 5]? = some (.int .u8 v)) (j : Int) (hj : j = i) :
    Calls Ybad.prog 8 #[.pointer (some ⟨L.bR, 0, none⟩), .int .i32 j] w fun e w' => e = .returned (.int .u8 v) ∧ w = w' := by
  subst hj; exact kind_any h i v hi hv

set_option maxRecDepth 100000 in
set_option maxHeartbeats 1000000 in
/-- No default argument: the entity is node q. -/
theorem entity_plain {L : Lay} {t : St} {w : World} (h : Pr L t w) (q : Nat) (sq : Bool) (hsq : sq = false → q = 0) (Q : Quals L q) (hpv : t.pv = .slice none 0 0) (hpt : t.path = []) (hs0 : t.steps = 0) (hs1 : 1 ≤ L.s.size) (ho : t.out.length + L.s.size ≤ 100000000) :
    Calls Ybad.prog 5 #[.pointer (some ⟨L.bR, 0, none⟩), .int .i32 q, .bool sq] w fun e w' => e = .returned (.tuple #[]) ∧
      ∃ gO cO g c, Pr L { t with gO := gO, cO := cO, out := t.out ++ (L.s.extract 1 L.s.size).data.toList, last := lastB t.last (L.s.extract 1 L.s.size).data.toList, steps := 1, pv := .slice (some ⟨g, 0, none⟩) 0 c } w' := by
  have H : Hid (Pr L t w) := h
  have HQ : Hid (Quals L q) := Q
  have hn : 0 < L.n := by have := Q.lt; omega
  have hqn := Q.lt
  have hsz := Q.sz
  have K : ∀ k, k ≤ q → ∃ v : Int, (v == 16) = false ∧ (v == 22) = decide (0 < k) ∧ L.nc[k * 5]? = some (.int .u8 v) := by
    intro k hk
    by_cases h0 : k = 0
    · subst h0; exact ⟨0, by decide, by decide, Q.n0⟩
    · exact ⟨22, by decide, by simp; omega, Q.qk k (by omega) hk⟩
  have HK : Hid (∀ k, k ≤ q → ∃ v : Int, (v == 16) = false ∧ (v == 22) = decide (0 < k) ∧ L.nc[k * 5]? = some (.int .u8 v)) := K
  have CELL : Hid (∀ k, 1 ≤ k → k ≤ q → w.cell? ⟨L.gN, k * 5 + 2, none⟩ = some (.int .i32 ((k : Int) - 1))) := fun k h1 h2 => (cells_at h.nn _).trans (Q.qa k h1 h2)
  have E : Hid (t.pv = .slice none 0 0 ∧ t.path = [] ∧ t.steps = 0) := ⟨hpv, hpt, hs0⟩
  clear h Q K hpv hpt hs0
  obtain ⟨v, hv16, _, hvk⟩ := HK.out q (Nat.le_refl _)
  go_enter Ybad.func5, Ybad.ntmps5
  go_wp2_with (go_at_call 8; refine (kind_any H.out q v hqn hvk).mono ?_; rintro e w' ⟨rfl, rfl⟩)
  clear hvk hv16
  go_loop [1] (fun e => ∃ k : Nat, e = .int .i32 k ∧ k ≤ q) (fun e => (intOf e).toNat)
  case atStart => exact ⟨q, rfl, Nat.le_refl _⟩
  case round =>
    obtain ⟨k, rfl, hk⟩ := hrel
    obtain ⟨v', _, hv22, hvk⟩ := HK.out k hk
    by_cases hgo : sq = true ∧ 0 < k
    · obtain ⟨rfl, hpos⟩ := hgo
      have hv22' : (v' == 22) = true := by rw [hv22]; simpa using hpos
      have cc := CELL.out k (by omega) hk
      clear hv22
      go_wp2_with (first | (go_at_call 8; refine (kind_any H.out k v' (by omega) hvk).mono ?_; rintro e w' ⟨rfl, rfl⟩) | (go_at_call 11; refine (at_any H.out k (by omega)).mono ?_; rintro e w' ⟨rfl, rfl⟩))
      go_round
      case rel => exact ⟨k - 1, by rw [show ((k - 1 : Nat) : Int) = (k : Int) - 1 by omega], by omega⟩
      case measure => simp [intOf]; omega
    · have hk0 : k = 0 := by
        cases sq
        · have := hsq rfl; omega
        · simp at hgo; omega
      subst hk0
      have hv22' : (v' == 22) = false := by rw [hv22]; rfl
      clear hv22 hgo
      obtain ⟨hpv, hpt, hs0⟩ := E.out
      have PA : Hid (Calls Ybad.prog 12 #[.pointer (some ⟨L.bR, 0, none⟩), .int .i32 0] w fun e w' => e = .returned (.tuple #[]) ∧
        ∃ gO cO g c, Pr L { t with gO := gO, cO := cO, out := t.out ++ (L.s.extract 1 L.s.size).data.toList, last := lastB t.last (L.s.extract 1 L.s.size).data.toList, steps := 1, pv := .slice (some ⟨g, 0, none⟩) 0 c } w') :=
        print_any H.out hpv hpt hs0 hs1 ho hn HQ.out.n0 HQ.out.n1 HQ.out.n2 HQ.out.n3 HQ.out.n4
      clear hpv hpt hs0
      cases sq
      all_goals
        go_wp2_with (go_at_call 8; refine (kind_any H.out 0 v' (by omega) hvk).mono ?_; rintro e w' ⟨rfl, rfl⟩)
        refine PA.out.mono ?_
        rintro e w' ⟨rfl, hP⟩
        have HP : Hid (∃ gO cO g c, Pr L { t with gO := gO, cO := cO, out := t.out ++ (L.s.extract 1 L.s.size).data.toList, last := lastB t.last (L.s.extract 1 L.s.size).data.toList, steps := 1, pv := .slice (some ⟨g, 0, none⟩) 0 c } w') := hP
        clear hP PA
        go_wp2_with fail
        go_end0
        exact ⟨rfl, HP.out⟩

def preB : List UInt8 := [123, 100, 101, 102, 97, 117, 108, 116, 32, 97, 114, 103, 35]
def postB : List UInt8 := [125, 58, 58]

theorem Pr.tab {L : Lay} {t : St} {w : World} (h : Pr L t w) (hg : Ybad.prog.globalNamed tabName = some 3) (hB : 3 < L.B) (T : Lib.TabIs Ybad.prog L.w0 tabName .u64 Lib.pow10Tab) : Lib.TabIs Ybad.prog w tabName .u64 Lib.pow10Tab :=
  var?_below h.bel hg hB T

set_option maxRecDepth 100000 in
set_option maxHeartbeats 2000000 in
/-- A default argument: the entity is node q + 1, which holds node q. -/
theorem entity_default {L : Lay} {t : St} {w : World} (h : Pr L t w) (q : Nat) (sq : Bool) (hsq : sq = false → q = 0) (Q : Quals L q) (num : Int) (hnum0 : -2147483648 ≤ num) (hnum1 : num ≤ 2147483647)
    (hd0 : L.nc[(q + 1) * 5]? = some (.int .u8 16)) (hd2 : L.nc[(q + 1) * 5 + 2]? = some (.int .i32 q)) (hd3 : L.nc[(q + 1) * 5 + 3]? = some (.int .i32 num)) (hdn : q + 1 < L.n)
    (hg : Ybad.prog.globalNamed tabName = some 3) (hB : 3 < L.B) (T : Lib.TabIs Ybad.prog L.w0 tabName .u64 Lib.pow10Tab)
    (hpv : t.pv = .slice none 0 0) (hpt : t.path = []) (hs0 : t.steps = 0) (hs1 : 1 ≤ L.s.size) (ho : t.out.length + L.s.size ≤ 10000000) :
    Calls Ybad.prog 5 #[.pointer (some ⟨L.bR, 0, none⟩), .int .i32 ((q : Int) + 1), .bool sq] w fun e w' => e = .returned (.tuple #[]) ∧
      ∃ gO cO g c, Pr L { t with gO := gO, cO := cO, out := (((t.out ++ preB) ++ Lib.itoa (num + 1)) ++ postB) ++ (L.s.extract 1 L.s.size).data.toList, last := lastB 58 (L.s.extract 1 L.s.size).data.toList, steps := 1, pv := .slice (some ⟨g, 0, none⟩) 0 c } w' := by
  have H : Hid (Pr L t w) := h
  have HQ : Hid (Quals L q) := Q
  have hn : 0 < L.n := by have := Q.lt; omega
  have hqn := Q.lt
  have hsz := Q.sz
  have K : ∀ k, k ≤ q → ∃ v : Int, (v == 16) = false ∧ (v == 22) = decide (0 < k) ∧ L.nc[k * 5]? = some (.int .u8 v) := by
    intro k hk
    by_cases h0 : k = 0
    · subst h0; exact ⟨0, by decide, by decide, Q.n0⟩
    · exact ⟨22, by decide, by simp; omega, Q.qk k (by omega) hk⟩
  have HK : Hid (∀ k, k ≤ q → ∃ v : Int, (v == 16) = false ∧ (v == 22) = decide (0 < k) ∧ L.nc[k * 5]? = some (.int .u8 v)) := K
  have E : Hid (t.pv = .slice none 0 0 ∧ t.path = [] ∧ t.steps = 0) := ⟨hpv, hpt, hs0⟩
  have D : Hid (L.nc[(q + 1) * 5]? = some (.int .u8 16) ∧ L.nc[(q + 1) * 5 + 2]? = some (.int .i32 q) ∧ L.nc[(q + 1) * 5 + 3]? = some (.int .i32 num)) := ⟨hd0, hd2, hd3⟩
  have TT : Hid (Ybad.prog.globalNamed tabName = some 3 ∧ Lib.TabIs Ybad.prog L.w0 tabName .u64 Lib.pow10Tab) := ⟨hg, T⟩
  have hil := Lib.itoa_length_le (num + 1) (by omega) (by omega)
  clear h Q K hpv hpt hs0 hd0 hd2 hd3 hg T
  go_enter Ybad.func5, Ybad.ntmps5
  go_wp2_with (go_at_call 8; refine (kind_to H.out (q + 1) 16 hdn D.out.1 _ (by omega)).mono ?_; rintro e w' ⟨rfl, rfl⟩)
  refine (write_any H.out ⟨#[123, 100, 101, 102, 97, 117, 108, 116, 32, 97, 114, 103, 35]⟩ (by show _ + 13 ≤ _; omega)).mono ?_
  rintro e w1 ⟨rfl, g1, c1, h1⟩
  obtain ⟨t1, ht1⟩ : ∃ T : St, T = { t with gO := g1, cO := c1, out := t.out ++ preB, last := lastB t.last preB } := ⟨_, rfl⟩
  have H1 : Hid (Pr L t1 w1) := by rw [ht1]; exact h1
  have HT1 : Hid (t1 = { t with gO := g1, cO := c1, out := t.out ++ preB, last := lastB t.last preB }) := ht1
  have ho1 : t1.out.length = t.out.length + 13 := by rw [ht1]; simp [preB]
  have cb := (cells_at H1.out.nn ((q + 1) * 5 + 3)).trans D.out.2.2
  clear h1 ht1 H
  go_wp2_with (go_at_call 11; refine (at_to H1.out (q + 1) hdn _ (by omega)).mono ?_; rintro e w' ⟨rfl, rfl⟩)
  refine (writeNum_any H1.out (num + 1) (by omega) (by omega) (H1.out.tab TT.out.1 hB TT.out.2) (by omega)).mono ?_
  rintro e w2 ⟨rfl, g2, c2, h2⟩
  obtain ⟨t2, ht2⟩ : ∃ T : St, T = { t1 with gO := g2, cO := c2, out := t1.out ++ Lib.itoa (num + 1), last := (((Lib.itoa (num + 1)).getLastD 0).toNat : Int) } := ⟨_, rfl⟩
  have H2 : Hid (Pr L t2 w2) := by rw [ht2]; exact h2
  have HT2 : Hid (t2 = { t1 with gO := g2, cO := c2, out := t1.out ++ Lib.itoa (num + 1), last := (((Lib.itoa (num + 1)).getLastD 0).toNat : Int) }) := ht2
  have ho2 : t2.out.length = t1.out.length + (Lib.itoa (num + 1)).length := by rw [ht2]; simp
  clear h2 ht2 H1 cb
  go_wp2_with fail
  refine (write_any H2.out ⟨#[125, 58, 58]⟩ (by show _ + 3 ≤ _; omega)).mono ?_
  rintro e w4 ⟨rfl, g4, c4, h4⟩
  obtain ⟨t4, ht4⟩ : ∃ T : St, T = { t2 with gO := g4, cO := c4, out := t2.out ++ postB, last := 58 } := ⟨_, rfl⟩
  have H4 : Hid (Pr L t4 w4) := by rw [ht4]; exact h4
  have HT4 : Hid (t4 = { t2 with gO := g4, cO := c4, out := t2.out ++ postB, last := 58 }) := ht4
  have ho4 : t4.out.length + L.s.size ≤ 100000000 := by rw [ht4]; simp [postB]; omega
  have hfin : Hid (∀ gO cO g c w', Pr L { t4 with gO := gO, cO := cO, out := t4.out ++ (L.s.extract 1 L.s.size).data.toList, last := lastB t4.last (L.s.extract 1 L.s.size).data.toList, steps := 1, pv := .slice (some ⟨g, 0, none⟩) 0 c } w' →
      Pr L { t with gO := gO, cO := cO, out := (((t.out ++ preB) ++ Lib.itoa (num + 1)) ++ postB) ++ (L.s.extract 1 L.s.size).data.toList, last := lastB 58 (L.s.extract 1 L.s.size).data.toList, steps := 1, pv := .slice (some ⟨g, 0, none⟩) 0 c } w') := by
    intro gO cO g c w' hh
    rw [ht4, HT2.out, HT1.out] at hh
    exact hh
  have E4 : Hid (t4.pv = .slice none 0 0 ∧ t4.path = [] ∧ t4.steps = 0) := by
    rw [ht4, HT2.out, HT1.out]; exact E.out
  have CELL : Hid (∀ k, 1 ≤ k → k ≤ q → w4.cell? ⟨L.gN, k * 5 + 2, none⟩ = some (.int .i32 ((k : Int) - 1))) := fun k h1 h2 => (cells_at H4.out.nn _).trans (HQ.out.qa k h1 h2)
  have ca := (cells_at H4.out.nn ((q + 1) * 5 + 2)).trans D.out.2.1
  clear h4 ht4 H2 HT1 HT2 HT4 ho1 ho2 E D TT hil
  go_wp2_with (go_at_call 11; refine (at_to H4.out (q + 1) hdn _ (by omega)).mono ?_; rintro e w' ⟨rfl, rfl⟩)
  clear ca
  go_loop [1] (fun e => ∃ k : Nat, e = .int .i32 k ∧ k ≤ q) (fun e => (intOf e).toNat)
  case atStart => exact ⟨q, rfl, Nat.le_refl _⟩
  case round =>
    obtain ⟨k, rfl, hk⟩ := hrel
    obtain ⟨v', _, hv22, hvk⟩ := HK.out k hk
    by_cases hgo : sq = true ∧ 0 < k
    · obtain ⟨rfl, hpos⟩ := hgo
      have hv22' : (v' == 22) = true := by rw [hv22]; simpa using hpos
      have cc := CELL.out k (by omega) hk
      clear hv22
      go_wp2_with (first | (go_at_call 8; refine (kind_any H4.out k v' (by omega) hvk).mono ?_; rintro e w' ⟨rfl, rfl⟩) | (go_at_call 11; refine (at_any H4.out k (by omega)).mono ?_; rintro e w' ⟨rfl, rfl⟩))
      go_round
      case rel => exact ⟨k - 1, by rw [show ((k - 1 : Nat) : Int) = (k : Int) - 1 by omega], by omega⟩
      case measure => simp [intOf]; omega
    · have hk0 : k = 0 := by
        cases sq
        · have := hsq rfl; omega
        · simp at hgo; omega
      subst hk0
      have hv22' : (v' == 22) = false := by rw [hv22]; rfl
      clear hv22 hgo
      obtain ⟨hpv, hpt, hs0⟩ := E4.out
      have PA : Hid (Calls Ybad.prog 12 #[.pointer (some ⟨L.bR, 0, none⟩), .int .i32 0] w4 fun e w' => e = .returned (.tuple #[]) ∧
        ∃ gO cO g c, Pr L { t4 with gO := gO, cO := cO, out := t4.out ++ (L.s.extract 1 L.s.size).data.toList, last := lastB t4.last (L.s.extract 1 L.s.size).data.toList, steps := 1, pv := .slice (some ⟨g, 0, none⟩) 0 c } w') :=
        print_any H4.out hpv hpt hs0 hs1 ho4 hn HQ.out.n0 HQ.out.n1 HQ.out.n2 HQ.out.n3 HQ.out.n4
      clear hpv hpt hs0
      cases sq
      all_goals
        go_wp2_with (go_at_call 8; refine (kind_any H4.out 0 v' (by omega) hvk).mono ?_; rintro e w' ⟨rfl, rfl⟩)
        refine PA.out.mono ?_
        rintro e w' ⟨rfl, hP⟩
        have HP : Hid (∃ gO cO g c, Pr L { t4 with gO := gO, cO := cO, out := t4.out ++ (L.s.extract 1 L.s.size).data.toList, last := lastB t4.last (L.s.extract 1 L.s.size).data.toList, steps := 1, pv := .slice (some ⟨g, 0, none⟩) 0 c } w') := hP
        clear hP PA
        go_wp2_with fail
        go_end0
        obtain ⟨gO, cO, g, c, hh⟩ := HP.out
        exact ⟨rfl, gO, cO, g, c, hfin.out _ _ _ _ _ hh⟩
end Go.Proofs.YbulkexocqDoor
