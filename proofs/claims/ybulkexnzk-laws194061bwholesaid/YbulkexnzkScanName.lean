import Derived.Test.YbulkexnzkScanCalls
import Derived.Deep.QuietTactic
import Derived.BigQuiet
import Derived.Deep.LoopGhost
import Derived.Laws.BytesArg
namespace Go.Proofs.Ybulkexnzk
open Go.RowKit

/-- More: it reads two fields. -/
theorem more_any (b : Nat) (a0 : Option Addr) (len cap : Nat) (I : Int) (w : World) (hS : w.cell? ⟨b, 0, none⟩ = some (.slice a0 len cap)) (hI : w.cell? ⟨b, 1, none⟩ = some (.int .i64 I)) :
    Calls Yba.prog 6 #[.pointer (some ⟨b, 0, none⟩)] w fun e w' => e = .returned (.bool (decide (I < (len : Int)))) ∧ ∃ n, w' = w.drewN n := by
  go_enter Yba.func6, Yba.ntmps6
  go_wp2
  go_quiet (fail)
  go_wp2
  go_ret
  exact ⟨rfl, _, rfl⟩

theorem more_yes (b : Nat) (a0 : Option Addr) (len cap : Nat) (I : Int) (w : World) (hS : w.cell? ⟨b, 0, none⟩ = some (.slice a0 len cap)) (hI : w.cell? ⟨b, 1, none⟩ = some (.int .i64 I)) (h : I < (len : Int)) :
    Calls Yba.prog 6 #[.pointer (some ⟨b, 0, none⟩)] w fun e w' => e = .returned (.bool true) ∧ ∃ n, w' = w.drewN n :=
  (more_any b a0 len cap I w hS hI).mono fun _ _ ⟨he, hw⟩ => ⟨by rw [he, decide_eq_true h], hw⟩
theorem more_no (b : Nat) (a0 : Option Addr) (len cap : Nat) (I : Int) (w : World) (hS : w.cell? ⟨b, 0, none⟩ = some (.slice a0 len cap)) (hI : w.cell? ⟨b, 1, none⟩ = some (.int .i64 I)) (h : (len : Int) ≤ I) :
    Calls Yba.prog 6 #[.pointer (some ⟨b, 0, none⟩)] w fun e w' => e = .returned (.bool false) ∧ ∃ n, w' = w.drewN n :=
  (more_any b a0 len cap I w hS hI).mono fun _ _ ⟨he, hw⟩ => ⟨by rw [he, decide_eq_false (by omega)], hw⟩
theorem start_is (c : Int) (v : Bool) (h : startB c = v) (w : World) : Calls Yba.prog 7 #[.int .u8 c] w fun e w' => e = .returned (.bool v) ∧ w' = w := by
  have := start_any c w; rwa [h] at this
theorem digit_is (c : Int) (v : Bool) (h : digB c = v) (w : World) : Calls Yba.prog 8 #[.int .u8 c] w fun e w' => e = .returned (.bool v) ∧ w' = w := by
  have := digit_any c w; rwa [h] at this

/-- The end 'e' of the run of name bytes from 'start' on, among the first 'len' of 'zs'. -/
def IsEnd (zs : List Int) (len start e : Nat) : Prop :=
  start ≤ e ∧ e ≤ len ∧ (∀ j, start ≤ j → j < e → wordB (zs.getD j 0) = true) ∧ (e < len → wordB (zs.getD e 0) = false)

theorem IsEnd.unique {zs : List Int} {len start e e' : Nat} (h : IsEnd zs len start e) (h' : IsEnd zs len start e') : e = e' := by
  obtain ⟨a1, a2, a3, a4⟩ := h
  obtain ⟨b1, b2, b3, b4⟩ := h'
  rcases Nat.lt_trichotomy e e' with hlt | heq | hgt
  · have := b3 e a1 hlt; rw [a4 (by omega)] at this; cases this
  · exact heq
  · have := a3 e' b1 hgt; rw [b4 (by omega)] at this; cases this

/-- WHAT ONE MORE NAME BYTE DOES TO THE LOOP's RELATION. -/
theorem name_step {b bb off len cap start e : Nat} {zs : List Int} {w wr : World} {x2 x3 : Value} (q : Nat)
    (hall : ∀ j, start ≤ j → j < e → wordB (zs.getD j 0) = true) (hw : wordB (zs.getD e 0) = true)
    (gS : wr.cell? ⟨b, 0, none⟩ = some (.slice (some ⟨bb, off, none⟩) len cap)) (gI : wr.cell? ⟨b, 1, none⟩ = some (.int .i64 e)) (g2 : wr.cell? ⟨b, 2, none⟩ = some x2) (g3 : wr.cell? ⟨b, 3, none⟩ = some x3)
    (gfz : wr.frozen? ⟨b, 1, none⟩ = false) (hb : Below b w wr) :
    (∀ j, start ≤ j → j < e + 1 → wordB (zs.getD j 0) = true) ∧
      ((wr.setCell ⟨b, 1, none⟩ (.int .i64 ((e : Int) + 1))).drewN q).cell? ⟨b, 0, none⟩ = some (.slice (some ⟨bb, off, none⟩) len cap) ∧
      ((wr.setCell ⟨b, 1, none⟩ (.int .i64 ((e : Int) + 1))).drewN q).cell? ⟨b, 1, none⟩ = some (.int .i64 ((e + 1 : Nat) : Int)) ∧
      ((wr.setCell ⟨b, 1, none⟩ (.int .i64 ((e : Int) + 1))).drewN q).cell? ⟨b, 2, none⟩ = some x2 ∧
      ((wr.setCell ⟨b, 1, none⟩ (.int .i64 ((e : Int) + 1))).drewN q).cell? ⟨b, 3, none⟩ = some x3 ∧
      ((wr.setCell ⟨b, 1, none⟩ (.int .i64 ((e : Int) + 1))).drewN q).frozen? ⟨b, 1, none⟩ = false ∧
      Below b w ((wr.setCell ⟨b, 1, none⟩ (.int .i64 ((e : Int) + 1))).drewN q) := by
  refine ⟨?_, ?_, ?_, ?_, ?_, ?_, ?_⟩
  · intro j h1 h2
    by_cases h : j = e
    · rw [h]; exact hw
    · exact hall j h1 (by omega)
  · simpa [World.cell?_setCell_other] using gS
  · simpa using World.cell?_setCell_same wr _ (.int .i64 ((e : Int) + 1)) gI
  · simpa [World.cell?_setCell_other] using g2
  · simpa [World.cell?_setCell_other] using g3
  · simpa using gfz
  · exact (hb.setCell (p := ⟨b, 1, none⟩) (Nat.le_refl _) (.int .i64 ((e : Int) + 1))).trans ⟨rfl, rfl, rfl, by simp, fun _ _ => by simp⟩

theorem ret_str {a b : ByteArray} (h : a = b) : Ending.returned (.string a) = .returned (.string b) := by rw [h]

/-- 'string(s.Src[start:e])', the cells read in whatever world. -/
theorem conv_cut (zs : List Int) (bb off len start e c : Nat) (wr : World) (hz : len ≤ zs.length) (he : start ≤ e) (hel : e ≤ len)
    (hcell : ∀ j, j < len → wr.cell? ⟨bb, off + j, none⟩ = some (.int .u8 (zs.getD j 0))) (q : Nat) :
    (convert 22 9 (.slice (some ⟨bb, off + start, none⟩) (e - start) c)).run Yba.prog (wr.drewN q) = .ok (.string (strOfNums ((zs.drop start).take (e - start)))) (wr.drewN q) := by
  refine run_convert_bytes_arg (P := Yba.prog) (wr.drewN q) 22 5 Yba.underlying22 Yba.underlying5 bb (off + start) (e - start) c _ (by simp; omega) (fun i hi => ?_) 9 Yba.underlying9
  have h := hcell (start + i) (by omega)
  have e1 : ((zs.drop start).take (e - start)).getD i 0 = zs.getD (start + i) 0 := by
    simp [List.getD, List.getElem?_take_of_lt hi, List.getElem?_drop]
  rw [e1, Nat.add_assoc]
  simpa using h

theorem conv_none (ad : Addr) (c : Nat) (wr : World) (q : Nat) :
    (convert 22 9 (.slice (some ad) 0 c)).run Yba.prog (wr.drewN q) = .ok (.string ⟨#[]⟩) (wr.drewN q) := by
  rw [run_convert_bytes_string _ 22 9 5 _ 0 c Yba.underlying22 Yba.underlying5 Yba.underlying9]
  have := run_bytesToString (P := Yba.prog) (wr.drewN q) ad 0 c [] (by simp [loadCells, loadCellsFrom])
  rw [this]; rfl

theorem name_any (b : Nat) (bb off len cap : Nat) (zs : List Int) (start : Nat) (w : World) (x2 x3 : Value) (hS : w.cell? ⟨b, 0, none⟩ = some (.slice (some ⟨bb, off, none⟩) len cap)) (hI : w.cell? ⟨b, 1, none⟩ = some (.int .i64 start))
    (h2 : w.cell? ⟨b, 2, none⟩ = some x2) (h3 : w.cell? ⟨b, 3, none⟩ = some x3)
    (hfz : w.frozen? ⟨b, 1, none⟩ = false) (hlc : len ≤ cap) (hln : len ≤ 1048576) (hbb : bb < b) (hst : start ≤ len) (hz : len ≤ zs.length) (hcell : ∀ j, j < len → w.cell? ⟨bb, off + j, none⟩ = some (.int .u8 (zs.getD j 0))) :
    Calls Yba.prog 5 #[.pointer (some ⟨b, 0, none⟩)] w fun r w' => ∃ e, IsEnd zs len start e ∧ r = .returned (.string (strOfNums ((zs.drop start).take (e - start)))) ∧
      w'.cell? ⟨b, 0, none⟩ = some (.slice (some ⟨bb, off, none⟩) len cap) ∧ w'.cell? ⟨b, 1, none⟩ = some (.int .i64 e) ∧ w'.cell? ⟨b, 2, none⟩ = some x2 ∧ w'.cell? ⟨b, 3, none⟩ = some x3 ∧ Below b w w' := by
  go_enter Yba.func5, Yba.ntmps5
  go_wp2_with fail
  go_loopg [] (len - start) (fun g wr => ∃ e : Nat, start ≤ e ∧ e + g = len ∧ (∀ j, start ≤ j → j < e → wordB (zs.getD j 0) = true) ∧
      wr.cell? ⟨b, 0, none⟩ = some (.slice (some ⟨bb, off, none⟩) len cap) ∧ wr.cell? ⟨b, 1, none⟩ = some (.int .i64 e) ∧ wr.cell? ⟨b, 2, none⟩ = some x2 ∧ wr.cell? ⟨b, 3, none⟩ = some x3 ∧ wr.frozen? ⟨b, 1, none⟩ = false ∧ Below b w wr)
  case atStart => exact ⟨start, Nat.le_refl _, by omega, fun j h1 h2 => by omega, hS, hI, h2, h3, hfz, Below.refl _ _⟩
  case round =>
    obtain ⟨e, he, heg, hall, gS, gI, g2, g3, gfz, hb⟩ := hrel
    clear hS hI h2 h3 hfz
    by_cases hlt : e < len
    · obtain ⟨c, hc⟩ : ∃ c, c = zs.getD e 0 := ⟨_, rfl⟩
      have gc : wr.cell? ⟨bb, off + e, none⟩ = some (.int .u8 c) := by rw [hb.cell (by exact hbb), hc]; exact hcell e hlt
      have HC : Hid (c = zs.getD e 0) := hc
      have HA : Hid (∀ j, start ≤ j → j < e → wordB (zs.getD j 0) = true) := hall
      have HCell : Hid (∀ j, j < len → w.cell? ⟨bb, off + j, none⟩ = some (.int .u8 (zs.getD j 0))) := hcell
      have hlt' : (e : Int) < (len : Int) := by omega
      clear hc hall hcell
      by_cases hs : startB c = true
      · go_wp2_with fail
        go_quiet (first
          | (go_at_call 6; exact Calls.quiet_of (more_yes b _ len cap _ _ (by simpa using gS) (by simpa using gI) hlt'))
          | (go_at_call 7; exact Calls.quiet_of_same (start_is c true hs _)))
        go_wp2_with fail
        go_roundg (gk - 1)
        case measure => omega
        case rel =>
          obtain ⟨r1, r2, r3, r4, r5, r6, r7⟩ := name_step nq HA.out (by rw [← HC.out, word_split, hs]; rfl) gS gI g2 g3 gfz hb
          exact ⟨e + 1, by omega, by omega, r1, r2, r3, r4, r5, r6, r7⟩
      · have hs' : startB c = false := by simpa using hs
        clear hs
        by_cases hd : digB c = true
        · go_wp2_with fail
          go_quiet (first
            | (go_at_call 6; exact Calls.quiet_of (more_yes b _ len cap _ _ (by simpa using gS) (by simpa using gI) hlt'))
            | (go_at_call 7; exact Calls.quiet_of_same (start_is c false hs' _))
            | (go_at_call 8; exact Calls.quiet_of_same (digit_is c true hd _)))
          go_wp2_with fail
          go_roundg (gk - 1)
          case measure => omega
          case rel =>
            obtain ⟨r1, r2, r3, r4, r5, r6, r7⟩ := name_step nq HA.out (by rw [← HC.out, word_split, hd]; simp) gS gI g2 g3 gfz hb
            exact ⟨e + 1, by omega, by omega, r1, r2, r3, r4, r5, r6, r7⟩
        · have hd' : digB c = false := by simpa using hd
          clear hd
          go_wp2_with fail
          go_quiet (first
            | (go_at_call 6; exact Calls.quiet_of (more_yes b _ len cap _ _ (by simpa using gS) (by simpa using gI) hlt'))
            | (go_at_call 7; exact Calls.quiet_of_same (start_is c false hs' _))
            | (go_at_call 8; exact Calls.quiet_of_same (digit_is c false hd' _)))
          go_wp2_with fail
          have hcv := conv_cut zs bb off len start e (cap - start) wr hz he (by omega) (fun j hj => by rw [hb.cell (by exact hbb)]; exact HCell.out j hj)
          obtain ⟨S, hS⟩ : ∃ S, S = strOfNums ((zs.drop start).take (e - start)) := ⟨_, rfl⟩
          rw [← hS] at hcv
          have HS : Hid (S = strOfNums ((zs.drop start).take (e - start))) := hS
          clear hS
          go_quiet (fail)
          go_wp2
          go_ret
          refine ⟨e, ⟨he, by omega, HA.out, fun _ => by rw [← HC.out, word_split, hs', hd']; rfl⟩, ret_str HS.out, by simpa using gS, by simpa using gI, by simpa using g2, by simpa using g3, ?_⟩
          exact hb.trans ⟨rfl, rfl, rfl, by simp, fun _ _ => by simp⟩
    · have hge : (len : Int) ≤ (e : Int) := by omega
      go_wp2_with fail
      go_quiet ((go_at_call 6; exact Calls.quiet_of (more_no b _ len cap _ _ (by simpa using gS) (by simpa using gI) hge)))
      go_wp2_with fail
      have HA : Hid (∀ j, start ≤ j → j < e → wordB (zs.getD j 0) = true) := hall
      have hcv := conv_cut zs bb off len start e (cap - start) wr hz he (by omega) (fun j hj => by rw [hb.cell (by exact hbb)]; exact hcell j hj)
      obtain ⟨S, hS⟩ : ∃ S, S = strOfNums ((zs.drop start).take (e - start)) := ⟨_, rfl⟩
      rw [← hS] at hcv
      have HS : Hid (S = strOfNums ((zs.drop start).take (e - start))) := hS
      clear hS hall hcell
      by_cases hcs : cap = start
      · have hcn := conv_none ⟨bb, off, none⟩ 0 wr
        have hes : e = start := by omega
        subst hes
        have hS0 : S = ⟨#[]⟩ := by rw [HS.out, Nat.sub_self]; rfl
        have HS0 : Hid (S = ⟨#[]⟩) := hS0
        subst hcs
        clear hS0 hcv
        go_quiet (fail)
        go_wp2
        go_ret
        refine ⟨cap, ⟨he, by omega, HA.out, fun _ => by omega⟩, ret_str (HS0.out.symm.trans HS.out), by simpa using gS, by simpa using gI, by simpa using g2, by simpa using g3, ?_⟩
        exact hb.trans ⟨rfl, rfl, rfl, by simp, fun _ _ => by simp⟩
      · go_quiet (fail)
        go_wp2
        go_ret
        refine ⟨e, ⟨he, by omega, HA.out, fun _ => by omega⟩, ret_str HS.out, by simpa using gS, by simpa using gI, by simpa using g2, by simpa using g3, ?_⟩
        exact hb.trans ⟨rfl, rfl, rfl, by simp, fun _ _ => by simp⟩
end Go.Proofs.Ybulkexnzk
