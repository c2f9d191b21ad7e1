/-
  writeNum, printNode at a plain name, print, by their contracts.
-/
import Derived.Test.YbulkexocqDoorCalls
import Derived.Test.YbulkexocqDoorShelf
import Derived.Lib.ItoaLen
import Derived.WalkSmall
import Derived.Deep.RegionHeld3
import Derived.Deep.RegionWith
import Derived.BigRegion
import Derived.Deep.DrawnRows
namespace Go.Proofs.YbulkexocqDoor
open Go.RowKit

/-- New blocks, and nothing else. -/
theorem Pr.grew {L : Lay} {t : St} {w w' : World} (h : Pr L t w) (hg : w.grownBy w' none) : Pr L t w' := by
  obtain ⟨a, b, c, d, e⟩ := h.kept_blocks (e := 5) hg (fun g hg => by cases hg) (by decide) (by decide) (by decide)
  exact ⟨a, b, c, d, h.o.kept hg (.inr (by simp [Value.ownBlock])), h.pt.kept hg (by rcases hv : t.pv.ownBlock with _ | x <;> simp), e, h.hR⟩

theorem grown_grow (w : World) (k : Nat) (os : Array Obj) : w.grownBy (Sort.grow (w.drewN k) os) none := by
  refine ⟨rfl, rfl, rfl, by simp [Sort.grow], fun j hj _ => ?_⟩
  show (w.heap ++ os)[j]? = w.heap[j]?
  exact Array.getElem?_append_left hj

theorem itoa_pos (n : Int) : 0 < (Lib.itoa n).length := by
  unfold Lib.itoa
  split
  · simp
  · rw [Lib.decDigits_length]; exact Lib.nDigits_pos _

set_option maxRecDepth 100000 in
theorem writeNum_any {L : Lay} {t : St} {w : World} (h : Pr L t w) (n : Int) (h0 : -9223372036854775808 ≤ n) (h1 : n ≤ 9223372036854775807) (htab : Lib.TabIs Ybad.prog w tabName .u64 Lib.pow10Tab) (ho : t.out.length ≤ 100000000) :
    Calls Ybad.prog 10 #[.pointer (some ⟨L.bR, 0, none⟩), .int .i64 n] w fun e w' => e = .returned (.tuple #[]) ∧ ∃ gO cO, Pr L { t with gO := gO, cO := cO, out := t.out ++ Lib.itoa n, last := (((Lib.itoa n).getLastD 0).toNat : Int) } w' := by
  have hc := itoa_any n h0 h1 w htab
  have hlen := Lib.itoa_length_le n h0 h1
  have hpos := itoa_pos n
  generalize Lib.itoa n = d at hc hlen hpos ⊢
  have HC : Hid (Calls Ybad.prog 15 #[.int .i64 n] w fun e w' => e = .returned (.string ⟨d.toArray⟩) ∧ ∃ k os, w' = Sort.grow (w.drewN k) os) := hc
  have H : Hid (Pr L t w) := h
  have hsz : (⟨d.toArray⟩ : ByteArray).size = d.length := by simp [ByteArray.size]
  have Hsz : Hid ((⟨d.toArray⟩ : ByteArray).size = d.length) := hsz
  clear hc h htab hsz
  go_enter Ybad.func10, Ybad.ntmps10
  go_wp2_with fail
  refine HC.out.mono ?_
  rintro e w1 ⟨rfl, k, os, rfl⟩
  have HP : Hid (Pr L t (Sort.grow (w.drewN k) os)) := H.out.grew (grown_grow w k os)
  generalize Sort.grow (w.drewN k) os = w1 at HP ⊢
  clear H HC
  go_wp2_with fail
  refine (write_some HP.out ⟨d.toArray⟩ (by rw [Hsz.out]; exact hpos) (by rw [Hsz.out]; omega)).mono ?_
  rintro e w2 ⟨rfl, gO, cO, hP⟩
  have HP2 : Hid (∃ gO cO, Pr L { t with gO := gO, cO := cO, out := t.out ++ d, last := ((d.getLastD 0).toNat : Int) } w2) := ⟨gO, cO, by simpa using hP⟩
  clear HP hP
  go_wp2_with fail
  go_end0
  exact ⟨rfl, HP2.out⟩

set_option maxRecDepth 1000000 in
set_option maxHeartbeats 4000000 in
/-- printNode at node 0, a kName of the whole name behind its first byte. -/
theorem printName_any {L : Lay} {t : St} {w : World} (h : Pr L t w) (hs1 : 1 ≤ L.s.size) (ho : t.out.length + L.s.size ≤ 100000000) (hn : 0 < L.n)
    (n0 : L.nc[0]? = some (.int .u8 0)) (n1 : L.nc[1]? = some (.int .u8 0)) (n2 : L.nc[2]? = some (.int .i32 1)) (n3 : L.nc[3]? = some (.int .i32 L.s.size)) (n4 : L.nc[4]? = some (.int .i32 0)) :
    Calls Ybad.prog 18 #[.pointer (some ⟨L.bR, 0, none⟩), .int .i32 0] w fun e w' => e = .returned (.tuple #[]) ∧
      ∃ gO cO, Pr L { t with gO := gO, cO := cO, out := t.out ++ (L.s.extract 1 L.s.size).data.toList, last := lastB t.last (L.s.extract 1 L.s.size).data.toList } w' := by
  have c0 : w.cell? ⟨L.bR, 0, none⟩ = some (.pointer (some ⟨L.bP, 0, none⟩)) := cells_at h.r 0
  have p0 : w.cell? ⟨L.bP, 0, none⟩ = some (.string L.s) := cells_at h.p 0
  have k0 := (cells_at h.nn 0).trans n0
  have k1 := (cells_at h.nn 1).trans n1
  have k2 := (cells_at h.nn 2).trans n2
  have k3 := (cells_at h.nn 3).trans n3
  have k4 := (cells_at h.nn 4).trans n4
  have hbR : L.bR < w.heap.size := (Array.getElem?_eq_some_iff.1 h.r).1
  have hbP : L.bP < w.heap.size := (Array.getElem?_eq_some_iff.1 h.p).1
  have H : Hid (Pr L t w) := h
  clear h n0 n1 n2 n3 n4
  go_enter Ybad.func18, Ybad.ntmps18
  go_wp2_with fail
  refine (at_any H.out 0 hn).mono ?_
  rintro e w' ⟨rfl, rfl⟩
  go_wp2_with fail
  go_quiet (fail)
  go_wp2_with fail
  have hs1' : (1 : Int) ≤ (L.s.size : Int) := by omega
  have HX : Hid (Pr L t ((w.alloc (.cells #[.int .u8 0, .int .u8 0, .int .i32 1, .int .i32 L.s.size, .int .i32 0] 25)).drewN nq)) := (H.out.grew (World.grownBy_alloc _ _ _)).draws nq
  have hlen : (L.s.extract 1 L.s.size).size = L.s.size - 1 := by simp
  go_region_with (go_at_call 9; refine (write_any (L := L) (t := t) (by exact HX.out.draws 1) _ (by rw [hlen]; omega)).mono ?_; rintro e w' ⟨rfl, gO, cO, hP⟩)
  all_goals
    have HP : Hid (Pr L { t with gO := gO, cO := cO, out := t.out ++ (L.s.extract 1 L.s.size).data.toList, last := lastB t.last (L.s.extract 1 L.s.size).data.toList } w') := hP
    clear hP HX H hlen
    go_wp2_with fail
    go_end0
    exact ⟨rfl, gO, cO, HP.out⟩

end Go.Proofs.YbulkexocqDoor
