/-
  strconv.FormatUint at base 10, over the shelf's contracts.
-/
import Derived.Test.YbulkexobaGreatFmtShelf
import Derived.Test.YbulkexobaGreatFmtBytes
import Derived.Lib.AppendIntMem
namespace Go.Proofs.YbulkexobaGreatFmt
open Go.RowKit Go.Lib Go.Sort Go.Shelf

theorem Ybaz.arr106 : Ybaz.prog.underlying 106 = some (.array (Ybaz.prog.arrayLen 106) (Ybaz.prog.elem 106)) := by kernel_rfl
theorem Ybaz.len106 : Ybaz.prog.arrayLen 106 = 24 := by kernel_rfl

theorem grown_grow (w : World) (k : Nat) (os : Array Obj) : w.grownBy (grow (w.drewN k) os) none :=
  ⟨rfl, rfl, rfl, by simp [grow], fun i hi _ => Lib.heap_grow_old w k os i hi⟩

set_option maxHeartbeats 6400000 in
set_option maxRecDepth 100000 in
theorem fmtU12 (u : Nat) (hu64 : u < 18446744073709551616) (w : World) (htab : Lib.TabIs Ybaz.prog w (Rows.lawS194064CWholeRow.named.getD 0 "") .u64 Lib.pow10Tab) :
    Calls Ybaz.prog 12 #[.int .u64 u, .int .i64 10] w fun e w' => e = .returned (.string ⟨(Lib.decDigits u).toArray⟩) ∧ w.grownBy w' none := by
  by_cases hs : u < 100
  · have hs' : (u : Int) < 100 := by omega
    go_enter Ybaz.func12, Ybaz.ntmps12
    go_wp2_with (go_at_call 19; refine (Ybaz.internal_strconv_small u hs _).mono ?_; rintro e w' ⟨rfl, rfl⟩)
    go_ret
    exact ⟨rfl, grown_refl _ _⟩
  · have hs' : ¬ ((u : Int) < 100) := by omega
    have hu1 : 1 ≤ u := by omega
    have hnd20 : Lib.nDigits u ≤ 20 := by have := Lib.numDigits_eq u hu1 hu64; split at this <;> omega
    have hsl : ∀ W, (Instr.sliceAt 106 (.pointer (some ⟨w.heap.size, 0, none⟩)) none (some (.int .i64 (Lib.nDigits u : Int))) none).run Ybaz.prog W = .ok (.slice (some ⟨w.heap.size, 0, none⟩) (Lib.nDigits u) 24) W := fun W => by
      rw [run_sliceAt_array_h W 106 ⟨w.heap.size, 0, none⟩ Ybaz.arr106 .i64 (Lib.nDigits u : Int) (by omega) (by rw [Ybaz.len106]; omega), Ybaz.len106]
      go_simp
    have hH0 := Lib.holds_zero0 w 106 (Lib.nDigits u) (by omega)
    have hfmt := Ybaz.internal_strconv_formatBase10 w.heap.size 0 24 u (Array.replicate (Lib.nDigits u) 0) (w.alloc (.cells Lib.zeros24 106)) hH0 (by rw [Array.size_replicate]; exact Lib.lt_pow_nDigits u) hu64 (by rw [Array.size_replicate]; omega)
    rw [Array.size_replicate] at hfmt
    have HH0 := Lib.hid hH0
    clear hH0
    have htab' : Hid (∀ o, Lib.TabIs Ybaz.prog (w.alloc o) (Rows.lawS194064CWholeRow.named.getD 0 "") .u64 Lib.pow10Tab) := fun o => Lib.tabIs_alloc htab o
    clear htab
    go_enter Ybaz.func12, Ybaz.ntmps12
    go_wp2_with (first
      | (go_at_call 20; refine (Ybaz.internal_strconv_numDigits u hu1 hu64 _ (htab'.out _)).mono ?_; rintro e w' ⟨rfl, rfl⟩))
    go_at_call 21
    refine hfmt.mono ?_
    rintro e w' ⟨rfl, k, v', dk, rfl, hF⟩
    have hcv : (convert 23 9 (.slice (some ⟨w.heap.size, 0, none⟩) (Lib.nDigits u) 24)).run Ybaz.prog ((putRow (fun (b : UInt8) => Value.int .u8 (b.toNat : Int)) (w.alloc (.cells Lib.zeros24 106)) w.heap.size 0 dk).drewN k) = .ok (.string ⟨(Lib.decDigits u).toArray⟩) ((putRow (fun (b : UInt8) => Value.int .u8 (b.toNat : Int)) (w.alloc (.cells Lib.zeros24 106)) w.heap.size 0 dk).drewN k) := by
      have h := run_convert_bytes_back (P := Ybaz.prog) ((putRow (fun (b : UInt8) => Value.int .u8 (b.toNat : Int)) (w.alloc (.cells Lib.zeros24 106)) w.heap.size 0 dk).drewN k) 23 9 5 ⟨w.heap.size, 0, none⟩ 24 (Lib.decDigits u) Ybaz.underlying23 Ybaz.underlying5 Ybaz.underlying9 (fun j hj => by
        rw [Lib.row_is_numeral hF j hj, Lib.add_plain, World.cell?_drewN]
        exact cell?_putRow (fun (b : UInt8) => Value.int .u8 (b.toNat : Int)) _ w.heap.size 0 _ dk HH0.out (by rw [hF.size, Array.size_replicate]) j (by rw [hF.size]; rw [Lib.decDigits_length] at hj; exact hj))
      rw [Lib.decDigits_length] at h
      exact h
    go_wp2
    go_ret
    obtain ⟨os, eo⟩ := Lib.fin_at w (.cells Lib.zeros24 106) dk k 0
    exact ⟨rfl, by rw [eo]; exact grown_grow w k os⟩

/-- strconv.FormatUint(u, 10) -/
theorem fmtU_any (u : Nat) (hu64 : u < 18446744073709551616) (w : World) (htab : Lib.TabIs Ybaz.prog w (Rows.lawS194064CWholeRow.named.getD 0 "") .u64 Lib.pow10Tab) :
    Calls Ybaz.prog 7 #[.int .u64 u, .int .i64 10] w fun e w' => e = .returned (.string ⟨(Lib.decDigits u).toArray⟩) ∧ w.grownBy w' none := by
  have h := fmtU12 u hu64 w htab
  clear htab
  go_enter Ybaz.func7, Ybaz.ntmps7
  go_wp2_with (go_at_call 12; refine h.mono ?_; rintro e w' ⟨rfl, hg⟩)
  go_ret
  exact ⟨rfl, hg⟩

theorem decDigits_dig (u : Nat) : ∀ b ∈ Lib.decDigits u, digB (b.toNat : Int) = true := by
  intro b hb
  rw [Lib.decDigits_eq u] at hb
  simp only [List.mem_map] at hb
  obtain ⟨i, _, rfl⟩ := hb
  have h : ∀ n : Nat, n < 10 → digB ((UInt8.ofNat (48 + n)).toNat : Int) = true := by decide
  exact h _ (Nat.mod_lt _ (by decide))
theorem decDigits_ne (u : Nat) : Lib.decDigits u ≠ [] := by
  intro h
  have h1 := congrArg List.length h
  rw [Lib.decDigits_length] at h1
  have := Lib.nDigits_pos u
  simp at h1
  omega
theorem decDigits_len (u : Nat) (h : u < 18446744073709551616) : (Lib.decDigits u).length ≤ 20 := by
  rw [Lib.decDigits_length]
  by_cases h1 : 1 ≤ u
  · have := Lib.numDigits_eq u h1 h
    split at this <;> omega
  · have : u = 0 := by omega
    subst this
    rw [Lib.nDigits_small (by decide)]
    decide

end Go.Proofs.YbulkexobaGreatFmt
