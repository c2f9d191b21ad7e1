/-
  The law's own decimal numeral, zzs194067citoa, by its contract: it is the library's.
-/
import Derived.Test.YbulkexocqDoorNodes
import Derived.WalkSpells
import Derived.Lib.ItoaLen
import Derived.Laws.BytesArg
namespace Go.Proofs.YbulkexocqDoor
open Go.RowKit

/-- WHAT THE LOOP KEEPS: x is still to be written; the digits D stand from place i on in the block b. -/
structure Dig (b : Nat) (w0 : World) (u0 : Nat) (x i : Nat) (D : List UInt8) (C : Array Value) (wr : World) : Prop where
  le : i ≤ 24
  len : D.length = 24 - i
  done : x = 0 → D = Lib.decDigits u0
  more : 0 < x → Lib.decDigits u0 = Lib.decDigits x ++ D
  blk : wr.heap[b]? = some (.cells C 51 (0, 0))
  size : C.size = 24
  cells : C.toList.drop i = bcells D
  bel : Below b w0 wr

/-- One cell put ahead of what stands. -/
theorem digit_put (C : Array Value) (i : Nat) (v : Value) (hi : 1 ≤ i) (hsz : i ≤ C.size) : (C.setIfInBounds (i - 1) v).toList.drop (i - 1) = v :: C.toList.drop i := by
  obtain ⟨j, rfl⟩ : ∃ j, i = j + 1 := ⟨i - 1, by omega⟩
  simp only [Nat.add_sub_cancel]
  have hj : j < (C.setIfInBounds j v).toList.length := by simp; omega
  rw [List.drop_eq_getElem_cons hj]
  congr 1
  · simp
  · apply List.ext_getElem?
    intro k
    simp only [List.getElem?_drop, Array.getElem?_toList, Array.getElem?_setIfInBounds]
    rw [if_neg (by omega)]

/-- 'string(buf[i:])'. -/
theorem dig_conv {b : Nat} {wr : World} {i : Nat} {D : List UInt8} {C : Array Value} (hlen : D.length = 24 - i) (hblk : wr.heap[b]? = some (.cells C 51 (0, 0))) (hcells : C.toList.drop i = bcells D) :
    (convert 22 9 (.slice (some ⟨b, i, none⟩) (24 - i) (24 - i))).run Ybad.prog wr = .ok (.string ⟨D.toArray⟩) wr := by
  have h := run_convert_bytes_arg (P := Ybad.prog) wr 22 5 Ybad.underlying22 Ybad.underlying5 b i (24 - i) (24 - i) (D.map fun x => (x.toNat : Int)) (by simpa using hlen) (fun k hk => by
    rw [cells_at hblk]
    have e1 : C[i + k]? = (C.toList.drop i)[k]? := by simp [List.getElem?_drop]
    rw [e1, hcells]
    have hkD : k < D.length := by omega
    simp [bcells, List.getElem?_map, List.getElem?_eq_getElem hkD, List.getD]) 9 Ybad.underlying9
  have e2 : strOfNums (D.map fun x => (x.toNat : Int)) = ⟨D.toArray⟩ := by
    unfold strOfNums
    rw [List.map_map]
    have e3 : D.map ((fun n : Int => UInt8.ofNat n.toNat) ∘ fun x : UInt8 => (x.toNat : Int)) = D := by
      conv => rhs; rw [← List.map_id D]
      apply List.map_congr_left
      intro x _
      simp
    rw [e3]
  rw [h, e2]

theorem Ybad.arr51 : Ybad.prog.underlying 51 = some (.array (Ybad.prog.arrayLen 51) (Ybad.prog.elem 51)) := by kernel_rfl
theorem Ybad.len51 : Ybad.prog.arrayLen 51 = 24 := by kernel_rfl
theorem Ybad.elem51 : Ybad.prog.elem 51 = 5 := by kernel_rfl

/-- 'buf[i:]'. -/
theorem dig_slice (b i : Nat) (hi : i < 24) (w : World) : (Instr.sliceAt 51 (.pointer (some ⟨b, 0, none⟩)) (some (.int .i64 i)) none none).run Ybad.prog w = .ok (.slice (some ⟨b, i, none⟩) (24 - i) (24 - i)) w := by
  rw [run_sliceAt_array_l (P := Ybad.prog) w 51 ⟨b, 0, none⟩ Ybad.arr51 .i64 (i : Int) (by omega) (by rw [Ybad.len51]; omega), Ybad.elem51, Ybad.sizeOf5, Ybad.len51]
  have hne : ¬ 24 = i := by omega
  by_cases h0 : i = 0
  · subst h0; simp [Result.andThen, slicedAt, Addr.add]
  · simp [Result.andThen, slicedAt, hne, Addr.add, h0]

theorem dig_step {b : Nat} {w0 : World} {u0 x i : Nat} {D : List UInt8} {C : Array Value} {wr : World} (h : Dig b w0 u0 x i D C wr) (hx : 0 < x) (hi : 1 ≤ i) (v : Int) (hv : v = ((48 + x % 10 : Nat) : Int)) :
    Dig b w0 u0 (x / 10) (i - 1) (UInt8.ofNat (48 + x % 10) :: D) (C.setIfInBounds (i - 1) (.int .u8 v)) (wr.setCell ⟨b, i - 1, none⟩ (.int .u8 v)) where
  le := by have := h.le; omega
  len := by have := h.len; have := h.le; simp; omega
  done := by
    intro h0
    rw [h.more hx]
    have hx10 : x < 10 := by omega
    rw [Lib.decDigits_one hx10, Nat.mod_eq_of_lt hx10]; rfl
  more := by
    intro h0
    have hx10 : ¬ x < 10 := by omega
    rw [h.more hx, Lib.decDigits, dif_neg hx10]; simp
  blk := heap_setCell_same wr b (i - 1) C 51 _ h.blk
  size := by simpa using h.size
  cells := by
    have hle := h.le
    have hsz := h.size
    have hlt : i - 1 < C.toList.length := by rw [Array.length_toList]; omega
    rw [digit_put C i (.int .u8 v) hi (by omega), h.cells]
    have hb : (UInt8.ofNat (48 + x % 10)).toNat = 48 + x % 10 := by simp; omega
    simp only [bcells, List.map_cons, hb]
    rw [hv]
  bel := h.bel.setCell (p := ⟨b, i - 1, none⟩) (Nat.le_refl _) _

set_option maxRecDepth 100000 in
set_option maxHeartbeats 1000000 in
theorem itoa_pos_any (v : Nat) (h0 : 0 < v) (h1 : v ≤ 2147483648) (w : World) :
    Calls Ybad.prog 6 #[.int .i64 v] w fun e w' => e = .returned (.string ⟨(Lib.decDigits v).toArray⟩) ∧ Below w.heap.size w w' := by
  have hv0 : ((v : Int) == 0) = false := by simp; omega
  have hvn : decide ((v : Int) < 0) = false := by simp
  have hlen : (Lib.decDigits v).length ≤ 21 := by
    have := Lib.itoa_length_le v (by omega) (by omega)
    rw [Lib.itoa, if_neg (by omega)] at this
    simpa using this
  have HL : Hid ((Lib.decDigits v).length ≤ 21) := hlen
  clear hlen
  go_enter Ybad.func6, Ybad.ntmps6
  go_wp2_with fail
  go_loopw [4, 6] (fun a c wr => ∃ x i D C, a = .int .u64 (x : Nat) ∧ c = .int .i64 (i : Nat) ∧ x ≤ v ∧ Dig w.heap.size w v x i D C wr) (fun a _ _ => (intOf a).toNat)
  case atStart =>
    exact ⟨v, 24, [], _, rfl, rfl, Nat.le_refl _, by omega, rfl, fun h => by omega, fun _ => by simp, heap_alloc_new w _, rfl, rfl, (Below.refl _ _).alloc (Nat.le_refl _) _⟩
  case round =>
    obtain ⟨x, i, D, C, rfl, rfl, hxv, hD⟩ := hrel
    by_cases hx : 0 < x
    · have hi5 : 1 ≤ i := by
        have := congrArg List.length (hD.more hx)
        have h2 := HL.out
        have h3 := hD.len
        simp at this
        omega
      have hi24 := hD.le
      have HD : Hid (Dig w.heap.size w v x i D C wr) := hD
      obtain ⟨u, hu⟩ : ∃ u, C[i - 1]? = some u := ⟨C[i - 1]'(by have := hD.size; omega), by simp⟩
      have cc : wr.cell? ⟨w.heap.size, i - 1, none⟩ = some u := (cells_at hD.blk _).trans hu
      have ff : wr.frozen? ⟨w.heap.size, i - 1, none⟩ = false := free_at hD.blk _
      have hx' : (0 : Int) < (x : Int) := by omega
      clear hD hu
      go_wp2_with fail
      go_roundw
      case rel => exact ⟨x / 10, i - 1, _, _, by simp, by rw [show ((i - 1 : Nat) : Int) = (i : Int) - 1 by omega], by omega, dig_step HD.out hx hi5 _ (by simp)⟩
      case measure => simp [intOf]; omega
    · have hx0 : x = 0 := by omega
      subst hx0
      have hlen := hD.len
      have hdd := hD.done rfl
      have hpos : 0 < D.length := by rw [hdd, Lib.decDigits_length]; exact Lib.nDigits_pos _
      have hi24 : i < 24 := by omega
      have hcv := dig_conv hD.len hD.blk hD.cells
      have hsl := dig_slice w.heap.size i hi24
      have hb := hD.bel
      have HDD : Hid (D = Lib.decDigits v) := hdd
      clear hD hlen hdd
      go_wp2_with fail
      go_ret
      exact ⟨by rw [← HDD.out]; rfl, hb⟩

set_option maxRecDepth 100000 in
set_option maxHeartbeats 1000000 in
theorem itoa_neg_any (v : Nat) (h0 : 0 < v) (h1 : v ≤ 2147483648) (w : World) :
    Calls Ybad.prog 6 #[.int .i64 (-(v : Int))] w fun e w' => e = .returned (.string ⟨((45 : UInt8) :: Lib.decDigits v).toArray⟩) ∧ Below w.heap.size w w' := by
  have hv0 : (-(v : Int) == 0) = false := by simp; omega
  have hvn : decide (-(v : Int) < 0) = true := by simp; omega
  have hlen : (Lib.decDigits v).length ≤ 21 := by
    have := Lib.itoa_length_le v (by omega) (by omega)
    rw [Lib.itoa, if_neg (by omega)] at this
    simpa using this
  have HL : Hid ((Lib.decDigits v).length ≤ 21) := hlen
  have hst : (-(-(v : Int) + 1) + 1) = (v : Int) := by omega
  clear hlen
  go_enter Ybad.func6, Ybad.ntmps6
  go_wp2_with fail
  go_loopw [4, 6] (fun a c wr => ∃ x i D C, a = .int .u64 (x : Nat) ∧ c = .int .i64 (i : Nat) ∧ x ≤ v ∧ Dig w.heap.size w v x i D C wr) (fun a _ _ => (intOf a).toNat)
  case atStart =>
    exact ⟨v, 24, [], _, rfl, rfl, Nat.le_refl _, by omega, rfl, fun h => by omega, fun _ => by simp, heap_alloc_new w _, rfl, rfl, (Below.refl _ _).alloc (Nat.le_refl _) _⟩
  case round =>
    obtain ⟨x, i, D, C, rfl, rfl, hxv, hD⟩ := hrel
    clear hst
    by_cases hx : 0 < x
    · have hi5 : 1 ≤ i := by
        have := congrArg List.length (hD.more hx)
        have h2 := HL.out
        have h3 := hD.len
        simp at this
        omega
      have hi24 := hD.le
      have HD : Hid (Dig w.heap.size w v x i D C wr) := hD
      obtain ⟨u, hu⟩ : ∃ u, C[i - 1]? = some u := ⟨C[i - 1]'(by have := hD.size; omega), by simp⟩
      have cc : wr.cell? ⟨w.heap.size, i - 1, none⟩ = some u := (cells_at hD.blk _).trans hu
      have ff : wr.frozen? ⟨w.heap.size, i - 1, none⟩ = false := free_at hD.blk _
      have hx' : (0 : Int) < (x : Int) := by omega
      clear hD hu
      go_wp2_with fail
      go_roundw
      case rel => exact ⟨x / 10, i - 1, _, _, by simp, by rw [show ((i - 1 : Nat) : Int) = (i : Int) - 1 by omega], by omega, dig_step HD.out hx hi5 _ (by simp)⟩
      case measure => simp [intOf]; omega
    · have hx0 : x = 0 := by omega
      subst hx0
      have hdd := hD.done rfl
      have hi2 : 1 ≤ i := by
        have h2 := HL.out
        have h3 := hD.len
        rw [hdd] at h3
        omega
      have hi24 : i ≤ 24 := hD.le
      obtain ⟨u, hu⟩ : ∃ u, C[i - 1]? = some u := ⟨C[i - 1]'(by have := hD.size; omega), by simp⟩
      have cc : wr.cell? ⟨w.heap.size, i - 1, none⟩ = some u := (cells_at hD.blk _).trans hu
      have ff : wr.frozen? ⟨w.heap.size, i - 1, none⟩ = false := free_at hD.blk _
      have hcv := dig_conv (b := w.heap.size) (wr := wr.setCell ⟨w.heap.size, i - 1, none⟩ (.int .u8 45)) (i := i - 1) (D := 45 :: D) (C := C.setIfInBounds (i - 1) (.int .u8 45)) (by have := hD.len; simp; omega)
        (heap_setCell_same wr w.heap.size (i - 1) C 51 _ hD.blk) (by rw [digit_put C i (.int .u8 45) hi2 (by have := hD.size; omega), hD.cells]; rfl)
      have hsl := dig_slice w.heap.size (i - 1) (by omega)
      have hcast : (((i - 1 : Nat) : Int)) = (i : Int) - 1 := by omega
      rw [hcast] at hsl
      have hb := hD.bel.setCell (p := ⟨w.heap.size, i - 1, none⟩) (Nat.le_refl _) (.int .u8 45)
      have HDD : Hid (D = Lib.decDigits v) := hdd
      clear hD hdd hu hcast
      go_wp2_with fail
      go_ret
      exact ⟨by rw [← HDD.out]; rfl, hb⟩

/-- zzs194067citoa: the library's numeral. -/
theorem zz_any (v : Int) (h0 : -2147483648 ≤ v) (h1 : v ≤ 2147483648) (w : World) :
    Calls Ybad.prog 6 #[.int .i64 v] w fun e w' => e = .returned (.string ⟨(Lib.itoa v).toArray⟩) ∧ Below w.heap.size w w' := by
  rcases Int.lt_trichotomy v 0 with hn | hz | hp
  · obtain ⟨n, rfl⟩ : ∃ n : Nat, v = -(n : Int) := ⟨v.natAbs, by omega⟩
    have := itoa_neg_any n (by omega) (by omega) w
    have e : Lib.itoa (-(n : Int)) = 45 :: Lib.decDigits n := by rw [Lib.itoa, if_pos hn]; simp
    rw [e]; exact this
  · subst hz
    go_enter Ybad.func6, Ybad.ntmps6
    go_wp2_with fail
    go_ret
    exact ⟨by rw [show Lib.itoa 0 = [48] from by rw [Lib.itoa, if_neg (by decide)]; exact Lib.decDigits_one (by decide)]; rfl, Below.refl _ _⟩
  · obtain ⟨n, rfl⟩ : ∃ n : Nat, v = (n : Int) := ⟨v.natAbs, by omega⟩
    have := itoa_pos_any n (by omega) (by omega) w
    have e : Lib.itoa (n : Int) = Lib.decDigits n := by rw [Lib.itoa, if_neg (by omega)]; simp
    rw [e]; exact this
end Go.Proofs.YbulkexocqDoor
