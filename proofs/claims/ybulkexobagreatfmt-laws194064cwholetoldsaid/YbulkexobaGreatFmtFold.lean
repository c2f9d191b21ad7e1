/-
  A ROW OF BYTES TURNED BYTE BY BYTE: foldName (lower case), zzs194064ck (upper case).
-/
import Derived.Test.YbulkexobaGreatFmtModes
import Derived.Test.YbulkexobaGreatFmtQuoted
import Derived.Lib.ConvBytes
import Derived.Laws.RangeString
namespace Go.Proofs.YbulkexobaGreatFmt
open Go.RowKit

theorem set_same {w : World} {b i : Nat} {cs : Array Value} {T : TypeId} {fr : Nat × Nat} (hb : w.heap[b]? = some (.cells cs T fr)) (v : Value) :
    (w.setCell ⟨b, i, none⟩ v).heap[b]? = some (.cells (cs.setIfInBounds i v) T fr) := by
  simp [World.setCell, Array.getElem?_modify, hb]

/-- The row under way: its first k bytes are turned by f. -/
structure BW (w : World) (s : ByteArray) (f : UInt8 → UInt8) (k : Nat) (wr : World) : Prop where
  blk : ∃ cs m, wr.heap[w.heap.size]? = some (.cells cs 5 (m, m + 1)) ∧ m = cs.size ∧ s.size ≤ m ∧ ∀ j, j < s.size → cs[j]? = some (.int .u8 ((if j < k then f (s.data.toList.getD j 0) else s.data.toList.getD j 0).toNat : Int))
  g : w.grownBy wr none

theorem BW.start (w : World) (s : ByteArray) (f : UInt8 → UInt8) : BW w s f 0 (Lib.bytesWorld w 5 s) where
  blk := by
    refine ⟨_, _, Lib.bytesWorld_at_new w 5 s, rfl, ?_, ?_⟩
    · simp [Lib.bytesCells]
    · intro j hj
      have := Lib.bytesWorld_cell w 5 s j hj
      rw [cells_at (Lib.bytesWorld_at_new w 5 s)] at this
      simpa using this
  g := by
    refine ⟨rfl, rfl, rfl, ?_, fun k hk _ => Lib.bytesWorld_at_old w 5 s k hk⟩
    rw [Lib.bytesWorld_size]
    omega

section
variable {w wr : World} {s : ByteArray} {f : UInt8 → UInt8} {k : Nat}

theorem BW.cell (h : BW w s f k wr) (hk : k < s.size) : wr.cell? ⟨w.heap.size, k, none⟩ = some (.int .u8 ((s.data.toList.getD k 0).toNat : Int)) ∧ wr.frozen? ⟨w.heap.size, k, none⟩ = false := by
  obtain ⟨cs, m, hb, hm, hs, hc⟩ := h.blk
  have := hc k hk
  simp at this
  refine ⟨?_, ?_⟩
  · rw [cells_at hb]; simpa using this
  · simp [World.frozen?, hb]
    omega

theorem BW.keep (h : BW w s f k wr) (hf : f (s.data.toList.getD k 0) = s.data.toList.getD k 0) : BW w s f (k + 1) wr where
  blk := by
    obtain ⟨cs, m, hb, hm, hs, hc⟩ := h.blk
    refine ⟨cs, m, hb, hm, hs, fun j hj => ?_⟩
    rw [hc j hj]
    by_cases h1 : j < k
    · rw [if_pos h1, if_pos (by omega)]
    · rw [if_neg h1]
      by_cases h2 : j = k
      · subst h2
        rw [if_pos (by omega), hf]
      · rw [if_neg (by omega)]
  g := h.g

theorem BW.put (h : BW w s f k wr) (hk : k < s.size) : BW w s f (k + 1) (wr.setCell ⟨w.heap.size, k, none⟩ (.int .u8 ((f (s.data.toList.getD k 0)).toNat : Int))) where
  blk := by
    obtain ⟨cs, m, hb, hm, hs, hc⟩ := h.blk
    refine ⟨_, m, set_same hb _, by simpa using hm, hs, fun j hj => ?_⟩
    rw [Array.getElem?_setIfInBounds]
    by_cases h2 : k = j
    · subst h2
      rw [if_pos rfl, if_pos (by omega), if_pos (by omega)]
    · rw [if_neg h2, hc j hj]
      by_cases h1 : j < k
      · rw [if_pos h1, if_pos (by omega)]
      · rw [if_neg h1, if_neg (by omega)]
  g := h.g.set _ _ (.inr (Nat.le_refl _))

end

def bcells (l : List UInt8) : List Value := l.map fun b => Value.int .u8 (b.toNat : Int)
theorem bcells_length (l : List UInt8) : (bcells l).length = l.length := by simp [bcells]

/-- 'string(b)' of bytes that lie in memory. -/
theorem conv_bytes (w : World) (ao : Option Addr) (n c : Nat) (l : List UInt8) (hl : l.length = n) (h : 0 < n → ∃ ad, ao = some ad ∧ ∀ (j : Nat) (u : Value), (bcells l)[j]? = some u → w.cell? (ad.add j) = some u) :
    (convert 23 9 (.slice ao n c)).run Ybaz.prog w = .ok (.string ⟨l.toArray⟩) w := by
  have e2 : strOfNums (l.map fun x => (x.toNat : Int)) = ⟨l.toArray⟩ := by
    unfold strOfNums
    rw [List.map_map]
    have e3 : l.map ((fun n : Int => UInt8.ofNat n.toNat) ∘ fun x : UInt8 => (x.toNat : Int)) = l := by
      conv => rhs; rw [← List.map_id l]
      apply List.map_congr_left
      intro x _
      simp
    rw [e3]
  rw [run_convert_bytes_string w 23 9 5 ao n c Ybaz.underlying23 Ybaz.underlying5 Ybaz.underlying9]
  by_cases hn : n = 0
  · subst hn
    have hl0 : l = [] := List.eq_nil_of_length_eq_zero hl
    subst hl0
    cases ao with
    | none => simp [Conv.bytesToString]; rfl
    | some ad =>
      have := run_bytesToString (P := Ybaz.prog) w ad 0 c [] (by simp [loadCells, loadCellsFrom])
      rw [this]; rfl
  · obtain ⟨ad, rfl, hc⟩ := h (by omega)
    have hld := run_loadCells_list (P := Ybaz.prog) w ad (bcells l) hc
    rw [bcells_length, hl] at hld
    have := run_bytesToString (P := Ybaz.prog) w ad n c (l.map fun x => (x.toNat : Int)) (by rw [hld]; simp [bcells, Function.comp_def])
    rw [this, foldl_push_bytes]
    have : (ByteArray.empty.data ++ ((l.map fun x => (x.toNat : Int)).map fun n : Int => UInt8.ofNat n.toNat).toArray) = (strOfNums (l.map fun x => (x.toNat : Int))).data := by
      simp [strOfNums, ByteArray.empty, ByteArray.emptyWithCapacity]
      rfl
    rw [this, e2]

theorem BW.conv {w wr : World} {s : ByteArray} {f : UInt8 → UInt8} (h : BW w s f s.size wr) (c : Nat) : (convert 23 9 (.slice (some ⟨w.heap.size, 0, none⟩) s.size c)).run Ybaz.prog wr = .ok (.string ⟨s.data.map f⟩) wr := by
  have hsl : s.data.toList.length = s.size := by rw [Array.length_toList]; rfl
  have := conv_bytes wr (some ⟨w.heap.size, 0, none⟩) s.size c (s.data.toList.map f) (by simp [hsl]) (fun _ => ⟨_, rfl, fun j u hu => by
    obtain ⟨cs, m, hb, hm, hs, hc⟩ := h.blk
    have hj : j < s.size := by
      have := (List.getElem?_eq_some_iff.1 hu).1
      rw [bcells_length, List.length_map, hsl] at this
      exact this
    rw [Addr.add_lit, cells_at hb, show 0 + j = j by omega, hc j hj, if_pos hj, ← hu]
    simp [bcells, List.getD, hsl, hj]⟩)
  rw [this, show (s.data.toList.map f).toArray = s.data.map f from by apply Array.ext'; rw [Array.toList_map]]

/-- zzs194064ck, in lower case -/
theorem ck_lower (s : ByteArray) (w : World) : Calls Ybaz.prog 5 #[.string s, .bool false] w fun e w' => e = .returned (.string s) ∧ w = w' := by
  go_enter Ybaz.func5, Ybaz.ntmps5
  go_wp2_with fail
  go_ret
  exact ⟨rfl, rfl⟩

theorem upB_toNat (b : UInt8) (h1 : (97 : Int) ≤ (b.toNat : Int)) (h2 : (b.toNat : Int) ≤ 122) : ((upB b).toNat : Int) = (b.toNat : Int) - 32 := by
  have h1' : (97 : UInt8) ≤ b := UInt8.le_iff_toNat_le.2 (by simp; omega)
  have h2' : b ≤ (122 : UInt8) := UInt8.le_iff_toNat_le.2 (by simp; omega)
  unfold upB
  rw [if_pos ⟨h1', h2'⟩, UInt8.toNat_sub_of_le _ _ (UInt8.le_iff_toNat_le.2 (by simp; omega))]
  simp
  omega
theorem upB_id (b : UInt8) (h : ¬ ((97 : Int) ≤ (b.toNat : Int) ∧ (b.toNat : Int) ≤ 122)) : upB b = b := by
  unfold upB
  rw [if_neg]
  rintro ⟨h1, h2⟩
  have h1' := UInt8.le_iff_toNat_le.1 h1
  have h2' := UInt8.le_iff_toNat_le.1 h2
  simp at h1' h2'
  exact h ⟨by omega, by omega⟩

set_option maxHeartbeats 1000000 in
theorem ck_upper (s : ByteArray) (w : World) (hsz : s.size ≤ 1000000) : Calls Ybaz.prog 5 #[.string s, .bool true] w fun e w' => e = .returned (.string ⟨s.data.map upB⟩) ∧ w.grownBy w' none := by
  have hcv := Lib.run_convert_string_bytes (P := Ybaz.prog) w 9 23 5 s (u := .string) Ybaz.underlying9 Ybaz.underlying23 Ybaz.underlying5
  have hst := BW.start w s upB
  obtain ⟨W, hW⟩ : ∃ W, W = Lib.bytesWorld w 5 s := ⟨_, rfl⟩
  obtain ⟨cp, hcp⟩ : ∃ c, c = grownCap w s.size 0 5 := ⟨_, rfl⟩
  rw [← hW] at hcv hst
  rw [← hcp] at hcv
  have HST : Hid (BW w s upB 0 W) := hst
  clear hW hcp hst
  go_enter Ybaz.func5, Ybaz.ntmps5
  go_wp2_with fail
  clear hcv
  go_loopw [6] (fun v wr => ∃ k : Nat, v = .int .i64 k ∧ k ≤ s.size ∧ BW w s upB k wr) (fun v _ => s.size - (intOf v).toNat)
  case atStart => exact ⟨0, rfl, Nat.zero_le _, HST.out⟩
  case round =>
    obtain ⟨k, rfl, hk, hB⟩ := hrel
    by_cases hlt : k < s.size
    · have hlt' : (k : Int) < (s.size : Int) := by omega
      obtain ⟨b, hb⟩ : ∃ b, b = s.data.toList.getD k 0 := ⟨_, rfl⟩
      have hc := (hB.cell hlt).1
      have hf := (hB.cell hlt).2
      rw [← hb] at hc
      have HB : Hid (BW w s upB k wr) := hB
      have HE : Hid (b = s.data.toList.getD k 0) := hb
      clear hB hb
      by_cases h1 : (97 : Int) ≤ (b.toNat : Int)
      · by_cases h2 : (b.toNat : Int) ≤ 122
        · have hwr : IntKind.u8.wrap ((b.toNat : Int) - 32) = (b.toNat : Int) - 32 := by rw [IntKind.wrap_u8]; omega
          go_wp2_with fail
          go_roundw
          case measure => simp [intOf]; omega
          case rel =>
            refine ⟨k + 1, rfl, by omega, ?_⟩
            have := HB.out.put hlt
            rw [← HE.out, upB_toNat b h1 h2] at this
            exact this
        · go_wp2_with fail
          go_roundw
          case measure => simp [intOf]; omega
          case rel => exact ⟨k + 1, rfl, by omega, HB.out.keep (by rw [← HE.out]; exact upB_id b (fun h => by omega))⟩
      · go_wp2_with fail
        go_roundw
        case measure => simp [intOf]; omega
        case rel => exact ⟨k + 1, rfl, by omega, HB.out.keep (by rw [← HE.out]; exact upB_id b (fun h => by omega))⟩
    · obtain rfl : k = s.size := by omega
      have hc2 := hB.conv cp
      have HB : Hid (BW w s upB s.size wr) := hB
      clear hB
      go_wp2_with fail
      go_ret
      exact ⟨rfl, HB.out.g⟩

theorem ck_any (s : ByteArray) (up : Bool) (w : World) (hsz : s.size ≤ 1000000) : Calls Ybaz.prog 5 #[.string s, .bool up] w fun e w' => e = .returned (.string (ckB s up)) ∧ w.grownBy w' none := by
  cases up
  · exact (ck_lower s w).mono fun e w' ⟨he, hw⟩ => ⟨he, by rw [hw]; exact grown_refl _ _⟩
  · exact ck_upper s w hsz

end Go.Proofs.YbulkexobaGreatFmt
