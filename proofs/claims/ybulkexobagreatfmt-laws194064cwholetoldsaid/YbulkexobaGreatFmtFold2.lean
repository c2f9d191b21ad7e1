/-
  foldName at a keyword, in lower or in upper case.
-/
import Derived.Test.YbulkexobaGreatFmtFold
import Derived.Shelf.GgClosure.StringsIndexFunc
namespace Go.Proofs.YbulkexobaGreatFmt
open Go.RowKit

def upR (x : Nat) : Bool := decide (65 ≤ x) && decide (x ≤ 90)

set_option linter.unusedSimpArgs false in
theorem upR_at (w : World) : PredAt Ybaz.prog 56 #[] encR upR w := by
  intro W x _
  unfold FnGives
  have : Calls Ybaz.prog 56 #[.int .i32 (x : Int)] W fun e w' => e = .returned (.bool (upR x)) ∧ ∃ q, w' = W.drewN q := by
    unfold upR
    by_cases h1 : (65 : Int) ≤ (x : Int)
    all_goals (
      go_enter Ybaz.func56, Ybaz.ntmps56
      go_wp2_with fail
      go_ret
      refine ⟨congrArg (fun b => Ending.returned (Value.bool b)) ?_, 0, rfl⟩
      first
        | rfl
        | (rw [Bool.eq_iff_iff]; simp; done)
        | (rw [Bool.eq_iff_iff]; simp; omega))
  exact this

theorem enter56 : ∀ (args : Array Value) (w : World), (callFunc 56 args).run Ybaz.prog w = .ok (.enter 56 args) w := enters_of Ybaz.func56 (by kernel_rfl) rfl

/-- Lower-case letters alone. -/
def Lows (s : ByteArray) : Prop := ∀ b ∈ s.data.toList, 97 ≤ b.toNat ∧ b.toNat ≤ 122

theorem idx_low (s : ByteArray) (h : Lows s) : ∀ f pos, Lib.idxFuncFrom upR true s f pos = -1
  | 0, _ => rfl
  | f + 1, pos => by
    unfold Lib.idxFuncFrom
    split
    · rename_i hp
      have hm : s[pos] ∈ s.data.toList := by
        obtain ⟨⟨l⟩⟩ := s
        exact List.getElem_mem (l := l) hp
      have hb := h _ hm
      rw [decode_ascii s pos hp (by omega)]
      have hu : ¬ (upR (s[pos].toNat, 1).1 = true) := by
        unfold upR
        simp only [Bool.and_eq_true, decide_eq_true_eq]
        omega
      rw [if_neg hu]
      exact idx_low s h f _
    · rfl

/-- foldName, nothing to fold -/
theorem fold_low (s : ByteArray) (w : World) (h : Lows s) : Calls Ybaz.prog 27 #[.string s] w fun e w' => e = .returned (.string s) ∧ w.grownBy w' none := by
  have hcf := Go.Proofs.Ybaz.strings_ContainsFunc 56 #[] enter56 upR s w (upR_at w)
  rw [show Lib.idxFunc upR true s = -1 from idx_low s h _ _] at hcf
  go_enter Ybaz.func27, Ybaz.ntmps27
  go_wp2_with (go_at_call 55; refine hcf.mono ?_; rintro e w1 ⟨rfl, hb1⟩)
  go_ret
  exact ⟨rfl, grown_below hb1 (Nat.le_refl _)⟩

def loB (b : UInt8) : UInt8 := if 65 ≤ b ∧ b ≤ 90 then b + 32 else b
theorem loB_toNat (b : UInt8) (h1 : (65 : Int) ≤ (b.toNat : Int)) (h2 : (b.toNat : Int) ≤ 90) : ((loB b).toNat : Int) = (b.toNat : Int) + 32 := by
  have h1' : (65 : UInt8) ≤ b := UInt8.le_iff_toNat_le.2 (by simp; omega)
  have h2' : b ≤ (90 : UInt8) := UInt8.le_iff_toNat_le.2 (by simp; omega)
  unfold loB
  rw [if_pos ⟨h1', h2'⟩, UInt8.toNat_add]
  simp
  omega
theorem loB_id (b : UInt8) (h : ¬ ((65 : Int) ≤ (b.toNat : Int) ∧ (b.toNat : Int) ≤ 90)) : loB b = b := by
  unfold loB
  rw [if_neg]
  rintro ⟨h1, h2⟩
  have h1' := UInt8.le_iff_toNat_le.1 h1
  have h2' := UInt8.le_iff_toNat_le.1 h2
  simp at h1' h2'
  exact h ⟨by omega, by omega⟩
theorem lo_up (b : UInt8) (h : 97 ≤ b.toNat ∧ b.toNat ≤ 122) : loB (upB b) = b := by
  have hu := upB_toNat b (by omega) (by omega)
  have hl := loB_toNat (upB b) (by omega) (by omega)
  exact UInt8.toNat_inj.1 (by omega)

set_option maxHeartbeats 1000000 in
/-- foldName of whatever holds an upper-case letter ahead -/
theorem fold_run (s : ByteArray) (w : World) (hsz : s.size ≤ 1000000) (h0 : 0 < s.size) (hup : upR (s[0].toNat) = true) :
    Calls Ybaz.prog 27 #[.string s] w fun e w' => e = .returned (.string ⟨s.data.map loB⟩) ∧ w.grownBy w' none := by
  have hcf := Go.Proofs.Ybaz.strings_ContainsFunc 56 #[] enter56 upR s w (upR_at w)
  have hidx : Lib.idxFunc upR true s = 0 := by
    unfold Lib.idxFunc
    obtain ⟨n, hn⟩ : ∃ n, s.size = n + 1 := ⟨s.size - 1, by omega⟩
    rw [hn]
    unfold Lib.idxFuncFrom
    rw [if_pos h0]
    have hlt : s[0].toNat < 128 := by
      unfold upR at hup
      simp only [Bool.and_eq_true, decide_eq_true_eq] at hup
      omega
    rw [decode_ascii s 0 h0 hlt, if_pos hup]
    rfl
  rw [hidx] at hcf
  have hcv := fun w1 => Lib.run_convert_string_bytes (P := Ybaz.prog) w1 9 23 5 s (u := .string) Ybaz.underlying9 Ybaz.underlying23 Ybaz.underlying5
  go_enter Ybaz.func27, Ybaz.ntmps27
  go_wp2_with (go_at_call 55; refine hcf.mono ?_; rintro e w1 ⟨rfl, hb1⟩)
  have hst := BW.start w1 s loB
  obtain ⟨W, hW⟩ : ∃ W, W = Lib.bytesWorld w1 5 s := ⟨_, rfl⟩
  obtain ⟨cp, hcp⟩ : ∃ c, c = grownCap w1 s.size 0 5 := ⟨_, rfl⟩
  rw [← hW] at hst ⊢
  rw [← hcp]
  have HST : Hid (BW w1 s loB 0 W) := hst
  have HB1 : Hid (Below w.heap.size w w1) := hb1
  clear hW hcp hst hcv hcf hidx hup hb1
  go_loopw [14] (fun v wr => ∃ k : Nat, v = .int .i64 k ∧ k ≤ s.size ∧ BW w1 s loB k wr) (fun v _ => s.size - (intOf v).toNat)
  case atStart => exact ⟨0, rfl, Nat.zero_le _, HST.out⟩
  case round =>
    obtain ⟨k, rfl, hk, hB⟩ := hrel
    by_cases hlt : k < s.size
    · have hlt' : (k : Int) < (s.size : Int) := by omega
      obtain ⟨b, hb⟩ : ∃ b, b = s.data.toList.getD k 0 := ⟨_, rfl⟩
      have hc := (hB.cell hlt).1
      have hf := (hB.cell hlt).2
      rw [← hb] at hc
      have HB : Hid (BW w1 s loB k wr) := hB
      have HE : Hid (b = s.data.toList.getD k 0) := hb
      clear hB hb
      by_cases h1 : (65 : Int) ≤ (b.toNat : Int)
      · by_cases h2 : (b.toNat : Int) ≤ 90
        · have hwr : IntKind.u8.wrap ((b.toNat : Int) + 32) = (b.toNat : Int) + 32 := by rw [IntKind.wrap_u8]; omega
          go_wp2_with fail
          go_roundw
          case measure => simp [intOf]; omega
          case rel =>
            refine ⟨k + 1, rfl, by omega, ?_⟩
            have := HB.out.put hlt
            rw [← HE.out, loB_toNat b h1 h2] at this
            exact this
        · go_wp2_with fail
          go_roundw
          case measure => simp [intOf]; omega
          case rel => exact ⟨k + 1, rfl, by omega, HB.out.keep (by rw [← HE.out]; exact loB_id b (fun h => by omega))⟩
      · go_wp2_with fail
        go_roundw
        case measure => simp [intOf]; omega
        case rel => exact ⟨k + 1, rfl, by omega, HB.out.keep (by rw [← HE.out]; exact loB_id b (fun h => by omega))⟩
    · obtain rfl : k = s.size := by omega
      have hc2 := hB.conv cp
      have HB : Hid (BW w1 s loB s.size wr) := hB
      clear hB
      go_wp2_with fail
      go_ret
      exact ⟨rfl, grown_trans (grown_below HB1.out (Nat.le_refl _)) HB.out.g⟩

/-- foldName of a keyword, as it was written -/
theorem fold_any (s : ByteArray) (up : Bool) (w : World) (hl : Lows s) (h0 : 0 < s.size) (hsz : s.size ≤ 1000000) : Calls Ybaz.prog 27 #[.string (ckB s up)] w fun e w' => e = .returned (.string s) ∧ w.grownBy w' none := by
  cases up
  · exact fold_low s w hl
  · have hsz' : (⟨s.data.map upB⟩ : ByteArray).size = s.size := by show (s.data.map upB).size = s.data.size; simp
    have hlo : (⟨(⟨s.data.map upB⟩ : ByteArray).data.map loB⟩ : ByteArray) = s := by
      obtain ⟨⟨l⟩⟩ := s
      have hl' : ∀ b ∈ l, 97 ≤ b.toNat ∧ b.toNat ≤ 122 := hl
      show (⟨((List.toArray l).map upB).map loB⟩ : ByteArray) = ⟨l.toArray⟩
      have : ((List.toArray l).map upB).map loB = l.toArray := by
        apply Array.ext'
        simp only [Array.toList_map, List.map_map]
        conv => rhs; rw [← List.map_id l]
        apply List.map_congr_left
        intro x hx
        exact lo_up x (hl' x hx)
      rw [this]
    have hr := fold_run ⟨s.data.map upB⟩ w (by rw [hsz']; exact hsz) (by rw [hsz']; exact h0) (by
      obtain ⟨⟨l⟩⟩ := s
      have h0' : 0 < l.length := h0
      have hb := hl l[0] (List.getElem_mem h0')
      have hu := upB_toNat l[0] (by omega) (by omega)
      show upR ((((List.toArray l).map upB)[0]'(by simpa using h0')).toNat) = true
      unfold upR
      simp only [Array.getElem_map, List.getElem_toArray, Bool.and_eq_true, decide_eq_true_eq]
      omega)
    rw [hlo] at hr
    exact hr

end Go.Proofs.YbulkexobaGreatFmt
