/-
  demangle.LawS194067CWhole, no default argument: the walk.
-/
import Derived.Test.YbulkexocqDoorFin2
namespace Go.Proofs.YbulkexocqDoor
open Go.RowKit

set_option maxRecDepth 100000 in
set_option maxHeartbeats 8000000 in
theorem walk_plain_true (nm : ByteArray) (a1 : Option Addr) (len cap : Nat) (pb : List UInt8) (last num quals : Int) (w : World) (hsm : nm.size + len ≤ 1048576) (w5 : (Lit.int .u8 quals).wf = true) (hnm : (Lit.int .i32 num).wf = true)
    (hpl : pb.length = len) (hpc : 0 < len → ∃ ad, a1 = some ad ∧ ad.block < w.heap.size ∧ ∀ (j : Nat) (u : Value), (bcells pb)[j]? = some u → w.cell? (ad.add j) = some u)
    (hg : 3 < w.heap.size) (T : Lib.TabIs Ybad.prog w tabName .u64 Lib.pow10Tab) :
    Calls Ybad.prog 3 #[.string nm, .slice a1 len cap, .int .u8 last, .bool false, .int .i32 num, .int .u8 quals, .bool true] w fun e w' => e = .returned (.bool true) ∧ Below w.heap.size w w' := by
  obtain ⟨i0, hi, hz0, hz1, hz2⟩ := info_parts Ybad.info25
  obtain ⟨i1, hi1, hy0, hy1, hy2⟩ := info_parts Ybad.info5
  have d0 : decide ((1048576 : Int) < (nm.size : Int) + (len : Int)) = false := by simp; omega
  obtain ⟨q, hq', hq7⟩ := quals_in quals w5
  have HS : IfNot true q := fun h => by cases h
  have HP : Hid (pb.length = len ∧ (0 < len → ∃ ad, a1 = some ad ∧ ad.block < w.heap.size ∧ ∀ (j : Nat) (u : Value), (bcells pb)[j]? = some u → w.cell? (ad.add j) = some u)) := ⟨hpl, hpc⟩
  have HT : Hid (Lib.TabIs Ybad.prog w tabName .u64 Lib.pow10Tab) := T
  have HW : Hid ((Lit.int .i32 num).wf = true) := hnm
  have HG : Hid (3 < w.heap.size) := hg
  clear w5 hpl hpc T hnm hg
  go_enter Ybad.func3, Ybad.ntmps3
  go_wp2_with fail
  simp only [hq']
  clear hq'
  go_loopw [16, 18] (fun v i wr => ∃ k g cap : Nat, v = .slice (some ⟨g, 0, none⟩) (k + 1) cap ∧ i = .int .i64 k ∧ k ≤ q ∧ wr.ownsRow w.heap.size 25 5 (.slice (some ⟨g, 0, none⟩) (k + 1) cap) (k + 1) (flat (nodesQ (1 + (nm.size : Int)) k)) ∧ Below w.heap.size w wr)
    (fun _ i _ => q - (intOf i).toNat)
  case atStart =>
    refine ⟨0, w.heap.size, 1, rfl, rfl, Nat.zero_le _, ?_, (Below.refl _ _).alloc (Nat.le_refl _) _⟩
    exact ⟨by simp [flat, nodesQ, Nd.cells], .inr ⟨_, _, _, rfl, Nat.le_refl _, heap_alloc_new w _, Nat.le_refl _, by decide, rfl, by simp [flat, nodesQ, Nd.cells]⟩⟩
  case round =>
    obtain ⟨k, g, capN, rfl, rfl, hk, hown, hb⟩ := hrel
    have HO : Hid (wr.ownsRow w.heap.size 25 5 (.slice (some ⟨g, 0, none⟩) (k + 1) capN) (k + 1) (flat (nodesQ (1 + (nm.size : Int)) k))) := hown
    clear hown
    by_cases hlt : k < q
    · have hsz := hb.size
      go_wp2_with (at_builtin; refine wpList_append_own _ rfl (.tmp 47) (.tmp 55) 26 rfl w.heap.size 25 i0 zeroNd 5 16 Ybad.underlying26 hi hz0 hz1 hz2 rfl (by decide) _ _ _ rfl (HO.out.alloc _) ⟨wr.heap.size, 0, none⟩ 1 1 [.int .u8 22, .int .u8 k, .int .i32 k, .int .i32 0, .int .i32 0] rfl rfl (by exact news_new _ _ _) (by simp [Value.oneCell']) (by unfold maxLen; omega) (by omega) (by simp; omega) ?_)
      intro v' w2 hown' hgrow hnil
      have hne' : v' ≠ .slice none 0 0 := fun e => by simp [e] at hnil
      obtain ⟨g2, cap2, hv⟩ := own_shape5 hown' hne'
      rw [hv] at hown' ⊢
      have R : Hid (w2.ownsRow w.heap.size 25 5 (.slice (some ⟨g2, 0, none⟩) (k + 1 + 1) cap2) (k + 1 + 1) (flat (nodesQ (1 + (nm.size : Int)) (k + 1)))) := by
        rw [nodesQ_succ, flat_append, flat_one]; exact hown'
      have hb2 : Below w.heap.size w w2 := (hb.alloc hb.size _).grown hgrow (by simp; omega) (by intro j hj; cases hj; exact (HO.out.lt _ rfl).1)
      clear hown' hgrow hnil hne' hv HO hb hsz
      go_wp2_with fail
      go_roundw
      case rel => first | exact ⟨k + 1, g2, cap2, rfl, by go_num, by omega, R.out, hb2⟩ | ((repeat apply Exists.intro); exact ⟨⟨k + 1, g2, cap2, rfl, by go_num, by omega, R.out, hb2⟩, rfl⟩)
      case measure => simp [intOf]; omega
    · have hkq : k = q := by omega
      subst hkq
      go_wp2_with fail
      refine (clone_any _ _ _ _ _ _ HO.out (flat_oneCell _) (by omega)).mono ?_
      rintro e w3 ⟨v3, rfl, hown3, hnil3, hgrow3⟩
      obtain ⟨gS, capS, rfl⟩ := own_shape5 hown3 hnil3
      have A3 := after_clone HO.out hown3 hgrow3 hb
      clear hown3 hnil3 hgrow3 HO hb
      go_wp2_with (at_make; refine wpList_make_full _ rfl (.tmp 74) (.tmp 74) 22 rfl w.heap.size 5 i1 (.int .u8 0) 1 Ybad.underlying22 hi1 hy0 hy1 .i64 .i64 _ _ len rfl rfl rfl rfl (by rw [hy2]; omega) (by unfold maxLen; omega) A3.2.2.size ?_)
      intro wa howna hgrowa
      obtain ⟨cur, hcur, hcurl⟩ := made_row howna
      have hba : Below w3.heap.size w3 wa := (Below.refl _ _).grown hgrowa (Nat.le_refl _) (by simp)
      have HC : Hid (wa.heap[w3.heap.size]? = some (.cells cur.toArray 5 (0, 0)) ∧ cur.length = len) := ⟨hcur, hcurl⟩
      have HA3 := hide A3
      clear howna hgrowa hcur hcurl A3
      go_wp2_with (refine wpList_copy_splice rfl (.tmp 76) (.tmp 77) 22 22 rfl 5 Ybad.underlying22 (by kernel_rfl) _ _ _ _ _ _ rfl rfl w3.heap.size 0 cur 5 HC.out.1 (bcells pb) (by rw [bcells_length, HP.out.1]; simp) (fun hpos => ⟨rfl, copy_src HP.out (unhide HA3).2.2 hba hpos⟩) (by rw [bcells_length, HC.out.2, HP.out.1]; omega) (bcells_one pb) w3.heap.size w3 hba (Nat.le_refl _) ?_)
      intro w4 HG4 hb4
      have A4 := hide (after_copy (unhide HA3) HG4.out HC.out.2 HP.out.1 (by unfold maxLen; omega) hb4)
      clear HG4 hb4 HA3 hba HC
      go_wp2_with fail
      refine (ent_plain nm g k capN gS capS w3.heap.size len pb last _ HS hq7 hsm (unhide A4) (a1 := a1) (cap := cap) HP.out).mono ?_
      rintro e w6 ⟨rfl, F⟩
      obtain ⟨c0, ⟨gO, n, cO, c1, hcv⟩, c2, c3, c4, c5, c6, c8, ⟨g', c', c12⟩, p3, heq, hpre, hbel⟩ := F
      have hps : (⟨pb.toArray⟩ : ByteArray).size = len := by rw [← HP.out.1]; simp [ByteArray.size]
      have HE := hide heq
      have HB := hide hbel
      clear heq hbel A4 HS
      by_cases hz : nm.size = 0
      · have hz' : (nm.size : Int) = 0 := by omega
        have hl : lastB last nm.data.toList = last := lastB_zero last nm hz
        rw [hl] at c2
        clear hl
        go_wp2_with fail
        refine (unhide HE).mono ?_
        rintro e w7 ⟨rfl, m, rfl⟩
        go_wp2_with fail
        go_ret
        exact ⟨rfl, below_drewN (unhide HB) m⟩
      · have hz' : (0 : Int) < (nm.size : Int) := by omega
        have hl := lastB_more last nm (by omega)
        rw [hl] at c2
        clear hl
        go_wp2_with fail
        refine (unhide HE).mono ?_
        rintro e w7 ⟨rfl, m, rfl⟩
        go_wp2_with fail
        go_ret
        exact ⟨rfl, below_drewN (unhide HB) m⟩
end Go.Proofs.YbulkexocqDoor
