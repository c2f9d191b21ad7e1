/-
  THE LAW, start transaction.
-/
import Derived.Test.YbulkexobaGreatFmtLawIn
import Derived.Deep.CutBlock
namespace Go.Proofs.YbulkexobaGreatFmt
open Go.RowKit Go.Extern.Stop Go.Stop Go.Extern
set_option linter.unusedSimpArgs false
set_option linter.unusedVariables false

set_option maxRecDepth 100000 in
set_option maxHeartbeats 40000000 in
theorem law_9t (F : Interp) (w : World) (sel fl : Int) (name : ByteArray) (ao : Option Addr) (nb no nn nc : Nat) (ns : Nat → ByteArray) (bo : Option Addr) (mb mo mn mc : Nat) (xs : Nat → Int) (num : Nat) (up alt2 semi par : Bool) (wi : Nat)
    (H : LawIn w sel fl name ao nb no nn ns bo mb mo mn xs num up true alt2 semi par wi) (hF : F.answers w.tape) (hk : sel % 12 = 9) :
    Calls Ybaz.prog 3 #[.int .u8 sel, .int .u8 fl, .string name, .slice ao nn nc, .slice bo mn mc, .int .u64 num] w fun e w' => e = .returned (.bool true) ∧ w.grownBy w' none := by
  obtain ⟨i0, hi', hz0, hz1, hz2⟩ := info_parts Ybaz.info5
  have h1 : ¬ ((1048576 : Int) < name.size) := by have := H.hname; omega
  have h2 : ¬ ((65536 : Int) < nn) := by have := H.hnn; omega
  have h3 : ¬ ((65536 : Int) < mn) := by have := H.hmn; omega
  have hsel := H.hsel
  have hfl := H.hfl
  have hup := H.hup
  have halt := H.halt
  have halt2 := H.halt2
  have hsemi := H.hsemi
  have hpar := H.hpar
  have hwi := H.hwi
  have HH : Hid (LawIn w sel fl name ao nb no nn ns bo mb mo mn xs num up true alt2 semi par wi) := H
  have HF : Hid (F.answers w.tape) := hF
  have has := as73
  clear H hF
  go_enter Ybaz.func3, Ybaz.ntmps3
  go_wp2_with fail
  go_loopg [13, 14] nn (fun g tv iv wr => ∃ i : Nat, g = nn - i ∧ i ≤ nn ∧ tv = .int .i64 (tot ns i) ∧ iv = .int .i64 i ∧ wr = w)
  case atStart => exact ⟨0, rfl, Nat.zero_le _, rfl, rfl, rfl⟩
  case round =>
    obtain ⟨i, hgk, hile, rfl, rfl, hw⟩ := hrel
    rw [hw]
    clear hw
    by_cases hi : i < nn
    · as_aux_lemma =>
        have hi2 : (i : Int) < (nn : Int) := by omega
        obtain rfl := HH.out.hao (by omega)
        have hci := HH.out.hnc w (grown_refl _ _) i hi
        have htb := HH.out.htot (i + 1) (by omega)
        have hti : tot ns (i + 1) = tot ns i + (ns i).size := rfl
        have hnb : ¬ ((1048576 : Int) < (tot ns i : Int) + (ns i).size) := by omega
        go_wp2_with fail
        go_roundg (gk - 1)
        case measure => omega
        case rel => exact ⟨i + 1, by omega, by omega, by rw [hti]; simp, by simp, rfl⟩
    · have hin : nn = i := by omega
      subst hin
      go_upto_region 105 with (first
        | (go_at_call 4; refine (word_any wi _).mono ?_; rintro e w' ⟨rfl, rfl⟩)
        | (at_make; refine wpList_make_own _ rfl (.const (.int .i64 0)) (.const (.int .i64 64)) 23 rfl w.heap.size 5 i0 (.int .u8 0) 1 Ybaz.underlying23 hi' hz0 hz1 .i64 .i64 64 64 rfl rfl rfl (by rw [hz2]; omega) (by unfold maxLen; omega) (Nat.le_refl _) ?_; intro w1 hown hg1; have hB := BR.made hown hg1; clear hown hg1)
        | (go_at_call 5; refine (ck_any _ up _ (by first | decide | exact Nat.le_trans (wordB_size _) (by decide))).mono ?_; rintro e wc ⟨rfl, hgc⟩; replace hB := hB.later hgc; clear hgc)
        | (at_builtin; refine wpl_s hB rfl _ _ rfl rfl _ rfl (by first | exact sz_ck (by decide) | exact sz_ck (wordB_size _) | decide) (by decide) ?_; intro vb wb hB2 hk2; replace hB := hB2; clear hB2 hk2))
      have hB0 := hB.alc (.cells #[.int .i64 0, .int .i64 0] 57)
      have hV0 := heap_alloc_new wb (.cells #[.int .i64 0, .int .i64 0] 57)
      have hge : w.heap.size ≤ wb.heap.size := hB.base
      obtain ⟨V, hV⟩ : ∃ V, V = wb.heap.size := ⟨_, rfl⟩
      obtain ⟨W0, hW0⟩ : ∃ W, W = wb.alloc (.cells #[.int .i64 0, .int .i64 0] 57) := ⟨_, rfl⟩
      rw [← hW0] at hB0 hV0 ⊢
      rw [← hV] at hV0 hge ⊢
      clear hW0 hV hB
      obtain ⟨ms, hms⟩ : ∃ ms, ms = mFirst xs mn := ⟨_, rfl⟩
      have HM : Hid (ms = mFirst xs mn) := hms
      have hz := zmodes w W0 vb _ _ up bo mb mo mn mc xs HH.out.hbo hB0 (by have := HH.out.hmn; omega) HH.out.hmn HH.out.hxs HH.out.hmc
      rw [← hms] at hz
      clear hms
      obtain ⟨m1, hm1⟩ : ∃ m, m = (setModes (0, 0) ms).1 := ⟨_, rfl⟩
      obtain ⟨m2, hm2⟩ : ∃ m, m = (setModes (0, 0) ms).2 := ⟨_, rfl⟩
      rw [← hm1, ← hm2] at hz
      have HM1 : Hid (m1 = (setModes (0, 0) ms).1 ∧ m2 = (setModes (0, 0) ms).2) := ⟨hm1, hm2⟩
      clear hm1 hm2 hB0
      go_upto_region 106 with (first
        | (go_at_call 8; refine hz.mono ?_; rintro e w3 ⟨v3, rfl, hB3, hK3⟩; have hV3 := hK3 _ _ _ _ hV0 (by decide); have c0 := cells_at hV3 0; have c1 := cells_at hV3 1; have f0 := free_at hV3 0; have f1 := free_at hV3 1))
      have e1 : (w3.setCell ⟨V, 0, none⟩ (.int .i64 m1)).heap[V]? = some (.cells #[.int .i64 m1, .int .i64 0] 57 (0, 0)) := heap_setCell_same w3 V 0 _ 57 _ hV3
      have e2 : ((w3.setCell ⟨V, 0, none⟩ (.int .i64 m1)).setCell ⟨V, 1, none⟩ (.int .i64 m2)).heap[V]? = some (.cells #[.int .i64 m1, .int .i64 m2] 57 (0, 0)) := heap_setCell_same _ V 1 _ 57 _ e1
      have hB5 := (hB3.set hV3 (by decide) hge 0 (.int .i64 m1)).set e1 (by decide) hge 1 (.int .i64 m2)
      obtain ⟨W1, hW1⟩ : ∃ W, W = (w3.setCell ⟨V, 0, none⟩ (.int .i64 m1)).setCell ⟨V, 1, none⟩ (.int .i64 m2) := ⟨_, rfl⟩
      rw [← hW1] at e2 hB5 ⊢
      clear hW1 e1 c0 c1 f0 f1 hV3 hB3 hV0 hK3 hz
      have r0 := cells_at e2 0
      have r1 := cells_at e2 1
      clear e2
      go_upto_region 113 with fail
      have hBt := hB5.alc (.cells #[.int .i64 m1, .int .i64 m2] 62)
      have hwt := isStm_new W1 60 62 #[.int .i64 m1, .int .i64 m2]
      obtain ⟨W, hW⟩ : ∃ W, W = W1.alloc (.cells #[.int .i64 m1, .int .i64 m2] 62) := ⟨_, rfl⟩
      rw [← hW] at hBt hwt ⊢
      have hTl : [] ++ (ckB ⟨#[115, 116, 97, 114, 116, 32, 116, 114, 97, 110, 115, 97, 99, 116, 105, 111, 110]⟩ up).data.toList ++ mBytes up ms = srcOf (beginPs up true wi ++ modesPs up ms) := by simp [srcOf_cons, srcOf_append, srcOf_nil, kw_src, bl_src, qu_src, op_src, di_src, word_src, modes_src, k_to, k_sp, k_release, k_show, k_set, k_start, k_setT, k_drop, k_freeze, k_if, spPs, frPs, ifPs, toPs, negPs, beginPs, sBegin]
      have HE : Hid (∀ w', Kp W w' → w.grownBy w' none → Ends false semi par ([] ++ (ckB ⟨#[115, 116, 97, 114, 116, 32, 116, 114, 97, 110, 115, 97, 99, 116, 105, 111, 110]⟩ up).data.toList ++ mBytes up ms) (.iface 60 (.pointer (some ⟨W1.heap.size, 0, none⟩))) w') := fun w' hk hg => ends9 F ms (by rw [HM.out]; exact mFirst_head xs mn) (by rw [hg.tape]; exact HF.out) hTl (by have := hBt.n; have := HH.out.hmn; omega) (by have h := isStm_kp hwt hk (by decide); rw [HM1.out.1, HM1.out.2] at h; exact h)
      clear hW hwt hTl hB5 r0 r1
      obtain ⟨T, hTT⟩ : ∃ T, T = [] ++ (ckB ⟨#[115, 116, 97, 114, 116, 32, 116, 114, 97, 110, 115, 97, 99, 116, 105, 111, 110]⟩ up).data.toList ++ mBytes up ms := ⟨_, rfl⟩
      rw [← hTT] at HE hBt
      clear hTT
      obtain ⟨B0, hB0⟩ : ∃ B, B ≤ 100000000 ∧ BR w _ T B W := ⟨_, by have := HH.out.hmn; omega, hBt⟩
      have HB : Hid (B0 ≤ 100000000) := hB0.1
      replace hBt := hB0.2
      clear hB0
      go_upto_if 361 with fail
      go_cut [21] from 359 to 363 (fun b wx => BR w b (T ++ (if semi then [32, 59] else [])) (B0 + 40) wx ∧ Kp W wx)
      case first =>
        cases semi
        · go_wp2_with fail
          go_meet
          case rel => exact ⟨hBt.wk (by simp) (by omega), Kp.refl W⟩
        · go_wp2_with (at_builtin; refine wpl_s hBt rfl _ _ rfl rfl _ rfl (by decide) (by have := HB.out; omega) ?_; intro vb2 wb2 hB2 hk2)
          go_meet
          case rel => exact ⟨hB2, hk2⟩
      case rest =>
        obtain ⟨hB1, hK1⟩ := hcut
        clear hBt
        go_upto_if 366 with fail
        go_cut [19, 21] from 364 to 368 (fun bd b wx => bd = .bool (false || par) ∧ BR w b (T ++ tl semi par) (B0 + 80) wx ∧ Kp W wx)
        case first =>
          cases par
          · go_wp2_with fail
            go_meet
            case rel => exact ⟨by simp, hB1.wk (by simp [tl]) (by omega), hK1⟩
          · go_wp2_with (at_builtin; refine wpl_s hB1 rfl _ _ rfl rfl _ rfl (by decide) (by have := HB.out; omega) ?_; intro vb2 wb2 hB2 hk2)
            go_meet
            case rel => exact ⟨by simp, hB2.wk (by simp [tl]) (by omega), hK1.trans hk2⟩
        case rest =>
          obtain ⟨rfl, hB2, hK2⟩ := hcut
          have hE := HE.out _ hK2 hB2.g
          have hcv := hB2.conv
          clear hB1 hK1 hsemi hpar
          cases hbp : (false || par)
          · have hP := ends_goodP hE hbp
            clear hE HE hbp
            go_wp2_with (first
              | (go_at_call 10; refine hP.mono ?_; rintro e wp ⟨v, rfl, ⟨ty, p, rfl⟩, hgp, hcall⟩)
              | (go_at_call 11; refine hcall.mono ?_; rintro e wq ⟨rfl, hgq⟩))
            go_ret
            exact ⟨rfl, grown_trans (grown_trans hB2.g hgp) hgq⟩
          · have hP := ends_badP hE hbp
            clear hE HE hbp
            go_wp2_with (first
              | (go_at_call 10; refine hP.mono ?_; rintro e wp ⟨u, rfl, ⟨bb, rfl⟩, hgp⟩))
            go_ret
            exact ⟨rfl, grown_trans hB2.g hgp⟩

end Go.Proofs.YbulkexobaGreatFmt
