/-
  THE LAW, drop table if exists.
-/
import Derived.Test.YbulkexobaGreatFmtLawIn2
import Derived.Deep.CutBlock
namespace Go.Proofs.YbulkexobaGreatFmt
open Go.RowKit Go.Extern.Stop Go.Stop Go.Extern
set_option linter.unusedSimpArgs false
set_option linter.unusedVariables false

set_option maxRecDepth 100000 in
set_option maxHeartbeats 40000000 in
theorem law_11t (F : Interp) (w : World) (sel fl : Int) (name : ByteArray) (ao : Option Addr) (nb no nn nc : Nat) (ns : Nat → ByteArray) (bo : Option Addr) (mb mo mn mc : Nat) (xs : Nat → Int) (num : Nat) (up alt2 semi par : Bool) (wi : Nat)
    (H : LawIn w sel fl name ao nb no nn ns bo mb mo mn xs num up true alt2 semi par wi) (hF : F.answers w.tape) (hk : sel % 12 = 11) :
    Calls Ybaz.prog 3 #[.int .u8 sel, .int .u8 fl, .string name, .slice ao nn nc, .slice bo mn mc, .int .u64 num] w fun e w' => e = .returned (.bool true) ∧ w.grownBy w' none := by
  obtain ⟨i0, hi', hz0, hz1, hz2⟩ := info_parts Ybaz.info5
  have h1 : ¬ ((1048576 : Int) < name.size) := by have := H.hname; omega
  have h2 : ¬ ((65536 : Int) < nn) := by have := H.hnn; omega
  have h3 : ¬ ((65536 : Int) < mn) := by have := H.hmn; omega
  have hsel := H.hsel
  have hfl := H.hfl
  have hup := H.hup
  have halt := H.halt
  have halt2 := H.halt2
  have hsemi := H.hsemi
  have hpar := H.hpar
  have hwi := H.hwi
  have HH : Hid (LawIn w sel fl name ao nb no nn ns bo mb mo mn xs num up true alt2 semi par wi) := H
  have HF : Hid (F.answers w.tape) := hF
  have has := as73
  clear H hF
  go_enter Ybaz.func3, Ybaz.ntmps3
  go_wp2_with fail
  go_loopg [13, 14] nn (fun g tv iv wr => ∃ i : Nat, g = nn - i ∧ i ≤ nn ∧ tv = .int .i64 (tot ns i) ∧ iv = .int .i64 i ∧ wr = w)
  case atStart => exact ⟨0, rfl, Nat.zero_le _, rfl, rfl, rfl⟩
  case round =>
    obtain ⟨i, hgk, hile, rfl, rfl, hw⟩ := hrel
    rw [hw]
    clear hw
    by_cases hi : i < nn
    · as_aux_lemma =>
        have hi2 : (i : Int) < (nn : Int) := by omega
        obtain rfl := HH.out.hao (by omega)
        have hci := HH.out.hnc w (grown_refl _ _) i hi
        have htb := HH.out.htot (i + 1) (by omega)
        have hti : tot ns (i + 1) = tot ns i + (ns i).size := rfl
        have hnb : ¬ ((1048576 : Int) < (tot ns i : Int) + (ns i).size) := by omega
        go_wp2_with fail
        go_roundg (gk - 1)
        case measure => omega
        case rel => exact ⟨i + 1, by omega, by omega, by rw [hti]; simp, by simp, rfl⟩
    · have hin : nn = i := by omega
      subst hin
      go_upto_region 21 with (first
        | (go_at_call 4; refine (word_any wi _).mono ?_; rintro e w' ⟨rfl, rfl⟩)
        | (at_make; refine wpList_make_own _ rfl (.const (.int .i64 0)) (.const (.int .i64 64)) 23 rfl w.heap.size 5 i0 (.int .u8 0) 1 Ybaz.underlying23 hi' hz0 hz1 .i64 .i64 64 64 rfl rfl rfl (by rw [hz2]; omega) (by unfold maxLen; omega) (Nat.le_refl _) ?_; intro w1 hown hg1; have hB := BR.made hown hg1; clear hown hg1)
        | (go_at_call 5; refine (ck_any _ up _ (by first | decide | exact Nat.le_trans (wordB_size _) (by decide))).mono ?_; rintro e wc ⟨rfl, hgc⟩; replace hB := hB.later hgc; clear hgc)
        | (at_builtin; refine wpl_s hB rfl _ _ rfl rfl _ rfl (by first | exact sz_ck (by decide) | exact sz_ck (wordB_size _) | decide) (by decide) ?_; intro vb wb hB2 hk2; replace hB := hB2; clear hB2 hk2))
      have hB0 : Hid (BR w vb ([] ++ (ckB ⟨#[100, 114, 111, 112, 32, 116, 97, 98, 108, 101]⟩ up).data.toList ++ (ckB ⟨#[32, 105, 102, 32, 101, 120, 105, 115, 116, 115]⟩ up).data.toList) (100) wb) := ⟨hB.own, hB.g, by have := hB.n; omega⟩
      clear hB
      obtain ⟨pre, hpre⟩ : ∃ p, p = [] ++ (ckB ⟨#[100, 114, 111, 112, 32, 116, 97, 98, 108, 101]⟩ up).data.toList ++ (ckB ⟨#[32, 105, 102, 32, 101, 120, 105, 115, 116, 115]⟩ up).data.toList := ⟨_, rfl⟩
      rw [← hpre] at hB0
      have HP : Hid (pre = [] ++ (ckB ⟨#[100, 114, 111, 112, 32, 116, 97, 98, 108, 101]⟩ up).data.toList ++ (ckB ⟨#[32, 105, 102, 32, 101, 120, 105, 115, 116, 115]⟩ up).data.toList) := hpre
      clear hpre
      go_wp2_with fail
      go_loopg [19, 21, 27] nn (fun g bdv bv iv wr => ∃ i : Nat, g = nn - i ∧ i ≤ nn ∧ bdv = .bool (badU ns i) ∧ iv = .int .i64 i ∧ BR w bv (pre ++ dB ns i) (100 + 4 * i + 2 * tot ns i) wr)
      case atStart => exact ⟨0, rfl, Nat.zero_le _, rfl, rfl, by have h := hB0.out; rw [← List.append_nil pre] at h; exact h⟩
      case round =>
        clear hB0
        obtain ⟨i, hgk, hile, rfl, rfl, hB⟩ := hrel
        by_cases hi : i < nn
        · obtain rfl := HH.out.hao (by omega)
          have hi2 : (i : Int) < (nn : Int) := by omega
          have hb1 := HH.out.hnn
          have hb2 := HH.out.htot (i + 1) (by omega)
          have hb3 : tot ns (i + 1) = tot ns i + (ns i).size := rfl
          have HB : Hid (100 + 4 * i + 2 * tot ns i + 2 * (ns i).size + 4 ≤ 1000000000) := by show _ ≤ _; omega
          clear hb1 hb2 hb3
          by_cases h0 : 0 < i
          · have h0' : (0 : Int) < (i : Int) := by omega
            cases he : (ns i).toList.isEmpty
            · as_aux_lemma =>
                go_wp2_with (first
                  | (at_builtin; refine wpl_bytes [44] (hB.alc _) rfl (.tmp 97) _ rfl rfl _ 1 rfl (heap_alloc_new _ _) (by have := HB.out; show _ + 1 ≤ _; omega) ?_; intro v1 w1 hB1 hk1; replace hB := hB1; clear hB1 hk1)
                  | (at_builtin; refine wpl_bytes [32] (hB.alc _) rfl (.tmp 100) _ rfl rfl _ 1 rfl (heap_alloc_new _ _) (by have := HB.out; (try simp only [List.length_cons, List.length_nil]); omega) ?_; intro v2 w2 hB2 hk2; replace hB := hB2; have hci := HH.out.hnc _ hB.g i hi; clear hB2 hk2)
                  | (go_at_call 6; refine (cq_any w _ _ _ (ns i) _ hB (by have := HB.out; simp only [List.length_cons, List.length_nil]; omega)).mono ?_; rintro e w3 ⟨v3, rfl, hB3, hk3⟩; replace hB := hB3; have hci2 := HH.out.hnc _ hB.g i hi; clear hB3 hk3))
                go_roundg (gk - 1)
                case measure => omega
                case rel =>
                  have e : pre ++ dB ns i ++ [44] ++ [32] ++ 34 :: (dblB (ns i).data.toList ++ [34]) = pre ++ dB ns (i + 1) := by simp [dB, h0]
                  rw [e] at hB
                  have hb3 : tot ns (i + 1) = tot ns i + (ns i).size := rfl
                  exact ⟨i + 1, by omega, by omega, by simp [badU, he], by simp, hB.own, hB.g, by have := hB.n; simp only [List.length_cons, List.length_nil] at this; omega⟩
            · as_aux_lemma =>
                go_wp2_with (first
                  | (at_builtin; refine wpl_bytes [44] (hB.alc _) rfl (.tmp 97) _ rfl rfl _ 1 rfl (heap_alloc_new _ _) (by have := HB.out; show _ + 1 ≤ _; omega) ?_; intro v1 w1 hB1 hk1; replace hB := hB1; clear hB1 hk1)
                  | (at_builtin; refine wpl_bytes [32] (hB.alc _) rfl (.tmp 100) _ rfl rfl _ 1 rfl (heap_alloc_new _ _) (by have := HB.out; (try simp only [List.length_cons, List.length_nil]); omega) ?_; intro v2 w2 hB2 hk2; replace hB := hB2; have hci := HH.out.hnc _ hB.g i hi; clear hB2 hk2)
                  | (go_at_call 6; refine (cq_any w _ _ _ (ns i) _ hB (by have := HB.out; simp only [List.length_cons, List.length_nil]; omega)).mono ?_; rintro e w3 ⟨v3, rfl, hB3, hk3⟩; replace hB := hB3; have hci2 := HH.out.hnc _ hB.g i hi; clear hB3 hk3))
                go_roundg (gk - 1)
                case measure => omega
                case rel =>
                  have e : pre ++ dB ns i ++ [44] ++ [32] ++ 34 :: (dblB (ns i).data.toList ++ [34]) = pre ++ dB ns (i + 1) := by simp [dB, h0]
                  rw [e] at hB
                  have hb3 : tot ns (i + 1) = tot ns i + (ns i).size := rfl
                  exact ⟨i + 1, by omega, by omega, by simp [badU, he], by simp, hB.own, hB.g, by have := hB.n; simp only [List.length_cons, List.length_nil] at this; omega⟩
          · have h0' : ¬ ((0 : Int) < (i : Int)) := by omega
            cases he : (ns i).toList.isEmpty
            · as_aux_lemma =>
                go_wp2_with (first
                  | (at_builtin; refine wpl_bytes [32] (hB.alc _) rfl (.tmp 100) _ rfl rfl _ 1 rfl (heap_alloc_new _ _) (by have := HB.out; (try simp only [List.length_cons, List.length_nil]); omega) ?_; intro v2 w2 hB2 hk2; replace hB := hB2; have hci := HH.out.hnc _ hB.g i hi; clear hB2 hk2)
                  | (go_at_call 6; refine (cq_any w _ _ _ (ns i) _ hB (by have := HB.out; simp only [List.length_cons, List.length_nil]; omega)).mono ?_; rintro e w3 ⟨v3, rfl, hB3, hk3⟩; replace hB := hB3; have hci2 := HH.out.hnc _ hB.g i hi; clear hB3 hk3))
                go_roundg (gk - 1)
                case measure => omega
                case rel =>
                  have e : pre ++ dB ns i ++ [32] ++ 34 :: (dblB (ns i).data.toList ++ [34]) = pre ++ dB ns (i + 1) := by simp [dB, h0]
                  rw [e] at hB
                  have hb3 : tot ns (i + 1) = tot ns i + (ns i).size := rfl
                  exact ⟨i + 1, by omega, by omega, by simp [badU, he], by simp, hB.own, hB.g, by have := hB.n; simp only [List.length_cons, List.length_nil] at this; omega⟩
            · as_aux_lemma =>
                go_wp2_with (first
                  | (at_builtin; refine wpl_bytes [32] (hB.alc _) rfl (.tmp 100) _ rfl rfl _ 1 rfl (heap_alloc_new _ _) (by have := HB.out; (try simp only [List.length_cons, List.length_nil]); omega) ?_; intro v2 w2 hB2 hk2; replace hB := hB2; have hci := HH.out.hnc _ hB.g i hi; clear hB2 hk2)
                  | (go_at_call 6; refine (cq_any w _ _ _ (ns i) _ hB (by have := HB.out; simp only [List.length_cons, List.length_nil]; omega)).mono ?_; rintro e w3 ⟨v3, rfl, hB3, hk3⟩; replace hB := hB3; have hci2 := HH.out.hnc _ hB.g i hi; clear hB3 hk3))
                go_roundg (gk - 1)
                case measure => omega
                case rel =>
                  have e : pre ++ dB ns i ++ [32] ++ 34 :: (dblB (ns i).data.toList ++ [34]) = pre ++ dB ns (i + 1) := by simp [dB, h0]
                  rw [e] at hB
                  have hb3 : tot ns (i + 1) = tot ns i + (ns i).size := rfl
                  exact ⟨i + 1, by omega, by omega, by simp [badU, he], by simp, hB.own, hB.g, by have := hB.n; simp only [List.length_cons, List.length_nil] at this; omega⟩
        · have hin : nn = i := by omega
          subst hin
          by_cases h0 : nn = 0
          · have h0' : ((nn : Int) == 0) = true := by simp [h0]
            have H0 : Hid (nn = 0) := h0
            clear h0
            go_upto_region 113 with (first
              | (go_at_call 9; refine (clone_any ao nb no nn nc ns _ HH.out.hnn HH.out.hao (HH.out.hnc _ hB.g)).mono ?_; rintro e w4 ⟨ao', n', c', rfl, hown4, hg4⟩; replace hB := hB.later hg4; clear hg4))
            have hBt := hB.alc (.cells #[.slice ao' n' c', .bool true] 68)
            have hwt : IsDrop (w4.alloc (.cells #[.slice ao' n' c', .bool true] 68)) (.iface 65 (.pointer (some ⟨w4.heap.size, 0, none⟩))) true (nList ns nn) := by
              obtain ⟨base, hown⟩ := hown4
              exact ⟨w4.heap.size, _, base, rfl, heap_alloc_new w4 _, hown.alloc _⟩
            obtain ⟨W, hW⟩ : ∃ W, W = w4.alloc (.cells #[.slice ao' n' c', .bool true] 68) := ⟨_, rfl⟩
            rw [← hW] at hBt hwt ⊢
            have hTl : pre ++ dB ns nn = srcOf (kwP up sDrop :: blP :: kwP up sTable :: (ifPs up true ++ namesPs (nList ns nn))) := by
              rw [HP.out]
              simp [srcOf_cons, srcOf_append, srcOf_nil, kw_src, bl_src, k_drop, k_if, ifPs, names_src]
            have HB : Hid (100 + 4 * nn + 2 * tot ns nn ≤ 80000000) := by
              show _ ≤ _
              have := HH.out.hnn
              have := HH.out.htot nn (Nat.le_refl _)
              omega
            have HE : Hid (∀ w', Kp W w' → w.grownBy w' none → Ends true semi par (pre ++ dB ns nn) (.iface 65 (.pointer (some ⟨w4.heap.size, 0, none⟩))) w') := fun w' hk hg => ends11 F (nList ns nn) (by rw [nList_length]; have := HH.out.hnn; omega) (by rw [hg.tape]; exact HF.out) hTl (by have := hBt.n; have := HB.out; omega) (by simp [nList, H0.out]) (isDrop_kp hwt hk)
            clear hW hwt hTl hown4 hB
            obtain ⟨T, hTT⟩ : ∃ T, T = pre ++ dB ns nn := ⟨_, rfl⟩
            rw [← hTT] at HE hBt
            clear hTT
            obtain ⟨B0, hB0⟩ : ∃ B, B ≤ 100000000 ∧ BR w _ T B W := ⟨_, by have := HB.out; omega, hBt⟩
            have HB : Hid (B0 ≤ 100000000) := hB0.1
            replace hBt := hB0.2
            clear hB0
            go_upto_if 361 with fail
            go_cut [21] from 359 to 363 (fun b wx => BR w b (T ++ (if semi then [32, 59] else [])) (B0 + 40) wx ∧ Kp W wx)
            case first =>
              cases semi
              · go_wp2_with fail
                go_meet
                case rel => exact ⟨hBt.wk (by simp) (by omega), Kp.refl W⟩
              · go_wp2_with (at_builtin; refine wpl_s hBt rfl _ _ rfl rfl _ rfl (by decide) (by have := HB.out; omega) ?_; intro vb2 wb2 hB2 hk2)
                go_meet
                case rel => exact ⟨hB2, hk2⟩
            case rest =>
              obtain ⟨hB1, hK1⟩ := hcut
              clear hBt
              go_upto_if 366 with fail
              go_cut [19, 21] from 364 to 368 (fun bd b wx => bd = .bool true ∧ BR w b (T ++ tl semi par) (B0 + 80) wx ∧ Kp W wx)
              case first =>
                cases par
                · go_wp2_with fail
                  go_meet
                  case rel => exact ⟨rfl, hB1.wk (by simp [tl]) (by omega), hK1⟩
                · go_wp2_with (at_builtin; refine wpl_s hB1 rfl _ _ rfl rfl _ rfl (by decide) (by have := HB.out; omega) ?_; intro vb2 wb2 hB2 hk2)
                  go_meet
                  case rel => exact ⟨rfl, hB2.wk (by simp [tl]) (by omega), hK1.trans hk2⟩
              case rest =>
                obtain ⟨rfl, hB2, hK2⟩ := hcut
                have hE := HE.out _ hK2 hB2.g
                have hcv := hB2.conv
                clear hB1 hK1 hsemi hpar
                have hP := ends_badP hE rfl
                clear hE HE
                go_wp2_with (first
                  | (go_at_call 10; refine hP.mono ?_; rintro e wp ⟨u, rfl, ⟨bb, rfl⟩, hgp⟩))
                go_ret
                exact ⟨rfl, grown_trans hB2.g hgp⟩
          · have h0' : ((nn : Int) == 0) = false := beq_eq_false_iff_ne.2 (by omega)
            go_upto_region 113 with (first
              | (go_at_call 9; refine (clone_any ao nb no nn nc ns _ HH.out.hnn HH.out.hao (HH.out.hnc _ hB.g)).mono ?_; rintro e w4 ⟨ao', n', c', rfl, hown4, hg4⟩; replace hB := hB.later hg4; clear hg4))
            have hBt := hB.alc (.cells #[.slice ao' n' c', .bool true] 68)
            have hwt : IsDrop (w4.alloc (.cells #[.slice ao' n' c', .bool true] 68)) (.iface 65 (.pointer (some ⟨w4.heap.size, 0, none⟩))) true (nList ns nn) := by
              obtain ⟨base, hown⟩ := hown4
              exact ⟨w4.heap.size, _, base, rfl, heap_alloc_new w4 _, hown.alloc _⟩
            obtain ⟨W, hW⟩ : ∃ W, W = w4.alloc (.cells #[.slice ao' n' c', .bool true] 68) := ⟨_, rfl⟩
            rw [← hW] at hBt hwt ⊢
            obtain ⟨bad, hbad⟩ : ∃ x, x = badU ns nn := ⟨_, rfl⟩
            rw [← hbad]
            have hTl : pre ++ dB ns nn = srcOf (kwP up sDrop :: blP :: kwP up sTable :: (ifPs up true ++ namesPs (nList ns nn))) := by
              rw [HP.out]
              simp [srcOf_cons, srcOf_append, srcOf_nil, kw_src, bl_src, k_drop, k_if, ifPs, names_src]
            have HB : Hid (100 + 4 * nn + 2 * tot ns nn ≤ 80000000) := by
              show _ ≤ _
              have := HH.out.hnn
              have := HH.out.htot nn (Nat.le_refl _)
              omega
            have HE : Hid (∀ w', Kp W w' → w.grownBy w' none → Ends bad semi par (pre ++ dB ns nn) (.iface 65 (.pointer (some ⟨w4.heap.size, 0, none⟩))) w') := fun w' hk hg => ends11 F (nList ns nn) (by rw [nList_length]; have := HH.out.hnn; omega) (by rw [hg.tape]; exact HF.out) hTl (by have := hBt.n; have := HB.out; omega) (by rw [hbad, badU_iff]; exact ⟨.inr, fun h => h.resolve_left (fun hh => h0 (by have := congrArg List.length hh; simpa [nList] using this))⟩) (isDrop_kp hwt hk)
            clear hW hwt hTl hown4 hB h0 hbad
            obtain ⟨T, hTT⟩ : ∃ T, T = pre ++ dB ns nn := ⟨_, rfl⟩
            rw [← hTT] at HE hBt
            clear hTT
            obtain ⟨B0, hB0⟩ : ∃ B, B ≤ 100000000 ∧ BR w _ T B W := ⟨_, by have := HB.out; omega, hBt⟩
            have HB : Hid (B0 ≤ 100000000) := hB0.1
            replace hBt := hB0.2
            clear hB0
            go_upto_if 361 with fail
            go_cut [21] from 359 to 363 (fun b wx => BR w b (T ++ (if semi then [32, 59] else [])) (B0 + 40) wx ∧ Kp W wx)
            case first =>
              cases semi
              · go_wp2_with fail
                go_meet
                case rel => exact ⟨hBt.wk (by simp) (by omega), Kp.refl W⟩
              · go_wp2_with (at_builtin; refine wpl_s hBt rfl _ _ rfl rfl _ rfl (by decide) (by have := HB.out; omega) ?_; intro vb2 wb2 hB2 hk2)
                go_meet
                case rel => exact ⟨hB2, hk2⟩
            case rest =>
              obtain ⟨hB1, hK1⟩ := hcut
              clear hBt
              go_upto_if 366 with fail
              go_cut [19, 21] from 364 to 368 (fun bd b wx => bd = .bool (bad || par) ∧ BR w b (T ++ tl semi par) (B0 + 80) wx ∧ Kp W wx)
              case first =>
                cases par
                · go_wp2_with fail
                  go_meet
                  case rel => exact ⟨by simp, hB1.wk (by simp [tl]) (by omega), hK1⟩
                · go_wp2_with (at_builtin; refine wpl_s hB1 rfl _ _ rfl rfl _ rfl (by decide) (by have := HB.out; omega) ?_; intro vb2 wb2 hB2 hk2)
                  go_meet
                  case rel => exact ⟨by simp, hB2.wk (by simp [tl]) (by omega), hK1.trans hk2⟩
              case rest =>
                obtain ⟨rfl, hB2, hK2⟩ := hcut
                have hE := HE.out _ hK2 hB2.g
                have hcv := hB2.conv
                clear hB1 hK1 hsemi hpar
                cases hbp : (bad || par)
                · have hP := ends_goodP hE hbp
                  clear hE HE hbp
                  go_wp2_with (first
                    | (go_at_call 10; refine hP.mono ?_; rintro e wp ⟨v, rfl, ⟨ty, p, rfl⟩, hgp, hcall⟩)
                    | (go_at_call 11; refine hcall.mono ?_; rintro e wq ⟨rfl, hgq⟩))
                  go_ret
                  exact ⟨rfl, grown_trans (grown_trans hB2.g hgp) hgq⟩
                · have hP := ends_badP hE hbp
                  clear hE HE hbp
                  go_wp2_with (first
                    | (go_at_call 10; refine hP.mono ?_; rintro e wp ⟨u, rfl, ⟨bb, rfl⟩, hgp⟩))
                  go_ret
                  exact ⟨rfl, grown_trans hB2.g hgp⟩

end Go.Proofs.YbulkexobaGreatFmt
