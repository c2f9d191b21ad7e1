import Derived.Test.YbulkexnzkScanName
import Derived.Laws.CopyOwn
import Derived.OwnWalk
import Derived.WalkSpells
namespace Go.Proofs.Ybulkexnzk
open Go.RowKit

theorem Yba.info5 : (Yba.prog.info? 5).map (fun i => (i.zero, i.size, i.bytes)) = some (some (.int .u8 0), 1, 1) := by kernel_rfl

theorem word_to (c : Int) (w : World) : Calls Yba.prog 4 #[.int .u8 c] w fun e w' => e = .returned (.bool (wordB c)) ∧ w = w' :=
  (word_any c w).mono fun _ _ ⟨h, h'⟩ => ⟨h, h'.symm⟩

/-- 'int(uint(i) % uint(n+1))' lies in [0, n]. -/
theorem start_in (i : Int) (len : Nat) (h : len ≤ 1048576) : ∃ st : Nat, wrap64 ((IntKind.u64.wrap i).tmod ((len : Int) + 1)) = (st : Int) ∧ st ≤ len := by
  have h0 : 0 ≤ IntKind.u64.wrap i := by rw [IntKind.wrap_u64]; omega
  generalize IntKind.u64.wrap i = u at h0
  have h1 := Int.tmod_nonneg ((len : Int) + 1) h0
  have h2 : u.tmod ((len : Int) + 1) < (len : Int) + 1 := Int.tmod_lt_of_pos u (by omega)
  refine ⟨(u.tmod ((len : Int) + 1)).toNat, ?_, by omega⟩
  generalize u.tmod ((len : Int) + 1) = r at h1 h2
  unfold wrap64
  omega

/-- A made row, whole. -/
theorem made_row {w : World} {base e g n : Nat} {xs : List Value} (h : w.ownsRow base e 1 (.slice (some ⟨g, 0, none⟩) n n) n xs) :
    ∃ cur : List Value, w.heap[g]? = some (.cells cur.toArray e (0, 0)) ∧ cur.length = n := by
  rcases h.2 with ⟨hv, _⟩ | ⟨g', cap, cur, hv, _, hg, _, _, hcs, _⟩
  · cases hv
  · injection hv with h1 h2 h3
    injection h1 with h1
    injection h1 with h1
    subst h1; subst h3
    exact ⟨cur.toList, by simpa using hg, by simpa using hcs⟩

theorem src_cell {w wa : World} {cs : List Value} {zs : List Int} {bb off len cap : Nat} (hcs : cs = (zs.take len).map (Value.int .u8)) (hz : zs.length = cap) (hl : len ≤ cap) (hb : Below w.heap.size w wa) (hbb : bb < w.heap.size)
    (hcell : ∀ j, j < cap → w.cell? ⟨bb, off + j, none⟩ = some (.int .u8 (zs.getD j 0))) (j : Nat) (v : Value) (hj : cs[j]? = some v) : wa.cell? ⟨bb, off + j, none⟩ = some v := by
  have hjl : j < len := by
    have := (List.getElem?_eq_some_iff.1 hj).1
    rw [hcs] at this; simp at this; omega
  rw [hb.cell (by exact hbb), hcell j (by omega)]
  subst hcs
  have hjz : j < zs.length := by omega
  simpa [List.getElem?_take_of_lt hjl, List.getElem?_eq_getElem hjz, List.getD] using hj

/-- WHAT LIES IN MEMORY BEHIND THE copy. -/
theorem behind_copy {w w2 : World} {cur cs : List Value} {zs : List Int} {bb off len cap : Nat} (hg : w2.heap[w.heap.size]? = some (.cells (splice cur 0 cs).toArray 5 (0, 0)))
    (hcurl : cur.length = len) (hcsl : cs.length = len) (hcs : cs = (zs.take len).map (Value.int .u8)) (hz : zs.length = cap) (hl : len ≤ cap) (hb : Below w.heap.size w w2) (hbb : bb < w.heap.size)
    (hcell : ∀ j, j < cap → w.cell? ⟨bb, off + j, none⟩ = some (.int .u8 (zs.getD j 0))) :
    w.heap.size < w2.heap.size ∧ (∀ j, j < len → w2.cell? ⟨w.heap.size, j, none⟩ = some (.int .u8 (zs.getD j 0))) ∧ (∀ j, j < len → w2.cell? ⟨bb, off + j, none⟩ = some (.int .u8 (zs.getD j 0))) := by
  refine ⟨(Array.getElem?_eq_some_iff.1 hg).1, fun j hj => ?_, fun j hj => ?_⟩
  · have hsp : splice cur 0 cs = cs := by
      unfold splice
      rw [List.drop_eq_nil_of_le (by omega)]; simp
    rw [hsp] at hg
    rw [cell_of_row w2 w.heap.size j _ 5 (0, 0) hg]
    subst hcs
    have hjz : j < zs.length := by omega
    simp [List.getElem?_take_of_lt hj, List.getElem?_eq_getElem hjz, List.getD]
  · rw [hb.cell (by exact hbb)]
    exact hcell j (by omega)

/-- The cells of 'want' behind n rounds. -/
def wantL (zs : List Int) (st n : Nat) : List Value := ((zs.drop st).take n).map (Value.int .u8)

theorem want_step {w4 : World} {G st k e : Nat} {zs : List Int} {c : Int} (hc : c = zs.getD k 0) (hk : k < zs.length) (hst : st ≤ k)
    (h : w4.ownsRow G 5 1 (.slice (some ⟨G, 0, none⟩) (k - st + 1) (e - st)) (k - st + 1) (wantL zs st (k - st) ++ [.int .u8 c])) :
    w4.ownsRow G 5 1 (.slice (some ⟨G, 0, none⟩) (k + 1 - st) (e - st)) (k + 1 - st) (wantL zs st (k + 1 - st)) := by
  have e1 : k - st + 1 = k + 1 - st := by omega
  have e2 : wantL zs st (k + 1 - st) = wantL zs st (k - st) ++ [.int .u8 c] := by
    unfold wantL
    rw [← e1, List.take_succ_eq_append_getElem (by simp; omega), List.map_append, hc]
    simp [List.getD, show st + (k - st) = k by omega, List.getElem?_eq_getElem hk]
  rw [e2, ← e1]; exact h

/-- THE CALL OF Name, AS THE LAW MEETS IT: the new Source in block 'wr.heap.size'. -/
theorem name_call (bb off len cap : Nat) (zs : List Int) (st k : Nat) (line lst : Int) (w w2 wr : World) (hl : len ≤ cap) (hsm : len ≤ 1048576) (hz : zs.length = cap) (hbb : bb < w.heap.size) (hsl : st ≤ len)
    (hsz2 : w.heap.size < w2.heap.size) (hb2 : Below w.heap.size w w2) (hszk : w2.heap.size < wr.heap.size) (hbk : Below w2.heap.size w2 wr) (hend : IsEnd zs len st k)
    (hbef : ∀ j, j < len → w2.cell? ⟨w.heap.size, j, none⟩ = some (.int .u8 (zs.getD j 0))) (hsrc : ∀ j, j < len → w2.cell? ⟨bb, off + j, none⟩ = some (.int .u8 (zs.getD j 0)))
    (hown : wr.ownsRow w2.heap.size 5 1 (.slice (some ⟨w2.heap.size, 0, none⟩) (k - st) (k - st)) (k - st) (wantL zs st (k - st))) :
    Calls Yba.prog 5 #[.pointer (some ⟨wr.heap.size, 0, none⟩)] (wr.alloc (.cells #[.slice (some ⟨bb, off, none⟩) len cap, .int .i64 st, .int .i64 line, .int .i64 lst] 27)) fun r w5 =>
      ∃ S, r = .returned (.string S) ∧ w5.cell? ⟨wr.heap.size, 0, none⟩ = some (.slice (some ⟨bb, off, none⟩) len cap) ∧ w5.cell? ⟨wr.heap.size, 1, none⟩ = some (.int .i64 k) ∧ w5.cell? ⟨wr.heap.size, 2, none⟩ = some (.int .i64 line) ∧
        w5.cell? ⟨wr.heap.size, 3, none⟩ = some (.int .i64 lst) ∧ (convert 22 9 (.slice (some ⟨w2.heap.size, 0, none⟩) (k - st) (k - st))).run Yba.prog w5 = .ok (.string S) w5 ∧
        Hid (∀ j, j < len → w5.cell? ⟨w.heap.size, j, none⟩ = some (.int .u8 (zs.getD j 0))) ∧ Hid (∀ j, j < len → w5.cell? ⟨bb, off + j, none⟩ = some (.int .u8 (zs.getD j 0))) ∧ Below w.heap.size w w5 := by
  have hba : Below wr.heap.size wr (wr.alloc (.cells #[.slice (some ⟨bb, off, none⟩) len cap, .int .i64 st, .int .i64 line, .int .i64 lst] 27)) := (Below.refl _ _).alloc (Nat.le_refl _) _
  have hlt : bb < w2.heap.size := by omega
  refine (name_any wr.heap.size bb off len cap zs st _ (.int .i64 line) (.int .i64 lst) (by simp) (by simp) (by simp) (by simp) (by simp) hl hsm (by omega) hsl (by omega) ?_).mono ?_
  · intro j hj
    rw [hba.cell (by exact Nat.lt_trans hlt hszk), hbk.cell (by exact hlt)]
    exact hsrc j hj
  · rintro r w5 ⟨e, he, rfl, q0, q1, q2, q3, hb5⟩
    obtain rfl := hend.unique he
    have hb5' : Below wr.heap.size wr w5 := hba.trans hb5
    refine ⟨_, rfl, q0, q1, q2, q3, ?_, ?_, ?_, ?_⟩
    · refine run_convert_bytes_arg (P := Yba.prog) w5 22 5 Yba.underlying22 Yba.underlying5 _ 0 (k - st) _ _ (by have := hend.2.1; simp; omega) (fun i hi => ?_) 9 Yba.underlying9
      have h1 := hown.cells (g := w2.heap.size) rfl i (.int .u8 (((zs.drop st).take (k - st)).getD i 0)) (by
        have : i < ((zs.drop st).take (k - st)).length := by have := hend.2.1; simp; omega
        simp only [wantL, List.getElem?_map, List.getElem?_eq_getElem this, Option.map_some, List.getD, Option.getD_some])
      rw [Addr.add_lit] at h1
      rw [hb5'.cell (by exact hszk)]
      exact h1
    · intro j hj
      rw [hb5'.cell (by exact Nat.lt_trans hsz2 hszk), hbk.cell (by exact hsz2)]
      exact hbef j hj
    · intro j hj
      rw [hb5'.cell (by exact Nat.lt_trans hlt hszk), hbk.cell (by exact hlt)]
      exact hsrc j hj
    · exact hb2.trans ((hbk.mono (Nat.le_of_lt hsz2)).trans (hb5'.mono (by omega)))

theorem walk_some (bb off len cap : Nat) (zs : List Int) (i line lst : Int) (w : World) (hz : zs.length = cap) (hl : len ≤ cap) (hp : 0 < len) (hsm : len ≤ 1048576) 
    (hcell : ∀ j, j < cap → w.cell? ⟨bb, off + j, none⟩ = some (.int .u8 (zs.getD j 0))) (hbb : bb < w.heap.size) :
    Calls Yba.prog 3 #[.slice (some ⟨bb, off, none⟩) len cap, .int .i64 i, .int .i64 line, .int .i64 lst] w fun e w' => e = .returned (.bool true) ∧ Below w.heap.size w w' := by
  obtain ⟨i0, hi, hz0, hz1, hz2⟩ := info_parts Yba.info5
  obtain ⟨st, hst, hsl⟩ := start_in i len hsm
  have d20 : decide ((1048576 : Int) < (len : Int)) = false := by simp; omega
  have HCell : Hid (∀ j, j < cap → w.cell? ⟨bb, off + j, none⟩ = some (.int .u8 (zs.getD j 0))) := hcell
  have HZ : Hid (zs.length = cap) := hz
  clear hcell hz
  obtain ⟨cs, hcs⟩ : ∃ cs, cs = (zs.take len).map (Value.int .u8) := ⟨_, rfl⟩
  have hcsl : cs.length = len := by rw [hcs]; simp; have := HZ.out; omega
  have HCsl : Hid (cs.length = len) := hcsl
  have HCs : Hid (cs = (zs.take len).map (Value.int .u8)) := hcs
  clear hcsl hcs
  go_enter Yba.func3, Yba.ntmps3
  go_wp2_with (at_make; refine wpList_make_full _ rfl (.tmp 32) (.tmp 32) 22 rfl w.heap.size 5 i0 (.int .u8 0) 1 Yba.underlying22 hi hz0 hz1 .i64 .i64 _ _ len rfl rfl rfl rfl (by rw [hz2]; omega) (by unfold maxLen; omega) (Nat.le_refl _) ?_)
  intro wa hown hgrow
  obtain ⟨cur, hcur, hcurl⟩ := made_row hown
  have hba : Below w.heap.size w wa := (Below.refl _ _).grown hgrow (Nat.le_refl _) (by simp)
  have hasz : w.heap.size < wa.heap.size := (hown.lt _ rfl).2
  have HCur : Hid (wa.heap[w.heap.size]? = some (.cells cur.toArray 5 (0, 0))) := hcur
  have HCurl : Hid (cur.length = len) := hcurl
  clear hown hgrow hcur hcurl
  go_wp2_with (refine wpList_copy_splice rfl (.tmp 34) (.tmp 35) 22 22 rfl 5 Yba.underlying22 (by kernel_rfl) _ _ _ _ _ _ rfl rfl w.heap.size 0 cur 5 HCur.out cs ?c1 ?c2 ?c3 ?c4 w.heap.size w hba (Nat.le_refl _) ?_)
  case c1 => rw [HCsl.out]; simp
  case c2 => exact fun _ => src_cell HCs.out HZ.out hl hba hbb HCell.out
  case c3 => rw [HCsl.out, HCurl.out]; omega
  case c4 => rw [HCs.out]; exact ints_oneCell _ _
  intro w2 HG2 hb2
  obtain ⟨hsz2, hbef, hsrc⟩ := behind_copy HG2.out HCurl.out HCsl.out HCs.out HZ.out hl hb2 hbb HCell.out
  clear HG2 hba hasz HCur HCurl HCsl HCs
  have HBef : Hid (∀ j, j < len → w2.cell? ⟨w.heap.size, j, none⟩ = some (.int .u8 (zs.getD j 0))) := hbef
  have HSrc : Hid (∀ j, j < len → w2.cell? ⟨bb, off + j, none⟩ = some (.int .u8 (zs.getD j 0))) := hsrc
  clear hbef hsrc HCell
  go_wp2_with fail
  go_loop [12] (fun t => ∃ e : Nat, t = .int .i64 e ∧ st ≤ e ∧ e ≤ len ∧ ∀ j, st ≤ j → j < e → wordB (zs.getD j 0) = true) (fun t => len - (intOf t).toNat)
  case atStart => exact ⟨st, rfl, Nat.le_refl _, hsl, fun j h1 h2 => by omega⟩
  case round =>
    obtain ⟨e, rfl, he1, he2, hall⟩ := hrel
    have HA : Hid (∀ j, st ≤ j → j < e → wordB (zs.getD j 0) = true) := hall
    clear hall
    by_cases hin : e < len ∧ wordB (zs.getD e 0) = true
    · obtain ⟨hlt, hw0⟩ := hin
      obtain ⟨c, hc⟩ : ∃ c, c = zs.getD e 0 := ⟨_, rfl⟩
      have gc : w2.cell? ⟨w.heap.size, e, none⟩ = some (.int .u8 c) := by rw [hc]; exact HBef.out e hlt
      have hw : wordB c = true := by rw [hc]; exact hw0
      have HC : Hid (c = zs.getD e 0) := hc
      clear hc hw0
      go_wp2_with (go_at_call 4; refine (word_to _ _).mono ?_; rintro r w' ⟨rfl, rfl⟩)
      go_round
      case rel => exact ⟨e + 1, by go_num, by omega, by omega, fun j h1 h2 => by
        by_cases h : j = e
        · rw [h, ← HC.out]; exact hw
        · exact HA.out j h1 (by omega)⟩
      case measure => simp [intOf]; omega
    · have hend : Hid (IsEnd zs len st e) := ⟨he1, he2, HA.out, fun h => by simpa [h] using hin⟩
      have hways : (e < len ∧ ∃ c, w2.cell? ⟨w.heap.size, e, none⟩ = some (.int .u8 c) ∧ wordB c = false) ∨ len ≤ e := by
        by_cases hlt : e < len
        · exact .inl ⟨hlt, _, HBef.out e hlt, by simpa [hlt] using hin⟩
        · exact .inr (by omega)
      clear HA hin
      rcases hways with ⟨hlt, c, gc, hw'⟩ | hge
      all_goals
        go_wp2_with (first | (go_at_call 4; refine (word_to _ _).mono ?_; rintro r w' ⟨rfl, rfl⟩) | (at_make; refine wpList_make_own _ rfl (.const (.int .i64 0)) (.tmp 52) 22 rfl w2.heap.size 5 i0 (.int .u8 0) 1 Yba.underlying22 hi hz0 hz1 .i64 .i64 _ (e - st) rfl rfl (by omega) (by rw [hz2]; omega) (by unfold maxLen; omega) (Nat.le_refl _) ?_))
        intro w3 hown hgrow
        have hb3 : Below w2.heap.size w2 w3 := (Below.refl _ _).grown hgrow (Nat.le_refl _) (by simp)
        have hsz3 : w2.heap.size < w3.heap.size := (hown.lt _ rfl).2
        clear hgrow
        go_wp2_with fail
        go_loopw [13, 14] (fun t v wr => ∃ k : Nat, v = .int .i64 k ∧ st ≤ k ∧ k ≤ e ∧ t = .slice (some ⟨w2.heap.size, 0, none⟩) (k - st) (e - st) ∧
            wr.ownsRow w2.heap.size 5 1 (.slice (some ⟨w2.heap.size, 0, none⟩) (k - st) (e - st)) (k - st) (wantL zs st (k - st)) ∧ Below w2.heap.size w2 wr ∧ w2.heap.size < wr.heap.size) (fun _ v _ => e - (intOf v).toNat)
        case atStart => exact ⟨st, rfl, Nat.le_refl _, he1, by simp, by simpa [wantL] using hown, hb3, hsz3⟩
        case round =>
          obtain ⟨k, rfl, hk1, hk2, rfl, hownk, hbk, hszk⟩ := hrel
          clear hown hb3 hsz3
          by_cases hke : k < e
          · obtain ⟨c, hc⟩ : ∃ c, c = zs.getD k 0 := ⟨_, rfl⟩
            have gc : wr.cell? ⟨w.heap.size, k, none⟩ = some (.int .u8 c) := by rw [hc, hbk.cell (by exact hsz2)]; exact HBef.out k (by omega)
            have HC : Hid (c = zs.getD k 0) := hc
            clear hc
            go_wp2_with (at_builtin; refine wpList_append_fits _ rfl (.tmp 60) (.tmp 65) 22 rfl w2.heap.size 5 i0 1 Yba.underlying22 hi hz1 w2.heap.size (k - st) (e - st) _ rfl (hownk.alloc _) ⟨wr.heap.size, 0, none⟩ 1 1 [.int .u8 c] rfl rfl (cell_one_new _ _ _) (by simp [Value.oneCell']) (by omega) ?_)
            intro w4 hown4 hgrow4
            have R := want_step HC.out (by have := HZ.out; omega) hk1 hown4
            have hb4 : Below w2.heap.size w2 w4 := (hbk.alloc (Nat.le_of_lt hszk) _).grown hgrow4 (by simp; omega) (by intro q hq; cases hq; exact Nat.le_refl _)
            have hsz4 : w2.heap.size < w4.heap.size := by have := hb4.size; have := (R.lt _ rfl).2; exact this
            clear hown4 hgrow4 hownk gc
            go_wp2
            go_roundw
            case rel => exact ⟨k + 1, by go_num, by omega, by omega, by rw [show k - st + 1 = k + 1 - st by omega], R, hb4, hsz4⟩
            case measure => simp [intOf]; omega
          · have hke' : k = e := by omega
            subst hke'
            go_wp2_with fail
            refine (name_call bb off len cap zs st k line lst w w2 wr hl hsm HZ.out hbb hsl hsz2 hb2 hszk hbk hend.out HBef.out HSrc.out hownk).mono ?_
            rintro r w5 ⟨S, rfl, q0, q1, q2, q3, hcv, HB5, HS5, hb5⟩
            clear hownk hbk hend HBef HSrc
            go_wp2_with fail
            clear q0 q1 q2 q3 hcv
            go_loopw [17] (fun v wx => ∃ j q : Nat, v = .int .i64 j ∧ j ≤ len ∧ wx = w5.drewN q) (fun v _ => len - (intOf v).toNat)
            case atStart => exact ⟨0, 0, rfl, Nat.zero_le _, rfl⟩
            case round =>
              obtain ⟨j, q, rfl, hj, rfl⟩ := hrel
              by_cases hjl : j < len
              · obtain ⟨c, hc⟩ : ∃ c, c = zs.getD j 0 := ⟨_, rfl⟩
                have g1 : w5.cell? ⟨w.heap.size, j, none⟩ = some (.int .u8 c) := by rw [hc]; exact HB5.out j hjl
                have g2 : w5.cell? ⟨bb, off + j, none⟩ = some (.int .u8 c) := by rw [hc]; exact HS5.out j hjl
                have hjl' : (j : Int) < (len : Int) := by omega
                clear hc
                go_wp2_with fail
                go_quiet (fail)
                go_wp2_with fail
                go_roundw
                case rel => exact ⟨j + 1, q + nq, by go_num, by omega, by simp⟩
                case measure => simp [intOf]; omega
              · go_wp2_with fail
                go_ret
                exact ⟨rfl, hb5.trans ⟨rfl, rfl, rfl, by simp, fun _ _ => by simp⟩⟩
end Go.Proofs.Ybulkexnzk
