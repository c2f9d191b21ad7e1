/-
  THE PRINTER's SMALL CALLEES, each by its contract: kindOf, at, overBudget, step, write.
-/
import Derived.Test.YbulkexocqDoorNodes
import Derived.WalkSpells
namespace Go.Proofs.YbulkexocqDoor
open Go.RowKit

theorem Ybad.info5 : (Ybad.prog.info? 5).map (fun i => (i.zero, i.size, i.bytes)) = some (some (.int .u8 0), 1, 1) := by kernel_rfl
theorem Ybad.info27 : (Ybad.prog.info? 27).map (fun i => (i.zero, i.size, i.bytes)) = some (some (.int .i32 0), 1, 4) := by kernel_rfl

theorem pkind_any (bP gN n cap i : Nat) (v : Int) (w : World) (hP : w.cell? ⟨bP, 3, none⟩ = some (.slice (some ⟨gN, 0, none⟩) n cap)) (hi : i < n) (hv : w.cell? ⟨gN, i * 5, none⟩ = some (.int .u8 v)) :
    Calls Ybad.prog 13 #[.pointer (some ⟨bP, 0, none⟩), .int .i32 i] w fun e w' => e = .returned (.int .u8 v) ∧ w = w' := by
  have h1 : ((i : Int) == -1) = false := by simp
  have h2 : (i : Int) < (n : Int) := by omega
  go_enter Ybad.func13, Ybad.ntmps13
  go_wp2
  go_ret
  exact ⟨rfl, rfl⟩

theorem pat_any (bP gN n cap i : Nat) (w : World) (hP : w.cell? ⟨bP, 3, none⟩ = some (.slice (some ⟨gN, 0, none⟩) n cap)) (hi : i < n) :
    Calls Ybad.prog 16 #[.pointer (some ⟨bP, 0, none⟩), .int .i32 i] w fun e w' => e = .returned (.pointer (some ⟨gN, i * 5, none⟩)) ∧ w = w' := by
  have h2 : (i : Int) < (n : Int) := by omega
  go_enter Ybad.func16, Ybad.ntmps16
  go_wp2
  go_ret
  exact ⟨rfl, rfl⟩

theorem kind_any {L : Lay} {t : St} {w : World} (h : Pr L t w) (i : Nat) (v : Int) (hi : i < L.n) (hv : L.nc[i * 5]? = some (.int .u8 v)) :
    Calls Ybad.prog 8 #[.pointer (some ⟨L.bR, 0, none⟩), .int .i32 i] w fun e w' => e = .returned (.int .u8 v) ∧ w = w' := by
  have c0 : w.cell? ⟨L.bR, 0, none⟩ = some (.pointer (some ⟨L.bP, 0, none⟩)) := cells_at h.r 0
  have c3 : w.cell? ⟨L.bP, 3, none⟩ = some (.slice (some ⟨L.gN, 0, none⟩) L.n L.cap) := cells_at h.p 3
  have cv := (cells_at h.nn (i * 5)).trans hv
  clear h
  go_enter Ybad.func8, Ybad.ntmps8
  go_wp2_with (go_at_call 13; refine (pkind_any L.bP L.gN L.n L.cap i v _ c3 hi cv).mono ?_; rintro e w' ⟨rfl, rfl⟩)
  go_ret
  exact ⟨rfl, rfl⟩

theorem at_any {L : Lay} {t : St} {w : World} (h : Pr L t w) (i : Nat) (hi : i < L.n) :
    Calls Ybad.prog 11 #[.pointer (some ⟨L.bR, 0, none⟩), .int .i32 i] w fun e w' => e = .returned (.pointer (some ⟨L.gN, i * 5, none⟩)) ∧ w = w' := by
  have c0 : w.cell? ⟨L.bR, 0, none⟩ = some (.pointer (some ⟨L.bP, 0, none⟩)) := cells_at h.r 0
  have c3 : w.cell? ⟨L.bP, 3, none⟩ = some (.slice (some ⟨L.gN, 0, none⟩) L.n L.cap) := cells_at h.p 3
  clear h
  go_enter Ybad.func11, Ybad.ntmps11
  go_wp2_with (go_at_call 16; refine (pat_any L.bP L.gN L.n L.cap i _ c3 hi).mono ?_; rintro e w' ⟨rfl, rfl⟩)
  go_ret
  exact ⟨rfl, rfl⟩

theorem budget_no (st a b : Int) (w : World) (ha : 0 ≤ a) (hb : 0 ≤ b) (ha2 : a ≤ 100000000) (hb2 : b ≤ 100000000) (hs : st ≤ 2 * (a + b)) :
    Calls Ybad.prog 20 #[.int .i64 st, .int .i64 a, .int .i64 b] w fun e w' => e = .returned (.bool false) ∧ w' = w := by
  have hd : decide (2 * (a + b) < st) = false := by simp; omega
  go_enter Ybad.func20, Ybad.ntmps20
  go_wp2
  go_ret
  exact ⟨rfl, rfl⟩

/-- step: one step more, within the budget. -/
theorem step_any {L : Lay} {t : St} {w : World} (h : Pr L t w) (hs0 : 0 ≤ t.steps) (hs : t.steps + 1 ≤ 2 * ((L.s.size : Int) + (t.out.length : Int))) (hl : L.s.size ≤ 100000000) (ho : t.out.length ≤ 100000000) :
    Calls Ybad.prog 17 #[.pointer (some ⟨L.bR, 0, none⟩)] w fun e w' => e = .returned (.tuple #[]) ∧ Pr L { t with steps := t.steps + 1 } w' := by
  have H : Pr L { t with steps := t.steps + 1 } (w.setCell ⟨L.bR, 4, none⟩ (.int .i64 (t.steps + 1))) := h.store _ 4 _ rfl h.o h.pt
  have c0 : w.cell? ⟨L.bR, 0, none⟩ = some (.pointer (some ⟨L.bP, 0, none⟩)) := cells_at h.r 0
  have c1 : w.cell? ⟨L.bR, 1, none⟩ = some (.slice (some ⟨t.gO, 0, none⟩) t.out.length t.cO) := cells_at h.r 1
  have c4 : w.cell? ⟨L.bR, 4, none⟩ = some (.int .i64 t.steps) := cells_at h.r 4
  have f4 : w.frozen? ⟨L.bR, 4, none⟩ = false := free_at h.r 4
  have p0 : w.cell? ⟨L.bP, 0, none⟩ = some (.string L.s) := cells_at h.p 0
  have hne : L.bP ≠ L.bR := blk_ne h.p h.r (by decide)
  clear h
  go_enter Ybad.func17, Ybad.ntmps17
  go_wp2_with fail
  go_quiet ((go_at_call 20; exact Calls.quiet_of_same (budget_no _ _ _ _ (by omega) (by omega) (by omega) (by omega) (by omega))))
  go_wp2_with fail
  go_end0
  exact ⟨rfl, H.draws nq⟩

/-- write of the empty string: nothing turns. -/
theorem write_empty {L : Lay} {t : St} {w : World} (h : Pr L t w) (ho : t.out.length ≤ 1000000000) :
    Calls Ybad.prog 9 #[.pointer (some ⟨L.bR, 0, none⟩), .string ⟨#[]⟩] w fun e w' => e = .returned (.tuple #[]) ∧ Pr L t w' := by
  have c1 : w.cell? ⟨L.bR, 1, none⟩ = some (.slice (some ⟨t.gO, 0, none⟩) t.out.length t.cO) := cells_at h.r 1
  have c3 : w.cell? ⟨L.bR, 3, none⟩ = some (.int .i64 1073741824) := cells_at h.r 3
  have hd : decide ((1073741824 : Int) < (t.out.length : Int)) = false := by simp; omega
  go_enter Ybad.func9, Ybad.ntmps9
  go_wp2_with fail
  go_quiet (fail)
  go_wp2_with fail
  go_end0
  exact ⟨rfl, h.draws nq⟩


theorem isEmpty_no (s : ByteArray) (hs : 0 < s.size) : s.toList.isEmpty = false := by
  rw [ByteArray.toList_eq, List.isEmpty_eq_false_iff]
  intro h
  have : s.data.toList.length = 0 := by rw [h]; rfl
  rw [Array.length_toList] at this
  have h2 : s.data.size = s.size := rfl
  omega

theorem own_shape {w : World} {base e n : Nat} {v : Value} {xs : List Value} (h : w.ownsRow base e 1 v n xs) (hv : v ≠ .slice none 0 0) : ∃ g cap, v = .slice (some ⟨g, 0, none⟩) n cap := by
  rcases h.2 with ⟨hn, _⟩ | ⟨g, cap, _, hg, _⟩
  · exact absurd hn hv
  · exact ⟨g, cap, hg⟩

/-- WHAT LIES IN MEMORY BEHIND THE append, AHEAD OF THE TWO STORES. -/
theorem write_mid {L : Lay} {t : St} {w w1 : World} (h : Pr L t w) (hgrow : w.grownBy w1 (some t.gO)) :
    w1.heap[L.bR]? = some (.cells (prCells L t) 39 (0, 0)) ∧ w1.heap[L.bP]? = some (.cells (paCells L) 34 (0, 0)) ∧ w1.heap[L.gN]? = some (.cells L.nc 25 (0, 0)) ∧ w1.heap[L.gS]? = some (.cells L.sc 25 (0, 0)) ∧ Below L.B L.w0 w1 :=
  h.kept_blocks (e := 5) hgrow (fun g hg => by
    injection hg with hg
    subst hg
    exact ⟨(h.o.lt _ rfl).1, own_blk h.o rfl⟩) (by decide) (by decide) (by decide)

/-- .. AND BEHIND THEM. -/
theorem write_end {L : Lay} {t : St} {w w1 : World} (h : Pr L t w) (hgrow : w.grownBy w1 (some t.gO)) (s : ByteArray) (g cap : Nat) (x : Int)
    (hown : w1.ownsRow L.B 5 1 (.slice (some ⟨g, 0, none⟩) (t.out.length + s.size) cap) (t.out.length + s.size) (bcells t.out ++ Lib.strCells s)) :
    Pr L { t with gO := g, cO := cap, out := t.out ++ s.data.toList, last := x } ((w1.setCell ⟨L.bR, 1, none⟩ (.slice (some ⟨g, 0, none⟩) (t.out.length + s.size) cap)).setCell ⟨L.bR, 2, none⟩ (.int .u8 x)) := by
  obtain ⟨hr, hp, hn, hs, hb⟩ := write_mid h hgrow
  have hlen : (t.out ++ s.data.toList).length = t.out.length + s.size := by rw [List.length_append, Array.length_toList]; rfl
  have hcells : bcells (t.out ++ s.data.toList) = bcells t.out ++ Lib.strCells s := by simp [bcells, Lib.strCells]
  have hpt : w1.ownsRow L.B 27 1 t.pv t.path.length (t.path.map (Value.int .i32)) := by
    refine h.pt.kept hgrow ?_
    rcases hv : t.pv.ownBlock with _ | b
    · exact .inl rfl
    · refine .inr ?_
      obtain ⟨c1, h1⟩ := own_blk h.pt hv
      obtain ⟨c2, h2⟩ := own_blk h.o (g := t.gO) rfl
      intro e
      injection e with e
      exact blk_ne h1 h2 (by decide) e
  have hmid : Pr L { t with gO := g, cO := cap, out := t.out ++ s.data.toList } (w1.setCell ⟨L.bR, 1, none⟩ (.slice (some ⟨g, 0, none⟩) (t.out.length + s.size) cap)) :=
    { r := by rw [heap_setCell_same w1 L.bR 1 _ 39 _ hr]; simp only [prCells, hlen]; rfl
      p := by rw [Below.heap_setCell _ _ _ _ (by exact blk_ne hp hr (by decide))]; exact hp
      nn := by rw [Below.heap_setCell _ _ _ _ (by exact blk_ne hn hr (by decide))]; exact hn
      ss := by rw [Below.heap_setCell _ _ _ _ (by exact blk_ne hs hr (by decide))]; exact hs
      o := by
        refine own_setCell ?_ hr (by decide) 1 _
        show w1.ownsRow L.B 5 1 (.slice (some ⟨g, 0, none⟩) (t.out ++ s.data.toList).length cap) (t.out ++ s.data.toList).length (bcells (t.out ++ s.data.toList))
        rw [hlen, hcells]; exact hown
      pt := own_setCell hpt hr (by decide) 1 _
      bel := hb.setCell (p := ⟨L.bR, 1, none⟩) h.hR _
      hR := h.hR }
  exact hmid.store { t with gO := g, cO := cap, out := t.out ++ s.data.toList, last := x } 2 (.int .u8 x) rfl hmid.o hmid.pt

theorem last_byte (s : ByteArray) (hs : 0 < s.size) : (s[s.size - 1]'(by omega)) = s.data.toList.getLastD 0 := by
  have hsz : s.data.size = s.size := rfl
  have h1 : s[s.size - 1]'(by omega) = s.data.toList[s.size - 1]'(by rw [Array.length_toList]; omega) := rfl
  have hne : s.data.toList ≠ [] := by
    intro h
    have : s.data.toList.length = 0 := by rw [h]; rfl
    rw [Array.length_toList] at this
    omega
  rw [h1, List.getLastD_eq_getLast?, List.getLast?_eq_some_getLast hne, Option.getD_some, List.getLast_eq_getElem]
  congr 1

set_option maxRecDepth 100000 in
/-- write of a string that is not empty. -/
theorem write_some {L : Lay} {t : St} {w : World} (h : Pr L t w) (s : ByteArray) (hs : 0 < s.size) (ho : t.out.length + s.size ≤ 1000000000) :
    Calls Ybad.prog 9 #[.pointer (some ⟨L.bR, 0, none⟩), .string s] w fun e w' => e = .returned (.tuple #[]) ∧ ∃ gO cO, Pr L { t with gO := gO, cO := cO, out := t.out ++ s.data.toList, last := ((s.data.toList.getLastD 0).toNat : Int) } w' := by
  obtain ⟨i0, hi, hz0, hz1, hz2⟩ := info_parts Ybad.info5
  have c1 : w.cell? ⟨L.bR, 1, none⟩ = some (.slice (some ⟨t.gO, 0, none⟩) t.out.length t.cO) := cells_at h.r 1
  have c3 : w.cell? ⟨L.bR, 3, none⟩ = some (.int .i64 1073741824) := cells_at h.r 3
  have hd : decide ((1073741824 : Int) < (t.out.length : Int) + (s.size : Int)) = false := by simp; omega
  have hne : s.toList.isEmpty = false := isEmpty_no s hs
  have hsz : (0 : Int) < (s.size : Int) := by omega
  have H : Hid (Pr L t w) := h
  clear h
  go_enter Ybad.func9, Ybad.ntmps9
  go_wp2_with fail
  go_quiet (fail)
  have Hq : Hid (Pr L t (w.drewN nq)) := H.out.draws nq
  clear H
  go_wp2_with (at_builtin; refine Lib.wpList_append_own_string _ rfl (.tmp 25) (.tmp 26) 22 9 rfl L.B 5 i0 Ybad.underlying22 Ybad.underlying9 hi hz0 hz1 hz2 _ _ _ rfl Hq.out.o s rfl (by unfold maxLen; omega) (by omega) Hq.out.hB ?_)
  intro v' w1 hown hgrow hnil
  have hne' : v' ≠ .slice none 0 0 := fun e => by exact hnil e
  obtain ⟨g, cap, hv⟩ := own_shape hown hne'
  rw [hv] at hown ⊢
  have HE := fun x => write_end Hq.out hgrow s g cap x hown
  obtain ⟨hr, _, _, _, _⟩ := write_mid Hq.out hgrow
  have k1 : w1.cell? ⟨L.bR, 1, none⟩ = some (.slice (some ⟨t.gO, 0, none⟩) t.out.length t.cO) := cells_at hr 1
  have k2 : w1.cell? ⟨L.bR, 2, none⟩ = some (.int .u8 t.last) := cells_at hr 2
  have z1 : w1.frozen? ⟨L.bR, 1, none⟩ = false := free_at hr 1
  have z2 : w1.frozen? ⟨L.bR, 2, none⟩ = false := free_at hr 2
  clear Hq hown hgrow hnil hne' hv hr c1 c3 hne
  go_wp2_with fail
  go_end0
  exact ⟨rfl, g, cap, by rw [← last_byte s hs]; exact HE _⟩

/-- The byte written last, behind the bytes l. -/
def lastB (x : Int) (l : List UInt8) : Int := match l.getLast? with
  | none => x
  | some b => (b.toNat : Int)

theorem lastB_some (x : Int) (l : List UInt8) (h : l ≠ []) : lastB x l = ((l.getLastD 0).toNat : Int) := by
  unfold lastB
  rw [List.getLastD_eq_getLast?]
  cases hl : l.getLast? with
  | none => exact absurd (List.getLast?_eq_none_iff.1 hl) h
  | some b => rfl

/-- write, whatever the string. -/
theorem write_any {L : Lay} {t : St} {w : World} (h : Pr L t w) (s : ByteArray) (ho : t.out.length + s.size ≤ 1000000000) :
    Calls Ybad.prog 9 #[.pointer (some ⟨L.bR, 0, none⟩), .string s] w fun e w' => e = .returned (.tuple #[]) ∧ ∃ gO cO, Pr L { t with gO := gO, cO := cO, out := t.out ++ s.data.toList, last := lastB t.last s.data.toList } w' := by
  by_cases hs : s.size = 0
  · have hd : s.data = #[] := Array.eq_empty_of_size_eq_zero hs
    obtain rfl : s = ⟨#[]⟩ := by cases s; cases hd; rfl
    refine (write_empty h (by omega)).mono ?_
    rintro e w' ⟨rfl, h'⟩
    refine ⟨rfl, t.gO, t.cO, ?_⟩
    have e1 : ({ t with gO := t.gO, cO := t.cO, out := t.out ++ (#[] : Array UInt8).toList, last := lastB t.last (#[] : Array UInt8).toList } : St) = t := by cases t; simp [lastB]
    rw [e1]; exact h'
  · refine (write_some h s (by omega) ho).mono ?_
    rintro e w' ⟨rfl, gO, cO, h'⟩
    refine ⟨rfl, gO, cO, ?_⟩
    rw [lastB_some _ _ (by
      intro hh
      have := congrArg List.length hh
      rw [Array.length_toList] at this
      exact hs this)]
    exact h'
end Go.Proofs.YbulkexocqDoor
