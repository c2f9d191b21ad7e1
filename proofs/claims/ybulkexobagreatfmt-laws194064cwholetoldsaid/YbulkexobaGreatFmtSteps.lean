/-
  THE PARSER's SMALL STEPS: next, acceptKeyword, acceptOp, expectKeyword, expectOp, transactionWord, isName, name.
-/
import Derived.Test.YbulkexobaGreatFmtErrs
namespace Go.Proofs.YbulkexobaGreatFmt
open Go.RowKit Go.Extern.Stop Go.Stop Go.Extern

theorem At.cells {L : Lay} {k : Nat} {w : World} (h : AtK L k w) : w.cell? ⟨L.p, 1, none⟩ = some (.int .i64 k) ∧ w.frozen? ⟨L.p, 1, none⟩ = false := ⟨cells_at h.p 1, free_at h.p 1⟩

/-- The five cells that a look at token k reads. -/
theorem look {L : Lay} {k : Nat} {w : World} (h : AtK L k w) {t : Tok} (hkt : L.all[k]? = some t) :
    w.cell? ⟨L.tb, k * 3, none⟩ = some (.int .i64 t.kind) ∧ w.cell? ⟨L.tb, k * 3 + 1, none⟩ = some (.string t.text) ∧ w.cell? ⟨L.tb, k * 3 + 2, none⟩ = some (.string t.val) ∧
    w.cell? ⟨L.p, 0, none⟩ = some (.slice (some ⟨L.tb, 0, none⟩) L.all.length L.cap) ∧ w.cell? ⟨L.p, 1, none⟩ = some (.int .i64 k) ∧ w.frozen? ⟨L.p, 1, none⟩ = false :=
  ⟨(h.tok hkt).1, (h.tok hkt).2.1, (h.tok hkt).2.2, cells_at h.p 0, cells_at h.p 1, free_at h.p 1⟩

/-- next, not at the end -/
theorem next_any {L : Lay} {t : Tok} {ts : List Tok} {w : World} (h : At L (t :: ts) w) (ht : t.kind ≠ 0) :
    Calls Ybaz.prog 30 #[.pointer (some ⟨L.p, 0, none⟩)] w fun e w' => e = .returned t.agg ∧ At L ts w' ∧ w.grownBy w' (some L.p) := by
  obtain ⟨k, hk, h⟩ := h
  obtain ⟨hkt, hts, hlt⟩ := drop_head hk
  have hall := h.n
  have l1 := fun o => (look (h.later (World.grownBy_alloc w o none)) hkt).1
  have l2 := fun o => (look (h.later (World.grownBy_alloc w o none)) hkt).2.1
  have l3 := fun o => (look (h.later (World.grownBy_alloc w o none)) hkt).2.2.1
  have l4 := fun o => (look (h.later (World.grownBy_alloc w o none)) hkt).2.2.2.1
  have l5 := fun o => (look (h.later (World.grownBy_alloc w o none)) hkt).2.2.2.2.1
  have m1 := fun o o' => (look (h.later (((grown_refl w none).alc o).alc o')) hkt).1
  have m2 := fun o o' => (look (h.later (((grown_refl w none).alc o).alc o')) hkt).2.1
  have m3 := fun o o' => (look (h.later (((grown_refl w none).alc o).alc o')) hkt).2.2.1
  have m4 := fun o o' => (look (h.later (((grown_refl w none).alc o).alc o')) hkt).2.2.2.1
  have m5 := fun o o' => (look (h.later (((grown_refl w none).alc o).alc o')) hkt).2.2.2.2.1
  have m6 := fun o o' => (look (h.later (((grown_refl w none).alc o).alc o')) hkt).2.2.2.2.2
  have hlt' : (k : Int) < (L.all.length : Int) := by omega
  have hp : L.p < w.heap.size := (Array.getElem?_eq_some_iff.1 h.p).1
  have hB : Hid (AtK L k w) := h
  clear h hk
  go_enter Ybaz.func30, Ybaz.ntmps30
  go_wp2_with fail
  go_region
  go_wp2_with fail
  refine bodyPost_ret (v := t.agg) (by simp [results, Ybaz.results30, go_sem, Tok.agg]) rfl ⟨rfl, ⟨k + 1, hts, ?_⟩, ?_⟩
  · exact (hB.out.move (k + 1)).later (((grown_refl _ none).alc _).alc _).drw
  · exact ((((grown_refl w _).set _ _ (.inl rfl)).alc _).alc _).drw

/-- acceptKeyword -/
theorem acceptKw {L : Lay} {t : Tok} {ts : List Tok} {w : World} (h : At L (t :: ts) w) (s : ByteArray) (b : Bool) (hb : t.is 1 s = b) :
    Calls Ybaz.prog 41 #[.pointer (some ⟨L.p, 0, none⟩), .string s] w fun e w' => e = .returned (.bool b) ∧ At L (bif b then ts else t :: ts) w' ∧ w.grownBy w' (some L.p) := by
  have hpk := peek_any h
  obtain ⟨k, hk, h⟩ := h
  obtain ⟨hkt, hts, hlt⟩ := drop_head hk
  have hn := h.n
  have hB : Hid (AtK L k w) := h
  clear h
  go_enter Ybaz.func41, Ybaz.ntmps41
  go_wp2_with (first
    | (go_at_call 16; refine hpk.mono ?_; rintro e w1 ⟨rfl, hg1⟩)
    | (go_at_call 31; refine (isKw_any t s _).mono ?_; rintro e w2 ⟨rfl, hg2⟩; rw [hb]; have hA2 : AtK L k w2 := hB.out.later (grown_trans hg1 hg2); have c1 := (At.cells hA2).1; have f1 := (At.cells hA2).2; clear hb hA2; cases b))
  · go_ret
    exact ⟨rfl, ⟨k, hk, hB.out.later (grown_trans hg1 hg2)⟩, grown_but (grown_trans hg1 hg2) _⟩
  · go_ret
    exact ⟨rfl, ⟨k + 1, hts, by exact (hB.out.later (grown_trans hg1 hg2)).move (k + 1)⟩, (grown_but (grown_trans hg1 hg2) _).set _ _ (.inl rfl)⟩

/-- acceptOp -/
theorem acceptOp {L : Lay} {t : Tok} {ts : List Tok} {w : World} (h : At L (t :: ts) w) (s : ByteArray) (b : Bool) (hb : t.is 6 s = b) :
    Calls Ybaz.prog 15 #[.pointer (some ⟨L.p, 0, none⟩), .string s] w fun e w' => e = .returned (.bool b) ∧ At L (bif b then ts else t :: ts) w' ∧ w.grownBy w' (some L.p) := by
  have hpk := peek_any h
  obtain ⟨k, hk, h⟩ := h
  obtain ⟨hkt, hts, hlt⟩ := drop_head hk
  have hn := h.n
  have hB : Hid (AtK L k w) := h
  clear h
  go_enter Ybaz.func15, Ybaz.ntmps15
  go_wp2_with (first
    | (go_at_call 16; refine hpk.mono ?_; rintro e w1 ⟨rfl, hg1⟩)
    | (go_at_call 48; refine (is_any t 6 s _).mono ?_; rintro e w2 ⟨rfl, hg2⟩; rw [hb]; have hA2 : AtK L k w2 := hB.out.later (grown_trans hg1 hg2); have c1 := (At.cells hA2).1; have f1 := (At.cells hA2).2; clear hb hA2; cases b))
  · go_ret
    exact ⟨rfl, ⟨k, hk, hB.out.later (grown_trans hg1 hg2)⟩, grown_but (grown_trans hg1 hg2) _⟩
  · go_ret
    exact ⟨rfl, ⟨k + 1, hts, by exact (hB.out.later (grown_trans hg1 hg2)).move (k + 1)⟩, (grown_but (grown_trans hg1 hg2) _).set _ _ (.inl rfl)⟩

/-- expectKeyword, where it stands -/
theorem expectKw {L : Lay} {t : Tok} {ts : List Tok} {w : World} (h : At L (t :: ts) w) (s : ByteArray) (hb : t.is 1 s = true) :
    Calls Ybaz.prog 40 #[.pointer (some ⟨L.p, 0, none⟩), .string s] w fun e w' => e = .returned .nilIface ∧ At L ts w' ∧ w.grownBy w' (some L.p) := by
  go_enter Ybaz.func40, Ybaz.ntmps40
  go_wp2_with (go_at_call 41; refine (acceptKw h s true hb).mono ?_; rintro e w1 ⟨rfl, h1, hg1⟩)
  go_ret
  exact ⟨rfl, h1, hg1⟩

/-- expectOp, where it stands -/
theorem expectOp {L : Lay} {t : Tok} {ts : List Tok} {w : World} (h : At L (t :: ts) w) (s : ByteArray) (hb : t.is 6 s = true) :
    Calls Ybaz.prog 76 #[.pointer (some ⟨L.p, 0, none⟩), .string s] w fun e w' => e = .returned .nilIface ∧ At L ts w' ∧ w.grownBy w' (some L.p) := by
  go_enter Ybaz.func76, Ybaz.ntmps76
  go_wp2_with (go_at_call 15; refine (acceptOp h s true hb).mono ?_; rintro e w1 ⟨rfl, h1, hg1⟩)
  go_ret
  exact ⟨rfl, h1, hg1⟩

def sWork : ByteArray := ⟨#[119, 111, 114, 107]⟩
def sTransaction : ByteArray := ⟨#[116, 114, 97, 110, 115, 97, 99, 116, 105, 111, 110]⟩

/-- transactionWord: the first word -/
theorem tword1 {L : Lay} {t : Tok} {ts : List Tok} {w : World} (h : At L (t :: ts) w) (hb : t.is 1 sWork = true) :
    Calls Ybaz.prog 38 #[.pointer (some ⟨L.p, 0, none⟩)] w fun e w' => e = .returned (.tuple #[]) ∧ At L ts w' ∧ w.grownBy w' (some L.p) := by
  go_enter Ybaz.func38, Ybaz.ntmps38
  go_wp2_with (go_at_call 41; refine (acceptKw h _ true hb).mono ?_; rintro e w1 ⟨rfl, h1, hg1⟩)
  go_end0
  exact ⟨rfl, h1, hg1⟩
/-- .. the second word, or none -/
theorem tword2 {L : Lay} {t : Tok} {ts : List Tok} {w : World} (h : At L (t :: ts) w) (hb : t.is 1 sWork = false) (b : Bool) (hb2 : t.is 1 sTransaction = b) :
    Calls Ybaz.prog 38 #[.pointer (some ⟨L.p, 0, none⟩)] w fun e w' => e = .returned (.tuple #[]) ∧ At L (bif b then ts else t :: ts) w' ∧ w.grownBy w' (some L.p) := by
  go_enter Ybaz.func38, Ybaz.ntmps38
  go_wp2_with (first
    | (go_at_call 41; refine (acceptKw h _ false hb).mono ?_; rintro e w1 ⟨rfl, h1, hg1⟩; clear h)
    | (go_at_call 41; refine (acceptKw h1 _ b hb2).mono ?_; rintro e w2 ⟨rfl, h2, hg2⟩))
  go_end0
  exact ⟨rfl, h2, grown_trans hg1 hg2⟩

/-- isName: a quoted name -/
theorem isName_quoted (t : Tok) (w : World) (h : t.kind = 2) :
    Calls Ybaz.prog 78 #[t.agg] w fun e w' => e = .returned (.bool true) ∧ w.grownBy w' none := by
  unfold Tok.agg
  go_enter Ybaz.func78, Ybaz.ntmps78
  go_wp2_with fail
  go_ret
  exact ⟨rfl, World.grownBy_alloc _ _ _⟩
/-- .. no name at all -/
theorem isName_not (t : Tok) (w : World) (h : t.kind ≠ 2) (h1 : t.kind ≠ 1) :
    Calls Ybaz.prog 78 #[t.agg] w fun e w' => e = .returned (.bool false) ∧ w.grownBy w' none := by
  unfold Tok.agg
  have hq : (t.kind == 2) = false := beq_eq_false_iff_ne.2 h
  have hq1 : (t.kind == 1) = false := beq_eq_false_iff_ne.2 h1
  go_enter Ybaz.func78, Ybaz.ntmps78
  go_wp2_with fail
  go_ret
  exact ⟨rfl, World.grownBy_alloc _ _ _⟩

/-- name: a quoted name -/
theorem name_quoted {L : Lay} {t : Tok} {ts : List Tok} {w : World} (h : At L (t :: ts) w) (ht : t.kind = 2) :
    Calls Ybaz.prog 44 #[.pointer (some ⟨L.p, 0, none⟩)] w fun e w' => e = .returned (.tuple #[.string t.val, .nilIface]) ∧ At L ts w' ∧ w.grownBy w' (some L.p) := by
  have hpk := peek_any h
  have hnm := fun w => isName_quoted t w ht
  clear ht
  unfold Tok.agg at hpk hnm
  obtain ⟨k, hk, h⟩ := h
  obtain ⟨hkt, hts, hlt⟩ := drop_head hk
  have hn := h.n
  have hB : Hid (AtK L k w) := h
  clear h
  go_enter Ybaz.func44, Ybaz.ntmps44
  go_wp2_with (first
    | (go_at_call 16; refine hpk.mono ?_; rintro e w1 ⟨rfl, hg1⟩)
    | (go_at_call 78; refine (hnm _).mono ?_; rintro e w2 ⟨rfl, hg2⟩; have hg := grown_trans (hg1.alc _) hg2; have hA2 : AtK L k w2 := hB.out.later hg; have c1 := (At.cells hA2).1; have f1 := (At.cells hA2).2; have n0 := hg2.cell (a := ⟨w1.heap.size, 2, none⟩) (v := .string t.val) (by simp [go_sem]) (by simp); clear hA2))
  go_ret2
  exact ⟨rfl, ⟨k + 1, hts, by exact (hB.out.later hg).move (k + 1)⟩, (grown_but hg _).set _ _ (.inl rfl)⟩

/-- .. none -/
theorem name_not (F : Interp) {L : Lay} {t : Tok} {ts : List Tok} {w : World} (h : At L (t :: ts) w) (hF : F.answers w.tape) (ht : t.kind ≠ 2) (ht1 : t.kind ≠ 1) :
    Calls Ybaz.prog 44 #[.pointer (some ⟨L.p, 0, none⟩)] w fun e w' => ∃ v, e = .returned (.tuple #[.string ⟨#[]⟩, v]) ∧ IsErr v ∧ w.grownBy w' none := by
  have hpk := peek_any h
  have hnm := fun w => isName_not t w ht ht1
  have hse := fun w hF => syntaxError_any F t w hF
  clear ht ht1
  unfold Tok.agg at hpk hnm hse
  go_enter Ybaz.func44, Ybaz.ntmps44
  go_wp2_with (first
    | (go_at_call 16; refine hpk.mono ?_; rintro e w1 ⟨rfl, hg1⟩)
    | (go_at_call 78; refine (hnm _).mono ?_; rintro e w2 ⟨rfl, hg2⟩; have hg := grown_trans (hg1.alc _) hg2; have n0 := hg2.cell (a := ⟨w1.heap.size, 0, none⟩) (v := .int .i64 t.kind) (by simp [go_sem]) (by simp); have n1 := hg2.cell (a := ⟨w1.heap.size, 1, none⟩) (v := .string t.text) (by simp [go_sem]) (by simp); have n2 := hg2.cell (a := ⟨w1.heap.size, 2, none⟩) (v := .string t.val) (by simp [go_sem]) (by simp))
    | (go_at_call 17; refine (hse _ (by rw [hg.tape]; exact hF)).mono ?_; rintro e w3 ⟨v, rfl, hv, hg3⟩))
  go_ret2
  exact ⟨v, rfl, hv, grown_trans hg hg3⟩

end Go.Proofs.YbulkexobaGreatFmt
