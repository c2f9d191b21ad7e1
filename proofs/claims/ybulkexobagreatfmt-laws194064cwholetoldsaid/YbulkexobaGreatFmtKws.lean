/-
  acceptKeywords("if", "exists").
-/
import Derived.Test.YbulkexobaGreatFmtSave
import Derived.LoopN
namespace Go.Proofs.YbulkexobaGreatFmt
open Go.RowKit Go.Extern.Stop Go.Stop Go.Extern

def sIf : ByteArray := ⟨#[105, 102]⟩
def sExists : ByteArray := ⟨#[101, 120, 105, 115, 116, 115]⟩

theorem blk_later {w w' : World} {b : Nat} {o : Obj} (h : w.heap[b]? = some o) (hg : w.grownBy w' none) : w'.heap[b]? = some o :=
  (hg.block _ (Array.getElem?_eq_some_iff.1 h).1 (by simp)).trans h
theorem blk_later' {w w' : World} {b p : Nat} {o : Obj} (h : w.heap[b]? = some o) (hg : w.grownBy w' (some p)) (hne : b ≠ p) : w'.heap[b]? = some o :=
  (hg.block _ (Array.getElem?_eq_some_iff.1 h).1 (by simpa using hne)).trans h

set_option linter.unusedSimpArgs false in
set_option maxHeartbeats 4000000 in
/-- not there -/
theorem kws_no {L : Lay} {t : Tok} {ts : List Tok} {w : World} (h : At L (t :: ts) w) (ht : t.kind ≠ 1) (kb : Nat) (hkb : w.heap[kb]? = some (.cells #[.string sIf, .string sExists] 9 (0, 0))) :
    Calls Ybaz.prog 60 #[.pointer (some ⟨L.p, 0, none⟩), .slice (some ⟨kb, 0, none⟩) 2 2] w fun e w' => e = .returned (.bool false) ∧ w.grownBy w' none := by
  have hk : ∀ w, Calls Ybaz.prog 31 #[t.agg, .string sIf] w fun e w' => e = .returned (.bool false) ∧ w.grownBy w' none := fun w => by
    have := isKw_any t sIf w
    rw [show t.is 1 sIf = false by unfold Tok.is; simp [ht]] at this
    exact this
  unfold Tok.agg at hk
  obtain ⟨k, hdr, h⟩ := h
  obtain ⟨hkt, hdr1, hlt⟩ := drop_head hdr
  have hall := h.n
  have hlt' : (k : Int) < (L.all.length : Int) := by omega
  have hwr : IntKind.i64.wrap (k : Int) = (k : Int) := by
    rw [IntKind.wrap_i64]
    omega
  have hS : ∀ w', w.grownBy w' none → _ := fun w' hg => looks h hkt hg
  unfold Looks at hS
  have b0 : w.cell? ⟨kb, 0, none⟩ = some (.string sIf) := cells_at hkb 0
  have G0 : w.grownBy w.drew none := (grown_refl w none).drw
  clear ht h
  go_enter Ybaz.func60, Ybaz.ntmps60
  go_wp2_with fail
  refine wp_loop_rounds 1 ?_
  rw [rounds_succ]
  go_wp2_with fail
  go_region_held3 (fun w' => (w'.cell? ⟨L.tb, k * 3, none⟩ = some (.int .i64 t.kind) ∧ w'.cell? ⟨L.tb, k * 3 + 1, none⟩ = some (.string t.text) ∧ w'.cell? ⟨L.tb, k * 3 + 2, none⟩ = some (.string t.val)) ∧
    w'.cell? ⟨L.p, 0, none⟩ = some (.slice (some ⟨L.tb, 0, none⟩) L.all.length L.cap) ∧ w'.cell? ⟨L.p, 1, none⟩ = some (.int .i64 k) ∧ w.grownBy w' none) (exact hS _ (by assumption)) (first
    | (go_at_call 31; refine (hk _).mono ?_; rintro e w2 ⟨rfl, hg2⟩; have G2 := grown_trans G0 hg2))
  go_wp2_with fail
  go_ret
  exact ⟨rfl, G2⟩

set_option linter.unusedSimpArgs false in
set_option maxHeartbeats 4000000 in
/-- there -/
theorem kws_yes {L : Lay} {t u : Tok} {ts : List Tok} {w : World} (h : At L (t :: u :: ts) w) (ht : t.is 1 sIf = true) (hu : u.is 1 sExists = true) (kb : Nat) (hkb : w.heap[kb]? = some (.cells #[.string sIf, .string sExists] 9 (0, 0))) :
    Calls Ybaz.prog 60 #[.pointer (some ⟨L.p, 0, none⟩), .slice (some ⟨kb, 0, none⟩) 2 2] w fun e w' => e = .returned (.bool true) ∧ At L ts w' ∧ w.grownBy w' (some L.p) := by
  have hk : ∀ w, Calls Ybaz.prog 31 #[t.agg, .string sIf] w fun e w' => e = .returned (.bool true) ∧ w.grownBy w' none := fun w => by
    have := isKw_any t sIf w
    rw [ht] at this
    exact this
  have hk2 : ∀ w, Calls Ybaz.prog 31 #[u.agg, .string sExists] w fun e w' => e = .returned (.bool true) ∧ w.grownBy w' none := fun w => by
    have := isKw_any u sExists w
    rw [hu] at this
    exact this
  unfold Tok.agg at hk hk2
  obtain ⟨k, hdr, h⟩ := h
  obtain ⟨hkt, hdr1, hlt⟩ := drop_head hdr
  obtain ⟨hku, hts, hlt1⟩ := drop_head hdr1
  have hall := h.n
  have hlt' : (k : Int) < (L.all.length : Int) := by omega
  have hlt'' : (k : Int) + 1 < (L.all.length : Int) := by omega
  have hwr : IntKind.i64.wrap (k : Int) = (k : Int) := by
    rw [IntKind.wrap_i64]
    omega
  have hwr1 : IntKind.i64.wrap ((k : Int) + 1) = (k : Int) + 1 := by
    rw [IntKind.wrap_i64]
    omega
  have hnn : (0 : Int) ≤ (k : Int) + 1 := by omega
  have htn : ((k : Int) + 1).toNat = k + 1 := by omega
  have hS : ∀ w', w.grownBy w' none → _ := fun w' hg => looks h hkt hg
  have hS2 : ∀ w', w.grownBy w' none → _ := fun w' hg => looks h hku hg
  have hB : Hid (AtK L k w) := h
  unfold Looks at hS hS2
  have b0 : w.cell? ⟨kb, 0, none⟩ = some (.string sIf) := cells_at hkb 0
  have G0 : w.grownBy w.drew none := (grown_refl w none).drw
  clear ht hu h
  go_enter Ybaz.func60, Ybaz.ntmps60
  go_wp2_with fail
  refine wp_loop_rounds 3 ?_
  rw [rounds_succ]
  go_wp2_with fail
  go_region_held3 (fun w' => (w'.cell? ⟨L.tb, k * 3, none⟩ = some (.int .i64 t.kind) ∧ w'.cell? ⟨L.tb, k * 3 + 1, none⟩ = some (.string t.text) ∧ w'.cell? ⟨L.tb, k * 3 + 2, none⟩ = some (.string t.val)) ∧
    w'.cell? ⟨L.p, 0, none⟩ = some (.slice (some ⟨L.tb, 0, none⟩) L.all.length L.cap) ∧ w'.cell? ⟨L.p, 1, none⟩ = some (.int .i64 k) ∧ w.grownBy w' none) (exact hS _ (by assumption)) (first
    | (go_at_call 31; refine (hk _).mono ?_; rintro e w2 ⟨rfl, hg2⟩; have G2 := grown_trans G0 hg2))
  go_wp2_with fail
  have b1 : w2.cell? ⟨kb, 1, none⟩ = some (.string sExists) := cells_at (blk_later hkb G2) 1
  clear hS b0
  have G2' : w.grownBy w2.drew none := G2.drw
  rw [rounds_succ]
  go_wp2_with fail
  go_region_held3 (fun w' => (w'.cell? ⟨L.tb, (k + 1) * 3, none⟩ = some (.int .i64 u.kind) ∧ w'.cell? ⟨L.tb, (k + 1) * 3 + 1, none⟩ = some (.string u.text) ∧ w'.cell? ⟨L.tb, (k + 1) * 3 + 2, none⟩ = some (.string u.val)) ∧
    w'.cell? ⟨L.p, 0, none⟩ = some (.slice (some ⟨L.tb, 0, none⟩) L.all.length L.cap) ∧ w'.cell? ⟨L.p, 1, none⟩ = some (.int .i64 k) ∧ w.grownBy w' none) (exact hS2 _ (by assumption)) (first
    | (go_at_call 31; refine (hk2 _).mono ?_; rintro e w3 ⟨rfl, hg3⟩; have G3 := grown_trans G2' hg3))
  have c1 := (At.cells (hB.out.later G3)).1
  have f1 := (At.cells (hB.out.later G3)).2
  clear hS2
  go_wp2_with fail
  rw [rounds_succ]
  go_wp2_with fail
  go_ret
  exact ⟨rfl, ⟨k + 2, hts, by exact (hB.out.later G3).move (k + 2)⟩, (grown_but G3 _).set _ _ (.inl rfl)⟩

end Go.Proofs.YbulkexobaGreatFmt
