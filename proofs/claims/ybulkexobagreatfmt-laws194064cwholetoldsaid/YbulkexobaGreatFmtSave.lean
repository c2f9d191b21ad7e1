/-
  savepointName, acceptKeywords.
-/
import Derived.Test.YbulkexobaGreatFmtSteps
import Derived.Deep.RegionHeld3
import Derived.BigRegion
namespace Go.Proofs.YbulkexobaGreatFmt
open Go.RowKit Go.Extern.Stop Go.Stop Go.Extern

def sSavepoint : ByteArray := ⟨#[115, 97, 118, 101, 112, 111, 105, 110, 116]⟩

set_option linter.unusedSimpArgs false in
set_option maxHeartbeats 4000000 in
/-- savepointName: the name itself -/
theorem spName_plain {L : Lay} {t : Tok} {ts : List Tok} {w : World} (h : At L (t :: ts) w) (ht : t.kind = 2) :
    Calls Ybaz.prog 46 #[.pointer (some ⟨L.p, 0, none⟩)] w fun e w' => e = .returned (.tuple #[.string t.val, .nilIface]) ∧ At L ts w' ∧ w.grownBy w' (some L.p) := by
  have hpk : ∀ w', w.grownBy w' none → Calls Ybaz.prog 16 #[.pointer (some ⟨L.p, 0, none⟩)] w' _ := fun w' hg => peek_any (h.later hg)
  have hkw : t.is 1 sSavepoint = false := by
    unfold Tok.is
    simp [ht]
  have hk : ∀ w, Calls Ybaz.prog 31 #[t.agg, .string ⟨#[115, 97, 118, 101, 112, 111, 105, 110, 116]⟩] w fun e w' => e = .returned (.bool false) ∧ w.grownBy w' none := fun w => by
    have := isKw_any t sSavepoint w
    rw [hkw] at this
    exact this
  have hnm := fun (w' : World) (hg : w.grownBy w' none) => name_quoted (h.later hg) ht
  have G0 : w.grownBy w.drew none := (grown_refl w none).drw
  clear hkw ht
  go_enter Ybaz.func46, Ybaz.ntmps46
  go_wp2_with fail
  refine wp_region_held_drew (S := fun w' => w.grownBy w' none) (by kernel_rfl) G0 (fun hHeld => ?_)
  refine wpAnyH_take (i := 0) (v := .pointer (some ⟨L.p, 0, none⟩)) rfl (by kernel_rfl) (by kernel_rfl) (by kernel_rfl) (fun _ _ _ h => h) (Or.inl ⟨by rfl, ?_⟩) hHeld ?_
  · intro w _; go_simp
  try simp only [Act.put, List.getElem_toArray, List.getElem_cons_zero, List.getElem_cons_succ, List.setIfInBounds_toArray, List.set_cons_zero, List.set_cons_succ]
  refine wpAnyH_ready (rs := [1]) (by kernel_rfl) (by simp) ?_
  refine AllReadyH.cons rfl (fun K hK => ?_) AllReadyH.nil
  go_simp
  go_at_call 16
  refine (hpk _ hHeld).mono ?_
  rintro e w1 ⟨rfl, hg1⟩
  have G1 := grown_trans G0 hg1
  refine hK.out _ _ G1 (fun hHeld => ?_)
  clear hK K
  try simp only [Act.put, List.getElem_toArray, List.getElem_cons_zero, List.getElem_cons_succ, List.setIfInBounds_toArray, List.set_cons_zero, List.set_cons_succ]
  refine wpAnyH_ready (rs := [2]) (by kernel_rfl) (by simp) ?_
  refine AllReadyH.cons rfl (fun K hK => ?_) AllReadyH.nil
  go_simp
  go_at_call 31
  refine (hk _).mono ?_
  rintro e w2 ⟨rfl, hg2⟩
  have G2 := grown_trans G1 hg2
  refine hK.out _ _ G2 (fun hHeld => ?_)
  clear hK K
  try simp only [Act.put, List.getElem_toArray, List.getElem_cons_zero, List.getElem_cons_succ, List.setIfInBounds_toArray, List.set_cons_zero, List.set_cons_succ]
  refine wpAnyH_take (i := 3) (v := .bool false) rfl (by kernel_rfl) (by kernel_rfl) (by kernel_rfl) (fun _ _ _ h => h) (Or.inl ⟨by rfl, ?_⟩) hHeld ?_
  · intro w _; go_simp
  try simp only [Act.put, List.getElem_toArray, List.getElem_cons_zero, List.getElem_cons_succ, List.setIfInBounds_toArray, List.set_cons_zero, List.set_cons_succ]
  refine wpAnyH_take (i := 4) (v := undef) rfl (by kernel_rfl) (by kernel_rfl) (by kernel_rfl) (fun _ _ _ h => h) (Or.inr ⟨by rfl, rfl⟩) hHeld ?_
  try simp only [Act.put, List.getElem_toArray, List.getElem_cons_zero, List.getElem_cons_succ, List.setIfInBounds_toArray, List.set_cons_zero, List.set_cons_succ]
  refine wpAnyH_take (i := 5) (v := undef) rfl (by kernel_rfl) (by kernel_rfl) (by kernel_rfl) (fun _ _ _ h => h) (Or.inr ⟨by rfl, rfl⟩) hHeld ?_
  try simp only [Act.put, List.getElem_toArray, List.getElem_cons_zero, List.getElem_cons_succ, List.setIfInBounds_toArray, List.set_cons_zero, List.set_cons_succ]
  refine wpAnyH_take (i := 6) (v := undef) rfl (by kernel_rfl) (by kernel_rfl) (by kernel_rfl) (fun _ _ _ h => h) (Or.inr ⟨by rfl, rfl⟩) hHeld ?_
  try simp only [Act.put, List.getElem_toArray, List.getElem_cons_zero, List.getElem_cons_succ, List.setIfInBounds_toArray, List.set_cons_zero, List.set_cons_succ]
  refine wpAnyH_take (i := 7) (v := undef) rfl (by kernel_rfl) (by kernel_rfl) (by kernel_rfl) (fun _ _ _ h => h) (Or.inr ⟨by rfl, rfl⟩) hHeld ?_
  try simp only [Act.put, List.getElem_toArray, List.getElem_cons_zero, List.getElem_cons_succ, List.setIfInBounds_toArray, List.set_cons_zero, List.set_cons_succ]
  refine wpAnyH_take (i := 8) (v := undef) rfl (by kernel_rfl) (by kernel_rfl) (by kernel_rfl) (fun _ _ _ h => h) (Or.inr ⟨by rfl, rfl⟩) hHeld ?_
  try simp only [Act.put, List.getElem_toArray, List.getElem_cons_zero, List.getElem_cons_succ, List.setIfInBounds_toArray, List.set_cons_zero, List.set_cons_succ]
  refine wpAnyH_take (i := 9) (v := undef) rfl (by kernel_rfl) (by kernel_rfl) (by kernel_rfl) (fun _ _ _ h => h) (Or.inr ⟨by rfl, rfl⟩) hHeld ?_
  try simp only [Act.put, List.getElem_toArray, List.getElem_cons_zero, List.getElem_cons_succ, List.setIfInBounds_toArray, List.set_cons_zero, List.set_cons_succ]
  refine wpAnyH_take (i := 10) (v := undef) rfl (by kernel_rfl) (by kernel_rfl) (by kernel_rfl) (fun _ _ _ h => h) (Or.inr ⟨by rfl, rfl⟩) hHeld ?_
  try simp only [Act.put, List.getElem_toArray, List.getElem_cons_zero, List.getElem_cons_succ, List.setIfInBounds_toArray, List.set_cons_zero, List.set_cons_succ]
  refine wpAnyH_take (i := 11) (v := undef) rfl (by kernel_rfl) (by kernel_rfl) (by kernel_rfl) (fun _ _ _ h => h) (Or.inr ⟨by rfl, rfl⟩) hHeld ?_
  try simp only [Act.put, List.getElem_toArray, List.getElem_cons_zero, List.getElem_cons_succ, List.setIfInBounds_toArray, List.set_cons_zero, List.set_cons_succ]
  refine wpAnyH_take (i := 12) (v := undef) rfl (by kernel_rfl) (by kernel_rfl) (by kernel_rfl) (fun _ _ _ h => h) (Or.inr ⟨by rfl, rfl⟩) hHeld ?_
  try simp only [Act.put, List.getElem_toArray, List.getElem_cons_zero, List.getElem_cons_succ, List.setIfInBounds_toArray, List.set_cons_zero, List.set_cons_succ]
  refine wpAnyH_take (i := 13) (v := undef) rfl (by kernel_rfl) (by kernel_rfl) (by kernel_rfl) (fun _ _ _ h => h) (Or.inr ⟨by rfl, rfl⟩) hHeld ?_
  try simp only [Act.put, List.getElem_toArray, List.getElem_cons_zero, List.getElem_cons_succ, List.setIfInBounds_toArray, List.set_cons_zero, List.set_cons_succ]
  refine wpAnyH_take (i := 14) (v := undef) rfl (by kernel_rfl) (by kernel_rfl) (by kernel_rfl) (fun _ _ _ h => h) (Or.inr ⟨by rfl, rfl⟩) hHeld ?_
  try simp only [Act.put, List.getElem_toArray, List.getElem_cons_zero, List.getElem_cons_succ, List.setIfInBounds_toArray, List.set_cons_zero, List.set_cons_succ]
  refine wpAnyH_take (i := 15) (v := undef) rfl (by kernel_rfl) (by kernel_rfl) (by kernel_rfl) (fun _ _ _ h => h) (Or.inr ⟨by rfl, rfl⟩) hHeld ?_
  try simp only [Act.put, List.getElem_toArray, List.getElem_cons_zero, List.getElem_cons_succ, List.setIfInBounds_toArray, List.set_cons_zero, List.set_cons_succ]
  refine wpAnyH_take (i := 16) (v := .bool false) rfl (by kernel_rfl) (by kernel_rfl) (by kernel_rfl) (fun _ _ _ h => h) (Or.inl ⟨by rfl, ?_⟩) hHeld ?_
  · intro w _; go_simp
  try simp only [Act.put, List.getElem_toArray, List.getElem_cons_zero, List.getElem_cons_succ, List.setIfInBounds_toArray, List.set_cons_zero, List.set_cons_succ]
  refine wpAnyH_done (by kernel_rfl) ?_ _
  go_wp2_with (go_at_call 44; refine (hnm _ G2).mono ?_; rintro e w3 ⟨rfl, h3, hg3⟩)
  go_ret2
  exact ⟨rfl, h3, grown_trans (grown_but G2 _) hg3⟩

/-- What a look at token j reads, of a world. -/
def Looks (L : Lay) (k j : Nat) (t : Tok) (w w' : World) : Prop :=
  (w'.cell? ⟨L.tb, j * 3, none⟩ = some (.int .i64 t.kind) ∧ w'.cell? ⟨L.tb, j * 3 + 1, none⟩ = some (.string t.text) ∧ w'.cell? ⟨L.tb, j * 3 + 2, none⟩ = some (.string t.val)) ∧
    w'.cell? ⟨L.p, 0, none⟩ = some (.slice (some ⟨L.tb, 0, none⟩) L.all.length L.cap) ∧ w'.cell? ⟨L.p, 1, none⟩ = some (.int .i64 k) ∧ w.grownBy w' none
theorem looks {L : Lay} {k j : Nat} {t : Tok} {w : World} (h : AtK L k w) (ht : L.all[j]? = some t) {w' : World} (hg : w.grownBy w' none) : Looks L k j t w w' :=
  ⟨(h.later hg).tok ht, cells_at (h.later hg).p 0, cells_at (h.later hg).p 1, hg⟩

set_option linter.unusedSimpArgs false in
set_option maxHeartbeats 4000000 in
/-- savepointName: behind the word savepoint -/
theorem spName_word {L : Lay} {u t : Tok} {ts : List Tok} {w : World} (h : At L (u :: t :: ts) w) (hu : u.is 1 sSavepoint = true) (ht : t.kind = 2) :
    Calls Ybaz.prog 46 #[.pointer (some ⟨L.p, 0, none⟩)] w fun e w' => e = .returned (.tuple #[.string t.val, .nilIface]) ∧ At L ts w' ∧ w.grownBy w' (some L.p) := by
  have hpk : ∀ w', w.grownBy w' none → Calls Ybaz.prog 16 #[.pointer (some ⟨L.p, 0, none⟩)] w' _ := fun w' hg => peek_any (h.later hg)
  have hk : ∀ w, Calls Ybaz.prog 31 #[u.agg, .string ⟨#[115, 97, 118, 101, 112, 111, 105, 110, 116]⟩] w fun e w' => e = .returned (.bool true) ∧ w.grownBy w' none := fun w => by
    have := isKw_any u sSavepoint w
    rw [hu] at this
    exact this
  have hnm := fun {w' : World} (h : At L (t :: ts) w') => name_quoted h ht
  have hin := fun w => isName_quoted t w ht
  unfold Tok.agg at hin
  obtain ⟨k, hdr, h⟩ := h
  obtain ⟨hku, hdr1, hlt⟩ := drop_head hdr
  obtain ⟨hkt, hts, hlt1⟩ := drop_head hdr1
  have hall := h.n
  have hlt' : ((k : Int) + 1) < (L.all.length : Int) := by omega
  have hwr : IntKind.i64.wrap ((k : Int) + 1) = (k : Int) + 1 := by
    rw [IntKind.wrap_i64]
    omega
  have hnn : (0 : Int) ≤ (k : Int) + 1 := by omega
  have htn : ((k : Int) + 1).toNat = k + 1 := by omega
  have hS : ∀ w', w.grownBy w' none → _ := fun w' hg => looks h hkt hg
  have hB : Hid (AtK L k w) := h
  unfold Looks at hS
  have G0 : w.grownBy w.drew none := (grown_refl w none).drw
  clear hu ht h
  go_enter Ybaz.func46, Ybaz.ntmps46
  go_wp2_with fail
  go_region_held3 (fun w' => (w'.cell? ⟨L.tb, (k + 1) * 3, none⟩ = some (.int .i64 t.kind) ∧ w'.cell? ⟨L.tb, (k + 1) * 3 + 1, none⟩ = some (.string t.text) ∧ w'.cell? ⟨L.tb, (k + 1) * 3 + 2, none⟩ = some (.string t.val)) ∧
    w'.cell? ⟨L.p, 0, none⟩ = some (.slice (some ⟨L.tb, 0, none⟩) L.all.length L.cap) ∧ w'.cell? ⟨L.p, 1, none⟩ = some (.int .i64 k) ∧ w.grownBy w' none) (exact hS _ (by assumption)) (first
    | (go_at_call 16; refine (hpk _ (by assumption)).mono ?_; rintro e w1 ⟨rfl, hg1⟩; have G1 := grown_trans G0 hg1)
    | (go_at_call 31; refine (hk _).mono ?_; rintro e w2 ⟨rfl, hg2⟩; have G2 := grown_trans G1 hg2)
    | (go_at_call 78; refine (hin _).mono ?_; rintro e w3 ⟨rfl, hg3⟩; have G3 := grown_trans G2 hg3))
  have c1 := (At.cells (hB.out.later G3)).1
  have f1 := (At.cells (hB.out.later G3)).2
  have hA : At L (t :: ts) (w3.setCell ⟨L.p, 1, none⟩ (.int .i64 ((k : Int) + 1))) := ⟨k + 1, hdr1, by exact (hB.out.later G3).move (k + 1)⟩
  have hnm' := hnm hA
  clear hnm hA hS
  go_wp2_with (go_at_call 44; refine hnm'.mono ?_; rintro e w4 ⟨rfl, h4, hg4⟩)
  go_ret2
  exact ⟨rfl, h4, grown_trans ((grown_but G3 _).set _ _ (.inl rfl)) hg4⟩

end Go.Proofs.YbulkexobaGreatFmt
