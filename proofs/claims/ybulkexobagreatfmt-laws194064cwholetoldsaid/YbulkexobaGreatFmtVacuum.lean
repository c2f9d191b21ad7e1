/-
  vacuum.
-/
import Derived.Test.YbulkexobaGreatFmtKinds
namespace Go.Proofs.YbulkexobaGreatFmt
open Go.RowKit Go.Extern.Stop Go.Stop Go.Extern

def frToks (up fr : Bool) : List Tok := if fr then [kwt up sFreeze] else []
theorem fr_kw {L : Lay} {t : Tok} {ts : List Tok} {w : World} (up fr : Bool) (h : At L (frToks up fr ++ t :: ts) w) (ht : t.kind ≠ 1) :
    Calls Ybaz.prog 41 #[.pointer (some ⟨L.p, 0, none⟩), .string ⟨#[102, 114, 101, 101, 122, 101]⟩] w fun e w' => e = .returned (.bool fr) ∧ At L (t :: ts) w' ∧ w.grownBy w' (some L.p) := by
  cases fr
  · exact acceptKw (t := t) (ts := ts) h sFreeze false (by unfold Tok.is; simp [ht])
  · exact acceptKw (t := kwt up sFreeze) (ts := t :: ts) h sFreeze true (by rw [kwt_is]; decide)

set_option maxHeartbeats 1000000 in
/-- vacuum, nothing behind it -/
theorem vacuum_bare {L : Lay} {t : Tok} {ts : List Tok} {w : World} (up fr : Bool) (h : At L (frToks up fr ++ t :: ts) w) (ht : t.kind = 0 ∨ t.kind = 6 ∧ t.val = sSemi) :
    Calls Ybaz.prog 47 #[.pointer (some ⟨L.p, 0, none⟩)] w (Good L w 47 49 #[.bool fr, .string ⟨#[]⟩] (t :: ts)) := by
  have hk := fr_kw up fr h (by rcases ht with ht | ht <;> omega)
  have hpk := fun {w : World} (h : At L (t :: ts) w) => peek_any h
  unfold Tok.agg at hpk
  clear h
  rcases ht with ht | ⟨ht, hs⟩
  · rw [ht] at hpk
    go_enter Ybaz.func47, Ybaz.ntmps47
    go_wp2_with (first
      | (go_at_call 41; refine hk.mono ?_; rintro e w1 ⟨rfl, h1, hg1⟩; clear hk)
      | (go_at_call 16; refine (hpk (h1.later ((grown_refl w1 none).alc _))).mono ?_; rintro e w2 ⟨rfl, hg2⟩))
    go_ret2
    refine ⟨_, rfl, ⟨_, rfl, ?_⟩, h1.later ((grown_trans ((grown_refl w1 none).alc _) hg2).alc _), (grown_trans (hg1.alc _) (grown_but hg2 _)).alc _⟩
    exact blk_later (heap_alloc_new _ _) (hg2.alc _)
  · rw [ht, hs] at hpk
    have hq : (sSemi.toList == [59]) = true := by rw [ByteArray.toList_eq]; decide
    go_enter Ybaz.func47, Ybaz.ntmps47
    go_wp2_with (first
      | (go_at_call 41; refine hk.mono ?_; rintro e w1 ⟨rfl, h1, hg1⟩; clear hk)
      | (go_at_call 16; refine (hpk (h1.later ((grown_refl w1 none).alc _))).mono ?_; rintro e w2 ⟨rfl, hg2⟩))
    go_ret2
    refine ⟨_, rfl, ⟨_, rfl, ?_⟩, h1.later ((grown_trans ((grown_refl w1 none).alc _) hg2).alc _), (grown_trans (hg1.alc _) (grown_but hg2 _)).alc _⟩
    exact blk_later (heap_alloc_new _ _) (hg2.alc _)

set_option maxHeartbeats 1000000 in
/-- vacuum and a name -/
theorem vacuum_name {L : Lay} {t : Tok} {ts : List Tok} {w : World} (up fr : Bool) (h : At L (frToks up fr ++ t :: ts) w) (ht : t.kind = 2) :
    Calls Ybaz.prog 47 #[.pointer (some ⟨L.p, 0, none⟩)] w (Good L w 47 49 #[.bool fr, .string t.val] ts) := by
  have hk := fr_kw up fr h (by omega)
  have hpk := fun {w : World} (h : At L (t :: ts) w) => peek_any h
  unfold Tok.agg at hpk
  rw [ht] at hpk
  have hnm := fun {w : World} (h : At L (t :: ts) w) => name_quoted h ht
  clear h ht
  go_enter Ybaz.func47, Ybaz.ntmps47
  go_wp2_with (first
    | (go_at_call 41; refine hk.mono ?_; rintro e w1 ⟨rfl, h1, hg1⟩; clear hk)
    | (go_at_call 16; refine (hpk (h1.later ((grown_refl w1 none).alc _))).mono ?_; rintro e w2 ⟨rfl, hg2⟩)
    | (go_at_call 44; refine (hnm (h1.later ((grown_trans ((grown_refl w1 none).alc _) hg2).alc _))).mono ?_; rintro e w3 ⟨rfl, h3, hg3⟩; have e2 := (blk_later (heap_alloc_new w1 (.cells #[.bool fr, .string ⟨#[]⟩] 49)) (hg2.alc (.cells #[.int .i64 2, .string t.text, .string t.val] 90))); have hne := At.ne (h1.later ((grown_trans ((grown_refl w1 none).alc _) hg2).alc _)) e2 (by decide); have e3 := blk_later' e2 hg3 hne; have c3 : w3.cell? ⟨w1.heap.size, 1, none⟩ = some (.string ⟨#[]⟩) := cells_at e3 1; have f3 : w3.frozen? ⟨w1.heap.size, 1, none⟩ = false := free_at e3 1; have HE : Hid (w3.heap[w1.heap.size]? = some (.cells #[.bool fr, .string ⟨#[]⟩] 49 (0, 0))) := e3; clear e2 e3 hne))
  go_ret2
  refine ⟨_, rfl, ⟨_, rfl, ?_⟩, h3.set HE.out (by decide) (by decide) 1 _, (grown_trans ((grown_trans (hg1.alc _) (grown_but hg2 _)).alc _) hg3).set _ _ (.inr ?_)⟩
  · rw [heap_setCell_same _ _ _ _ _ _ HE.out]; rfl
  · exact hg1.size

set_option maxHeartbeats 1000000 in
/-- vacuum and no name -/
theorem vacuum_bad (F : Interp) {L : Lay} {t : Tok} {ts : List Tok} {w : World} (up fr : Bool) (h : At L (frToks up fr ++ t :: ts) w) (hF : F.answers w.tape) (ht : t.kind = 6) (hs : t.val = sParen) :
    Calls Ybaz.prog 47 #[.pointer (some ⟨L.p, 0, none⟩)] w (Bad L w) := by
  have hk := fr_kw up fr h (by omega)
  have hpk := fun {w : World} (h : At L (t :: ts) w) => peek_any h
  unfold Tok.agg at hpk
  rw [ht, hs] at hpk
  have hnm := fun {w : World} (h : At L (t :: ts) w) (hF : F.answers w.tape) => name_not F h hF (by omega) (by omega)
  have hq : (sParen.toList == [59]) = false := by rw [ByteArray.toList_eq]; decide
  clear h ht hs
  go_enter Ybaz.func47, Ybaz.ntmps47
  go_wp2_with (first
    | (go_at_call 41; refine hk.mono ?_; rintro e w1 ⟨rfl, h1, hg1⟩; clear hk)
    | (go_at_call 16; refine (hpk (h1.later ((grown_refl w1 none).alc _))).mono ?_; rintro e w2 ⟨rfl, hg2⟩)
    | (go_at_call 44; refine (hnm (h1.later ((grown_trans ((grown_refl w1 none).alc _) hg2).alc _)) (by rw [(grown_trans hg1 (grown_but ((grown_trans ((grown_refl w1 none).alc _) hg2).alc _) _)).tape]; exact hF)).mono ?_; rintro e w3 ⟨u, rfl, hu, hg3⟩; have e2 := (blk_later (heap_alloc_new w1 (.cells #[.bool fr, .string ⟨#[]⟩] 49)) (hg2.alc (.cells #[.int .i64 6, .string t.text, .string sParen] 90))); have e3 := blk_later e2 hg3; have c3 : w3.cell? ⟨w1.heap.size, 1, none⟩ = some (.string ⟨#[]⟩) := cells_at e3 1; have f3 : w3.frozen? ⟨w1.heap.size, 1, none⟩ = false := free_at e3 1; clear e2 e3))
  go_ret2
  exact ⟨_, _, rfl, hu, (grown_trans ((grown_trans (hg1.alc _) (grown_but hg2 _)).alc _) (grown_but hg3 _)).set _ _ (.inr hg1.size)⟩

end Go.Proofs.YbulkexobaGreatFmt
