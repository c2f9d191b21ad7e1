/-
  statement, by its first word: the rest.
-/
import Derived.Test.YbulkexobaGreatFmtStmtA
namespace Go.Proofs.YbulkexobaGreatFmt
open Go.RowKit Go.Extern.Stop Go.Stop Go.Extern

set_option maxRecDepth 100000 in
set_option maxHeartbeats 4000000 in
theorem stm_show {L : Lay} (up : Bool) {t : Tok} {ts2 : List Tok} {w : World} (h : At L (kwt up sShow :: t :: ts2) w) (ht : t.kind = 2) :
    Calls Ybaz.prog 14 #[.pointer (some ⟨L.p, 0, none⟩)] w (Good L w 45 46 #[.string t.val] ts2) := by
  have hnm := fun {w' : World} (h : At L (t :: ts2) w') => name_quoted h ht
  obtain ⟨ts, hts⟩ : ∃ ts, ts = t :: ts2 := ⟨_, rfl⟩
  rw [← hts] at h
  have HT : Hid (ts = t :: ts2) := hts
  clear hts ht
  have hnx := next_kw up sShow h
  clear h
  go_enter Ybaz.func14, Ybaz.ntmps14
  go_wp2_with (first
    | (go_at_call 30; refine hnx.mono ?_; rintro e w1 ⟨rfl, h1, hg1⟩; have hH := Hand.new (up := up) (s := sShow) h1 hg1; have HH : Hid (Hand L up sShow ts w1.heap.size w _) := hH; clear hnx h1 hg1 hH)
    | (go_at_call 31; refine (kw_call up sShow _ false (by decide) _).mono ?_; rintro e w2 ⟨rfl, hg2⟩; have hH2 := HH.out.later hg2; clear HH hg2; have HH : Hid (Hand L up sShow ts w1.heap.size w w2) := hH2; have c0 := hH2.cells.1; have c1 := hH2.cells.2.1; have c2 := hH2.cells.2.2; clear hH2)
    | (go_at_call 31; refine (kw_call up sShow _ true (by decide) _).mono ?_; rintro e w2 ⟨rfl, hg2⟩; have hH2 := HH.out.later hg2; clear HH hg2; have HH : Hid (Hand L up sShow ts w1.heap.size w w2) := hH2; have c0 := hH2.cells.1; have c1 := hH2.cells.2.1; have c2 := hH2.cells.2.2; clear hH2)
    | (go_at_call 44; refine (hnm (by rw [← HT.out]; exact HH.out.a)).mono ?_; rintro e w3 ⟨rfl, h3, hg3⟩))
  go_ret2
  exact ⟨_, rfl, ⟨_, rfl, heap_alloc_new _ _⟩, h3.later ((grown_refl w3 none).alc _), (grown_trans HH.out.g hg3).alc _⟩

set_option maxRecDepth 100000 in
set_option maxHeartbeats 4000000 in
theorem stm_savepoint {L : Lay} (up : Bool) {t : Tok} {ts2 : List Tok} {w : World} (h : At L (kwt up sSavepoint :: t :: ts2) w) (ht : t.kind = 2) :
    Calls Ybaz.prog 14 #[.pointer (some ⟨L.p, 0, none⟩)] w (Good L w 41 42 #[.string t.val] ts2) := by
  have hnm := fun {w' : World} (h : At L (t :: ts2) w') => name_quoted h ht
  obtain ⟨ts, hts⟩ : ∃ ts, ts = t :: ts2 := ⟨_, rfl⟩
  rw [← hts] at h
  have HT : Hid (ts = t :: ts2) := hts
  clear hts ht
  have hnx := next_kw up sSavepoint h
  clear h
  go_enter Ybaz.func14, Ybaz.ntmps14
  go_wp2_with (first
    | (go_at_call 30; refine hnx.mono ?_; rintro e w1 ⟨rfl, h1, hg1⟩; have hH := Hand.new (up := up) (s := sSavepoint) h1 hg1; have HH : Hid (Hand L up sSavepoint ts w1.heap.size w _) := hH; clear hnx h1 hg1 hH)
    | (go_at_call 31; refine (kw_call up sSavepoint _ false (by decide) _).mono ?_; rintro e w2 ⟨rfl, hg2⟩; have hH2 := HH.out.later hg2; clear HH hg2; have HH : Hid (Hand L up sSavepoint ts w1.heap.size w w2) := hH2; have c0 := hH2.cells.1; have c1 := hH2.cells.2.1; have c2 := hH2.cells.2.2; clear hH2)
    | (go_at_call 31; refine (kw_call up sSavepoint _ true (by decide) _).mono ?_; rintro e w2 ⟨rfl, hg2⟩; have hH2 := HH.out.later hg2; clear HH hg2; have HH : Hid (Hand L up sSavepoint ts w1.heap.size w w2) := hH2; have c0 := hH2.cells.1; have c1 := hH2.cells.2.1; have c2 := hH2.cells.2.2; clear hH2)
    | (go_at_call 44; refine (hnm (by rw [← HT.out]; exact HH.out.a)).mono ?_; rintro e w3 ⟨rfl, h3, hg3⟩))
  go_ret2
  exact ⟨_, rfl, ⟨_, rfl, heap_alloc_new _ _⟩, h3.later ((grown_refl w3 none).alc _), (grown_trans HH.out.g hg3).alc _⟩

set_option maxRecDepth 100000 in
set_option maxHeartbeats 4000000 in
theorem stm_release {L : Lay} (up alt : Bool) {t : Tok} {ts2 : List Tok} {w : World} (h : At L (kwt up sRelease :: (spToks up alt ++ t :: ts2)) w) (ht : t.kind = 2) :
    Calls Ybaz.prog 14 #[.pointer (some ⟨L.p, 0, none⟩)] w (Good L w 43 44 #[.string t.val] ts2) := by
  have hnm := fun {w' : World} (h : At L (spToks up alt ++ t :: ts2) w') => spName up alt h ht
  obtain ⟨ts, hts⟩ : ∃ ts, ts = spToks up alt ++ t :: ts2 := ⟨_, rfl⟩
  rw [← hts] at h
  have HT : Hid (ts = spToks up alt ++ t :: ts2) := hts
  clear hts ht
  have hnx := next_kw up sRelease h
  clear h
  go_enter Ybaz.func14, Ybaz.ntmps14
  go_wp2_with (first
    | (go_at_call 30; refine hnx.mono ?_; rintro e w1 ⟨rfl, h1, hg1⟩; have hH := Hand.new (up := up) (s := sRelease) h1 hg1; have HH : Hid (Hand L up sRelease ts w1.heap.size w _) := hH; clear hnx h1 hg1 hH)
    | (go_at_call 31; refine (kw_call up sRelease _ false (by decide) _).mono ?_; rintro e w2 ⟨rfl, hg2⟩; have hH2 := HH.out.later hg2; clear HH hg2; have HH : Hid (Hand L up sRelease ts w1.heap.size w w2) := hH2; have c0 := hH2.cells.1; have c1 := hH2.cells.2.1; have c2 := hH2.cells.2.2; clear hH2)
    | (go_at_call 31; refine (kw_call up sRelease _ true (by decide) _).mono ?_; rintro e w2 ⟨rfl, hg2⟩; have hH2 := HH.out.later hg2; clear HH hg2; have HH : Hid (Hand L up sRelease ts w1.heap.size w w2) := hH2; have c0 := hH2.cells.1; have c1 := hH2.cells.2.1; have c2 := hH2.cells.2.2; clear hH2)
    | (go_at_call 46; refine (hnm (by rw [← HT.out]; exact HH.out.a)).mono ?_; rintro e w3 ⟨rfl, h3, hg3⟩))
  go_ret2
  exact ⟨_, rfl, ⟨_, rfl, heap_alloc_new _ _⟩, h3.later ((grown_refl w3 none).alc _), (grown_trans HH.out.g hg3).alc _⟩

set_option maxRecDepth 100000 in
set_option maxHeartbeats 4000000 in
theorem stm_commit {L : Lay} (up : Bool) (wi : Nat) {r : Tok} {ts2 : List Tok} {w : World} (h : At L (kwt up sCommit :: (wordToks up wi ++ r :: ts2)) w) (hr : r.kind ≠ 1) :
    Calls Ybaz.prog 14 #[.pointer (some ⟨L.p, 0, none⟩)] w (Good L w 33 34 #[] (r :: ts2)) := by
  have hnot : ∀ s, r.is 1 s = false := fun s => by unfold Tok.is; simp [hr]
  have hnm := fun {w' : World} (h : At L (wordToks up wi ++ r :: ts2) w') => tword up wi h (hnot _) (hnot _)
  obtain ⟨ts, hts⟩ : ∃ ts, ts = wordToks up wi ++ r :: ts2 := ⟨_, rfl⟩
  rw [← hts] at h
  have HT : Hid (ts = wordToks up wi ++ r :: ts2) := hts
  clear hts hr hnot
  have hnx := next_kw up sCommit h
  clear h
  go_enter Ybaz.func14, Ybaz.ntmps14
  go_wp2_with (first
    | (go_at_call 30; refine hnx.mono ?_; rintro e w1 ⟨rfl, h1, hg1⟩; have hH := Hand.new (up := up) (s := sCommit) h1 hg1; have HH : Hid (Hand L up sCommit ts w1.heap.size w _) := hH; clear hnx h1 hg1 hH)
    | (go_at_call 31; refine (kw_call up sCommit _ false (by decide) _).mono ?_; rintro e w2 ⟨rfl, hg2⟩; have hH2 := HH.out.later hg2; clear HH hg2; have HH : Hid (Hand L up sCommit ts w1.heap.size w w2) := hH2; have c0 := hH2.cells.1; have c1 := hH2.cells.2.1; have c2 := hH2.cells.2.2; clear hH2)
    | (go_at_call 31; refine (kw_call up sCommit _ true (by decide) _).mono ?_; rintro e w2 ⟨rfl, hg2⟩; have hH2 := HH.out.later hg2; clear HH hg2; have HH : Hid (Hand L up sCommit ts w1.heap.size w w2) := hH2; have c0 := hH2.cells.1; have c1 := hH2.cells.2.1; have c2 := hH2.cells.2.2; clear hH2)
    | (go_at_call 38; refine (hnm (by rw [← HT.out]; exact HH.out.a)).mono ?_; rintro e w3 ⟨rfl, h3, hg3⟩))
  go_ret2
  exact ⟨_, rfl, ⟨_, rfl, heap_alloc_new _ _⟩, h3.later ((grown_refl w3 none).alc _), (grown_trans HH.out.g hg3).alc _⟩

set_option maxRecDepth 100000 in
set_option maxHeartbeats 4000000 in
theorem stm_end {L : Lay} (up : Bool) (wi : Nat) {r : Tok} {ts2 : List Tok} {w : World} (h : At L (kwt up sEnd :: (wordToks up wi ++ r :: ts2)) w) (hr : r.kind ≠ 1) :
    Calls Ybaz.prog 14 #[.pointer (some ⟨L.p, 0, none⟩)] w (Good L w 33 34 #[] (r :: ts2)) := by
  have hnot : ∀ s, r.is 1 s = false := fun s => by unfold Tok.is; simp [hr]
  have hnm := fun {w' : World} (h : At L (wordToks up wi ++ r :: ts2) w') => tword up wi h (hnot _) (hnot _)
  obtain ⟨ts, hts⟩ : ∃ ts, ts = wordToks up wi ++ r :: ts2 := ⟨_, rfl⟩
  rw [← hts] at h
  have HT : Hid (ts = wordToks up wi ++ r :: ts2) := hts
  clear hts hr hnot
  have hnx := next_kw up sEnd h
  clear h
  go_enter Ybaz.func14, Ybaz.ntmps14
  go_wp2_with (first
    | (go_at_call 30; refine hnx.mono ?_; rintro e w1 ⟨rfl, h1, hg1⟩; have hH := Hand.new (up := up) (s := sEnd) h1 hg1; have HH : Hid (Hand L up sEnd ts w1.heap.size w _) := hH; clear hnx h1 hg1 hH)
    | (go_at_call 31; refine (kw_call up sEnd _ false (by decide) _).mono ?_; rintro e w2 ⟨rfl, hg2⟩; have hH2 := HH.out.later hg2; clear HH hg2; have HH : Hid (Hand L up sEnd ts w1.heap.size w w2) := hH2; have c0 := hH2.cells.1; have c1 := hH2.cells.2.1; have c2 := hH2.cells.2.2; clear hH2)
    | (go_at_call 31; refine (kw_call up sEnd _ true (by decide) _).mono ?_; rintro e w2 ⟨rfl, hg2⟩; have hH2 := HH.out.later hg2; clear HH hg2; have HH : Hid (Hand L up sEnd ts w1.heap.size w w2) := hH2; have c0 := hH2.cells.1; have c1 := hH2.cells.2.1; have c2 := hH2.cells.2.2; clear hH2)
    | (go_at_call 38; refine (hnm (by rw [← HT.out]; exact HH.out.a)).mono ?_; rintro e w3 ⟨rfl, h3, hg3⟩))
  go_ret2
  exact ⟨_, rfl, ⟨_, rfl, heap_alloc_new _ _⟩, h3.later ((grown_refl w3 none).alc _), (grown_trans HH.out.g hg3).alc _⟩

set_option maxRecDepth 100000 in
set_option maxHeartbeats 4000000 in
theorem stm_abort {L : Lay} (up : Bool) (wi : Nat) {r : Tok} {ts2 : List Tok} {w : World} (h : At L (kwt up sAbort :: (wordToks up wi ++ r :: ts2)) w) (hr : r.kind ≠ 1) :
    Calls Ybaz.prog 14 #[.pointer (some ⟨L.p, 0, none⟩)] w (Good L w 35 36 #[] (r :: ts2)) := by
  have hnot : ∀ s, r.is 1 s = false := fun s => by unfold Tok.is; simp [hr]
  have hnm := fun {w' : World} (h : At L (wordToks up wi ++ r :: ts2) w') => tword up wi h (hnot _) (hnot _)
  obtain ⟨ts, hts⟩ : ∃ ts, ts = wordToks up wi ++ r :: ts2 := ⟨_, rfl⟩
  rw [← hts] at h
  have HT : Hid (ts = wordToks up wi ++ r :: ts2) := hts
  clear hts hr hnot
  have hnx := next_kw up sAbort h
  clear h
  go_enter Ybaz.func14, Ybaz.ntmps14
  go_wp2_with (first
    | (go_at_call 30; refine hnx.mono ?_; rintro e w1 ⟨rfl, h1, hg1⟩; have hH := Hand.new (up := up) (s := sAbort) h1 hg1; have HH : Hid (Hand L up sAbort ts w1.heap.size w _) := hH; clear hnx h1 hg1 hH)
    | (go_at_call 31; refine (kw_call up sAbort _ false (by decide) _).mono ?_; rintro e w2 ⟨rfl, hg2⟩; have hH2 := HH.out.later hg2; clear HH hg2; have HH : Hid (Hand L up sAbort ts w1.heap.size w w2) := hH2; have c0 := hH2.cells.1; have c1 := hH2.cells.2.1; have c2 := hH2.cells.2.2; clear hH2)
    | (go_at_call 31; refine (kw_call up sAbort _ true (by decide) _).mono ?_; rintro e w2 ⟨rfl, hg2⟩; have hH2 := HH.out.later hg2; clear HH hg2; have HH : Hid (Hand L up sAbort ts w1.heap.size w w2) := hH2; have c0 := hH2.cells.1; have c1 := hH2.cells.2.1; have c2 := hH2.cells.2.2; clear hH2)
    | (go_at_call 38; refine (hnm (by rw [← HT.out]; exact HH.out.a)).mono ?_; rintro e w3 ⟨rfl, h3, hg3⟩))
  go_ret2
  exact ⟨_, rfl, ⟨_, rfl, heap_alloc_new _ _⟩, h3.later ((grown_refl w3 none).alc _), (grown_trans HH.out.g hg3).alc _⟩

set_option maxRecDepth 100000 in
set_option maxHeartbeats 4000000 in
theorem stm_checkpoint {L : Lay} (up : Bool) {ts : List Tok} {w : World} (h : At L (kwt up sCheckpoint :: ts) w) :
    Calls Ybaz.prog 14 #[.pointer (some ⟨L.p, 0, none⟩)] w (Good L w 30 32 #[] ts) := by
  have hnx := next_kw up sCheckpoint h
  clear h
  go_enter Ybaz.func14, Ybaz.ntmps14
  go_wp2_with (first
    | (go_at_call 30; refine hnx.mono ?_; rintro e w1 ⟨rfl, h1, hg1⟩; have hH := Hand.new (up := up) (s := sCheckpoint) h1 hg1; have HH : Hid (Hand L up sCheckpoint ts w1.heap.size w _) := hH; clear hnx h1 hg1 hH)
    | (go_at_call 31; refine (kw_call up sCheckpoint _ false (by decide) _).mono ?_; rintro e w2 ⟨rfl, hg2⟩; have hH2 := HH.out.later hg2; clear HH hg2; have HH : Hid (Hand L up sCheckpoint ts w1.heap.size w w2) := hH2; have c0 := hH2.cells.1; have c1 := hH2.cells.2.1; have c2 := hH2.cells.2.2; clear hH2)
    | (go_at_call 31; refine (kw_call up sCheckpoint _ true (by decide) _).mono ?_; rintro e w2 ⟨rfl, hg2⟩; have hH2 := HH.out.later hg2; clear HH hg2; have HH : Hid (Hand L up sCheckpoint ts w1.heap.size w w2) := hH2; have c0 := hH2.cells.1; have c1 := hH2.cells.2.1; have c2 := hH2.cells.2.2; clear hH2))
  go_ret2
  exact ⟨_, rfl, ⟨_, rfl, heap_alloc_new _ _⟩, HH.out.a.later ((grown_refl _ none).alc _), HH.out.g.alc _⟩

end Go.Proofs.YbulkexobaGreatFmt
