/-
  statement, by its first word.
-/
import Derived.Test.YbulkexobaGreatFmtDrop2
namespace Go.Proofs.YbulkexobaGreatFmt
open Go.RowKit Go.Extern.Stop Go.Stop Go.Extern

def sDrop : ByteArray := ⟨#[100, 114, 111, 112]⟩
def sBegin : ByteArray := ⟨#[98, 101, 103, 105, 110]⟩
def sStart : ByteArray := ⟨#[115, 116, 97, 114, 116]⟩
def sSet : ByteArray := ⟨#[115, 101, 116]⟩
def sShow : ByteArray := ⟨#[115, 104, 111, 119]⟩
def sCommit : ByteArray := ⟨#[99, 111, 109, 109, 105, 116]⟩
def sEnd : ByteArray := ⟨#[101, 110, 100]⟩
def sRollback : ByteArray := ⟨#[114, 111, 108, 108, 98, 97, 99, 107]⟩
def sAbort : ByteArray := ⟨#[97, 98, 111, 114, 116]⟩
def sRelease : ByteArray := ⟨#[114, 101, 108, 101, 97, 115, 101]⟩
def sCheckpoint : ByteArray := ⟨#[99, 104, 101, 99, 107, 112, 111, 105, 110, 116]⟩
def sVacuum : ByteArray := ⟨#[118, 97, 99, 117, 117, 109]⟩

theorem kw_call (up : Bool) (s s' : ByteArray) (b : Bool) (hb : decide (s = s') = b) (w : World) :
    Calls Ybaz.prog 31 #[.agg #[.int .i64 1, .string (ckB s up), .string s], .string s'] w fun e w' => e = .returned (.bool b) ∧ w.grownBy w' none := by
  have := isKw_any (kwt up s) s' w
  rw [kwt_is, hb] at this
  exact this

/-- The token at hand, in its own block. -/
structure Hand (L : Lay) (up : Bool) (s : ByteArray) (ts : List Tok) (N : Nat) (w0 w : World) : Prop where
  b : w.heap[N]? = some (.cells #[.int .i64 1, .string (ckB s up), .string s] 90 (0, 0))
  a : At L ts w
  g : w0.grownBy w (some L.p)
theorem Hand.later {L : Lay} {up : Bool} {s : ByteArray} {ts : List Tok} {N : Nat} {w0 w w' : World} (h : Hand L up s ts N w0 w) (hg : w.grownBy w' none) : Hand L up s ts N w0 w' :=
  ⟨blk_later h.b hg, h.a.later hg, grown_trans h.g (grown_but hg _)⟩
theorem Hand.cells {L : Lay} {up : Bool} {s : ByteArray} {ts : List Tok} {N : Nat} {w0 w : World} (h : Hand L up s ts N w0 w) :
    w.cell? ⟨N, 0, none⟩ = some (.int .i64 1) ∧ w.cell? ⟨N, 1, none⟩ = some (.string (ckB s up)) ∧ w.cell? ⟨N, 2, none⟩ = some (.string s) := ⟨cells_at h.b 0, cells_at h.b 1, cells_at h.b 2⟩
theorem Hand.new {L : Lay} {up : Bool} {s : ByteArray} {ts : List Tok} {w0 w : World} (h : At L ts w) (hg : w0.grownBy w (some L.p)) : Hand L up s ts w.heap.size w0 (w.alloc (.cells #[.int .i64 1, .string (ckB s up), .string s] 90)) :=
  ⟨heap_alloc_new _ _, h.later ((grown_refl w none).alc _), hg.alc _⟩
theorem next_kw {L : Lay} (up : Bool) (s : ByteArray) {ts : List Tok} {w : World} (h : At L (kwt up s :: ts) w) :
    Calls Ybaz.prog 30 #[.pointer (some ⟨L.p, 0, none⟩)] w fun e w' => e = .returned (.agg #[.int .i64 1, .string (ckB s up), .string s]) ∧ At L ts w' ∧ w.grownBy w' (some L.p) :=
  next_any h (show (1 : Int) ≠ 0 by decide)

/-- An end, told from an earlier world. -/
def From (L : Lay) (w : World) (E : Ending → World → Prop) (e : Ending) (w' : World) : Prop := E e w' ∧ w.grownBy w' (some L.p)

set_option maxRecDepth 100000 in
set_option maxHeartbeats 4000000 in
theorem stm_vacuum {L : Lay} (up : Bool) {ts : List Tok} {w : World} (h : At L (kwt up sVacuum :: ts) w) (E : Ending → World → Prop)
    (hc : ∀ w', At L ts w' → w.grownBy w' (some L.p) → Calls Ybaz.prog 47 #[.pointer (some ⟨L.p, 0, none⟩)] w' fun e w2 => ∃ v u, e = .returned (.tuple #[v, u]) ∧ E (.returned (.tuple #[v, u])) w2) :
    Calls Ybaz.prog 14 #[.pointer (some ⟨L.p, 0, none⟩)] w E := by
  have hnx := next_kw up sVacuum h
  clear h
  go_enter Ybaz.func14, Ybaz.ntmps14
  go_wp2_with (first
    | (go_at_call 30; refine hnx.mono ?_; rintro e w1 ⟨rfl, h1, hg1⟩; have hH := Hand.new (up := up) (s := sVacuum) h1 hg1; have HH : Hid (Hand L up sVacuum ts w1.heap.size w _) := hH; clear hnx h1 hg1 hH)
    | (go_at_call 31; refine (kw_call up sVacuum _ false (by decide) _).mono ?_; rintro e w2 ⟨rfl, hg2⟩; have hH2 := HH.out.later hg2; clear HH hg2; have HH : Hid (Hand L up sVacuum ts w1.heap.size w w2) := hH2; have c0 := hH2.cells.1; have c1 := hH2.cells.2.1; have c2 := hH2.cells.2.2; clear hH2)
    | (go_at_call 31; refine (kw_call up sVacuum _ true (by decide) _).mono ?_; rintro e w2 ⟨rfl, hg2⟩; have hH2 := HH.out.later hg2; clear HH hg2; have HH : Hid (Hand L up sVacuum ts w1.heap.size w w2) := hH2; have c0 := hH2.cells.1; have c1 := hH2.cells.2.1; have c2 := hH2.cells.2.2; clear hH2)
    | (go_at_call 47; refine (hc _ HH.out.a HH.out.g).mono ?_; rintro e w3 ⟨v, u, rfl, hE⟩))
  exact hE

set_option maxRecDepth 100000 in
set_option maxHeartbeats 4000000 in
theorem stm_drop {L : Lay} (up : Bool) {ts : List Tok} {w : World} (h : At L (kwt up sDrop :: ts) w) (E : Ending → World → Prop)
    (hc : ∀ w', At L ts w' → w.grownBy w' (some L.p) → Calls Ybaz.prog 33 #[.pointer (some ⟨L.p, 0, none⟩)] w' fun e w2 => ∃ v u, e = .returned (.tuple #[v, u]) ∧ E (.returned (.tuple #[v, u])) w2) :
    Calls Ybaz.prog 14 #[.pointer (some ⟨L.p, 0, none⟩)] w E := by
  have hnx := next_kw up sDrop h
  clear h
  go_enter Ybaz.func14, Ybaz.ntmps14
  go_wp2_with (first
    | (go_at_call 30; refine hnx.mono ?_; rintro e w1 ⟨rfl, h1, hg1⟩; have hH := Hand.new (up := up) (s := sDrop) h1 hg1; have HH : Hid (Hand L up sDrop ts w1.heap.size w _) := hH; clear hnx h1 hg1 hH)
    | (go_at_call 31; refine (kw_call up sDrop _ false (by decide) _).mono ?_; rintro e w2 ⟨rfl, hg2⟩; have hH2 := HH.out.later hg2; clear HH hg2; have HH : Hid (Hand L up sDrop ts w1.heap.size w w2) := hH2; have c0 := hH2.cells.1; have c1 := hH2.cells.2.1; have c2 := hH2.cells.2.2; clear hH2)
    | (go_at_call 31; refine (kw_call up sDrop _ true (by decide) _).mono ?_; rintro e w2 ⟨rfl, hg2⟩; have hH2 := HH.out.later hg2; clear HH hg2; have HH : Hid (Hand L up sDrop ts w1.heap.size w w2) := hH2; have c0 := hH2.cells.1; have c1 := hH2.cells.2.1; have c2 := hH2.cells.2.2; clear hH2)
    | (go_at_call 33; refine (hc _ HH.out.a HH.out.g).mono ?_; rintro e w3 ⟨v, u, rfl, hE⟩))
  exact hE

set_option maxRecDepth 100000 in
set_option maxHeartbeats 4000000 in
theorem stm_rollback {L : Lay} (up : Bool) {ts : List Tok} {w : World} (h : At L (kwt up sRollback :: ts) w) (E : Ending → World → Prop)
    (hc : ∀ w', At L ts w' → w.grownBy w' (some L.p) → Calls Ybaz.prog 45 #[.pointer (some ⟨L.p, 0, none⟩)] w' fun e w2 => ∃ v u, e = .returned (.tuple #[v, u]) ∧ E (.returned (.tuple #[v, u])) w2) :
    Calls Ybaz.prog 14 #[.pointer (some ⟨L.p, 0, none⟩)] w E := by
  have hnx := next_kw up sRollback h
  clear h
  go_enter Ybaz.func14, Ybaz.ntmps14
  go_wp2_with (first
    | (go_at_call 30; refine hnx.mono ?_; rintro e w1 ⟨rfl, h1, hg1⟩; have hH := Hand.new (up := up) (s := sRollback) h1 hg1; have HH : Hid (Hand L up sRollback ts w1.heap.size w _) := hH; clear hnx h1 hg1 hH)
    | (go_at_call 31; refine (kw_call up sRollback _ false (by decide) _).mono ?_; rintro e w2 ⟨rfl, hg2⟩; have hH2 := HH.out.later hg2; clear HH hg2; have HH : Hid (Hand L up sRollback ts w1.heap.size w w2) := hH2; have c0 := hH2.cells.1; have c1 := hH2.cells.2.1; have c2 := hH2.cells.2.2; clear hH2)
    | (go_at_call 31; refine (kw_call up sRollback _ true (by decide) _).mono ?_; rintro e w2 ⟨rfl, hg2⟩; have hH2 := HH.out.later hg2; clear HH hg2; have HH : Hid (Hand L up sRollback ts w1.heap.size w w2) := hH2; have c0 := hH2.cells.1; have c1 := hH2.cells.2.1; have c2 := hH2.cells.2.2; clear hH2)
    | (go_at_call 45; refine (hc _ HH.out.a HH.out.g).mono ?_; rintro e w3 ⟨v, u, rfl, hE⟩))
  exact hE

set_option maxRecDepth 100000 in
set_option maxHeartbeats 4000000 in
theorem stm_begin {L : Lay} (up : Bool) {ts ts2 : List Tok} {w : World} (h : At L (kwt up sBegin :: ts) w) (E : Ending → World → Prop)
    (hw : ∀ w', At L ts w' → Calls Ybaz.prog 38 #[.pointer (some ⟨L.p, 0, none⟩)] w' fun e w2 => e = .returned (.tuple #[]) ∧ At L ts2 w2 ∧ w'.grownBy w2 (some L.p))
    (hc : ∀ w', At L ts2 w' → w.grownBy w' (some L.p) → Calls Ybaz.prog 39 #[.pointer (some ⟨L.p, 0, none⟩)] w' fun e w2 => ∃ v u, e = .returned (.tuple #[v, u]) ∧ E (.returned (.tuple #[v, u])) w2) :
    Calls Ybaz.prog 14 #[.pointer (some ⟨L.p, 0, none⟩)] w E := by
  have hnx := next_kw up sBegin h
  clear h
  go_enter Ybaz.func14, Ybaz.ntmps14
  go_wp2_with (first
    | (go_at_call 30; refine hnx.mono ?_; rintro e w1 ⟨rfl, h1, hg1⟩; have hH := Hand.new (up := up) (s := sBegin) h1 hg1; have HH : Hid (Hand L up sBegin ts w1.heap.size w _) := hH; clear hnx h1 hg1 hH)
    | (go_at_call 31; refine (kw_call up sBegin _ false (by decide) _).mono ?_; rintro e w2 ⟨rfl, hg2⟩; have hH2 := HH.out.later hg2; clear HH hg2; have HH : Hid (Hand L up sBegin ts w1.heap.size w w2) := hH2; have c0 := hH2.cells.1; have c1 := hH2.cells.2.1; have c2 := hH2.cells.2.2; clear hH2)
    | (go_at_call 31; refine (kw_call up sBegin _ true (by decide) _).mono ?_; rintro e w2 ⟨rfl, hg2⟩; have hH2 := HH.out.later hg2; clear HH hg2; have HH : Hid (Hand L up sBegin ts w1.heap.size w w2) := hH2; have c0 := hH2.cells.1; have c1 := hH2.cells.2.1; have c2 := hH2.cells.2.2; clear hH2)
    | (go_at_call 38; refine (hw _ HH.out.a).mono ?_; rintro e w3 ⟨rfl, h3, hg3⟩)
    | (go_at_call 39; refine (hc _ h3 (grown_trans HH.out.g hg3)).mono ?_; rintro e w4 ⟨v, u, rfl, hE⟩))
  exact hE

set_option maxRecDepth 100000 in
set_option maxHeartbeats 4000000 in
theorem stm_start {L : Lay} (up : Bool) {ts2 : List Tok} {w : World} (h : At L (kwt up sStart :: kwt up sTransaction :: ts2) w) (E : Ending → World → Prop)
    (hc : ∀ w', At L ts2 w' → w.grownBy w' (some L.p) → Calls Ybaz.prog 39 #[.pointer (some ⟨L.p, 0, none⟩)] w' fun e w2 => ∃ v u, e = .returned (.tuple #[v, u]) ∧ E (.returned (.tuple #[v, u])) w2) :
    Calls Ybaz.prog 14 #[.pointer (some ⟨L.p, 0, none⟩)] w E := by
  obtain ⟨ts, hts⟩ : ∃ ts, ts = kwt up sTransaction :: ts2 := ⟨_, rfl⟩
  rw [← hts] at h
  have HT : Hid (ts = kwt up sTransaction :: ts2) := hts
  clear hts
  have hnx := next_kw up sStart h
  clear h
  go_enter Ybaz.func14, Ybaz.ntmps14
  go_wp2_with (first
    | (go_at_call 30; refine hnx.mono ?_; rintro e w1 ⟨rfl, h1, hg1⟩; have hH := Hand.new (up := up) (s := sStart) h1 hg1; have HH : Hid (Hand L up sStart ts w1.heap.size w _) := hH; clear hnx h1 hg1 hH)
    | (go_at_call 31; refine (kw_call up sStart _ false (by decide) _).mono ?_; rintro e w2 ⟨rfl, hg2⟩; have hH2 := HH.out.later hg2; clear HH hg2; have HH : Hid (Hand L up sStart ts w1.heap.size w w2) := hH2; have c0 := hH2.cells.1; have c1 := hH2.cells.2.1; have c2 := hH2.cells.2.2; clear hH2)
    | (go_at_call 31; refine (kw_call up sStart _ true (by decide) _).mono ?_; rintro e w2 ⟨rfl, hg2⟩; have hH2 := HH.out.later hg2; clear HH hg2; have HH : Hid (Hand L up sStart ts w1.heap.size w w2) := hH2; have c0 := hH2.cells.1; have c1 := hH2.cells.2.1; have c2 := hH2.cells.2.2; clear hH2)
    | (go_at_call 40; refine (expectKw (t := kwt up sTransaction) (ts := ts2) (by rw [← HT.out]; exact HH.out.a) sTransaction (by rw [kwt_is]; decide)).mono ?_; rintro e w3 ⟨rfl, h3, hg3⟩)
    | (go_at_call 39; refine (hc _ h3 (grown_trans HH.out.g hg3)).mono ?_; rintro e w4 ⟨v, u, rfl, hE⟩))
  exact hE

set_option maxRecDepth 100000 in
set_option maxHeartbeats 4000000 in
theorem stm_setT {L : Lay} (up : Bool) {ts2 : List Tok} {w : World} (h : At L (kwt up sSet :: kwt up sTransaction :: ts2) w) (E : Ending → World → Prop)
    (hc : ∀ w', At L ts2 w' → w.grownBy w' (some L.p) → Calls Ybaz.prog 42 #[.pointer (some ⟨L.p, 0, none⟩)] w' fun e w2 => ∃ v u, e = .returned (.tuple #[v, u]) ∧ E (.returned (.tuple #[v, u])) w2) :
    Calls Ybaz.prog 14 #[.pointer (some ⟨L.p, 0, none⟩)] w E := by
  obtain ⟨ts, hts⟩ : ∃ ts, ts = kwt up sTransaction :: ts2 := ⟨_, rfl⟩
  rw [← hts] at h
  have HT : Hid (ts = kwt up sTransaction :: ts2) := hts
  clear hts
  have hnx := next_kw up sSet h
  clear h
  go_enter Ybaz.func14, Ybaz.ntmps14
  go_wp2_with (first
    | (go_at_call 30; refine hnx.mono ?_; rintro e w1 ⟨rfl, h1, hg1⟩; have hH := Hand.new (up := up) (s := sSet) h1 hg1; have HH : Hid (Hand L up sSet ts w1.heap.size w _) := hH; clear hnx h1 hg1 hH)
    | (go_at_call 31; refine (kw_call up sSet _ false (by decide) _).mono ?_; rintro e w2 ⟨rfl, hg2⟩; have hH2 := HH.out.later hg2; clear HH hg2; have HH : Hid (Hand L up sSet ts w1.heap.size w w2) := hH2; have c0 := hH2.cells.1; have c1 := hH2.cells.2.1; have c2 := hH2.cells.2.2; clear hH2)
    | (go_at_call 31; refine (kw_call up sSet _ true (by decide) _).mono ?_; rintro e w2 ⟨rfl, hg2⟩; have hH2 := HH.out.later hg2; clear HH hg2; have HH : Hid (Hand L up sSet ts w1.heap.size w w2) := hH2; have c0 := hH2.cells.1; have c1 := hH2.cells.2.1; have c2 := hH2.cells.2.2; clear hH2)
    | (go_at_call 41; refine (acceptKw (t := kwt up sTransaction) (ts := ts2) (by rw [← HT.out]; exact HH.out.a) sTransaction true (by rw [kwt_is]; decide)).mono ?_; rintro e w3 ⟨rfl, h3, hg3⟩)
    | (go_at_call 42; refine (hc _ h3 (grown_trans HH.out.g hg3)).mono ?_; rintro e w4 ⟨v, u, rfl, hE⟩))
  exact hE

set_option maxRecDepth 100000 in
set_option maxHeartbeats 4000000 in
theorem stm_set {L : Lay} (up : Bool) {t : Tok} {ts2 : List Tok} {w : World} (h : At L (kwt up sSet :: t :: ts2) w) (ht : t.kind ≠ 1) (E : Ending → World → Prop)
    (hc : ∀ w', At L (t :: ts2) w' → w.grownBy w' (some L.p) → Calls Ybaz.prog 43 #[.pointer (some ⟨L.p, 0, none⟩)] w' fun e w2 => ∃ v u, e = .returned (.tuple #[v, u]) ∧ E (.returned (.tuple #[v, u])) w2) :
    Calls Ybaz.prog 14 #[.pointer (some ⟨L.p, 0, none⟩)] w E := by
  have hnot : t.is 1 sTransaction = false := by unfold Tok.is; simp [ht]
  obtain ⟨ts, hts⟩ : ∃ ts, ts = t :: ts2 := ⟨_, rfl⟩
  rw [← hts] at h
  have HT : Hid (ts = t :: ts2) := hts
  clear hts ht
  have hnx := next_kw up sSet h
  clear h
  go_enter Ybaz.func14, Ybaz.ntmps14
  go_wp2_with (first
    | (go_at_call 30; refine hnx.mono ?_; rintro e w1 ⟨rfl, h1, hg1⟩; have hH := Hand.new (up := up) (s := sSet) h1 hg1; have HH : Hid (Hand L up sSet ts w1.heap.size w _) := hH; clear hnx h1 hg1 hH)
    | (go_at_call 31; refine (kw_call up sSet _ false (by decide) _).mono ?_; rintro e w2 ⟨rfl, hg2⟩; have hH2 := HH.out.later hg2; clear HH hg2; have HH : Hid (Hand L up sSet ts w1.heap.size w w2) := hH2; have c0 := hH2.cells.1; have c1 := hH2.cells.2.1; have c2 := hH2.cells.2.2; clear hH2)
    | (go_at_call 31; refine (kw_call up sSet _ true (by decide) _).mono ?_; rintro e w2 ⟨rfl, hg2⟩; have hH2 := HH.out.later hg2; clear HH hg2; have HH : Hid (Hand L up sSet ts w1.heap.size w w2) := hH2; have c0 := hH2.cells.1; have c1 := hH2.cells.2.1; have c2 := hH2.cells.2.2; clear hH2)
    | (go_at_call 41; refine (acceptKw (t := t) (ts := ts2) (by rw [← HT.out]; exact HH.out.a) sTransaction false hnot).mono ?_; rintro e w3 ⟨rfl, h3, hg3⟩)
    | (go_at_call 43; refine (hc _ h3 (grown_trans HH.out.g hg3)).mono ?_; rintro e w4 ⟨v, u, rfl, hE⟩))
  exact hE

end Go.Proofs.YbulkexobaGreatFmt
