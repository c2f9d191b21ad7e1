/-
  TRANSACTION MODES: isolationLevel, accessMode, transactionModes.
-/
import Derived.Test.YbulkexobaGreatFmtKws
import Derived.Deep.LoopGhost
namespace Go.Proofs.YbulkexobaGreatFmt
open Go.RowKit Go.Extern.Stop Go.Stop Go.Extern

def sIsolation : ByteArray := ⟨#[105, 115, 111, 108, 97, 116, 105, 111, 110]⟩
def sLevel : ByteArray := ⟨#[108, 101, 118, 101, 108]⟩
def sSerializable : ByteArray := ⟨#[115, 101, 114, 105, 97, 108, 105, 122, 97, 98, 108, 101]⟩
def sRepeatable : ByteArray := ⟨#[114, 101, 112, 101, 97, 116, 97, 98, 108, 101]⟩
def sRead : ByteArray := ⟨#[114, 101, 97, 100]⟩
def sCommitted : ByteArray := ⟨#[99, 111, 109, 109, 105, 116, 116, 101, 100]⟩
def sUncommitted : ByteArray := ⟨#[117, 110, 99, 111, 109, 109, 105, 116, 116, 101, 100]⟩
def sOnly : ByteArray := ⟨#[111, 110, 108, 121]⟩
def sWrite : ByteArray := ⟨#[119, 114, 105, 116, 101]⟩
def sComma : ByteArray := ⟨#[44]⟩

/-- A byte in upper case; a word, in upper case where up says so. -/
def upB (b : UInt8) : UInt8 := if 97 ≤ b ∧ b ≤ 122 then b - 32 else b
def ckB (s : ByteArray) (up : Bool) : ByteArray := if up then ⟨s.data.map upB⟩ else s
/-- A keyword's token. -/
def kwt (up : Bool) (s : ByteArray) : Tok := ⟨1, ckB s up, s⟩
theorem kwt_is (up : Bool) (s s' : ByteArray) : (kwt up s).is 1 s' = decide (s = s') := by simp [Tok.is, kwt]
/-- An operator's token. -/
def opt (s : ByteArray) : Tok := ⟨6, s, s⟩
theorem opt_is (s s' : ByteArray) : (opt s).is 6 s' = decide (s = s') := by simp [Tok.is, opt]

/-- Behind isolation. -/
def isoToks (up : Bool) (c : Nat) : List Tok :=
  if c = 0 then [kwt up sLevel, kwt up sSerializable] else if c = 1 then [kwt up sLevel, kwt up sRepeatable, kwt up sRead] else if c = 2 then [kwt up sLevel, kwt up sRead, kwt up sCommitted] else [kwt up sLevel, kwt up sRead, kwt up sUncommitted]
/-- Behind read. -/
def accToks (up : Bool) (c : Nat) : List Tok := if c = 4 then [kwt up sOnly] else [kwt up sWrite]
/-- A mode. -/
def modeToks (up : Bool) (c : Nat) : List Tok := if c < 4 then kwt up sIsolation :: isoToks up c else kwt up sRead :: accToks up c

theorem isoLevel {L : Lay} {ts : List Tok} {w : World} (up : Bool) (c : Nat) (hc : c < 4) (h : At L (isoToks up c ++ ts) w) :
    Calls Ybaz.prog 90 #[.pointer (some ⟨L.p, 0, none⟩)] w fun e w' => e = .returned (.tuple #[.int .i64 (4 - (c : Int)), .nilIface]) ∧ At L ts w' ∧ w.grownBy w' (some L.p) := by
  have hcc : c = 0 ∨ c = 1 ∨ c = 2 ∨ c = 3 := by omega
  rcases hcc with rfl | rfl | rfl | rfl
  · have h0 : At L (kwt up sLevel :: kwt up sSerializable :: ts) w := h
    clear h
    go_enter Ybaz.func90, Ybaz.ntmps90
    go_wp2_with (first
      | (go_at_call 40; refine (expectKw h0 sLevel (by rw [kwt_is]; decide)).mono ?_; rintro e w1 ⟨rfl, h1, hg1⟩; clear h0)
      | (go_at_call 41; refine (acceptKw h1 sSerializable true (by rw [kwt_is]; decide)).mono ?_; rintro e w2 ⟨rfl, h2, hg2⟩; clear h1))
    go_ret2
    exact ⟨rfl, h2, grown_trans hg1 hg2⟩
  · have h0 : At L (kwt up sLevel :: kwt up sRepeatable :: kwt up sRead :: ts) w := h
    clear h
    go_enter Ybaz.func90, Ybaz.ntmps90
    go_wp2_with (first
      | (go_at_call 40; refine (expectKw h0 sLevel (by rw [kwt_is]; decide)).mono ?_; rintro e w1 ⟨rfl, h1, hg1⟩; clear h0)
      | (go_at_call 41; refine (acceptKw h1 sSerializable false (by rw [kwt_is]; decide)).mono ?_; rintro e w2 ⟨rfl, h2, hg2⟩; clear h1)
      | (go_at_call 41; refine (acceptKw h2 sRepeatable true (by rw [kwt_is]; decide)).mono ?_; rintro e w3 ⟨rfl, h3, hg3⟩; clear h2)
      | (go_at_call 40; refine (expectKw h3 sRead (by rw [kwt_is]; decide)).mono ?_; rintro e w4 ⟨rfl, h4, hg4⟩; clear h3))
    go_ret2
    exact ⟨rfl, h4, grown_trans (grown_trans (grown_trans hg1 hg2) hg3) hg4⟩
  · have h0 : At L (kwt up sLevel :: kwt up sRead :: kwt up sCommitted :: ts) w := h
    clear h
    go_enter Ybaz.func90, Ybaz.ntmps90
    go_wp2_with (first
      | (go_at_call 40; refine (expectKw h0 sLevel (by rw [kwt_is]; decide)).mono ?_; rintro e w1 ⟨rfl, h1, hg1⟩; clear h0)
      | (go_at_call 41; refine (acceptKw h1 sSerializable false (by rw [kwt_is]; decide)).mono ?_; rintro e w2 ⟨rfl, h2, hg2⟩; clear h1)
      | (go_at_call 41; refine (acceptKw h2 sRepeatable false (by rw [kwt_is]; decide)).mono ?_; rintro e w3 ⟨rfl, h3, hg3⟩; clear h2)
      | (go_at_call 41; refine (acceptKw h3 sRead true (by rw [kwt_is]; decide)).mono ?_; rintro e w4 ⟨rfl, h4, hg4⟩; clear h3)
      | (go_at_call 41; refine (acceptKw h4 sCommitted true (by rw [kwt_is]; decide)).mono ?_; rintro e w5 ⟨rfl, h5, hg5⟩; clear h4))
    go_ret2
    exact ⟨rfl, h5, grown_trans (grown_trans (grown_trans (grown_trans hg1 hg2) hg3) hg4) hg5⟩
  · have h0 : At L (kwt up sLevel :: kwt up sRead :: kwt up sUncommitted :: ts) w := h
    clear h
    go_enter Ybaz.func90, Ybaz.ntmps90
    go_wp2_with (first
      | (go_at_call 40; refine (expectKw h0 sLevel (by rw [kwt_is]; decide)).mono ?_; rintro e w1 ⟨rfl, h1, hg1⟩; clear h0)
      | (go_at_call 41; refine (acceptKw h1 sSerializable false (by rw [kwt_is]; decide)).mono ?_; rintro e w2 ⟨rfl, h2, hg2⟩; clear h1)
      | (go_at_call 41; refine (acceptKw h2 sRepeatable false (by rw [kwt_is]; decide)).mono ?_; rintro e w3 ⟨rfl, h3, hg3⟩; clear h2)
      | (go_at_call 41; refine (acceptKw h3 sRead true (by rw [kwt_is]; decide)).mono ?_; rintro e w4 ⟨rfl, h4, hg4⟩; clear h3)
      | (go_at_call 41; refine (acceptKw h4 sCommitted false (by rw [kwt_is]; decide)).mono ?_; rintro e w5 ⟨rfl, h5, hg5⟩; clear h4)
      | (go_at_call 40; refine (expectKw h5 sUncommitted (by rw [kwt_is]; decide)).mono ?_; rintro e w6 ⟨rfl, h6, hg6⟩; clear h5))
    go_ret2
    exact ⟨rfl, h6, grown_trans (grown_trans (grown_trans (grown_trans (grown_trans hg1 hg2) hg3) hg4) hg5) hg6⟩

/-- What a mode of the second kind sets. -/
def accVal (c : Nat) : Int := if c = 4 then 2 else 1

theorem accMode {L : Lay} {ts : List Tok} {w : World} (up : Bool) (c : Nat) (h : At L (accToks up c ++ ts) w) :
    Calls Ybaz.prog 91 #[.pointer (some ⟨L.p, 0, none⟩)] w fun e w' => e = .returned (.tuple #[.int .i64 (accVal c), .nilIface]) ∧ At L ts w' ∧ w.grownBy w' (some L.p) := by
  unfold accToks at h
  unfold accVal
  by_cases hc : c = 4
  · rw [if_pos hc] at h ⊢
    have h0 : At L (kwt up sOnly :: ts) w := h
    clear h
    go_enter Ybaz.func91, Ybaz.ntmps91
    go_wp2_with (go_at_call 41; refine (acceptKw h0 sOnly true (by rw [kwt_is]; decide)).mono ?_; rintro e w1 ⟨rfl, h1, hg1⟩; clear h0)
    go_ret2
    exact ⟨rfl, h1, hg1⟩
  · rw [if_neg hc] at h ⊢
    have h0 : At L (kwt up sWrite :: ts) w := h
    clear h
    go_enter Ybaz.func91, Ybaz.ntmps91
    go_wp2_with (first
      | (go_at_call 41; refine (acceptKw h0 sOnly false (by rw [kwt_is]; decide)).mono ?_; rintro e w1 ⟨rfl, h1, hg1⟩; clear h0)
      | (go_at_call 41; refine (acceptKw h1 sWrite true (by rw [kwt_is]; decide)).mono ?_; rintro e w2 ⟨rfl, h2, hg2⟩; clear h1))
    go_ret2
    exact ⟨rfl, h2, grown_trans hg1 hg2⟩

/-- A list of modes: whether a comma stands ahead, and which. -/
def tailToks (up : Bool) : List (Bool × Nat) → List Tok → List Tok
  | [], rest => rest
  | (b, c) :: ms, rest => (if b then [opt sComma] else []) ++ (modeToks up c ++ tailToks up ms rest)
/-- .. the first without a comma. -/
def headToks (up : Bool) : List (Bool × Nat) → List Tok → List Tok
  | [], rest => rest
  | (_, c) :: ms, rest => modeToks up c ++ tailToks up ms rest
/-- What a mode sets. -/
def setMode (m : Int × Int) (c : Nat) : Int × Int := if c < 4 then (4 - (c : Int), m.2) else (m.1, accVal c)
def setModes (m : Int × Int) (ms : List (Bool × Nat)) : Int × Int := ms.foldl (fun m x => setMode m x.2) m

def mCells (m : Int × Int) : Array Value := #[.int .i64 m.1, .int .i64 m.2]

theorem At.set {L : Lay} {ts : List Tok} {w : World} (h : At L ts w) {b : Nat} {cs : Array Value} {ty : TypeId} {fr : Nat × Nat} (hb : w.heap[b]? = some (.cells cs ty fr)) (h1 : ty ≠ 84) (h2 : ty ≠ 90) (j : Nat) (v : Value) : At L ts (w.setCell ⟨b, j, none⟩ v) := by
  obtain ⟨k, hk, h⟩ := h
  refine ⟨k, hk, ?_, ?_, h.h, h.n⟩
  · rw [Below.heap_setCell _ _ _ _ (by exact (blk_ne hb h.p h1).symm)]; exact h.p
  · rw [Below.heap_setCell _ _ _ _ (by exact (blk_ne hb h.t h2).symm)]; exact h.t
theorem At.ne {L : Lay} {ts : List Tok} {w : World} (h : At L ts w) {b : Nat} {cs : Array Value} {ty : TypeId} {fr : Nat × Nat} (hb : w.heap[b]? = some (.cells cs ty fr)) (h1 : ty ≠ 84) : b ≠ L.p := by
  obtain ⟨k, hk, h⟩ := h
  exact blk_ne hb h.p h1

/-- What stands behind a mode: a comma, taken, or none. -/
theorem tail_next (up : Bool) (ms : List (Bool × Nat)) (r : Tok) (rs : List Tok) (hr2 : r.is 6 sComma = false) :
    ∃ t ts b, tailToks up ms (r :: rs) = t :: ts ∧ t.is 6 sComma = b ∧ (bif b then ts else t :: ts) = headToks up ms (r :: rs) ∧ (b = true → ms ≠ []) := by
  cases ms with
  | nil => exact ⟨r, rs, false, rfl, hr2, rfl, fun h => by cases h⟩
  | cons m ms =>
    obtain ⟨b, c⟩ := m
    cases b with
    | true => exact ⟨opt sComma, _, true, rfl, by decide, rfl, fun _ => by simp⟩
    | false =>
      have : ∃ s ts, modeToks up c ++ tailToks up ms (r :: rs) = kwt up s :: ts := by
        unfold modeToks
        split <;> exact ⟨_, _, rfl⟩
      obtain ⟨s, ts, hs⟩ := this
      refine ⟨kwt up s, ts, false, by simp [tailToks, hs], by simp [Tok.is, kwt], ?_, fun h => by cases h⟩
      simp [headToks, hs]

theorem setModes_step (ms : List (Bool × Nat)) (k : Nat) (x : Bool × Nat) (h : ms[k]? = some x) : setModes (0, 0) (ms.take (k + 1)) = setMode (setModes (0, 0) (ms.take k)) x.2 := by
  have hk := (List.getElem?_eq_some_iff.1 h)
  rw [← List.take_append_getElem hk.1, setModes, List.foldl_append, hk.2]
  rfl

set_option maxHeartbeats 4000000 in
/-- transactionModes, to its good end -/
theorem tmodes {L : Lay} {r : Tok} {rs : List Tok} {w : World} (up : Bool) (ms : List (Bool × Nat)) (req : Bool) (hreq : req = true → ms ≠ []) (h : At L (headToks up ms (r :: rs)) w) (hr : r.kind ≠ 1) (hr2 : r.is 6 sComma = false) :
    Calls Ybaz.prog 77 #[.pointer (some ⟨L.p, 0, none⟩), .bool req] w fun e w' => e = .returned (.tuple #[.agg (mCells (setModes (0, 0) ms)), .nilIface]) ∧ At L (r :: rs) w' ∧ w.grownBy w' (some L.p) := by
  have hA := h.later (((grown_refl w none).alc (.cells #[.int .i64 0, .int .i64 0] 57)).alc (.cells #[.int .i64 0, .int .i64 0] 57))
  have hG := (((grown_refl w (some L.p)).alc (.cells #[.int .i64 0, .int .i64 0] 57)).alc (.cells #[.int .i64 0, .int .i64 0] 57))
  have hb0 : ((w.alloc (.cells #[.int .i64 0, .int .i64 0] 57)).alloc (.cells #[.int .i64 0, .int .i64 0] 57)).heap[w.heap.size]? = some (.cells #[.int .i64 0, .int .i64 0] 57 (0, 0)) := by
    rw [Below.heap_alloc _ _ _ (by simp)]
    exact heap_alloc_new w _
  have hb1 : ((w.alloc (.cells #[.int .i64 0, .int .i64 0] 57)).alloc (.cells #[.int .i64 0, .int .i64 0] 57)).heap[w.heap.size + 1]? = some (.cells #[.int .i64 0, .int .i64 0] 57 (0, 0)) := by
    have := heap_alloc_new (w.alloc (.cells #[.int .i64 0, .int .i64 0] 57)) (.cells #[.int .i64 0, .int .i64 0] 57)
    simpa using this
  obtain ⟨W, hW⟩ : ∃ W, W = (w.alloc (.cells #[.int .i64 0, .int .i64 0] 57)).alloc (.cells #[.int .i64 0, .int .i64 0] 57) := ⟨_, rfl⟩
  rw [← hW] at hA hG hb0 hb1
  have HA : Hid (At L (headToks up ms (r :: rs)) W) := hA
  have HG : Hid (w.grownBy W (some L.p)) := hG
  have HB0 : Hid (W.heap[w.heap.size]? = some (.cells #[.int .i64 0, .int .i64 0] 57 (0, 0))) := hb0
  have HB1 : Hid (W.heap[w.heap.size + 1]? = some (.cells #[.int .i64 0, .int .i64 0] 57 (0, 0))) := hb1
  clear h hA hG hb0 hb1
  go_enter Ybaz.func77, Ybaz.ntmps77
  go_wp2_with fail
  rw [← hW]
  have HW : Hid (W = (w.alloc (.cells #[.int .i64 0, .int .i64 0] 57)).alloc (.cells #[.int .i64 0, .int .i64 0] 57)) := hW
  clear hW
  obtain ⟨N, hN⟩ : ∃ N, N = w.heap.size := ⟨_, rfl⟩
  rw [← hN] at HB0 HB1 ⊢
  have HN : Hid (N = w.heap.size) := hN
  clear hN
  go_loopg [7] ms.length (fun g m wr => ∃ k b, g + k = ms.length ∧ m = .bool b ∧ (b = true → ms.drop k ≠ []) ∧ At L (headToks up (ms.drop k) (r :: rs)) wr ∧ w.grownBy wr (some L.p) ∧
    wr.heap[N]? = some (.cells #[.int .i64 0, .int .i64 0] 57 (0, 0)) ∧ wr.heap[N + 1]? = some (.cells (mCells (setModes (0, 0) (ms.take k))) 57 (0, 0)))
  case atStart =>
    exact ⟨0, req, by omega, rfl, by simpa using hreq, HA.out, HG.out, HB0.out, HB1.out⟩
  case round =>
    clear HA HG HB0 HB1
    obtain ⟨k, b, hk, rfl, hb, hA, hG, h0, h1⟩ := hrel
    have hNp := At.ne hA h0 (by decide)
    have hN1p := At.ne hA h1 (by decide)
    have hnot : ∀ s, r.is 1 s = false := fun s => by unfold Tok.is; simp [hr]
    obtain ⟨m, hm⟩ : ∃ m, m = setModes (0, 0) (ms.take k) := ⟨_, rfl⟩
    rw [← hm] at h1
    cases hms : ms.drop k with
    | nil =>
      have hkk : k = ms.length ∨ ms.length ≤ k := by
        have := congrArg List.length hms
        simp at this
        omega
      have htake : ms.take k = ms := List.take_of_length_le (by omega)
      rw [htake] at hm
      have HM : Hid (m = setModes (0, 0) ms) := hm
      clear hm
      obtain rfl : b = false := by
        cases b with
        | false => rfl
        | true => exact absurd hms (hb rfl)
      rw [hms] at hA
      have hA0 : At L (r :: rs) wr := hA
      clear hA hb hr hr2 hms hreq hkk htake hk
      go_wp2_with (first
        | (go_at_call 41; refine (acceptKw hA0 sIsolation false (hnot _)).mono ?_; rintro e w1 ⟨rfl, hA1, hg1⟩; clear hA0)
        | (go_at_call 41; refine (acceptKw hA1 sRead false (hnot _)).mono ?_; rintro e w2 ⟨rfl, hA2, hg2⟩; have hA2' : At L (r :: rs) w2 := hA2; clear hA1; have e1 : w2.heap[N + 1]? = some (.cells (mCells m) 57 (0, 0)) := blk_later' (blk_later' h1 hg1 hN1p) hg2 hN1p; have e0 : w2.heap[N]? = some (.cells #[.int .i64 0, .int .i64 0] 57 (0, 0)) := blk_later' (blk_later' h0 hg1 hNp) hg2 hNp; have c10 : w2.cell? ⟨N + 1, 0, none⟩ = some (.int .i64 m.1) := cells_at e1 0; have c11 : w2.cell? ⟨N + 1, 1, none⟩ = some (.int .i64 m.2) := cells_at e1 1; have c00 : w2.cell? ⟨N, 0, none⟩ = some (.int .i64 0) := cells_at e0 0; have c01 : w2.cell? ⟨N, 1, none⟩ = some (.int .i64 0) := cells_at e0 1; have f00 : w2.frozen? ⟨N, 0, none⟩ = false := free_at e0 0; have f01 : w2.frozen? ⟨N, 1, none⟩ = false := free_at e0 1))
      have e0a : (w2.setCell ⟨N, 0, none⟩ (.int .i64 m.1)).heap[N]? = some (.cells #[.int .i64 m.1, .int .i64 0] 57 (0, 0)) := by rw [heap_setCell_same _ _ _ _ _ _ e0]; rfl
      have e0b : ((w2.setCell ⟨N, 0, none⟩ (.int .i64 m.1)).setCell ⟨N, 1, none⟩ (.int .i64 m.2)).heap[N]? = some (.cells #[.int .i64 m.1, .int .i64 m.2] 57 (0, 0)) := by rw [heap_setCell_same _ _ _ _ _ _ e0a]; rfl
      have r0 := cells_at e0b 0
      have r1 := cells_at e0b 1
      simp at r0 r1
      refine bodyPost_ret (v := .tuple #[.agg (mCells m), .nilIface]) (by simp [results, Ybaz.results77, go_sem, mCells, r0, r1]) rfl ⟨by rw [HM.out], ?_, ?_⟩
      · exact (hA2'.set e0 (by decide) (by decide) 0 _).set e0a (by decide) (by decide) 1 _
      · exact ((grown_trans (grown_trans hG hg1) hg2).set _ _ (.inr (Nat.le_of_eq HN.out.symm))).set _ _ (.inr (Nat.le_of_eq HN.out.symm))
    | cons x tl =>
      obtain ⟨cb, c⟩ := x
      have hkx : ms[k]? = some (cb, c) := by rw [← List.head?_drop, hms]; rfl
      have hdr : ms.drop (k + 1) = tl := by rw [← List.drop_drop, hms]; rfl
      have hklt := (List.getElem?_eq_some_iff.1 hkx).1
      have hstep := setModes_step ms k (cb, c) hkx
      rw [← hm] at hstep
      have HM : Hid (setModes (0, 0) (ms.take (k + 1)) = if c < 4 then (4 - (c : Int), m.2) else (m.1, accVal c)) := hstep
      clear hm hstep
      obtain ⟨t, ts, b', ht1, ht2, ht3, ht4⟩ := tail_next up tl r rs hr2
      rw [hms] at hA
      clear hms hb hr hr2 hreq hnot
      by_cases hc : c < 4
      · have hA0 : At L (kwt up sIsolation :: (isoToks up c ++ (t :: ts))) wr := by
          rw [← ht1]
          have : headToks up ((cb, c) :: tl) (r :: rs) = kwt up sIsolation :: (isoToks up c ++ tailToks up tl (r :: rs)) := by simp [headToks, modeToks, hc]
          rw [← this]
          exact hA
        clear hA
        go_wp2_with (first
          | (go_at_call 41; refine (acceptKw hA0 sIsolation true (by rw [kwt_is]; decide)).mono ?_; rintro e w1 ⟨rfl, hA1, hg1⟩; clear hA0)
          | (go_at_call 90; refine (isoLevel up c hc hA1).mono ?_; rintro e w2 ⟨rfl, hA2, hg2⟩; clear hA1; have e1 : w2.heap[N + 1]? = some (.cells (mCells m) 57 (0, 0)) := blk_later' (blk_later' h1 hg1 hN1p) hg2 hN1p; have e0 : w2.heap[N]? = some (.cells #[.int .i64 0, .int .i64 0] 57 (0, 0)) := blk_later' (blk_later' h0 hg1 hNp) hg2 hNp; have c10 : w2.cell? ⟨N + 1, 0, none⟩ = some (.int .i64 m.1) := cells_at e1 0; have f10 : w2.frozen? ⟨N + 1, 0, none⟩ = false := free_at e1 0; have hA3 := hA2.set e1 (by decide) (by decide) 0 (.int .i64 (4 - (c : Int))); clear hA2)
          | (go_at_call 15; refine (acceptOp hA3 sComma b' ht2).mono ?_; rintro e w4 ⟨rfl, hA4, hg4⟩; clear hA3))
        go_roundg (gk - 1)
        case measure => omega
        case rel =>
          refine ⟨k + 1, b', by omega, rfl, by rw [hdr]; exact ht4, ?_, ?_, ?_, ?_⟩
          · rw [hdr, ← ht3]; exact hA4
          · exact grown_trans ((grown_trans (grown_trans hG hg1) hg2).set _ _ (.inr (by show w.heap.size ≤ N + 1; rw [HN.out]; omega))) hg4
          · exact blk_later' (by rw [Below.heap_setCell _ _ _ _ (by show N ≠ N + 1; omega)]; exact e0) hg4 hNp
          · refine blk_later' ?_ hg4 hN1p
            rw [heap_setCell_same _ _ _ _ _ _ e1, HM.out, if_pos hc]
            rfl
      · have hA0 : At L (kwt up sRead :: (accToks up c ++ (t :: ts))) wr := by
          rw [← ht1]
          have : headToks up ((cb, c) :: tl) (r :: rs) = kwt up sRead :: (accToks up c ++ tailToks up tl (r :: rs)) := by simp [headToks, modeToks, hc]
          rw [← this]
          exact hA
        clear hA
        go_wp2_with (first
          | (go_at_call 41; refine (acceptKw hA0 sIsolation false (by rw [kwt_is]; decide)).mono ?_; rintro e w1 ⟨rfl, hA1, hg1⟩; clear hA0)
          | (go_at_call 41; refine (acceptKw hA1 sRead true (by rw [kwt_is]; decide)).mono ?_; rintro e wz ⟨rfl, hA1z, hgz⟩; clear hA1)
          | (go_at_call 91; refine (accMode up c hA1z).mono ?_; rintro e w2 ⟨rfl, hA2, hg2⟩; clear hA1z; have e1 : w2.heap[N + 1]? = some (.cells (mCells m) 57 (0, 0)) := blk_later' (blk_later' (blk_later' h1 hg1 hN1p) hgz hN1p) hg2 hN1p; have e0 : w2.heap[N]? = some (.cells #[.int .i64 0, .int .i64 0] 57 (0, 0)) := blk_later' (blk_later' (blk_later' h0 hg1 hNp) hgz hNp) hg2 hNp; have c10 : w2.cell? ⟨N + 1, 1, none⟩ = some (.int .i64 m.2) := cells_at e1 1; have f10 : w2.frozen? ⟨N + 1, 1, none⟩ = false := free_at e1 1; have hA3 := hA2.set e1 (by decide) (by decide) 1 (.int .i64 (accVal c)); clear hA2)
          | (go_at_call 15; refine (acceptOp hA3 sComma b' ht2).mono ?_; rintro e w4 ⟨rfl, hA4, hg4⟩; clear hA3))
        go_roundg (gk - 1)
        case measure => omega
        case rel =>
          refine ⟨k + 1, b', by omega, rfl, by rw [hdr]; exact ht4, ?_, ?_, ?_, ?_⟩
          · rw [hdr, ← ht3]; exact hA4
          · exact grown_trans ((grown_trans (grown_trans (grown_trans hG hg1) hgz) hg2).set _ _ (.inr (by show w.heap.size ≤ N + 1; rw [HN.out]; omega))) hg4
          · exact blk_later' (by rw [Below.heap_setCell _ _ _ _ (by show N ≠ N + 1; omega)]; exact e0) hg4 hNp
          · refine blk_later' ?_ hg4 hN1p
            rw [heap_setCell_same _ _ _ _ _ _ e1, HM.out, if_neg hc]
            rfl

end Go.Proofs.YbulkexobaGreatFmt
