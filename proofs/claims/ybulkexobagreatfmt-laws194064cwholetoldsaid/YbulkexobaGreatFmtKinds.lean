/-
  THE STATEMENTS' PARSERS: begin, setTransaction, rollback, set, vacuum.
-/
import Derived.Test.YbulkexobaGreatFmtModes
namespace Go.Proofs.YbulkexobaGreatFmt
open Go.RowKit Go.Extern.Stop Go.Stop Go.Extern

/-- A statement: a pointer of type ty to a struct of type sty. -/
def IsStm (w : World) (v : Value) (ty sty : Nat) (cs : Array Value) : Prop := ∃ b, v = .iface ty (.pointer (some ⟨b, 0, none⟩)) ∧ w.heap[b]? = some (.cells cs sty (0, 0))

/-- A parser's good end .. -/
def Good (L : Lay) (w : World) (ty sty : Nat) (cs : Array Value) (ts : List Tok) (e : Ending) (w' : World) : Prop :=
  ∃ v, e = .returned (.tuple #[v, .nilIface]) ∧ IsStm w' v ty sty cs ∧ At L ts w' ∧ w.grownBy w' (some L.p)
/-- .. and its bad end. -/
def Bad (L : Lay) (w : World) (e : Ending) (w' : World) : Prop :=
  ∃ v u, e = .returned (.tuple #[v, u]) ∧ IsErr u ∧ w.grownBy w' (some L.p)

theorem At.later' {L : Lay} {ts : List Tok} {w w' : World} (h : At L ts w) {b : Nat} (hg : w.grownBy w' (some b)) {cs : Array Value} {ty : TypeId} {fr : Nat × Nat} (hb : w.heap[b]? = some (.cells cs ty fr)) (h1 : ty ≠ 84) (h2 : ty ≠ 90) : At L ts w' := by
  obtain ⟨k, hk, h⟩ := h
  exact ⟨k, hk, blk_later' h.p hg (blk_ne hb h.p h1).symm, blk_later' h.t hg (blk_ne hb h.t h2).symm, h.h, h.n⟩

set_option maxHeartbeats 1000000 in
/-- transactionModes, none where one is asked for -/
theorem tmodes_none (F : Interp) {L : Lay} {r : Tok} {rs : List Tok} {w : World} (h : At L (r :: rs) w) (hF : F.answers w.tape) (hr : r.kind ≠ 1) :
    Calls Ybaz.prog 77 #[.pointer (some ⟨L.p, 0, none⟩), .bool true] w fun e w' => ∃ u, e = .returned (.tuple #[.agg #[.int .i64 0, .int .i64 0], u]) ∧ IsErr u ∧ w.grownBy w' (some L.p) := by
  have hA0 := h.later (((grown_refl w none).alc (.cells #[.int .i64 0, .int .i64 0] 57)).alc (.cells #[.int .i64 0, .int .i64 0] 57))
  have hG := (((grown_refl w (some L.p)).alc (.cells #[.int .i64 0, .int .i64 0] 57)).alc (.cells #[.int .i64 0, .int .i64 0] 57))
  have hb0 : ((w.alloc (.cells #[.int .i64 0, .int .i64 0] 57)).alloc (.cells #[.int .i64 0, .int .i64 0] 57)).heap[w.heap.size]? = some (.cells #[.int .i64 0, .int .i64 0] 57 (0, 0)) := by
    rw [Below.heap_alloc _ _ _ (by simp)]
    exact heap_alloc_new w _
  have hb1 : ((w.alloc (.cells #[.int .i64 0, .int .i64 0] 57)).alloc (.cells #[.int .i64 0, .int .i64 0] 57)).heap[w.heap.size + 1]? = some (.cells #[.int .i64 0, .int .i64 0] 57 (0, 0)) := by
    have := heap_alloc_new (w.alloc (.cells #[.int .i64 0, .int .i64 0] 57)) (.cells #[.int .i64 0, .int .i64 0] 57)
    simpa using this
  have hNp := At.ne hA0 hb0 (by decide)
  have hN1p := At.ne hA0 hb1 (by decide)
  have hnot : ∀ s, r.is 1 s = false := fun s => by unfold Tok.is; simp [hr]
  obtain ⟨N, hN⟩ : ∃ N, N = w.heap.size := ⟨_, rfl⟩
  obtain ⟨W, hW⟩ : ∃ W, W = (w.alloc (.cells #[.int .i64 0, .int .i64 0] 57)).alloc (.cells #[.int .i64 0, .int .i64 0] 57) := ⟨_, rfl⟩
  rw [← hW] at hA0 hG hb0 hb1
  rw [← hN] at hb0 hb1 hNp hN1p
  clear h hr
  go_enter Ybaz.func77, Ybaz.ntmps77
  go_wp2_with fail
  rw [← hW, ← hN]
  have HN : Hid (N = w.heap.size) := hN
  clear hN hW
  refine wp_loop_rounds 1 ?_
  rw [rounds_succ]
  go_wp2_with (first
    | (go_at_call 41; refine (acceptKw hA0 sIsolation false (hnot _)).mono ?_; rintro e w1 ⟨rfl, hA1, hg1⟩; clear hA0)
    | (go_at_call 41; refine (acceptKw hA1 sRead false (hnot _)).mono ?_; rintro e w2 ⟨rfl, hA2, hg2⟩; clear hA1))
  have hA2' : At L (r :: rs) w2 := hA2
  have e1 : w2.heap[N + 1]? = some (.cells #[.int .i64 0, .int .i64 0] 57 (0, 0)) := blk_later' (blk_later' hb1 hg1 hN1p) hg2 hN1p
  have e0 : w2.heap[N]? = some (.cells #[.int .i64 0, .int .i64 0] 57 (0, 0)) := blk_later' (blk_later' hb0 hg1 hNp) hg2 hNp
  have G0 : w2.grownBy w2.drew (some N) := (grown_refl w2 (some N)).drw
  have hS : ∀ w', w2.grownBy w' (some N) → w'.cell? ⟨N + 1, 0, none⟩ = some (.int .i64 0) ∧ w'.cell? ⟨N + 1, 1, none⟩ = some (.int .i64 0) ∧ w2.grownBy w' (some N) := fun w' hg => ⟨cells_at (blk_later' e1 hg (by omega)) 0, cells_at (blk_later' e1 hg (by omega)) 1, hg⟩
  have hpk : ∀ w', w2.grownBy w' (some N) → Calls Ybaz.prog 16 #[.pointer (some ⟨L.p, 0, none⟩)] w' _ := fun w' hg => peek_any (hA2'.later' hg e0 (by decide) (by decide))
  have htp : w2.tape = w.tape := ((grown_trans (grown_trans hG hg1) hg2)).tape
  have hse : ∀ w', w2.grownBy w' (some N) → Calls Ybaz.prog 17 #[r.agg] w' _ := fun w' hg => syntaxError_any F r w' (by rw [hg.tape, htp]; exact hF)
  have HE : Hid (w2.heap[N]? = some (.cells #[.int .i64 0, .int .i64 0] 57 (0, 0))) := e0
  clear e0 e1 hnot hA2 hA2' hb0 hb1
  go_region_held3 (fun w' => w'.cell? ⟨N + 1, 0, none⟩ = some (.int .i64 0) ∧ w'.cell? ⟨N + 1, 1, none⟩ = some (.int .i64 0) ∧ w2.grownBy w' (some N)) (first | exact hS _ (by assumption) | exact hS _ (World.grownBy.set (World.grownBy.set (by assumption) _ _ (.inl rfl)) _ _ (.inl rfl))) (first
    | (go_at_call 16; refine (hpk _ (by assumption)).mono ?_; rintro e w3 ⟨rfl, hg3⟩; have G3 := grown_trans G0 (grown_but hg3 _); have c00 : w3.cell? ⟨N, 0, none⟩ = some (.int .i64 0) := cells_at (blk_later HE.out (grown_trans ((grown_refl w2 none).drw) hg3)) 0)
    | (go_at_call 17; refine (hse _ (by assumption)).mono ?_; rintro e w4 ⟨v, rfl, hv, hg4⟩; have G4 := grown_trans G3 (grown_but hg4 _); have e4 := blk_later HE.out (grown_trans (grown_trans ((grown_refl w2 none).drw) hg3) hg4); have d0 : w4.cell? ⟨N, 0, none⟩ = some (.int .i64 0) := cells_at e4 0; have d1 : w4.cell? ⟨N, 1, none⟩ = some (.int .i64 0) := cells_at e4 1; have d2 : w4.frozen? ⟨N, 0, none⟩ = false := free_at e4 0; have d3 : w4.frozen? ⟨N, 1, none⟩ = false := free_at e4 1; clear e4))
  have G5 := (grown_trans (grown_trans (grown_trans hG hg1) hg2) (grown_but (grown_trans (grown_trans ((grown_refl w2 none).drw) hg3) hg4) _))
  have e4 := blk_later HE.out (grown_trans (grown_trans ((grown_refl w2 none).drw) hg3) hg4)
  have e0a : (w4.setCell ⟨N, 0, none⟩ (.int .i64 0)).heap[N]? = some (.cells #[.int .i64 0, .int .i64 0] 57 (0, 0)) := by rw [heap_setCell_same _ _ _ _ _ _ e4]; rfl
  have e0b : ((w4.setCell ⟨N, 0, none⟩ (.int .i64 0)).setCell ⟨N, 1, none⟩ (.int .i64 0)).heap[N]? = some (.cells #[.int .i64 0, .int .i64 0] 57 (0, 0)) := by rw [heap_setCell_same _ _ _ _ _ _ e0a]; rfl
  have r0 := cells_at e0b 0
  have r1 := cells_at e0b 1
  simp at r0 r1
  go_wp2_with fail
  refine bodyPost_ret (v := .tuple #[.agg #[.int .i64 0, .int .i64 0], v]) (by simp [results, Ybaz.results77, go_sem, r0, r1]) rfl ⟨v, rfl, hv, ?_⟩
  exact (G5.set _ _ (.inr (Nat.le_of_eq HN.out.symm))).set _ _ (.inr (Nat.le_of_eq HN.out.symm))

theorem new2 (w : World) (a b : Obj) : ((w.alloc a).alloc b).heap[w.heap.size + 1]? = some b := by
  have := heap_alloc_new (w.alloc a) b
  simpa using this

/-- begin -/
theorem begin_ok {L : Lay} {r : Tok} {rs : List Tok} {w : World} (up : Bool) (ms : List (Bool × Nat)) (h : At L (headToks up ms (r :: rs)) w) (hr : r.kind ≠ 1) (hr2 : r.is 6 sComma = false) :
    Calls Ybaz.prog 39 #[.pointer (some ⟨L.p, 0, none⟩)] w (Good L w 60 62 (mCells (setModes (0, 0) ms)) (r :: rs)) := by
  have ht := tmodes up ms false (fun h => by cases h) h hr hr2
  obtain ⟨m, hm⟩ : ∃ m, m = setModes (0, 0) ms := ⟨_, rfl⟩
  rw [← hm] at ht ⊢
  clear hm h
  unfold mCells at ht ⊢
  go_enter Ybaz.func39, Ybaz.ntmps39
  go_wp2_with (go_at_call 77; refine ht.mono ?_; rintro e w1 ⟨rfl, h1, hg1⟩)
  go_ret2
  exact ⟨_, rfl, ⟨_, rfl, new2 _ _ _⟩, h1.later (((grown_refl w1 none).alc _).alc _), (hg1.alc _).alc _⟩

/-- set transaction -/
theorem setTrans_ok {L : Lay} {r : Tok} {rs : List Tok} {w : World} (up : Bool) (ms : List (Bool × Nat)) (hne : ms ≠ []) (h : At L (headToks up ms (r :: rs)) w) (hr : r.kind ≠ 1) (hr2 : r.is 6 sComma = false) :
    Calls Ybaz.prog 42 #[.pointer (some ⟨L.p, 0, none⟩)] w (Good L w 63 64 (mCells (setModes (0, 0) ms)) (r :: rs)) := by
  have ht := tmodes up ms true (fun _ => hne) h hr hr2
  obtain ⟨m, hm⟩ : ∃ m, m = setModes (0, 0) ms := ⟨_, rfl⟩
  rw [← hm] at ht ⊢
  clear hm h
  unfold mCells at ht ⊢
  go_enter Ybaz.func42, Ybaz.ntmps42
  go_wp2_with (go_at_call 77; refine ht.mono ?_; rintro e w1 ⟨rfl, h1, hg1⟩)
  go_ret2
  exact ⟨_, rfl, ⟨_, rfl, new2 _ _ _⟩, h1.later (((grown_refl w1 none).alc _).alc _), (hg1.alc _).alc _⟩

theorem setTrans_bad (F : Interp) {L : Lay} {r : Tok} {rs : List Tok} {w : World} (h : At L (r :: rs) w) (hF : F.answers w.tape) (hr : r.kind ≠ 1) :
    Calls Ybaz.prog 42 #[.pointer (some ⟨L.p, 0, none⟩)] w (Bad L w) := by
  have ht := tmodes_none F h hF hr
  go_enter Ybaz.func42, Ybaz.ntmps42
  go_wp2_with (go_at_call 77; refine ht.mono ?_; rintro e w1 ⟨u, rfl, hu, hg1⟩)
  go_ret2
  exact ⟨_, _, rfl, hu, (hg1.alc _).alc _⟩

def sTo : ByteArray := ⟨#[116, 111]⟩
def sFreeze : ByteArray := ⟨#[102, 114, 101, 101, 122, 101]⟩
def sEq : ByteArray := ⟨#[61]⟩
def sMinus : ByteArray := ⟨#[45]⟩
def sSemi : ByteArray := ⟨#[59]⟩
def sParen : ByteArray := ⟨#[41]⟩

/-- The word that may stand behind commit and its like. -/
def wordToks (up : Bool) (wi : Nat) : List Tok := if wi = 1 then [kwt up sWork] else if wi = 2 then [kwt up sTransaction] else []

theorem tword {L : Lay} {r : Tok} {rs : List Tok} {w : World} (up : Bool) (wi : Nat) (h : At L (wordToks up wi ++ r :: rs) w) (hr1 : r.is 1 sWork = false) (hr2 : r.is 1 sTransaction = false) :
    Calls Ybaz.prog 38 #[.pointer (some ⟨L.p, 0, none⟩)] w fun e w' => e = .returned (.tuple #[]) ∧ At L (r :: rs) w' ∧ w.grownBy w' (some L.p) := by
  unfold wordToks at h
  split at h
  · exact tword1 (t := kwt up sWork) h (by rw [kwt_is]; decide)
  · split at h
    · exact tword2 (t := kwt up sTransaction) h (by rw [kwt_is]; decide) true (by rw [kwt_is]; decide)
    · exact tword2 (t := r) h hr1 false hr2

/-- rollback -/
theorem rollback_plain {L : Lay} {r : Tok} {rs : List Tok} {w : World} (up : Bool) (wi : Nat) (h : At L (wordToks up wi ++ r :: rs) w) (hr : r.kind ≠ 1) :
    Calls Ybaz.prog 45 #[.pointer (some ⟨L.p, 0, none⟩)] w (Good L w 35 36 #[] (r :: rs)) := by
  have hnot : ∀ s, r.is 1 s = false := fun s => by unfold Tok.is; simp [hr]
  have ht := tword up wi h (hnot _) (hnot _)
  clear h hr
  go_enter Ybaz.func45, Ybaz.ntmps45
  go_wp2_with (first
    | (go_at_call 38; refine ht.mono ?_; rintro e w1 ⟨rfl, h1, hg1⟩; clear ht)
    | (go_at_call 41; refine (acceptKw h1 sTo false (hnot _)).mono ?_; rintro e w2 ⟨rfl, h2, hg2⟩; clear h1))
  go_ret2
  exact ⟨_, rfl, ⟨_, rfl, heap_alloc_new _ _⟩, h2.later ((grown_refl w2 none).alc _), (grown_trans hg1 hg2).alc _⟩

/-- The word savepoint, that may stand ahead of a name. -/
def spToks (up alt : Bool) : List Tok := if alt then [kwt up sSavepoint] else []
theorem spName {L : Lay} {t : Tok} {ts : List Tok} {w : World} (up alt : Bool) (h : At L (spToks up alt ++ t :: ts) w) (ht : t.kind = 2) :
    Calls Ybaz.prog 46 #[.pointer (some ⟨L.p, 0, none⟩)] w fun e w' => e = .returned (.tuple #[.string t.val, .nilIface]) ∧ At L ts w' ∧ w.grownBy w' (some L.p) := by
  unfold spToks at h
  split at h
  · exact spName_word (u := kwt up sSavepoint) h (by rw [kwt_is]; decide) ht
  · exact spName_plain h ht

theorem rollback_to {L : Lay} {t : Tok} {ts : List Tok} {w : World} (up alt : Bool) (wi : Nat) (h : At L (wordToks up wi ++ kwt up sTo :: (spToks up alt ++ t :: ts)) w) (ht : t.kind = 2) :
    Calls Ybaz.prog 45 #[.pointer (some ⟨L.p, 0, none⟩)] w (Good L w 38 40 #[.string t.val] ts) := by
  have ht1 := tword up wi h (by rw [kwt_is]; decide) (by rw [kwt_is]; decide)
  clear h
  go_enter Ybaz.func45, Ybaz.ntmps45
  go_wp2_with (first
    | (go_at_call 38; refine ht1.mono ?_; rintro e w1 ⟨rfl, h1, hg1⟩; clear ht1)
    | (go_at_call 41; refine (acceptKw h1 sTo true (by rw [kwt_is]; decide)).mono ?_; rintro e w2 ⟨rfl, h2, hg2⟩; clear h1)
    | (go_at_call 46; refine (spName up alt h2 ht).mono ?_; rintro e w3 ⟨rfl, h3, hg3⟩; clear h2))
  go_ret2
  exact ⟨_, rfl, ⟨_, rfl, heap_alloc_new _ _⟩, h3.later ((grown_refl w3 none).alc _), (grown_trans (grown_trans hg1 hg2) hg3).alc _⟩

/-- set -/
theorem set_ok {L : Lay} {t d : Tok} {ts : List Tok} {w : World} (up alt neg : Bool) (h : At L (t :: (if alt then kwt up sTo else opt sEq) :: ((if neg then [opt sMinus] else []) ++ d :: ts)) w) (ht : t.kind = 2) (hd : d.kind = 3) (hl : d.val.size ≤ 1000) :
    Calls Ybaz.prog 43 #[.pointer (some ⟨L.p, 0, none⟩)] w (Good L w 51 53 #[.string t.val, .string ((if neg then sMinus else ⟨#[]⟩) ++ d.val)] ts) := by
  have hnm := name_quoted h ht
  have hda : d.agg = .agg #[.int .i64 3, .string d.text, .string d.val] := by unfold Tok.agg; rw [hd]
  have hdn : d.is 6 sMinus = false := by unfold Tok.is; simp [hd]
  have hnx := fun {w : World} (h : At L (d :: ts) w) => next_any h (by rw [hd]; decide)
  rw [hda] at hnx
  clear h ht hd hda
  cases alt <;> cases neg <;> simp only [Bool.false_eq_true, if_false, if_true, List.nil_append, List.cons_append] at hnm ⊢
  · go_enter Ybaz.func43, Ybaz.ntmps43
    go_wp2_with (first
      | (go_at_call 44; refine hnm.mono ?_; rintro e w1 ⟨rfl, h1, hg1⟩; clear hnm)
      | (go_at_call 41; refine (acceptKw h1 sTo false (by decide)).mono ?_; rintro e w2 ⟨rfl, h2, hg2⟩; clear h1)
      | (go_at_call 76; refine (expectOp (t := opt sEq) h2 sEq (by decide)).mono ?_; rintro e w3 ⟨rfl, h3, hg3⟩; clear h2)
      | (go_at_call 15; refine (acceptOp h3 sMinus false hdn).mono ?_; rintro e w4 ⟨rfl, h4, hg4⟩; clear h3)
      | (go_at_call 30; refine (hnx h4).mono ?_; rintro e w5 ⟨rfl, h5, hg5⟩; clear h4))
    go_ret2
    exact ⟨_, rfl, ⟨_, rfl, new2 _ _ _⟩, h5.later (((grown_refl w5 none).alc _).alc _), ((grown_trans (grown_trans (grown_trans (grown_trans hg1 hg2) hg3) hg4) hg5).alc _).alc _⟩
  · go_enter Ybaz.func43, Ybaz.ntmps43
    go_wp2_with (first
      | (go_at_call 44; refine hnm.mono ?_; rintro e w1 ⟨rfl, h1, hg1⟩; clear hnm)
      | (go_at_call 41; refine (acceptKw h1 sTo false (by decide)).mono ?_; rintro e w2 ⟨rfl, h2, hg2⟩; clear h1)
      | (go_at_call 76; refine (expectOp (t := opt sEq) h2 sEq (by decide)).mono ?_; rintro e w3 ⟨rfl, h3, hg3⟩; clear h2)
      | (go_at_call 15; refine (acceptOp (t := opt sMinus) h3 sMinus true (by decide)).mono ?_; rintro e w4 ⟨rfl, h4, hg4⟩; clear h3)
      | (go_at_call 30; refine (hnx h4).mono ?_; rintro e w5 ⟨rfl, h5, hg5⟩; clear h4))
    go_ret2
    exact ⟨_, rfl, ⟨_, rfl, new2 _ _ _⟩, h5.later (((grown_refl w5 none).alc _).alc _), ((grown_trans (grown_trans (grown_trans (grown_trans hg1 hg2) hg3) hg4) hg5).alc _).alc _⟩
  · go_enter Ybaz.func43, Ybaz.ntmps43
    go_wp2_with (first
      | (go_at_call 44; refine hnm.mono ?_; rintro e w1 ⟨rfl, h1, hg1⟩; clear hnm)
      | (go_at_call 41; refine (acceptKw h1 sTo true (by rw [kwt_is]; decide)).mono ?_; rintro e w2 ⟨rfl, h2, hg2⟩; clear h1)
      | (go_at_call 15; refine (acceptOp h2 sMinus false hdn).mono ?_; rintro e w4 ⟨rfl, h4, hg4⟩; clear h2)
      | (go_at_call 30; refine (hnx h4).mono ?_; rintro e w5 ⟨rfl, h5, hg5⟩; clear h4))
    go_ret2
    exact ⟨_, rfl, ⟨_, rfl, new2 _ _ _⟩, h5.later (((grown_refl w5 none).alc _).alc _), ((grown_trans (grown_trans (grown_trans hg1 hg2) hg4) hg5).alc _).alc _⟩
  · go_enter Ybaz.func43, Ybaz.ntmps43
    go_wp2_with (first
      | (go_at_call 44; refine hnm.mono ?_; rintro e w1 ⟨rfl, h1, hg1⟩; clear hnm)
      | (go_at_call 41; refine (acceptKw h1 sTo true (by rw [kwt_is]; decide)).mono ?_; rintro e w2 ⟨rfl, h2, hg2⟩; clear h1)
      | (go_at_call 15; refine (acceptOp (t := opt sMinus) h2 sMinus true (by decide)).mono ?_; rintro e w4 ⟨rfl, h4, hg4⟩; clear h2)
      | (go_at_call 30; refine (hnx h4).mono ?_; rintro e w5 ⟨rfl, h5, hg5⟩; clear h4))
    go_ret2
    exact ⟨_, rfl, ⟨_, rfl, new2 _ _ _⟩, h5.later (((grown_refl w5 none).alc _).alc _), ((grown_trans (grown_trans (grown_trans hg1 hg2) hg4) hg5).alc _).alc _⟩

end Go.Proofs.YbulkexobaGreatFmt
