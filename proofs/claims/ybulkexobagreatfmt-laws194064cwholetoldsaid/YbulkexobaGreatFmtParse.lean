/-
  Parse, over what the lexer and the statement's parser answer.
-/
import Derived.Test.YbulkexobaGreatFmtPieces
import Derived.Test.YbulkexobaGreatFmtStmtB
import Derived.OwnWalk
namespace Go.Proofs.YbulkexobaGreatFmt
open Go.RowKit Go.Extern.Stop Go.Stop Go.Extern

def eofT : Tok := ⟨0, ⟨#[]⟩, ⟨#[]⟩⟩
def semiToks (b : Bool) : List Tok := if b then [opt sSemi] else []
def parToks (b : Bool) : List Tok := if b then [opt sParen] else []

/-- The lexer's good end .. -/
def LexOk (s : ByteArray) (ts : List Tok) (w : World) : Prop :=
  Calls Ybaz.prog 13 #[.string s] w fun e w' => ∃ v, e = .returned (.tuple #[v, .nilIface]) ∧ w'.ownsRow w.heap.size 90 3 v (ts.length + 1) (tokCells (ts ++ [eofT])) ∧ w.grownBy w' none
/-- .. and its bad end. -/
def LexBad (s : ByteArray) (w : World) : Prop :=
  Calls Ybaz.prog 13 #[.string s] w fun e w' => ∃ v u, e = .returned (.tuple #[v, u]) ∧ IsErr u ∧ w.grownBy w' none

theorem tokCells_get (l : List Tok) : ∀ i t, l[i]? = some t → (tokCells l)[i * 3]? = some (.int .i64 t.kind) ∧ (tokCells l)[i * 3 + 1]? = some (.string t.text) ∧ (tokCells l)[i * 3 + 2]? = some (.string t.val) := by
  induction l with
  | nil => intro i t h; simp at h
  | cons x l ih =>
    intro i t h
    cases i with
    | zero =>
      simp at h
      subst h
      exact ⟨rfl, rfl, rfl⟩
    | succ i =>
      have h' := ih i t (by simpa using h)
      have e : ∀ j, (tokCells (x :: l))[(i + 1) * 3 + j]? = (tokCells l)[i * 3 + j]? := by
        intro j
        show (x.cells ++ tokCells l)[(i + 1) * 3 + j]? = _
        rw [List.getElem?_append_right (by simp [Tok.cells]; omega)]
        congr 1
        simp [Tok.cells]
        omega
      have e0 := e 0
      simp only [Nat.add_zero] at e0
      rw [e0, e 1, e 2]
      exact h'

theorem tholds_of {cur : Array Value} {l : List Tok} {n : Nat} (h : cur.toList.take n = tokCells l) : THolds cur l := by
  have hk : ∀ (k : Nat) (x : Value), (tokCells l)[k]? = some x → cur[k]? = some x := by
    intro k x hx
    rw [← h, List.getElem?_take] at hx
    split at hx
    · simpa using hx
    · cases hx
  intro i t ht
  obtain ⟨h0, h1, h2⟩ := tokCells_get l i t ht
  exact ⟨hk _ _ h0, hk _ _ h1, hk _ _ h2⟩

theorem at_start {w1 : World} {base : Nat} {v : Value} {ts : List Tok} (hown : w1.ownsRow base 90 3 v (ts.length + 1) (tokCells (ts ++ [eofT]))) (hn : ts.length + 1 ≤ 1000000000) :
    ∃ tb cap, v = .slice (some ⟨tb, 0, none⟩) (ts.length + 1) cap ∧ ∃ L : Lay, L.p = w1.heap.size ∧ At L (ts ++ [eofT]) (w1.alloc (.cells #[.slice (some ⟨tb, 0, none⟩) (ts.length + 1) cap, .int .i64 0, .int .i64 0, .slice none 0 0, .slice none 0 0] 84)) := by
  rcases hown.2 with ⟨_, h0⟩ | ⟨g, cap, cur, rfl, _, hg, _, _, _, ht⟩
  · omega
  · refine ⟨g, cap, rfl, ⟨w1.heap.size, g, cap, cur, ts ++ [eofT]⟩, rfl, 0, rfl, ?_, ?_, tholds_of ht, ?_⟩
    · have := heap_alloc_new w1 (.cells #[.slice (some ⟨g, 0, none⟩) (ts.length + 1) cap, .int .i64 0, .int .i64 0, .slice none 0 0, .slice none 0 0] 84)
      simpa [pCells] using this
    · exact ((World.grownBy_alloc w1 _ none).block g (Array.getElem?_eq_some_iff.1 hg).1 (by simp)).trans hg
    · simp; omega

theorem At.blk {L : Lay} {ts : List Tok} {w : World} (h : At L ts w) : ∃ cs, w.heap[L.p]? = some (.cells cs 84 (0, 0)) := by
  obtain ⟨k, _, h⟩ := h
  exact ⟨_, h.p⟩

theorem acc_semi {L : Lay} (semi par : Bool) {w : World} (h : At L (semiToks semi ++ (parToks par ++ [eofT])) w) :
    Calls Ybaz.prog 15 #[.pointer (some ⟨L.p, 0, none⟩), .string sSemi] w fun e w' => ∃ b, e = .returned (.bool b) ∧ At L (parToks par ++ [eofT]) w' ∧ w.grownBy w' (some L.p) := by
  cases semi
  · cases par
    · exact (acceptOp (t := eofT) (ts := []) h sSemi false (by decide)).mono fun e w' ⟨h1, h2, h3⟩ => ⟨false, h1, h2, h3⟩
    · exact (acceptOp (t := opt sParen) (ts := [eofT]) h sSemi false (by decide)).mono fun e w' ⟨h1, h2, h3⟩ => ⟨false, h1, h2, h3⟩
  · exact (acceptOp (t := opt sSemi) (ts := parToks par ++ [eofT]) h sSemi true (by decide)).mono fun e w' ⟨h1, h2, h3⟩ => ⟨true, h1, h2, h3⟩

theorem grown_new' {a b c : World} {n : Nat} (h : a.grownBy b none) (k : b.grownBy c (some n)) (hn : a.heap.size ≤ n) : a.grownBy c none :=
  grown_new h k (fun j hj => by injection hj with hj; omega)

/-- The statement's parser answers v, and the tail stands before it. -/
def StOk (semi par : Bool) (Q : Value → World → Prop) (L : Lay) (w : World) (e : Ending) (w' : World) : Prop :=
  ∃ v, e = .returned (.tuple #[v, .nilIface]) ∧ (∃ ty p, v = .iface ty p) ∧ Q v w' ∧ At L (semiToks semi ++ (parToks par ++ [eofT])) w' ∧ w.grownBy w' (some L.p)

theorem peek_eof {L : Lay} {ts : List Tok} {w : World} (h : At L (eofT :: ts) w) :
    Calls Ybaz.prog 16 #[.pointer (some ⟨L.p, 0, none⟩)] w fun e w' => e = .returned (.agg #[.int .i64 0, .string ⟨#[]⟩, .string ⟨#[]⟩]) ∧ w.grownBy w' none := peek_any h
theorem peek_par {L : Lay} {ts : List Tok} {w : World} (h : At L (opt sParen :: ts) w) :
    Calls Ybaz.prog 16 #[.pointer (some ⟨L.p, 0, none⟩)] w fun e w' => e = .returned (.agg #[.int .i64 6, .string ⟨#[41]⟩, .string ⟨#[41]⟩]) ∧ w.grownBy w' none := peek_any h
theorem Ybaz.field90 (a b c : Value) (w : World) : (Instr.field 90 (.agg #[a, b, c]) 0).run Ybaz.prog w = .ok a w := by kernel_rfl
theorem At.params {L : Lay} {ts : List Tok} {w : World} (h : At L ts w) : w.cell? ⟨L.p, 2, none⟩ = some (.int .i64 0) := by
  obtain ⟨k, _, h⟩ := h
  exact cells_at h.p 2

set_option maxRecDepth 100000 in
set_option maxHeartbeats 2000000 in
theorem parse_good (s : ByteArray) (ts : List Tok) (w : World) (hlex : LexOk s ts w) (hn : ts.length + 1 ≤ 1000000000) (semi : Bool) (Q : Value → World → Prop)
    (hst : ∀ L w', At L (ts ++ [eofT]) w' → w'.tape = w.tape → w.grownBy w' none → Calls Ybaz.prog 14 #[.pointer (some ⟨L.p, 0, none⟩)] w' (StOk semi false Q L w'))
    (hQ : ∀ (L : Lay) v w2 w3 ts', Q v w2 → At L ts' w2 → w2.grownBy w3 (some L.p) → Q v w3) :
    Calls Ybaz.prog 10 #[.string s] w fun e w' => ∃ v, e = .returned (.tuple #[v, .int .i64 0, .nilIface]) ∧ (∃ ty p, v = .iface ty p) ∧ Q v w' ∧ w.grownBy w' none := by
  go_enter Ybaz.func10, Ybaz.ntmps10
  go_wp2_with (first
    | (go_at_call 13; refine hlex.mono ?_; rintro e w1 ⟨v, rfl, hown, hg1⟩; obtain ⟨tb, cap, rfl, L, hLp, hA⟩ := at_start hown hn; clear hown))
  rw [← hLp]
  have hGA := (hg1.alc (.cells #[.slice (some ⟨tb, 0, none⟩) (ts.length + 1) cap, .int .i64 0, .int .i64 0, .slice none 0 0, .slice none 0 0] 84))
  have hle : w.heap.size ≤ L.p := by rw [hLp]; exact hg1.size
  obtain ⟨W, hW⟩ : ∃ W, W = w1.alloc (.cells #[.slice (some ⟨tb, 0, none⟩) (ts.length + 1) cap, .int .i64 0, .int .i64 0, .slice none 0 0, .slice none 0 0] 84) := ⟨_, rfl⟩
  rw [← hW] at hA hGA ⊢
  clear hW hLp hg1
  have hs := hst L W hA hGA.tape hGA
  have hf90 := Ybaz.field90
  clear hA
  go_wp2_with (first
    | (go_at_call 14; refine hs.mono ?_; rintro e w2 ⟨v, rfl, ⟨ty, p, rfl⟩, hq, hA2, hg2⟩)
    | (go_at_call 15; refine (acc_semi semi false hA2).mono ?_; rintro e w3 ⟨b, rfl, hA3, hg3⟩)
    | (go_at_call 16; refine (peek_eof (ts := []) hA3).mono ?_; rintro e w4 ⟨rfl, hg4⟩))
  have hp4 := (hA3.later hg4).params
  go_region
  go_wp2_with fail
  go_ret3
  have hg5 : w2.grownBy w4 (some L.p) := grown_trans hg3 (grown_but hg4 _)
  exact ⟨_, rfl, ⟨ty, p, rfl⟩, hQ L _ w2 _ _ hq hA2 (hg5.drw), (grown_new' hGA (grown_trans hg2 hg5) hle).drw⟩

set_option maxRecDepth 100000 in
set_option maxHeartbeats 2000000 in
theorem parse_par (F : Interp) (s : ByteArray) (ts : List Tok) (w : World) (hF : F.answers w.tape) (hlex : LexOk s ts w) (hn : ts.length + 1 ≤ 1000000000) (semi : Bool) (Q : Value → World → Prop)
    (hst : ∀ L w', At L (ts ++ [eofT]) w' → w'.tape = w.tape → w.grownBy w' none → Calls Ybaz.prog 14 #[.pointer (some ⟨L.p, 0, none⟩)] w' (StOk semi true Q L w')) :
    Calls Ybaz.prog 10 #[.string s] w fun e w' => ∃ u, e = .returned (.tuple #[.nilIface, .int .i64 0, u]) ∧ IsErr u ∧ w.grownBy w' none := by
  go_enter Ybaz.func10, Ybaz.ntmps10
  go_wp2_with (first
    | (go_at_call 13; refine hlex.mono ?_; rintro e w1 ⟨v, rfl, hown, hg1⟩; obtain ⟨tb, cap, rfl, L, hLp, hA⟩ := at_start hown hn; clear hown))
  rw [← hLp]
  have hGA := (hg1.alc (.cells #[.slice (some ⟨tb, 0, none⟩) (ts.length + 1) cap, .int .i64 0, .int .i64 0, .slice none 0 0, .slice none 0 0] 84))
  have hle : w.heap.size ≤ L.p := by rw [hLp]; exact hg1.size
  obtain ⟨W, hW⟩ : ∃ W, W = w1.alloc (.cells #[.slice (some ⟨tb, 0, none⟩) (ts.length + 1) cap, .int .i64 0, .int .i64 0, .slice none 0 0, .slice none 0 0] 84) := ⟨_, rfl⟩
  rw [← hW] at hA hGA ⊢
  clear hW hLp hg1
  have hs := hst L W hA hGA.tape hGA
  have hf90 := Ybaz.field90
  clear hA
  go_wp2_with (first
    | (go_at_call 14; refine hs.mono ?_; rintro e w2 ⟨v, rfl, ⟨ty, p, rfl⟩, hq, hA2, hg2⟩)
    | (go_at_call 15; refine (acc_semi semi true hA2).mono ?_; rintro e w3 ⟨b, rfl, hA3, hg3⟩; have hG3 : w.grownBy w3 none := grown_new' (grown_new' hGA hg2 hle) hg3 hle)
    | (go_at_call 16; refine (peek_par (ts := [eofT]) hA3).mono ?_; rintro e w4 ⟨rfl, hg4⟩; have hA4 := hA3.later hg4; clear hA3)
    | (go_at_call 16; refine (peek_par (ts := [eofT]) hA4).mono ?_; rintro e w5 ⟨rfl, hg5⟩; have hG5 : w.grownBy w5 none := grown_trans (grown_trans hG3 hg4) hg5; have hsy := syntaxError_any F (opt sParen) w5 (by rw [hG5.tape]; exact hF))
    | (go_at_call 17; refine hsy.mono ?_; rintro e w6 ⟨u, rfl, ⟨bb, rfl⟩, hg6⟩))
  go_ret3
  exact ⟨_, rfl, ⟨bb, rfl⟩, grown_trans hG5 hg6⟩

set_option maxRecDepth 100000 in
set_option maxHeartbeats 2000000 in
theorem parse_bad (s : ByteArray) (ts : List Tok) (w : World) (hlex : LexOk s ts w) (hn : ts.length + 1 ≤ 1000000000)
    (hst : ∀ L w', At L (ts ++ [eofT]) w' → w'.tape = w.tape → Calls Ybaz.prog 14 #[.pointer (some ⟨L.p, 0, none⟩)] w' (Bad L w')) :
    Calls Ybaz.prog 10 #[.string s] w fun e w' => ∃ u, e = .returned (.tuple #[.nilIface, .int .i64 0, u]) ∧ IsErr u ∧ w.grownBy w' none := by
  go_enter Ybaz.func10, Ybaz.ntmps10
  go_wp2_with (first
    | (go_at_call 13; refine hlex.mono ?_; rintro e w1 ⟨v, rfl, hown, hg1⟩; obtain ⟨tb, cap, rfl, L, hLp, hA⟩ := at_start hown hn; clear hown))
  rw [← hLp]
  have hGA := (hg1.alc (.cells #[.slice (some ⟨tb, 0, none⟩) (ts.length + 1) cap, .int .i64 0, .int .i64 0, .slice none 0 0, .slice none 0 0] 84))
  have hle : w.heap.size ≤ L.p := by rw [hLp]; exact hg1.size
  obtain ⟨W, hW⟩ : ∃ W, W = w1.alloc (.cells #[.slice (some ⟨tb, 0, none⟩) (ts.length + 1) cap, .int .i64 0, .int .i64 0, .slice none 0 0, .slice none 0 0] 84) := ⟨_, rfl⟩
  rw [← hW] at hA hGA ⊢
  clear hW hLp hg1
  have hs := hst L W hA hGA.tape
  clear hA
  go_wp2_with (first
    | (go_at_call 14; refine hs.mono ?_; rintro e w2 ⟨v, u, rfl, ⟨bb, rfl⟩, hg2⟩))
  go_ret3
  exact ⟨_, rfl, ⟨bb, rfl⟩, grown_new' hGA hg2 hle⟩

theorem parse_lexbad (s : ByteArray) (w : World) (hlex : LexBad s w) :
    Calls Ybaz.prog 10 #[.string s] w fun e w' => ∃ u, e = .returned (.tuple #[.nilIface, .int .i64 0, u]) ∧ IsErr u ∧ w.grownBy w' none := by
  go_enter Ybaz.func10, Ybaz.ntmps10
  go_wp2_with (go_at_call 13; refine hlex.mono ?_; rintro e w1 ⟨v, u, rfl, ⟨bb, rfl⟩, hg1⟩)
  go_ret3
  exact ⟨_, rfl, ⟨bb, rfl⟩, hg1⟩

end Go.Proofs.YbulkexobaGreatFmt
