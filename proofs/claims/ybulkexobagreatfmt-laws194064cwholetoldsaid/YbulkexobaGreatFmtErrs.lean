/-
  syntaxError: whatever fmt answers, a pointer to an Error; and the parser in memory: peek.
-/
import Derived.Test.YbulkexobaGreatFmtBase
import Derived.Stop.CallBack
import Derived.Stop.IfaceNil
import GoSem.ClaimData
namespace Go.Proofs.YbulkexobaGreatFmt
open Go.RowKit Go.Extern.Stop Go.Stop Go.Extern

theorem Ybaz.call49 (args : Array Value) (w : World) : (callFunc 49 args).run Ybaz.prog w = ((FmtStop.sprintf #[9, 274] #[9] args).run Ybaz.prog w).andThen fun v w' => .ok (.value v) w' :=
  run_callFunc_extern Ybaz.func49 (by kernel_rfl) (by kernel_rfl) (by kernel_rfl) (by kernel_rfl) args w
theorem Ybaz.guard (name : String) (w : World) : (FmtStop.guard name).run Ybaz.prog w = .ok () w := by kernel_rfl

def fSyn : ByteArray := ⟨#[115, 121, 110, 116, 97, 120, 32, 101, 114, 114, 111, 114, 32, 97, 116, 32, 111, 114, 32, 110, 101, 97, 114, 32, 34, 37, 115, 34]⟩
theorem Ybaz.fmtSyn : FmtStop.printed? ⟨#[115, 121, 110, 116, 97, 120, 32, 101, 114, 114, 111, 114, 32, 97, 116, 32, 111, 114, 32, 110, 101, 97, 114, 32, 34, 37, 115, 34]⟩ 1 = some [(0, 115, false)] := by kernel_rfl
def Ybaz.shape9 : List UInt8 := [12, 6, 0, 0, 0, 0, 0, 0, 0, 115, 116, 114, 105, 110, 103]
theorem Ybaz.op9_115 (name : String) (x : ByteArray) (w : World) : (FmtStop.operand name false 115 false (.iface 9 (.string x))).run Ybaz.prog w = .ok (Ybaz.shape9, FmtStop.pack x.data.toList) w := by kernel_rfl

/-- An error of the parser's own. -/
def IsErr (v : Value) : Prop := ∃ b, v = .iface 73 (.pointer (some ⟨b, 0, none⟩))

theorem syntaxError_eof (t : Tok) (w : World) (h : t.kind = 0) :
    Calls Ybaz.prog 17 #[t.agg] w fun e w' => ∃ v, e = .returned v ∧ IsErr v ∧ w.grownBy w' none := by
  unfold Tok.agg
  go_enter Ybaz.func17, Ybaz.ntmps17
  go_wp2_with fail
  go_ret
  exact ⟨_, rfl, ⟨_, rfl⟩, grown_trans (World.grownBy_alloc _ _ _) (World.grownBy_alloc _ _ _)⟩

theorem syntaxError_any (F : Interp) (t : Tok) (w : World) (hF : F.answers w.tape) :
    Calls Ybaz.prog 17 #[t.agg] w fun e w' => ∃ v, e = .returned v ∧ IsErr v ∧ w.grownBy w' none := by
  by_cases h : t.kind = 0
  · exact syntaxError_eof t w h
  have hF' := answers_open hF
  unfold Tok.agg
  have h1 := Ybaz.call49
  have h2 := Ybaz.guard
  have h3 := Ybaz.fmtSyn
  have h4 := Ybaz.op9_115
  go_enter Ybaz.func17, Ybaz.ntmps17
  go_wp2
  go_ret
  exact ⟨_, rfl, ⟨_, rfl⟩, ((((grown_refl w none).alc _).alc _).alc _).drw⟩

/-- WHERE THE PARSER LIES: its block, the tokens' block, its cells, the tokens. -/
structure Lay where
  p : Nat
  tb : Nat
  cap : Nat
  tc : Array Value
  all : List Tok

def pCells (L : Lay) (k : Nat) : Array Value := #[.slice (some ⟨L.tb, 0, none⟩) L.all.length L.cap, .int .i64 k, .int .i64 0, .slice none 0 0, .slice none 0 0]

/-- The row tc holds the tokens l. -/
def THolds (tc : Array Value) (l : List Tok) : Prop :=
  ∀ i t, l[i]? = some t → tc[i * 3]? = some (.int .i64 t.kind) ∧ tc[i * 3 + 1]? = some (.string t.text) ∧ tc[i * 3 + 2]? = some (.string t.val)

/-- The parser stands at token k. -/
structure AtK (L : Lay) (k : Nat) (w : World) : Prop where
  p : w.heap[L.p]? = some (.cells (pCells L k) 84 (0, 0))
  t : w.heap[L.tb]? = some (.cells L.tc 90 (0, 0))
  h : THolds L.tc L.all
  n : L.all.length ≤ 1000000000

/-- THE PARSER, the tokens ts before it. -/
def At (L : Lay) (ts : List Tok) (w : World) : Prop := ∃ k, L.all.drop k = ts ∧ AtK L k w

theorem AtK.later {L : Lay} {k : Nat} {w w' : World} (h : AtK L k w) (hg : w.grownBy w' none) : AtK L k w' where
  p := (hg.block _ (Array.getElem?_eq_some_iff.1 h.p).1 (by simp)).trans h.p
  t := (hg.block _ (Array.getElem?_eq_some_iff.1 h.t).1 (by simp)).trans h.t
  h := h.h
  n := h.n
theorem At.later {L : Lay} {ts : List Tok} {w w' : World} (h : At L ts w) (hg : w.grownBy w' none) : At L ts w' := by
  obtain ⟨k, hk, h⟩ := h
  exact ⟨k, hk, h.later hg⟩

theorem AtK.move {L : Lay} {k : Nat} {w : World} (h : AtK L k w) (k' : Nat) : AtK L k' (w.setCell ⟨L.p, 1, none⟩ (.int .i64 k')) where
  p := by rw [heap_setCell_same w L.p 1 _ 84 _ h.p]; rfl
  t := by rw [Below.heap_setCell _ _ _ _ (by exact blk_ne h.t h.p (by decide))]; exact h.t
  h := h.h
  n := h.n

theorem drop_head {L : Lay} {k : Nat} {t : Tok} {ts : List Tok} (h : L.all.drop k = t :: ts) : L.all[k]? = some t ∧ L.all.drop (k + 1) = ts ∧ k < L.all.length := by
  have h1 : L.all[k]? = some t := by rw [← List.head?_drop, h]; rfl
  refine ⟨h1, ?_, (List.getElem?_eq_some_iff.1 h1).1⟩
  rw [← List.drop_drop, h]
  rfl

theorem AtK.tok {L : Lay} {k : Nat} {w : World} (h : AtK L k w) {i : Nat} {t : Tok} (ht : L.all[i]? = some t) :
    w.cell? ⟨L.tb, i * 3, none⟩ = some (.int .i64 t.kind) ∧ w.cell? ⟨L.tb, i * 3 + 1, none⟩ = some (.string t.text) ∧ w.cell? ⟨L.tb, i * 3 + 2, none⟩ = some (.string t.val) := by
  obtain ⟨h1, h2, h3⟩ := h.h i t ht
  exact ⟨(cells_at h.t _).trans h1, (cells_at h.t _).trans h2, (cells_at h.t _).trans h3⟩

/-- peek -/
theorem peek_any {L : Lay} {t : Tok} {ts : List Tok} {w : World} (h : At L (t :: ts) w) :
    Calls Ybaz.prog 16 #[.pointer (some ⟨L.p, 0, none⟩)] w fun e w' => e = .returned t.agg ∧ w.grownBy w' none := by
  obtain ⟨k, hk, h⟩ := h
  obtain ⟨hkt, _, hlt⟩ := drop_head hk
  have t0 := fun o => ((h.later (World.grownBy_alloc w o none)).tok hkt).1
  have t1 := fun o => ((h.later (World.grownBy_alloc w o none)).tok hkt).2.1
  have t2 := fun o => ((h.later (World.grownBy_alloc w o none)).tok hkt).2.2
  have c0 : ∀ o, (w.alloc o).cell? ⟨L.p, 0, none⟩ = some (.slice (some ⟨L.tb, 0, none⟩) L.all.length L.cap) := fun o => cells_at (h.later (World.grownBy_alloc w o none)).p 0
  have c1 : ∀ o, (w.alloc o).cell? ⟨L.p, 1, none⟩ = some (.int .i64 k) := fun o => cells_at (h.later (World.grownBy_alloc w o none)).p 1
  have hlt' : (k : Int) < (L.all.length : Int) := by omega
  clear h hk
  go_enter Ybaz.func16, Ybaz.ntmps16
  go_wp2_with fail
  go_region
  go_wp2_with fail
  exact bodyPost_ret (v := t.agg) (by simp [results, Ybaz.results16, go_sem, Tok.agg]) rfl ⟨rfl, ((grown_refl w none).alc _).drw⟩

end Go.Proofs.YbulkexobaGreatFmt
