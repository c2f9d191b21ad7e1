/-
  THE PRINTER IN MEMORY, as demangle.LawS194067CWhole lays it: the cxxPrinter's block, the cxxParser's block, the rows of nodes, of bytes written and of the path.
-/
import Derived.Test.YbulkexocqDoorRows
import Derived.WalkKit
import Derived.ProofKit
import Derived.Below
import Derived.Deep.QuietTactic
import Derived.BigQuiet
import Derived.Lib.AppendStr
namespace Go.Proofs.YbulkexocqDoor
open Go.RowKit

/-- A node, as numbers. -/
structure Nd where
  k : Int
  op : Int
  a : Int
  b : Int
  c : Int

/-- Its cells. -/
def Nd.cells (x : Nd) : List Value := [.int .u8 x.k, .int .u8 x.op, .int .i32 x.a, .int .i32 x.b, .int .i32 x.c]

/-- The row nc holds the nodes l, from its head on. -/
def Holds (nc : Array Value) (l : List Nd) : Prop :=
  ∀ i x, l[i]? = some x → nc[i * 5]? = some (.int .u8 x.k) ∧ nc[i * 5 + 1]? = some (.int .u8 x.op) ∧ nc[i * 5 + 2]? = some (.int .i32 x.a) ∧ nc[i * 5 + 3]? = some (.int .i32 x.b) ∧ nc[i * 5 + 4]? = some (.int .i32 x.c)

/-- Bytes as cells. -/
def bcells (l : List UInt8) : List Value := l.map fun b => Value.int .u8 (b.toNat : Int)

/-- WHERE ALL LIES: the blocks; what does not turn while the printer prints. -/
structure Lay where
  B : Nat
  bR : Nat
  bP : Nat
  gN : Nat
  gS : Nat
  n : Nat
  cap : Nat
  s : ByteArray
  nc : Array Value
  sc : Array Value
  w0 : World

/-- WHAT TURNS: the bytes written (their row, its capacity), the byte written last, the steps, the path. -/
structure St where
  gO : Nat
  cO : Nat
  out : List UInt8
  last : Int
  steps : Int
  pv : Value
  path : List Int

def prCells (L : Lay) (t : St) : Array Value :=
  #[.pointer (some ⟨L.bP, 0, none⟩), .slice (some ⟨t.gO, 0, none⟩) t.out.length t.cO, .int .u8 t.last, .int .i64 1073741824, .int .i64 t.steps, .slice none 0 0, .int .i32 (-1), .slice none 0 0, .int .i32 (-1), .int .i32 (-1), .int .i64 0, .int .i64 (-1), t.pv, .slice none 0 0]
def paCells (L : Lay) : Array Value :=
  #[.string L.s, .int .i64 0, .int .i32 (-1), .slice (some ⟨L.gN, 0, none⟩) L.n L.cap, .slice none 0 0, .slice none 0 0, .slice none 0 0, .slice none 0 0, .int .i32 (-1), .bool false, .bool false, .bool false, .bool false]

/-- THE PRINTER. -/
structure Pr (L : Lay) (t : St) (w : World) : Prop where
  r : w.heap[L.bR]? = some (.cells (prCells L t) 39 (0, 0))
  p : w.heap[L.bP]? = some (.cells (paCells L) 34 (0, 0))
  nn : w.heap[L.gN]? = some (.cells L.nc 25 (0, 0))
  ss : w.heap[L.gS]? = some (.cells L.sc 25 (0, 0))
  o : w.ownsRow L.B 5 1 (.slice (some ⟨t.gO, 0, none⟩) t.out.length t.cO) t.out.length (bcells t.out)
  pt : w.ownsRow L.B 27 1 t.pv t.path.length (t.path.map (Value.int .i32))
  bel : Below L.B L.w0 w
  hR : L.B ≤ L.bR

theorem cells_at {w : World} {b : Nat} {cs : Array Value} {t : TypeId} {fr : Nat × Nat} (h : w.heap[b]? = some (.cells cs t fr)) (j : Nat) : w.cell? ⟨b, j, none⟩ = cs[j]? := by
  simp [World.cell?, h]
theorem free_at {w : World} {b : Nat} {cs : Array Value} {t : TypeId} (h : w.heap[b]? = some (.cells cs t (0, 0))) (j : Nat) : w.frozen? ⟨b, j, none⟩ = false := by
  simp [World.frozen?, h]

section
variable {L : Lay} {t : St} {w : World}

theorem Pr.hB (h : Pr L t w) : L.B ≤ w.heap.size := by
  have := (Array.getElem?_eq_some_iff.1 h.r).1
  have := h.hR
  omega

/-- The blocks differ: by what they hold. -/
theorem blk_ne {w : World} {a b : Nat} {ca cb : Array Value} {ta tb : TypeId} {fa fb : Nat × Nat} (ha : w.heap[a]? = some (.cells ca ta fa)) (hb : w.heap[b]? = some (.cells cb tb fb)) (hne : ta ≠ tb) : a ≠ b := by
  rintro rfl
  rw [ha] at hb
  injection hb with hb
  injection hb with _ h2 _
  exact hne h2

theorem own_blk {w : World} {base e sz n : Nat} {v : Value} {xs : List Value} (h : w.ownsRow base e sz v n xs) {g : Nat} (hg : v.ownBlock = some g) : ∃ cur, w.heap[g]? = some (.cells cur e (0, 0)) := by
  rcases h.2 with ⟨rfl, _⟩ | ⟨g', cap, cur, rfl, _, hgg, _⟩
  · simp [Value.ownBlock] at hg
  · simp [Value.ownBlock] at hg
    subst hg
    exact ⟨cur, hgg⟩

theorem own_setCell {w : World} {base e sz n : Nat} {v : Value} {xs : List Value} (h : w.ownsRow base e sz v n xs) {b : Nat} {cs : Array Value} {tb : TypeId} (hb : w.heap[b]? = some (.cells cs tb (0, 0))) (hne : e ≠ tb) (j : Nat) (u : Value) :
    (w.setCell ⟨b, j, none⟩ u).ownsRow base e sz v n xs := by
  refine ⟨h.1, ?_⟩
  rcases h.2 with hn | ⟨g, cap, cur, hv, h1, hgg, rest⟩
  · exact .inl hn
  · refine .inr ⟨g, cap, cur, hv, h1, ?_, rest⟩
    rw [Below.heap_setCell _ _ _ _ (by exact blk_ne hgg hb hne)]
    exact hgg

/-- A store into the printer's own block: the cells that the new state has. -/
theorem Pr.store (h : Pr L t w) (t' : St) (j : Nat) (v : Value) (hcells : (prCells L t).setIfInBounds j v = prCells L t')
    (ho : w.ownsRow L.B 5 1 (.slice (some ⟨t'.gO, 0, none⟩) t'.out.length t'.cO) t'.out.length (bcells t'.out)) (hp : w.ownsRow L.B 27 1 t'.pv t'.path.length (t'.path.map (Value.int .i32))) : Pr L t' (w.setCell ⟨L.bR, j, none⟩ v) where
  r := by rw [heap_setCell_same w L.bR j _ 39 v h.r, hcells]
  p := by rw [Below.heap_setCell _ _ _ _ (by exact blk_ne h.p h.r (by decide))]; exact h.p
  nn := by rw [Below.heap_setCell _ _ _ _ (by exact blk_ne h.nn h.r (by decide))]; exact h.nn
  ss := by rw [Below.heap_setCell _ _ _ _ (by exact blk_ne h.ss h.r (by decide))]; exact h.ss
  o := own_setCell ho h.r (by decide) j v
  pt := own_setCell hp h.r (by decide) j v
  bel := h.bel.setCell (p := ⟨L.bR, j, none⟩) h.hR v
  hR := h.hR

/-- Draws turn nothing. -/
theorem Pr.draws (h : Pr L t w) (q : Nat) : Pr L t (w.drewN q) where
  r := by simpa using h.r
  p := by simpa using h.p
  nn := by simpa using h.nn
  ss := by simpa using h.ss
  o := h.o
  pt := h.pt
  bel := h.bel.trans ⟨rfl, rfl, rfl, by simp, fun _ _ => by simp⟩
  hR := h.hR

/-- Growth that writes no block but a row of type e, which is none of the printer's, the parser's, the nodes' types: all that stands but that row. -/
theorem Pr.kept_blocks (h : Pr L t w) {w' : World} {row : Option Nat} {e : TypeId} (hg : w.grownBy w' row) (hrow : ∀ g, row = some g → L.B ≤ g ∧ ∃ cur, w.heap[g]? = some (.cells cur e (0, 0))) (h1 : e ≠ 39) (h2 : e ≠ 34) (h3 : e ≠ 25) :
    w'.heap[L.bR]? = some (.cells (prCells L t) 39 (0, 0)) ∧ w'.heap[L.bP]? = some (.cells (paCells L) 34 (0, 0)) ∧ w'.heap[L.gN]? = some (.cells L.nc 25 (0, 0)) ∧ w'.heap[L.gS]? = some (.cells L.sc 25 (0, 0)) ∧ Below L.B L.w0 w' := by
  have key : ∀ (b : Nat) (c : Array Value) (ty : TypeId), w.heap[b]? = some (Obj.cells c ty (0, 0)) → e ≠ ty → w'.heap[b]? = some (Obj.cells c ty (0, 0)) := by
    intro b c ty hb hne
    rw [hg.block b (Array.getElem?_eq_some_iff.1 hb).1 (fun hh => by
      obtain ⟨_, cur, hc⟩ := hrow b hh.symm
      exact blk_ne hc hb hne rfl)]
    exact hb
  exact ⟨key _ _ _ h.r h1, key _ _ _ h.p h2, key _ _ _ h.nn h3, key _ _ _ h.ss h3, h.bel.grown hg h.hB (fun k hk => (hrow k hk).1)⟩
end

end Go.Proofs.YbulkexocqDoor
