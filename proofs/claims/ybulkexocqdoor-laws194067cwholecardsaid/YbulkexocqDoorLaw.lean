/-
  demangle.LawS194067CWhole: the nodes that it lays.
-/
import Derived.Test.YbulkexocqDoorEntity
import Derived.Test.YbulkexocqDoorClone
import Derived.Test.YbulkexocqDoorItoa
import Derived.Laws.CopyOwn
namespace Go.Proofs.YbulkexocqDoor
open Go.RowKit

/-- The nodes as cells, one behind the other. -/
def flat (l : List Nd) : List Value := l.flatMap Nd.cells
/-- The name and q qualifiers. -/
def nodesQ (b : Int) (q : Nat) : List Nd := ⟨0, 0, 1, b, 0⟩ :: (List.range q).map fun (i : Nat) => ⟨22, (i : Int), (i : Int), 0, 0⟩

theorem nodesQ_length (b : Int) (q : Nat) : (nodesQ b q).length = q + 1 := by simp [nodesQ]
theorem nodesQ_succ (b : Int) (q : Nat) : nodesQ b (q + 1) = nodesQ b q ++ [⟨22, q, q, 0, 0⟩] := by simp [nodesQ, List.range_succ]
theorem flat_append (l m : List Nd) : flat (l ++ m) = flat l ++ flat m := by simp [flat]
theorem flat_one (x : Nd) : flat [x] = x.cells := by simp [flat]
theorem flat_oneCell (l : List Nd) : ∀ u ∈ flat l, u.oneCell' = true := by
  intro u hu
  simp only [flat, List.mem_flatMap] at hu
  obtain ⟨x, _, hx⟩ := hu
  simp [Nd.cells] at hx
  rcases hx with rfl | rfl | rfl | rfl | rfl <;> rfl

theorem news_new (w : World) (cs : List Value) (t : TypeId) : ∀ j u, cs[j]? = some u → (w.alloc (.cells cs.toArray t)).cell? ((⟨w.heap.size, 0, none⟩ : Addr).add j) = some u := by
  intro j u hu
  rw [Addr.add_lit, Nat.zero_add, cells_at (heap_alloc_new w _)]
  simpa using hu

theorem own_shape5 {w : World} {base e n sz : Nat} {v : Value} {xs : List Value} (h : w.ownsRow base e sz v n xs) (hv : v ≠ .slice none 0 0) : ∃ g cap, v = .slice (some ⟨g, 0, none⟩) n cap := by
  rcases h.2 with ⟨hn, _⟩ | ⟨g, cap, _, hg, _⟩
  · exact absurd hn hv
  · exact ⟨g, cap, hg⟩

theorem quals_in (quals : Int) (h : (Lit.int .u8 quals).wf = true) : ∃ q : Nat, wrap64 (quals.tmod 8) = (q : Int) ∧ q ≤ 7 := by
  have hb : 0 ≤ quals ∧ quals ≤ 255 := by simpa [Lit.wf, IntKind.min, IntKind.max, IntKind.bits, IntKind.signed] using h
  refine ⟨(quals.tmod 8).toNat, ?_, ?_⟩
  · rw [Int.tmod_eq_emod_of_nonneg hb.1]; unfold wrap64; omega
  · rw [Int.tmod_eq_emod_of_nonneg hb.1]; omega

/-- Without 'stripQuals' there is no qualifier. -/
def IfNot (sq : Bool) (q : Nat) : Prop := sq = false → q = 0

/-- The first node, the qualifiers: what the walk of printLocalEntity asks. -/
theorem flat_at (l : List Nd) : ∀ (i : Nat) (x : Nd), l[i]? = some x → (flat l)[i * 5]? = some (.int .u8 x.k) ∧ (flat l)[i * 5 + 1]? = some (.int .u8 x.op) ∧ (flat l)[i * 5 + 2]? = some (.int .i32 x.a) ∧ (flat l)[i * 5 + 3]? = some (.int .i32 x.b) ∧ (flat l)[i * 5 + 4]? = some (.int .i32 x.c) := by
  induction l with
  | nil => intro i x h; simp at h
  | cons y l ih =>
    intro i x h
    cases i with
    | zero =>
      simp at h; subst h
      simp [flat, Nd.cells]
    | succ i =>
      obtain ⟨k0, k1, k2, k3, k4⟩ := ih i x (by simpa using h)
      have e : flat (y :: l) = y.cells ++ flat l := by simp [flat]
      have hl : y.cells.length = 5 := rfl
      have sh : ∀ j, (flat (y :: l))[(i + 1) * 5 + j]? = (flat l)[i * 5 + j]? := by
        intro j
        rw [e, List.getElem?_append_right (by omega), hl]
        congr 1; omega
      refine ⟨?_, ?_, ?_, ?_, ?_⟩
      · have := sh 0; simp only [Nat.add_zero] at this; rw [this]; exact k0
      · rw [sh 1]; exact k1
      · rw [sh 2]; exact k2
      · rw [sh 3]; exact k3
      · rw [sh 4]; exact k4

theorem flat_length (l : List Nd) : (flat l).length = l.length * 5 := by
  induction l with
  | nil => rfl
  | cons y l ih => 
    have e : flat (y :: l) = y.cells ++ flat l := by simp [flat]
    rw [e, List.length_append, ih]
    show 5 + _ = _
    simp; omega

/-- A row that is owned, whole. -/
theorem own_row {w : World} {base e sz g n cap : Nat} {xs : List Value} (h : w.ownsRow base e sz (.slice (some ⟨g, 0, none⟩) n cap) n xs) : ∃ cur : Array Value, w.heap[g]? = some (.cells cur e (0, 0)) ∧ ∀ (j : Nat) (u : Value), xs[j]? = some u → cur[j]? = some u := by
  rcases h.2 with ⟨hv, _⟩ | ⟨g', cap', cur, hv, _, hg, _, _, _, htk⟩
  · cases hv
  · injection hv with h1 h2 h3
    injection h1 with h1
    injection h1 with h1
    subst h1
    refine ⟨cur, hg, fun j u hu => ?_⟩
    rw [← htk, List.getElem?_take] at hu
    split at hu
    · simpa using hu
    · cases hu

def parserOf (s : ByteArray) (g N cap : Nat) : Array Value :=
  #[.string s, .int .i64 0, .int .i32 (-1), .slice (some ⟨g, 0, none⟩) N cap, .slice none 0 0, .slice none 0 0, .slice none 0 0, .slice none 0 0, .int .i32 (-1), .bool false, .bool false, .bool false, .bool false]
def printerOf (bP gO len : Nat) (last : Int) : Array Value :=
  #[.pointer (some ⟨bP, 0, none⟩), .slice (some ⟨gO, 0, none⟩) len len, .int .u8 last, .int .i64 1073741824, .int .i64 0, .slice none 0 0, .int .i32 (-1), .slice none 0 0, .int .i32 (-1), .int .i32 (-1), .int .i64 0, .int .i64 (-1), .slice none 0 0, .slice none 0 0]

theorem pr_start {w w5 : World} (s : ByteArray) (g N capN gS capS gO len : Nat) (l : List Nd) (pb : List UInt8) (last : Int)
    (hN : w5.ownsRow w.heap.size 25 5 (.slice (some ⟨g, 0, none⟩) N capN) N (flat l)) (hS : w5.ownsRow w.heap.size 25 5 (.slice (some ⟨gS, 0, none⟩) N capS) N (flat l))
    (hO : w5.ownsRow w.heap.size 5 1 (.slice (some ⟨gO, 0, none⟩) len len) len (bcells pb)) (hlen : pb.length = len) (hb : Below w.heap.size w w5) :
    ∃ nc sc, Pr ⟨w.heap.size, w5.heap.size + 1, w5.heap.size, g, gS, N, capN, s, nc, sc, w⟩ ⟨gO, len, pb, last, 0, .slice none 0 0, []⟩ ((w5.alloc (.cells (parserOf s g N capN) 34)).alloc (.cells (printerOf w5.heap.size gO len last) 39)) ∧
      (∀ (j : Nat) (u : Value), (flat l)[j]? = some u → nc[j]? = some u) ∧ (∀ (j : Nat) (u : Value), (flat l)[j]? = some u → sc[j]? = some u) := by
  obtain ⟨nc, h1, h2⟩ := own_row hN
  obtain ⟨sc, h3, h4⟩ := own_row hS
  have hsz := hb.size
  have lt : ∀ (b : Nat) (c : Array Value) (ty : TypeId), w5.heap[b]? = some (Obj.cells c ty (0, 0)) → b < w5.heap.size := fun b c ty h => (Array.getElem?_eq_some_iff.1 h).1
  have old : ∀ (b : Nat) (c : Array Value) (ty : TypeId), w5.heap[b]? = some (Obj.cells c ty (0, 0)) → ((w5.alloc (.cells (parserOf s g N capN) 34)).alloc (.cells (printerOf w5.heap.size gO len last) 39)).heap[b]? = some (Obj.cells c ty (0, 0)) := by
    intro b c ty h
    rw [Below.heap_alloc _ _ _ (by have := lt b c ty h; simp; omega), Below.heap_alloc _ _ _ (lt b c ty h)]
    exact h
  refine ⟨nc, sc, ?_, h2, h4⟩
  subst hlen
  exact
    { r := by
        have := heap_alloc_new (w5.alloc (.cells (parserOf s g N capN) 34)) (.cells (printerOf w5.heap.size gO pb.length last) 39)
        simpa [prCells, printerOf] using this
      p := by
        have := heap_alloc_new w5 (.cells (parserOf s g N capN) 34)
        rw [Below.heap_alloc _ _ _ (by simp)]
        simpa [paCells, parserOf] using this
      nn := old _ _ _ h1
      ss := old _ _ _ h3
      o := (hO.alloc _).alloc _
      pt := World.ownsRow_nil _ _ _ _
      bel := (hb.alloc hsz _).alloc (by simp; omega) _
      hR := by show w.heap.size ≤ w5.heap.size + 1; omega }

theorem quals_of {L : Lay} {l : List Nd} {q : Nat} (b : Int) (hl : ∀ i, i ≤ q → l[i]? = (nodesQ b q)[i]?) (hnc : ∀ (j : Nat) (u : Value), (flat l)[j]? = some u → L.nc[j]? = some u) (hb : b = L.s.size) (hq : q < L.n) (hn : L.n ≤ 100) : Quals L q := by
  have h0 := flat_at l 0 ⟨0, 0, 1, b, 0⟩ (by rw [hl 0 (Nat.zero_le _)]; rfl)
  have hi : ∀ i, 1 ≤ i → i ≤ q → l[i]? = some ⟨22, ((i - 1 : Nat) : Int), ((i - 1 : Nat) : Int), 0, 0⟩ := by
    intro i h1 h2
    rw [hl i h2]
    obtain ⟨j, rfl⟩ : ∃ j, i = j + 1 := ⟨i - 1, by omega⟩
    simp [nodesQ, List.getElem?_range (show j < q by omega)]
  refine ⟨hnc _ _ h0.1, hnc _ _ h0.2.1, hnc _ _ h0.2.2.1, ?_, hnc _ _ h0.2.2.2.2, ?_, ?_, hq, hn⟩
  · rw [← hb]; exact hnc _ _ h0.2.2.2.1
  · intro i h1 h2; exact hnc _ _ (flat_at l i _ (hi i h1 h2)).1
  · intro i h1 h2
    have := hnc _ _ (flat_at l i _ (hi i h1 h2)).2.2.1
    rw [this]; simp; omega
end Go.Proofs.YbulkexocqDoor
