/-
  demangle.LawS194067CWhole: what lies in memory on its road, outside the walk.
-/
import Derived.Test.YbulkexocqDoorLaw
namespace Go.Proofs.YbulkexocqDoor
open Go.RowKit

theorem hide {p : Prop} (h : p) : Hid p := h
theorem unhide {p : Prop} (h : Hid p) : p := h

/-- The prefix's cells, as the copy asks them. -/
theorem copy_src {w w3 wa : World} {a1 : Option Addr} {len : Nat} {pb : List UInt8} (hp : pb.length = len ∧ (0 < len → ∃ ad, a1 = some ad ∧ ad.block < w.heap.size ∧ ∀ (j : Nat) (u : Value), (bcells pb)[j]? = some u → w.cell? (ad.add j) = some u))
    (hb : Below w.heap.size w w3) (hba : Below w3.heap.size w3 wa) (hpos : 0 < (bcells pb).length) : ∃ ad, a1 = some ad ∧ ∀ (j : Nat) (u : Value), (bcells pb)[j]? = some u → wa.cell? (ad.add j) = some u := by
  obtain ⟨ad, h1, h2, h3⟩ := hp.2 (by have := hp.1; simp [bcells] at hpos; omega)
  refine ⟨ad, h1, fun j u hu => ?_⟩
  have hblk : (ad.add j).block = ad.block := by unfold Addr.add; split <;> rfl
  rw [hba.cell (by rw [hblk]; exact Nat.lt_of_lt_of_le h2 hb.size), hb.cell (by rw [hblk]; exact h2)]
  exact h3 j u hu

/-- Behind slices.Clone: the nodes, their clone, old memory. -/
theorem after_clone {w wr w3 : World} {g N capN gS capS : Nat} {xs : List Value} (hO : wr.ownsRow w.heap.size 25 5 (.slice (some ⟨g, 0, none⟩) N capN) N xs) (h3 : w3.ownsRow wr.heap.size 25 5 (.slice (some ⟨gS, 0, none⟩) N capS) N xs) (hg : wr.grownBy w3 none) (hb : Below w.heap.size w wr) :
    w3.ownsRow w.heap.size 25 5 (.slice (some ⟨g, 0, none⟩) N capN) N xs ∧ w3.ownsRow w.heap.size 25 5 (.slice (some ⟨gS, 0, none⟩) N capS) N xs ∧ Below w.heap.size w w3 := by
  refine ⟨hO.kept hg (.inr (by simp [Value.ownBlock])), ⟨h3.1, ?_⟩, hb.grown hg hb.size (by simp)⟩
  rcases h3.2 with hv | ⟨g', c', cur, hv, hb', rest⟩
  · exact .inl hv
  · exact .inr ⟨g', c', cur, hv, Nat.le_trans hb.size hb', rest⟩

/-- A made row, whole. -/
theorem made_row {w : World} {base e g n : Nat} {xs : List Value} (h : w.ownsRow base e 1 (.slice (some ⟨g, 0, none⟩) n n) n xs) :
    ∃ cur : List Value, w.heap[g]? = some (.cells cur.toArray e (0, 0)) ∧ cur.length = n := by
  rcases h.2 with ⟨hv, _⟩ | ⟨g', cap, cur, hv, _, hg, _, _, hcs, _⟩
  · cases hv
  · injection hv with h1 h2 h3
    injection h1 with h1
    injection h1 with h1
    subst h1; subst h3
    exact ⟨cur.toList, by simpa using hg, by simpa using hcs⟩

theorem own_below {w w' : World} {B base e sz n : Nat} {v : Value} {xs : List Value} (h : w.ownsRow base e sz v n xs) (hb : Below B w w') (hB : w.heap.size ≤ B) : w'.ownsRow base e sz v n xs := by
  refine ⟨h.1, ?_⟩
  rcases h.2 with hn | ⟨g, cap, cur, hv, h1, hgg, rest⟩
  · exact .inl hn
  · exact .inr ⟨g, cap, cur, hv, h1, by rw [hb.block g (Nat.lt_of_lt_of_le (Array.getElem?_eq_some_iff.1 hgg).1 hB)]; exact hgg, rest⟩

theorem bcells_length (l : List UInt8) : (bcells l).length = l.length := by simp [bcells]
theorem bcells_one (l : List UInt8) : ∀ u ∈ bcells l, u.oneCell' = true := by
  intro u hu
  simp only [bcells, List.mem_map] at hu
  obtain ⟨b, _, rfl⟩ := hu
  rfl

/-- Behind the copy of the prefix. -/
theorem after_copy {w w3 w4 : World} {g N capN gS capS len : Nat} {xs : List Value} {pb : List UInt8} {cur : List Value}
    (A : w3.ownsRow w.heap.size 25 5 (.slice (some ⟨g, 0, none⟩) N capN) N xs ∧ w3.ownsRow w.heap.size 25 5 (.slice (some ⟨gS, 0, none⟩) N capS) N xs ∧ Below w.heap.size w w3)
    (hg4 : w4.heap[w3.heap.size]? = some (.cells (splice cur 0 (bcells pb)).toArray 5 (0, 0))) (hc : cur.length = len) (hp : pb.length = len) (hl : len ≤ maxLen) (hb4 : Below w3.heap.size w3 w4) :
    w4.ownsRow w.heap.size 25 5 (.slice (some ⟨g, 0, none⟩) N capN) N xs ∧ w4.ownsRow w.heap.size 25 5 (.slice (some ⟨gS, 0, none⟩) N capS) N xs ∧
      w4.ownsRow w.heap.size 5 1 (.slice (some ⟨w3.heap.size, 0, none⟩) len len) len (bcells pb) ∧ Below w.heap.size w w4 := by
  have hsp : splice cur 0 (bcells pb) = bcells pb := by
    unfold splice
    rw [List.drop_eq_nil_of_le (by rw [bcells_length]; omega)]; simp
  rw [hsp] at hg4
  refine ⟨own_below A.1 hb4 (Nat.le_refl _), own_below A.2.1 hb4 (Nat.le_refl _), ⟨by rw [bcells_length]; omega, .inr ⟨_, _, _, rfl, A.2.2.size, hg4, Nat.le_refl _, hl, by simp [bcells_length]; omega, ?_⟩⟩, A.2.2.trans (hb4.mono A.2.2.size)⟩
  exact List.take_of_length_le (by rw [bcells_length]; omega)

/-- 'string(b)' of bytes that lie in memory. -/
theorem conv_bytes (w : World) (ao : Option Addr) (n c : Nat) (l : List UInt8) (hl : l.length = n) (h : 0 < n → ∃ ad, ao = some ad ∧ ∀ (j : Nat) (u : Value), (bcells l)[j]? = some u → w.cell? (ad.add j) = some u) :
    (convert 22 9 (.slice ao n c)).run Ybad.prog w = .ok (.string ⟨l.toArray⟩) w := by
  have e2 : strOfNums (l.map fun x => (x.toNat : Int)) = ⟨l.toArray⟩ := by
    unfold strOfNums
    rw [List.map_map]
    have e3 : l.map ((fun n : Int => UInt8.ofNat n.toNat) ∘ fun x : UInt8 => (x.toNat : Int)) = l := by
      conv => rhs; rw [← List.map_id l]
      apply List.map_congr_left
      intro x _
      simp
    rw [e3]
  rw [run_convert_bytes_string w 22 9 5 ao n c Ybad.underlying22 Ybad.underlying5 Ybad.underlying9]
  by_cases hn : n = 0
  · subst hn
    have hl0 : l = [] := List.eq_nil_of_length_eq_zero hl
    subst hl0
    cases ao with
    | none => simp [Conv.bytesToString]; rfl
    | some ad =>
      have := run_bytesToString (P := Ybad.prog) w ad 0 c [] (by simp [loadCells, loadCellsFrom])
      rw [this]; rfl
  · obtain ⟨ad, rfl, hc⟩ := h (by omega)
    have hld := run_loadCells_list (P := Ybad.prog) w ad (bcells l) hc
    rw [bcells_length, hl] at hld
    have := run_bytesToString (P := Ybad.prog) w ad n c (l.map fun x => (x.toNat : Int)) (by rw [hld]; simp [bcells, Function.comp_def])
    rw [this, foldl_push_bytes]
    have : (ByteArray.empty.data ++ ((l.map fun x => (x.toNat : Int)).map fun n : Int => UInt8.ofNat n.toNat).toArray) = (strOfNums (l.map fun x => (x.toNat : Int))).data := by
      simp [strOfNums, ByteArray.empty, ByteArray.emptyWithCapacity]
      rfl
    rw [this, e2]
end Go.Proofs.YbulkexocqDoor
