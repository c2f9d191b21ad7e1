/-
  demangle.LawS194067CWhole: the call of printLocalEntity as the law meets it, and what the law looks at behind it.
-/
import Derived.Test.YbulkexocqDoorFin
import Derived.Lib.Strings
import Derived.Lib.SmallJoins
namespace Go.Proofs.YbulkexocqDoor
open Go.RowKit

/-- ALL THAT THE LAW LOOKS AT BEHIND THE CALL. S: what is to stand in out; x: the byte written last. -/
structure Fin (w w6 : World) (bR bP g N capN gS capS : Nat) (a1 : Option Addr) (len cap : Nat) (pb : List UInt8) (S : ByteArray) (x : Int) : Prop where
  c0 : w6.cell? ⟨bR, 0, none⟩ = some (.pointer (some ⟨bP, 0, none⟩))
  c1 : ∃ gO n cO, w6.cell? ⟨bR, 1, none⟩ = some (.slice (some ⟨gO, 0, none⟩) n cO) ∧ (convert 22 9 (.slice (some ⟨gO, 0, none⟩) n cO)).run Ybad.prog w6 = .ok (.string S) w6
  c2 : w6.cell? ⟨bR, 2, none⟩ = some (.int .u8 x)
  c3 : w6.cell? ⟨bR, 3, none⟩ = some (.int .i64 1073741824)
  c4 : w6.cell? ⟨bR, 4, none⟩ = some (.int .i64 1)
  c5 : w6.cell? ⟨bR, 5, none⟩ = some (.slice none 0 0)
  c6 : w6.cell? ⟨bR, 6, none⟩ = some (.int .i32 (-1))
  c8 : w6.cell? ⟨bR, 8, none⟩ = some (.int .i32 (-1))
  c12 : ∃ g' c', w6.cell? ⟨bR, 12, none⟩ = some (.slice (some ⟨g', 0, none⟩) 0 c')
  p3 : w6.cell? ⟨bP, 3, none⟩ = some (.slice (some ⟨g, 0, none⟩) N capN)
  eq : Calls Ybad.prog 7 #[.slice (some ⟨g, 0, none⟩) N capN, .slice (some ⟨gS, 0, none⟩) N capS] w6 fun e w' => e = .returned (.bool true) ∧ ∃ m, w' = w6.drewN m
  pre : (convert 22 9 (.slice a1 len cap)).run Ybad.prog w6 = .ok (.string ⟨pb.toArray⟩) w6
  bel : Below w.heap.size w w6

theorem fin_of {w w6 : World} {bR bP g gS N capN capS : Nat} {s : ByteArray} {nc sc : Array Value} {gO cO : Nat} {out : List UInt8} {x : Int} {g' c' : Nat} {path : List Int} (hpath : path = []) {l : List Nd}
    (h : Pr ⟨w.heap.size, bR, bP, g, gS, N, capN, s, nc, sc, w⟩ ⟨gO, cO, out, x, 1, .slice (some ⟨g', 0, none⟩) 0 c', path⟩ w6) (hl : l.length = N) (hN : N ≤ 100)
    (hnc : ∀ (j : Nat) (u : Value), (flat l)[j]? = some u → nc[j]? = some u) (hsc : ∀ (j : Nat) (u : Value), (flat l)[j]? = some u → sc[j]? = some u)
    {a1 : Option Addr} {len cap : Nat} {pb : List UInt8} (hp : pb.length = len ∧ (0 < len → ∃ ad, a1 = some ad ∧ ad.block < w.heap.size ∧ ∀ (j : Nat) (u : Value), (bcells pb)[j]? = some u → w.cell? (ad.add j) = some u)) :
    Fin w w6 bR bP g N capN gS capS a1 len cap pb ⟨out.toArray⟩ x := by
  subst hpath
  have at5 : ∀ (gg : Nat) (cc : Array Value), w6.heap[gg]? = some (.cells cc 25 (0, 0)) → (∀ (j : Nat) (u : Value), (flat l)[j]? = some u → cc[j]? = some u) → ∀ i, i < N → CellsAt w6 gg i (l.getD i ⟨0, 0, 0, 0, 0⟩) := by
    intro gg cc hg hc i hi
    have hil : i < l.length := by omega
    obtain ⟨k0, k1, k2, k3, k4⟩ := flat_at l i (l.getD i ⟨0, 0, 0, 0, 0⟩) (by simp [List.getD, List.getElem?_eq_getElem hil])
    exact ⟨(cells_at hg _).trans (hc _ _ k0), (cells_at hg _).trans (hc _ _ k1), (cells_at hg _).trans (hc _ _ k2), (cells_at hg _).trans (hc _ _ k3), (cells_at hg _).trans (hc _ _ k4)⟩
  have n1 := at5 g nc h.nn hnc
  have n2 := at5 gS sc h.ss hsc
  exact
    { c0 := cells_at h.r 0
      c1 := ⟨gO, out.length, cO, cells_at h.r 1, conv_bytes w6 _ _ _ out rfl fun _ => ⟨_, rfl, fun j u hu => by
        exact h.o.cells (g := gO) rfl j u hu⟩⟩
      c2 := cells_at h.r 2
      c3 := cells_at h.r 3
      c4 := cells_at h.r 4
      c5 := cells_at h.r 5
      c6 := cells_at h.r 6
      c8 := cells_at h.r 8
      c12 := ⟨g', c', cells_at h.r 12⟩
      p3 := cells_at h.p 3
      eq := equal_any g capN gS capS N (fun i => l.getD i ⟨0, 0, 0, 0, 0⟩) w6 (by omega) n1 n2
      pre := conv_bytes w6 a1 len cap pb hp.1 fun hpos => by
        obtain ⟨ad, e1, e2, e3⟩ := hp.2 hpos
        refine ⟨ad, e1, fun j u hu => ?_⟩
        have hblk : (ad.add j).block = ad.block := by unfold Addr.add; split <;> rfl
        rw [h.bel.cell (by rw [hblk]; exact e2)]
        exact e3 j u hu
      bel := h.bel }

theorem under_size (nm : ByteArray) : ((⟨#[95]⟩ : ByteArray) ++ nm).size = 1 + nm.size := by
  rw [ByteArray.size_append]; rfl
theorem under_tail (nm : ByteArray) : (((⟨#[95]⟩ : ByteArray) ++ nm).extract 1 ((⟨#[95]⟩ : ByteArray) ++ nm).size).data.toList = nm.data.toList := by
  rw [Lib.extract_data, Joins.data_append, under_size]
  simp only [show 1 + nm.size - 1 = nm.size by omega]
  show List.take nm.size (List.drop 1 ([95] ++ nm.data.toList)) = _
  simp only [List.cons_append, List.nil_append, List.drop_succ_cons, List.drop_zero]
  exact List.take_of_length_le (by rw [Array.length_toList]; exact Nat.le_refl _)

theorem str_join (pb : List UInt8) (nm : ByteArray) : (⟨(pb ++ nm.data.toList).toArray⟩ : ByteArray) = ⟨pb.toArray⟩ ++ nm := by
  apply ByteArray.ext
  apply Array.toList_inj.1
  rw [Joins.data_append]

theorem lastB_zero (x : Int) (nm : ByteArray) (h : nm.size = 0) : lastB x nm.data.toList = x := by
  have : nm.data.toList = [] := List.eq_nil_of_length_eq_zero (by rw [Array.length_toList]; exact h)
  rw [this]; rfl
theorem lastB_more (x : Int) (nm : ByteArray) (h : 0 < nm.size) : lastB x nm.data.toList = ((nm[nm.size - 1]'(by omega)).toNat : Int) := by
  rw [last_byte nm h]
  exact lastB_some x _ (by
    intro hh
    have := congrArg List.length hh
    rw [Array.length_toList] at this
    have h2 : nm.data.size = nm.size := rfl
    have h3 : ([] : List UInt8).length = 0 := rfl
    omega)

/-- No default argument. -/
theorem ent_plain {w w4 : World} (nm : ByteArray) (g k capN gS capS gO len : Nat) (pb : List UInt8) (last : Int) (sq : Bool) (hsq : IfNot sq k) (hk : k ≤ 7) (hsm : nm.size + len ≤ 1048576)
    (A : w4.ownsRow w.heap.size 25 5 (.slice (some ⟨g, 0, none⟩) (k + 1) capN) (k + 1) (flat (nodesQ (1 + (nm.size : Int)) k)) ∧ w4.ownsRow w.heap.size 25 5 (.slice (some ⟨gS, 0, none⟩) (k + 1) capS) (k + 1) (flat (nodesQ (1 + (nm.size : Int)) k)) ∧
      w4.ownsRow w.heap.size 5 1 (.slice (some ⟨gO, 0, none⟩) len len) len (bcells pb) ∧ Below w.heap.size w w4)
    {a1 : Option Addr} {cap : Nat} (hp : pb.length = len ∧ (0 < len → ∃ ad, a1 = some ad ∧ ad.block < w.heap.size ∧ ∀ (j : Nat) (u : Value), (bcells pb)[j]? = some u → w.cell? (ad.add j) = some u)) :
    Calls Ybad.prog 5 #[.pointer (some ⟨w4.heap.size + 1, 0, none⟩), .int .i32 k, .bool sq]
      ((w4.alloc (.cells (parserOf (⟨#[95]⟩ ++ nm) g (k + 1) capN) 34)).alloc (.cells (printerOf w4.heap.size gO len last) 39)) fun e w6 =>
        e = .returned (.tuple #[]) ∧ Fin w w6 (w4.heap.size + 1) w4.heap.size g (k + 1) capN gS capS a1 len cap pb (⟨pb.toArray⟩ ++ nm) (lastB last nm.data.toList) := by
  obtain ⟨nc, sc, hP, hnc, hsc⟩ := pr_start (w := w) (w5 := w4) (⟨#[95]⟩ ++ nm) g (k + 1) capN gS capS gO len (nodesQ (1 + (nm.size : Int)) k) pb last A.1 A.2.1 A.2.2.1 hp.1 A.2.2.2
  have hsz := under_size nm
  refine (entity_plain hP k sq hsq (quals_of (1 + (nm.size : Int)) (fun i _ => rfl) hnc (by show _ = (((⟨#[95]⟩ : ByteArray) ++ nm).size : Int); rw [hsz]; omega) (by show k < k + 1; omega) (by show k + 1 ≤ 100; omega)) rfl rfl rfl
    (by show 1 ≤ ((⟨#[95]⟩ : ByteArray) ++ nm).size; omega) (by show pb.length + ((⟨#[95]⟩ : ByteArray) ++ nm).size ≤ _; have := hp.1; omega)).mono ?_
  rintro e w6 ⟨rfl, gO', cO', g', c', h6⟩
  refine ⟨rfl, ?_⟩
  have e1 : (((⟨#[95]⟩ : ByteArray) ++ nm).extract 1 ((⟨#[95]⟩ : ByteArray) ++ nm).size).data.toList = nm.data.toList := under_tail nm
  have h6' : Pr ⟨w.heap.size, w4.heap.size + 1, w4.heap.size, g, gS, k + 1, capN, ⟨#[95]⟩ ++ nm, nc, sc, w⟩ ⟨gO', cO', pb ++ nm.data.toList, lastB last nm.data.toList, 1, .slice (some ⟨g', 0, none⟩) 0 c', []⟩ w6 := by
    have h := h6
    dsimp only at h
    rw [e1] at h
    exact h
  rw [← str_join]
  exact fin_of rfl h6' (nodesQ_length _ _) (by omega) hnc hsc hp

/-- New blocks behind all that lies there turn nothing. -/
theorem Pr.later {L : Lay} {t : St} {w w' : World} (h : Pr L t w) (hb : Below w.heap.size w w') : Pr L t w' where
  r := by rw [hb.block _ (Array.getElem?_eq_some_iff.1 h.r).1]; exact h.r
  p := by rw [hb.block _ (Array.getElem?_eq_some_iff.1 h.p).1]; exact h.p
  nn := by rw [hb.block _ (Array.getElem?_eq_some_iff.1 h.nn).1]; exact h.nn
  ss := by rw [hb.block _ (Array.getElem?_eq_some_iff.1 h.ss).1]; exact h.ss
  o := own_below h.o hb (Nat.le_refl _)
  pt := own_below h.pt hb (Nat.le_refl _)
  bel := h.bel.trans (hb.mono h.hB)
  hR := h.hR

/-- The default argument's node behind the others. -/
def nodesD (b : Int) (q : Nat) (num : Int) : List Nd := nodesQ b q ++ [⟨16, 0, q, num, 0⟩]

theorem str_join5 (pb : List UInt8) (d : List UInt8) (nm : ByteArray) :
    (⟨((((pb ++ preB) ++ d) ++ postB) ++ nm.data.toList).toArray⟩ : ByteArray) = (⟨pb.toArray⟩ ++ ((⟨#[123, 100, 101, 102, 97, 117, 108, 116, 32, 97, 114, 103, 35]⟩ ++ ⟨d.toArray⟩) ++ ⟨#[125, 58, 58]⟩)) ++ nm := by
  apply ByteArray.ext
  apply Array.toList_inj.1
  simp only [Joins.data_append]
  show (((pb ++ preB) ++ d) ++ postB) ++ nm.data.toList = (pb ++ ((preB ++ d) ++ postB)) ++ nm.data.toList
  simp [List.append_assoc]

theorem tab_global : Ybad.prog.globalNamed tabName = some 3 := by kernel_rfl

/-- A default argument. -/
theorem ent_default {w w4 : World} (nm : ByteArray) (g k capN gS capS gO len : Nat) (pb : List UInt8) (last num : Int) (hn0 : -2147483648 ≤ num) (hn1 : num ≤ 2147483647) (sq : Bool) (hsq : IfNot sq k) (hk : k ≤ 7) (hsm : nm.size + len ≤ 1048576)
    (hg : 3 < w.heap.size) (T : Lib.TabIs Ybad.prog w tabName .u64 Lib.pow10Tab)
    (A : w4.ownsRow w.heap.size 25 5 (.slice (some ⟨g, 0, none⟩) (k + 1 + 1) capN) (k + 1 + 1) (flat (nodesD (1 + (nm.size : Int)) k num)) ∧ w4.ownsRow w.heap.size 25 5 (.slice (some ⟨gS, 0, none⟩) (k + 1 + 1) capS) (k + 1 + 1) (flat (nodesD (1 + (nm.size : Int)) k num)) ∧
      w4.ownsRow w.heap.size 5 1 (.slice (some ⟨gO, 0, none⟩) len len) len (bcells pb) ∧ Below w.heap.size w w4)
    {a1 : Option Addr} {cap : Nat} (hp : pb.length = len ∧ (0 < len → ∃ ad, a1 = some ad ∧ ad.block < w.heap.size ∧ ∀ (j : Nat) (u : Value), (bcells pb)[j]? = some u → w.cell? (ad.add j) = some u))
    (D : ByteArray) (hD : D = ⟨(Lib.itoa (num + 1)).toArray⟩) :
    Calls Ybad.prog 5 #[.pointer (some ⟨w4.heap.size + 1, 0, none⟩), .int .i32 ((k : Int) + 1), .bool sq]
      ((w4.alloc (.cells (parserOf (⟨#[95]⟩ ++ nm) g (k + 1 + 1) capN) 34)).alloc (.cells (printerOf w4.heap.size gO len last) 39)) fun e w6 =>
        e = .returned (.tuple #[]) ∧ ∀ w7, Below w6.heap.size w6 w7 → Fin w w7 (w4.heap.size + 1) w4.heap.size g (k + 1 + 1) capN gS capS a1 len cap pb ((⟨pb.toArray⟩ ++ ((⟨#[123, 100, 101, 102, 97, 117, 108, 116, 32, 97, 114, 103, 35]⟩ ++ D) ++ ⟨#[125, 58, 58]⟩)) ++ nm) (lastB 58 nm.data.toList) := by
  subst hD
  obtain ⟨nc, sc, hP, hnc, hsc⟩ := pr_start (w := w) (w5 := w4) (⟨#[95]⟩ ++ nm) g (k + 1 + 1) capN gS capS gO len (nodesD (1 + (nm.size : Int)) k num) pb last A.1 A.2.1 A.2.2.1 hp.1 A.2.2.2
  have hsz := under_size nm
  have hlen : (nodesD (1 + (nm.size : Int)) k num).length = k + 1 + 1 := by simp [nodesD, nodesQ_length]
  have hd := flat_at (nodesD (1 + (nm.size : Int)) k num) (k + 1) ⟨16, 0, k, num, 0⟩ (by unfold nodesD; rw [List.getElem?_append_right (by rw [nodesQ_length]; omega), nodesQ_length]; simp)
  refine (entity_default hP k sq hsq (quals_of (1 + (nm.size : Int)) (fun i hi => by unfold nodesD; rw [List.getElem?_append_left (by rw [nodesQ_length]; omega)]) hnc (by show _ = (((⟨#[95]⟩ : ByteArray) ++ nm).size : Int); rw [hsz]; omega) (by show k < k + 1 + 1; omega) (by show k + 1 + 1 ≤ 100; omega)) num hn0 hn1
    (hnc _ _ hd.1) (hnc _ _ hd.2.2.1) (hnc _ _ hd.2.2.2.1) (by show k + 1 < k + 1 + 1; omega) tab_global hg T rfl rfl rfl
    (by show 1 ≤ ((⟨#[95]⟩ : ByteArray) ++ nm).size; omega) (by show pb.length + ((⟨#[95]⟩ : ByteArray) ++ nm).size ≤ _; have := hp.1; omega)).mono ?_
  rintro e w6 ⟨rfl, gO', cO', g', c', h6⟩
  refine ⟨rfl, fun w7 hb7 => ?_⟩
  have e1 : (((⟨#[95]⟩ : ByteArray) ++ nm).extract 1 ((⟨#[95]⟩ : ByteArray) ++ nm).size).data.toList = nm.data.toList := under_tail nm
  have h6' : Pr ⟨w.heap.size, w4.heap.size + 1, w4.heap.size, g, gS, k + 1 + 1, capN, ⟨#[95]⟩ ++ nm, nc, sc, w⟩ ⟨gO', cO', (((pb ++ preB) ++ Lib.itoa (num + 1)) ++ postB) ++ nm.data.toList, lastB 58 nm.data.toList, 1, .slice (some ⟨g', 0, none⟩) 0 c', []⟩ w6 := by
    have h := h6
    dsimp only at h
    rw [e1] at h
    exact h
  rw [← str_join5]
  exact fin_of rfl (h6'.later hb7) hlen (by omega) hnc hsc hp
end Go.Proofs.YbulkexocqDoor
