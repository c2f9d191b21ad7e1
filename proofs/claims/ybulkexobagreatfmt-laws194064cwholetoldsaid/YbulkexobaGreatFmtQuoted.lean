/-
  lexQuoted at a quoted name.
-/
import Derived.Test.YbulkexobaGreatFmtBuilder
import Derived.Test.YbulkexobaGreatFmtBytes
import Derived.Test.YbulkexobaGreatFmtShelf
namespace Go.Proofs.YbulkexobaGreatFmt
open Go.RowKit Go.Extern.Stop Go.Stop Go.Extern

/-- A name as it stands between quotes: each quote doubled. -/
def dblB : List UInt8 → List UInt8
  | [] => []
  | b :: l => if b = 34 then 34 :: 34 :: dblB l else b :: dblB l

theorem dblB_append (a b : List UInt8) : dblB (a ++ b) = dblB a ++ dblB b := by
  induction a with
  | nil => rfl
  | cons x a ih =>
    simp only [List.cons_append, dblB]
    split <;> simp [ih]

theorem dblB_len (l : List UInt8) : l.length ≤ (dblB l).length := by
  induction l with
  | nil => simp
  | cons x l ih => simp only [dblB]; split <;> simp <;> omega

theorem grown_below {B : Nat} {a b : World} (h : Below B a b) (hB : a.heap.size ≤ B) : a.grownBy b none :=
  ⟨h.os, h.tape, h.output, h.size, fun k hk _ => h.block k (by omega)⟩

theorem byteAt_mid {s : ByteArray} {pre suf : List UInt8} {b : UInt8} (h : s.data.toList = pre ++ b :: suf) : pre.length < s.size ∧ byteAt s pre.length = (b.toNat : Int) := by
  have hl : s.size = s.data.toList.length := by rw [Array.length_toList]; rfl
  refine ⟨by rw [hl, h]; simp, ?_⟩
  unfold byteAt
  rw [h]
  simp [List.getD]

def fZero : ByteArray := ⟨#[122, 101, 114, 111, 45, 108, 101, 110, 103, 116, 104, 32, 100, 101, 108, 105, 109, 105, 116, 101, 100, 32, 105, 100, 101, 110, 116, 105, 102, 105, 101, 114, 32, 97, 116, 32, 111, 114, 32, 110, 101, 97, 114, 32, 34, 37, 115, 34]⟩
theorem Ybaz.fmtZero : FmtStop.printed? fZero 1 = some [(0, 115, false)] := by kernel_rfl

theorem ext_eq (s : ByteArray) (a b : Nat) : s.extract a b = ⟨((s.data.toList.take b).drop a).toArray⟩ := by
  have h : (s.extract a b).data = s.data.extract a b := by simp
  have h2 : (s.extract a b) = ⟨s.data.extract a b⟩ := by cases hh : s.extract a b; rw [hh] at h; simpa using h
  rw [h2]
  congr 1
  apply Array.ext'
  simp [List.extract_eq_take_drop, List.drop_take]

/-- What is known while the name is read. -/
structure QS (w : World) (s : ByteArray) (name rest : List UInt8) (k i : Nat) (wr : World) : Prop where
  hk : k ≤ name.length
  hi : i = 1 + (dblB (name.take k)).length
  b : Lib.IsBuilder 135 5 (w.heap.size + 1) (w.heap.size + 1) (Lib.byteCells (name.take k)) wr
  bel : Below (w.heap.size + 1) ((w.alloc (.cells #[.int .i64 0, .string ⟨#[]⟩, .string ⟨#[]⟩] 90)).alloc (.cells #[.pointer none, .slice none 0 0] 135)) wr

theorem QS.split {w : World} {s : ByteArray} {name rest : List UInt8} {k i : Nat} {wr : World} (h : QS w s name rest k i wr) (hs : s.data.toList = 34 :: (dblB name ++ 34 :: rest)) :
    s.data.toList = (34 :: dblB (name.take k)) ++ (dblB (name.drop k) ++ 34 :: rest) ∧ (34 :: dblB (name.take k)).length = i := by
  refine ⟨?_, ?_⟩
  · rw [hs]
    have : dblB name = dblB (name.take k) ++ dblB (name.drop k) := by rw [← dblB_append, List.take_append_drop]
    rw [this]
    simp
  · rw [h.hi]; simp; omega

theorem QS.start (w : World) (s : ByteArray) (name rest : List UInt8) : QS w s name rest 0 1 ((w.alloc (.cells #[.int .i64 0, .string ⟨#[]⟩, .string ⟨#[]⟩] 90)).alloc (.cells #[.pointer none, .slice none 0 0] 135)) where
  hk := Nat.zero_le _
  hi := rfl
  b := .inl ⟨Nat.le_refl _, .slice none 0 0, new2 _ _ _, World.ownsRow_nil _ _ _ _, by simp [Value.ownBlock]⟩
  bel := Below.refl _ _

theorem QS.res {w : World} {s : ByteArray} {name rest : List UInt8} {k i : Nat} {wr w3 : World} (h : QS w s name rest k i wr) (hb : Below (w.heap.size + 1) wr w3) : w3.heap[w.heap.size]? = some (.cells #[.int .i64 0, .string ⟨#[]⟩, .string ⟨#[]⟩] 90 (0, 0)) := by
  rw [(h.bel.trans hb).block _ (by omega), Below.heap_alloc _ _ _ (by simp)]
  exact heap_alloc_new _ _
theorem QS.grown {w : World} {s : ByteArray} {name rest : List UInt8} {k i : Nat} {wr w3 : World} (h : QS w s name rest k i wr) (hb : Below (w.heap.size + 1) wr w3) : w.grownBy w3 none := by
  have h0 := ((grown_refl w none).alc (.cells #[.int .i64 0, .string ⟨#[]⟩, .string ⟨#[]⟩] 90)).alc (.cells #[.pointer none, .slice none 0 0] 135)
  have h1 := h.bel.trans hb
  exact ⟨h1.os.trans h0.os, h1.tape.trans h0.tape, h1.output.trans h0.output, Nat.le_trans h0.size h1.size, fun k hk hr => (h1.block k (by omega)).trans (h0.block k hk hr)⟩
theorem take_one (a : List UInt8) (b : UInt8) (r : List UInt8) : (a ++ b :: r).take (a.length + 1) = a ++ [b] := by
  induction a with
  | nil => rfl
  | cons x a ih => simpa using ih
theorem drw_below {B : Nat} {w w' : World} (h : Below B w.drew w') : Below B w w' := ⟨h.os, h.tape, h.output, h.size, h.block⟩

/-- One byte more. -/
theorem QS.step {w : World} {s : ByteArray} {name rest : List UInt8} {k i : Nat} {wr w' : World} (h : QS w s name rest k i wr) {c : UInt8} {tl : List UInt8} (hd : name.drop k = c :: tl) (i' : Nat) (hi' : i' = i + (dblB [c]).length)
    (hb : Lib.BuilderAt 135 5 (w.heap.size + 1) (w.heap.size + 1) (.pointer (some ⟨w.heap.size + 1, 0, none⟩)) (Lib.byteCells (name.take k) ++ [.int .u8 (c.toNat : Int)]) w') (hbel : Below (w.heap.size + 1) wr w') : QS w s name rest (k + 1) i' w' := by
  have hk : name[k]? = some c := by rw [← List.head?_drop, hd]; rfl
  have hlt := (List.getElem?_eq_some_iff.1 hk)
  have htk : name.take (k + 1) = name.take k ++ [c] := by rw [← List.take_append_getElem hlt.1, hlt.2]
  refine ⟨by have := hlt.1; omega, ?_, ?_, h.bel.trans hbel⟩
  · rw [htk, dblB_append, hi', h.hi]; simp; omega
  · rw [htk]
    exact .inr (by simpa [Lib.byteCells] using hb)

set_option maxHeartbeats 4000000 in
set_option maxRecDepth 100000 in
theorem quoted_ok (s : ByteArray) (name rest : List UInt8) (w : World) (hs : s.data.toList = 34 :: (dblB name ++ 34 :: rest)) (hr : rest.head? ≠ some 34) (hn : name ≠ []) (hsz : s.size ≤ 100000000) :
    Calls Ybaz.prog 28 #[.string s] w fun e w' => e = .returned (.tuple #[.agg #[.int .i64 2, .string ⟨(34 :: (dblB name ++ [34])).toArray⟩, .string ⟨name.toArray⟩], .int .i64 ((dblB name).length + 2 : Nat), .nilIface]) ∧ w.grownBy w' none := by
  have h0 := byteAt_mid (s := s) (pre := []) (b := 34) (suf := dblB name ++ 34 :: rest) hs
  have hlt0 : 0 < s.size := h0.1
  have hlt0' : (0 : Int) < (s.size : Int) := by omega
  have hq : (s[0].toNat : Int) = 34 := by rw [← byteAt_eq s 0 hlt0]; exact h0.2
  clear h0
  go_enter Ybaz.func28, Ybaz.ntmps28
  go_wp2_with fail
  go_loopg [9] name.length (fun g v wr => ∃ k i : Nat, g + k = name.length ∧ v = .int .i64 i ∧ QS w s name rest k i wr)
  case atStart => exact ⟨0, 1, by omega, rfl, QS.start w s name rest⟩
  case round =>
    obtain ⟨k, i, hgk, rfl, hQ⟩ := hrel
    obtain ⟨hsp, hpl⟩ := hQ.split hs
    have hl : s.size = s.data.toList.length := by rw [Array.length_toList]; rfl
    have hsz2 := hQ.bel.size
    have hBw : w.heap.size + 1 ≤ wr.heap.size := by simp at hsz2; omega
    have hnl : (Lib.byteCells (name.take k)).length ≤ s.size := by
      have hk := hQ.hk
      have := dblB_len name
      rw [hl, hs]
      simp [Lib.byteCells]
      omega
    cases hd : name.drop k with
    | nil =>
      rw [hd] at hsp
      have hkk : k = name.length := by
        have h1 := congrArg List.length hd
        have h2 := hQ.hk
        simp at h1
        omega
      have hsp1 : s.data.toList = (34 :: dblB (name.take k)) ++ 34 :: rest := by rw [hsp]; simp [dblB]
      have b1 := byteAt_mid hsp1
      rw [hpl] at b1
      have hi1 : i < s.size := b1.1
      have hi1' : (i : Int) < (s.size : Int) := by omega
      have e1 : (s[i].toNat : Int) = 34 := by rw [← byteAt_eq s i hi1]; exact b1.2
      have hnx : ∀ h : i + 1 < s.size, ¬ (s[i + 1].toNat : Int) = 34 := by
        intro h hx
        cases rest with
        | nil =>
          rw [hl, hsp1] at h
          simp at h hpl
          omega
        | cons x rs =>
          have hsp2 : s.data.toList = (34 :: dblB (name.take k) ++ [34]) ++ x :: rs := by rw [hsp1]; simp
          have b2 := byteAt_mid hsp2
          have hpl2 : (34 :: dblB (name.take k) ++ [34]).length = i + 1 := by rw [← hpl]; simp
          rw [hpl2, byteAt_eq s (i + 1) h, hx] at b2
          have h34 : x.toNat = 34 := by have := b2.2; omega
          exact hr (by rw [show x = 34 from UInt8.toNat_inj.1 h34]; rfl)
      have htk : name.take k = name := by rw [hkk]; simp
      have hlen := Go.Proofs.Ybaz.Builder_Len (w.heap.size + 1) (w.heap.size + 1) (Lib.byteCells (name.take k)) wr hQ.b
      rw [htk] at hlen
      have hbl : (Lib.byteCells name).length = name.length := by simp [Lib.byteCells]
      rw [hbl] at hlen
      have hnz : ¬ (name.length : Int) = 0 := by
        have : name.length ≠ 0 := fun h => hn (List.length_eq_zero_iff.1 h)
        omega
      have hstr := fun w' (h : Lib.IsBuilder 135 5 (w.heap.size + 1) (w.heap.size + 1) (Lib.byteCells name) w') (hB : w.heap.size + 1 ≤ w'.heap.size) => Go.Proofs.Ybaz.Builder_String_any (w.heap.size + 1) (w.heap.size + 1) name w' h hB
      have hQb := hQ.b
      rw [htk] at hQb
      have HQ : Hid (QS w s name rest k i wr) := hQ
      have HB : Hid (Lib.IsBuilder 135 5 (w.heap.size + 1) (w.heap.size + 1) (Lib.byteCells name) wr) := hQb
      have HS : Hid (s.data.toList = (34 :: dblB (name.take k)) ++ 34 :: rest ∧ (34 :: dblB (name.take k)).length = i ∧ name.take k = name) := ⟨hsp1, hpl, htk⟩
      clear hQ hs hsp hsp1 b1 hpl hl hnl hsz2 hQb htk hkk hbl hd hn hr
      by_cases hi2 : i + 1 < s.size
      · have hi2' : (i : Int) + 1 < (s.size : Int) := by omega
        have e2 := hnx hi2
        clear hnx
        go_wp2_with (go_at_call 58; refine hlen.mono ?_; rintro e w2 ⟨rfl, rfl⟩)
        have hbd : (Lib.IsBuilder 135 5 (w.heap.size + 1) (w.heap.size + 1) (Lib.byteCells name) w2.drew) := HB.out
        have hwr : IntKind.i64.wrap ((i : Int) + 1) = (i : Int) + 1 := by rw [IntKind.wrap_i64]; omega
        have hle : (i : Int) + 1 ≤ (s.size : Int) := by omega
        have hnn : (0 : Int) ≤ (i : Int) + 1 := by omega
        have htn : ((i : Int) + 1).toNat = i + 1 := by omega
        have hst := hstr _ hbd hBw
        have hfree := fun (w3 : World) (hb : Below (w.heap.size + 1) w2.drew w3) => HQ.out.res (drw_below hb)
        clear hbd hstr hlen
        go_region_held3 (fun _ => True) (trivial) (first
          | (go_at_call 59; refine hst.mono ?_; rintro e w3 ⟨rfl, hbel3⟩; have hr3 := hfree _ hbel3; have d0 : w3.cell? ⟨w.heap.size, 0, none⟩ = some (.int .i64 0) := cells_at hr3 0; have d1 : w3.cell? ⟨w.heap.size, 1, none⟩ = some (.string ⟨#[]⟩) := cells_at hr3 1; have d2 : w3.cell? ⟨w.heap.size, 2, none⟩ = some (.string ⟨#[]⟩) := cells_at hr3 2; have f0 : w3.frozen? ⟨w.heap.size, 0, none⟩ = false := free_at hr3 0; have f1 : w3.frozen? ⟨w.heap.size, 1, none⟩ = false := free_at hr3 1; have f2 : w3.frozen? ⟨w.heap.size, 2, none⟩ = false := free_at hr3 2; clear hr3))
        have hx : s.extract 0 (i + 1) = ⟨(34 :: (dblB name ++ [34])).toArray⟩ := by
          obtain ⟨h1, h2, h3⟩ := HS.out
          rw [h3] at h1 h2
          rw [ext_eq, h1, ← h2, take_one]
          simp
        have hin : (i : Int) + 1 = ((dblB name).length + 2 : Nat) := by
          obtain ⟨h1, h2, h3⟩ := HS.out
          rw [h3] at h2
          simp at h2
          omega
        have hr3 := hfree _ hbel3
        have q0 : (w3.setCell ⟨w.heap.size, 0, none⟩ (.int .i64 2)).heap[w.heap.size]? = some (.cells #[.int .i64 2, .string ⟨#[]⟩, .string ⟨#[]⟩] 90 (0, 0)) := by rw [heap_setCell_same _ _ _ _ _ _ hr3]; rfl
        have q1 : ((w3.setCell ⟨w.heap.size, 0, none⟩ (.int .i64 2)).setCell ⟨w.heap.size, 1, none⟩ (.string (s.extract 0 (i + 1)))).heap[w.heap.size]? = some (.cells #[.int .i64 2, .string (s.extract 0 (i + 1)), .string ⟨#[]⟩] 90 (0, 0)) := by rw [heap_setCell_same _ _ _ _ _ _ q0]; rfl
        have q2 : (((w3.setCell ⟨w.heap.size, 0, none⟩ (.int .i64 2)).setCell ⟨w.heap.size, 1, none⟩ (.string (s.extract 0 (i + 1)))).setCell ⟨w.heap.size, 2, none⟩ (.string ⟨name.toArray⟩)).heap[w.heap.size]? = some (.cells #[.int .i64 2, .string (s.extract 0 (i + 1)), .string ⟨name.toArray⟩] 90 (0, 0)) := by rw [heap_setCell_same _ _ _ _ _ _ q1]; rfl
        have r0 := cells_at q2 0
        have r1 := cells_at q2 1
        have r2 := cells_at q2 2
        simp at r0 r1 r2
        have HX : Hid (s.extract 0 (i + 1) = ⟨(34 :: (dblB name ++ [34])).toArray⟩ ∧ (i : Int) + 1 = ((dblB name).length + 2 : Nat)) := ⟨hx, hin⟩
        have hG : w.grownBy w3 none := HQ.out.grown (drw_below hbel3)
        clear hx hin hr3 q0 q1 q2 hfree
        go_wp2_with fail
        refine bodyPost_ret (v := .tuple #[.agg #[.int .i64 2, .string (s.extract 0 (i + 1)), .string ⟨name.toArray⟩], .int .i64 ((i : Int) + 1), .nilIface]) (by simp [results, Ybaz.results28, go_sem, r0, r1, r2]) rfl ⟨by rw [HX.out.1, HX.out.2], ?_⟩
        exact ((hG.set _ _ (.inr (Nat.le_refl _))).set _ _ (.inr (Nat.le_refl _))).set _ _ (.inr (Nat.le_refl _))
      · have hi2' : ¬ ((i : Int) + 1 < (s.size : Int)) := by omega
        clear hnx
        go_wp2_with (go_at_call 58; refine hlen.mono ?_; rintro e w2 ⟨rfl, rfl⟩)
        have hbd : (Lib.IsBuilder 135 5 (w.heap.size + 1) (w.heap.size + 1) (Lib.byteCells name) w2.drew) := HB.out
        have hwr : IntKind.i64.wrap ((i : Int) + 1) = (i : Int) + 1 := by rw [IntKind.wrap_i64]; omega
        have hle : (i : Int) + 1 ≤ (s.size : Int) := by omega
        have hnn : (0 : Int) ≤ (i : Int) + 1 := by omega
        have htn : ((i : Int) + 1).toNat = i + 1 := by omega
        have hst := hstr _ hbd hBw
        have hfree := fun (w3 : World) (hb : Below (w.heap.size + 1) w2.drew w3) => HQ.out.res (drw_below hb)
        clear hbd hstr hlen
        go_region_held3 (fun _ => True) (trivial) (first
          | (go_at_call 59; refine hst.mono ?_; rintro e w3 ⟨rfl, hbel3⟩; have hr3 := hfree _ hbel3; have d0 : w3.cell? ⟨w.heap.size, 0, none⟩ = some (.int .i64 0) := cells_at hr3 0; have d1 : w3.cell? ⟨w.heap.size, 1, none⟩ = some (.string ⟨#[]⟩) := cells_at hr3 1; have d2 : w3.cell? ⟨w.heap.size, 2, none⟩ = some (.string ⟨#[]⟩) := cells_at hr3 2; have f0 : w3.frozen? ⟨w.heap.size, 0, none⟩ = false := free_at hr3 0; have f1 : w3.frozen? ⟨w.heap.size, 1, none⟩ = false := free_at hr3 1; have f2 : w3.frozen? ⟨w.heap.size, 2, none⟩ = false := free_at hr3 2; clear hr3))
        have hx : s.extract 0 (i + 1) = ⟨(34 :: (dblB name ++ [34])).toArray⟩ := by
          obtain ⟨h1, h2, h3⟩ := HS.out
          rw [h3] at h1 h2
          rw [ext_eq, h1, ← h2, take_one]
          simp
        have hin : (i : Int) + 1 = ((dblB name).length + 2 : Nat) := by
          obtain ⟨h1, h2, h3⟩ := HS.out
          rw [h3] at h2
          simp at h2
          omega
        have hr3 := hfree _ hbel3
        have q0 : (w3.setCell ⟨w.heap.size, 0, none⟩ (.int .i64 2)).heap[w.heap.size]? = some (.cells #[.int .i64 2, .string ⟨#[]⟩, .string ⟨#[]⟩] 90 (0, 0)) := by rw [heap_setCell_same _ _ _ _ _ _ hr3]; rfl
        have q1 : ((w3.setCell ⟨w.heap.size, 0, none⟩ (.int .i64 2)).setCell ⟨w.heap.size, 1, none⟩ (.string (s.extract 0 (i + 1)))).heap[w.heap.size]? = some (.cells #[.int .i64 2, .string (s.extract 0 (i + 1)), .string ⟨#[]⟩] 90 (0, 0)) := by rw [heap_setCell_same _ _ _ _ _ _ q0]; rfl
        have q2 : (((w3.setCell ⟨w.heap.size, 0, none⟩ (.int .i64 2)).setCell ⟨w.heap.size, 1, none⟩ (.string (s.extract 0 (i + 1)))).setCell ⟨w.heap.size, 2, none⟩ (.string ⟨name.toArray⟩)).heap[w.heap.size]? = some (.cells #[.int .i64 2, .string (s.extract 0 (i + 1)), .string ⟨name.toArray⟩] 90 (0, 0)) := by rw [heap_setCell_same _ _ _ _ _ _ q1]; rfl
        have r0 := cells_at q2 0
        have r1 := cells_at q2 1
        have r2 := cells_at q2 2
        simp at r0 r1 r2
        have HX : Hid (s.extract 0 (i + 1) = ⟨(34 :: (dblB name ++ [34])).toArray⟩ ∧ (i : Int) + 1 = ((dblB name).length + 2 : Nat)) := ⟨hx, hin⟩
        have hG : w.grownBy w3 none := HQ.out.grown (drw_below hbel3)
        clear hx hin hr3 q0 q1 q2 hfree
        go_wp2_with fail
        refine bodyPost_ret (v := .tuple #[.agg #[.int .i64 2, .string (s.extract 0 (i + 1)), .string ⟨name.toArray⟩], .int .i64 ((i : Int) + 1), .nilIface]) (by simp [results, Ybaz.results28, go_sem, r0, r1, r2]) rfl ⟨by rw [HX.out.1, HX.out.2], ?_⟩
        exact ((hG.set _ _ (.inr (Nat.le_refl _))).set _ _ (.inr (Nat.le_refl _))).set _ _ (.inr (Nat.le_refl _))
    | cons c tl =>
      rw [hd] at hsp
      by_cases hc : c = 34
      · subst hc
        have hsp1 : s.data.toList = (34 :: dblB (name.take k)) ++ 34 :: (34 :: (dblB tl ++ 34 :: rest)) := by rw [hsp]; simp [dblB]
        have hsp2 : s.data.toList = (34 :: dblB (name.take k) ++ [34]) ++ 34 :: (dblB tl ++ 34 :: rest) := by rw [hsp1]; simp
        have b1 := byteAt_mid hsp1
        have b2 := byteAt_mid hsp2
        rw [hpl] at b1
        have hpl2 : (34 :: dblB (name.take k) ++ [34]).length = i + 1 := by rw [← hpl]; simp
        rw [hpl2] at b2
        have hi1 : i < s.size := b1.1
        have hi2 : i + 1 < s.size := b2.1
        have hi1' : (i : Int) < (s.size : Int) := by omega
        have hi2' : (i : Int) + 1 < (s.size : Int) := by omega
        have e1 : (s[i].toNat : Int) = 34 := by rw [← byteAt_eq s i hi1]; exact b1.2
        have e2 : (s[i + 1].toNat : Int) = 34 := by rw [← byteAt_eq s (i + 1) hi2]; exact b2.2
        have hstep := fun w' i' hi' hb hbel => QS.step (w' := w') hQ hd i' hi' hb hbel
        have hwb := writeByte_any (w.heap.size + 1) (w.heap.size + 1) (Lib.byteCells (name.take k)) 34 wr hQ.b (by omega) hBw
        clear hQ hs hsp hsp1 hsp2 b1 b2 hpl hpl2 hl hnl hBw hsz2
        go_wp2_with (go_at_call 57; refine hwb.mono ?_; rintro e w2 ⟨rfl, hb2, hbel2⟩)
        go_roundg (gk - 1)
        case measure =>
          have := congrArg List.length hd
          simp at this
          omega
        case rel =>
          have := congrArg List.length hd
          simp at this
          refine ⟨k + 1, i + 2, by omega, by simp only [Value.int.injEq, true_and]; omega, hstep w2 (i + 2) (by simp [dblB]) (by simpa using hb2) hbel2⟩
      · have hsp1 : s.data.toList = (34 :: dblB (name.take k)) ++ c :: (dblB tl ++ 34 :: rest) := by rw [hsp]; simp [dblB, hc]
        have b1 := byteAt_mid hsp1
        rw [hpl] at b1
        have hi1 : i < s.size := b1.1
        have hi1' : (i : Int) < (s.size : Int) := by omega
        have hcn : (c.toNat : Int) ≠ 34 := fun h => hc (by
          have h' : c.toNat = 34 := by omega
          exact UInt8.toNat_inj.1 h')
        have e1 : (s[i].toNat : Int) = (c.toNat : Int) := by rw [← byteAt_eq s i hi1]; exact b1.2
        have hstep := fun w' i' hi' hb hbel => QS.step (w' := w') hQ hd i' hi' hb hbel
        have hwb := writeByte_any (w.heap.size + 1) (w.heap.size + 1) (Lib.byteCells (name.take k)) (c.toNat : Int) wr hQ.b (by omega) hBw
        have hcd : dblB [c] = [c] := by simp [dblB, hc]
        have HCD : Hid (dblB [c] = [c]) := hcd
        clear hQ hs hsp hsp1 b1 hpl hl hnl hBw hsz2 hcd hc
        go_wp2_with (go_at_call 57; refine hwb.mono ?_; rintro e w2 ⟨rfl, hb2, hbel2⟩)
        go_roundg (gk - 1)
        case measure =>
          have := congrArg List.length hd
          simp at this
          omega
        case rel =>
          have := congrArg List.length hd
          simp at this
          exact ⟨k + 1, i + 1, by omega, rfl, hstep w2 (i + 1) (by rw [HCD.out]; rfl) hb2 hbel2⟩

end Go.Proofs.YbulkexobaGreatFmt
