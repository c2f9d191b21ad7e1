/-
  TOKENS, and the smallest callees over them: token.is, isKeyword.
-/
import Derived.Test.YbulkexobaGreatFmtRows
import Derived.WalkKit
import Derived.ProofKit
import Derived.Below
import Derived.Deep.QuietTactic
import Derived.BigQuiet
import Derived.WalkSpells
namespace Go.Proofs.YbulkexobaGreatFmt
open Go.RowKit

/-- A token. -/
structure Tok where
  kind : Int
  text : ByteArray
  val : ByteArray

/-- .. as a value. -/
def Tok.agg (t : Tok) : Value := .agg #[.int .i64 t.kind, .string t.text, .string t.val]
/-- .. its cells. -/
def Tok.cells (t : Tok) : List Value := [.int .i64 t.kind, .string t.text, .string t.val]

/-- It is of kind k, its name s. -/
def Tok.is (t : Tok) (k : Int) (s : ByteArray) : Bool := decide (t.kind = k ∧ t.val = s)

theorem grown_refl (w : World) (row : Option Nat) : w.grownBy w row := ⟨rfl, rfl, rfl, Nat.le_refl _, fun _ _ _ => rfl⟩
theorem grown_drewN (w : World) (n : Nat) (row : Option Nat) : w.grownBy (w.drewN n) row := ⟨rfl, rfl, rfl, Nat.le_refl _, fun _ _ _ => rfl⟩
theorem grown_trans {a b c : World} {row : Option Nat} (h : a.grownBy b row) (k : b.grownBy c row) : a.grownBy c row :=
  ⟨k.os.trans h.os, k.tape.trans h.tape, k.output.trans h.output, Nat.le_trans h.size k.size, fun i hi hr => (k.block i (Nat.lt_of_lt_of_le hi h.size) hr).trans (h.block i hi hr)⟩
theorem grown_but {a b : World} (h : a.grownBy b none) (row : Option Nat) : a.grownBy b row := ⟨h.os, h.tape, h.output, h.size, fun i hi _ => h.block i hi (by simp)⟩
theorem grown_set (w : World) (a : Addr) (u : Value) : w.grownBy (w.setCell a u) (some a.block) :=
  ⟨rfl, rfl, rfl, by simp [World.setCell], fun k _ hr => Below.heap_setCell _ _ _ _ (fun h => hr (by rw [h]))⟩
section
variable {a w : World} {row : Option Nat}
theorem _root_.Go.World.grownBy.alc (h : a.grownBy w row) (o : Obj) : a.grownBy (w.alloc o) row := grown_trans h (World.grownBy_alloc _ _ _)
theorem _root_.Go.World.grownBy.drw (h : a.grownBy w row) : a.grownBy w.drew row := ⟨h.os, h.tape, h.output, h.size, h.block⟩
theorem _root_.Go.World.grownBy.drwN (h : a.grownBy w row) (n : Nat) : a.grownBy (w.drewN n) row := grown_trans h (grown_drewN _ _ _)
/-- A store into the row, or into a block that was not there. -/
theorem _root_.Go.World.grownBy.set (h : a.grownBy w row) (p : Addr) (u : Value) (hp : some p.block = row ∨ a.heap.size ≤ p.block) : a.grownBy (w.setCell p u) row :=
  ⟨h.os, h.tape, h.output, by simpa [World.setCell] using h.size, fun k hk hr => by
    rw [Below.heap_setCell _ _ _ _ (by rcases hp with hp | hp
                                       · exact fun e => hr (by rw [e]; exact hp)
                                       · omega)]
    exact h.block k hk hr⟩
end
theorem cells_at {w : World} {b : Nat} {cs : Array Value} {t : TypeId} {fr : Nat × Nat} (h : w.heap[b]? = some (.cells cs t fr)) (j : Nat) : w.cell? ⟨b, j, none⟩ = cs[j]? := by
  simp [World.cell?, h]
theorem free_at {w : World} {b : Nat} {cs : Array Value} {t : TypeId} (h : w.heap[b]? = some (.cells cs t (0, 0))) (j : Nat) : w.frozen? ⟨b, j, none⟩ = false := by
  simp [World.frozen?, h]
/-- The blocks differ: by what they hold. -/
theorem blk_ne {w : World} {a b : Nat} {ca cb : Array Value} {ta tb : TypeId} {fa fb : Nat × Nat} (ha : w.heap[a]? = some (.cells ca ta fa)) (hb : w.heap[b]? = some (.cells cb tb fb)) (hne : ta ≠ tb) : a ≠ b := by
  rintro rfl
  rw [ha] at hb
  injection hb with hb
  injection hb with _ h2 _
  exact hne h2

theorem toList_inj {a b : ByteArray} (h : a.toList = b.toList) : a = b := by
  rw [ByteArray.toList_eq, ByteArray.toList_eq] at h
  cases a; cases b
  simpa using h
theorem toList_beq (a b : ByteArray) : (a.toList == b.toList) = decide (a = b) := by
  by_cases h : a = b
  · subst h; simp
  · rw [decide_eq_false h]
    simp only [beq_eq_false_iff_ne, ne_eq]
    exact fun h2 => h (toList_inj h2)
theorem one_beq (a b : ByteArray) (ha : a.size = 1) (hb : b.size = 1) : ((a[0].toNat : Int) == (b[0].toNat : Int)) = decide (a = b) := by
  rw [← toList_beq]
  obtain ⟨⟨la⟩⟩ := a
  obtain ⟨⟨lb⟩⟩ := b
  have ha' : la.length = 1 := ha
  have hb' : lb.length = 1 := hb
  obtain ⟨x, rfl⟩ := List.length_eq_one_iff.1 ha'
  obtain ⟨y, rfl⟩ := List.length_eq_one_iff.1 hb'
  show ((x.toNat : Int) == (y.toNat : Int)) = ((ByteArray.toList ⟨#[x]⟩) == (ByteArray.toList ⟨#[y]⟩))
  rw [ByteArray.toList_eq, ByteArray.toList_eq]
  by_cases hxy : x = y
  · subst hxy; simp
  · have : ¬ x.toNat = y.toNat := fun h => hxy (UInt8.toNat_inj.1 h)
    rw [show ((x.toNat : Int) == (y.toNat : Int)) = false from beq_eq_false_iff_ne.2 (by omega)]
    exact (beq_eq_false_iff_ne.2 (by simp [hxy])).symm

theorem is_kind (t : Tok) (k : Int) (s : ByteArray) (w : World) (h : t.kind ≠ k) :
    Calls Ybaz.prog 48 #[t.agg, .int .i64 k, .string s] w fun e w' => e = .returned (.bool false) ∧ w.grownBy w' none := by
  unfold Tok.agg
  go_enter Ybaz.func48, Ybaz.ntmps48
  go_wp2_with fail
  go_ret
  exact ⟨rfl, World.grownBy_alloc _ _ _⟩

theorem is_len (t : Tok) (k : Int) (s : ByteArray) (w : World) (h : t.kind = k) (hl : t.val.size ≠ s.size) :
    Calls Ybaz.prog 48 #[t.agg, .int .i64 k, .string s] w fun e w' => e = .returned (.bool false) ∧ w.grownBy w' none := by
  unfold Tok.agg
  have hl' : ¬ ((t.val.size : Int) = (s.size : Int)) := by omega
  go_enter Ybaz.func48, Ybaz.ntmps48
  go_wp2_with fail
  go_ret
  exact ⟨rfl, World.grownBy_alloc _ _ _⟩

theorem is_long (t : Tok) (k : Int) (s : ByteArray) (w : World) (h : t.kind = k) (hl : t.val.size = s.size) (h1 : s.size ≠ 1) :
    Calls Ybaz.prog 48 #[t.agg, .int .i64 k, .string s] w fun e w' => e = .returned (.bool (decide (t.val = s))) ∧ w.grownBy w' none := by
  unfold Tok.agg
  have hl' : ((t.val.size : Int) = (s.size : Int)) := by omega
  have h1' : ¬ ((s.size : Int) = 1) := by omega
  go_enter Ybaz.func48, Ybaz.ntmps48
  go_wp2_with fail
  go_ret
  refine ⟨?_, World.grownBy_alloc _ _ _⟩
  show Ending.returned (Value.bool _) = _
  rw [toList_beq]

theorem is_one (t : Tok) (k : Int) (s : ByteArray) (w : World) (h : t.kind = k) (hl : t.val.size = s.size) (h1 : s.size = 1) :
    Calls Ybaz.prog 48 #[t.agg, .int .i64 k, .string s] w fun e w' => e = .returned (.bool (decide (t.val = s))) ∧ w.grownBy w' none := by
  unfold Tok.agg
  have hl' : ((t.val.size : Int) = (s.size : Int)) := by omega
  have h1' : ((s.size : Int) = 1) := by omega
  go_enter Ybaz.func48, Ybaz.ntmps48
  go_wp2_with fail
  go_quiet (fail)
  go_wp2_with fail
  go_ret
  refine ⟨?_, grown_trans (World.grownBy_alloc _ _ _) (grown_drewN _ _ _)⟩
  show Ending.returned (Value.bool _) = _
  rw [one_beq _ _ (by omega) h1]

/-- token.is -/
theorem is_any (t : Tok) (k : Int) (s : ByteArray) (w : World) :
    Calls Ybaz.prog 48 #[t.agg, .int .i64 k, .string s] w fun e w' => e = .returned (.bool (t.is k s)) ∧ w.grownBy w' none := by
  unfold Tok.is
  by_cases h : t.kind = k
  · by_cases hl : t.val.size = s.size
    · have : (t.kind = k ∧ t.val = s) ↔ t.val = s := by simp [h]
      rw [show decide (t.kind = k ∧ t.val = s) = decide (t.val = s) by simp [h]]
      by_cases h1 : s.size = 1
      · exact is_one t k s w h hl h1
      · exact is_long t k s w h hl h1
    · rw [decide_eq_false (fun hh => hl (by rw [hh.2]))]
      exact is_len t k s w h hl
  · rw [decide_eq_false (fun hh => h hh.1)]
    exact is_kind t k s w h

/-- isKeyword -/
theorem isKw_any (t : Tok) (s : ByteArray) (w : World) :
    Calls Ybaz.prog 31 #[t.agg, .string s] w fun e w' => e = .returned (.bool (t.is 1 s)) ∧ w.grownBy w' none := by
  have hc := fun w => is_any t 1 s w
  unfold Tok.agg at hc ⊢
  go_enter Ybaz.func31, Ybaz.ntmps31
  go_wp2_with (go_at_call 48; refine (hc _).mono ?_; rintro e w' ⟨rfl, hg⟩)
  go_ret
  exact ⟨rfl, grown_trans (World.grownBy_alloc _ _ _) hg⟩

end Go.Proofs.YbulkexobaGreatFmt
