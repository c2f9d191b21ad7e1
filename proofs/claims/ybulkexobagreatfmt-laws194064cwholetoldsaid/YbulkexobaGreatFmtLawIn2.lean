/-
  THE LAW's NAMES.
-/
import Derived.Test.YbulkexobaGreatFmtLawIn
namespace Go.Proofs.YbulkexobaGreatFmt
open Go.RowKit Go.Extern.Stop Go.Stop Go.Extern

/-- The bytes of the first i names. -/
def dB (ns : Nat → ByteArray) : Nat → List UInt8
  | 0 => []
  | i + 1 => dB ns i ++ ((if 0 < i then [44] else []) ++ ([32] ++ 34 :: (dblB (ns i).data.toList ++ [34])))
/-- One of them is empty. -/
def badU (ns : Nat → ByteArray) : Nat → Bool
  | 0 => false
  | i + 1 => badU ns i || (ns i).toList.isEmpty
def nList (ns : Nat → ByteArray) (n : Nat) : List ByteArray := (List.range n).map ns
theorem nList_succ (ns : Nat → ByteArray) (n : Nat) : nList ns (n + 1) = nList ns n ++ [ns n] := by simp [nList, List.range_succ]
theorem nList_length (ns : Nat → ByteArray) (n : Nat) : (nList ns n).length = n := by simp [nList]
theorem badU_iff (ns : Nat → ByteArray) (n : Nat) : badU ns n = true ↔ ∃ m ∈ nList ns n, m.data.toList = [] := by
  induction n with
  | zero => simp [badU, nList]
  | succ n ih =>
    rw [nList_succ]
    simp only [badU, Bool.or_eq_true, ih, List.mem_append, List.mem_singleton, bad_of, decide_eq_true_eq]
    constructor
    · rintro (⟨m, hm, he⟩ | he)
      · exact ⟨m, .inl hm, he⟩
      · exact ⟨ns n, .inr rfl, he⟩
    · rintro ⟨m, hm | rfl, he⟩
      · exact .inl ⟨m, hm, he⟩
      · exact .inr he
theorem names_snoc (l : List ByteArray) (x : ByteArray) : srcOf (namesPs (l ++ [x])) = srcOf (namesPs l) ++ ((if 0 < l.length then [44] else []) ++ ([32] ++ 34 :: (dblB x.data.toList ++ [34]))) := by
  cases l with
  | nil => simp [namesPs, moreNs, srcOf_cons, srcOf_nil, bl_src, qu_src]
  | cons y ys =>
    simp only [List.cons_append, namesPs, srcOf_cons, more_src, List.map_append, List.map_cons, List.map_nil]
    simp [moreB]
theorem names_src (ns : Nat → ByteArray) (n : Nat) : srcOf (namesPs (nList ns n)) = dB ns n := by
  induction n with
  | zero => rfl
  | succ n ih => rw [nList_succ, names_snoc, ih, nList_length]; rfl

theorem own_slice {w : World} {base e sz n : Nat} {v : Value} {xs : List Value} (h : w.ownsRow base e sz v n xs) : ∃ ao m c, v = .slice ao m c := by
  rcases h.2 with ⟨hv, _⟩ | ⟨g, cap, _, hg, _⟩
  · exact ⟨_, _, _, hv⟩
  · exact ⟨_, _, _, hg⟩

/-- slices.Clone of the names -/
theorem clone_any (ao : Option Addr) (nb no nn nc : Nat) (ns : Nat → ByteArray) (w : World) (hn : nn ≤ 65536) (hao : 0 < nn → ao = some ⟨nb, no, none⟩) (hc : ∀ i, i < nn → w.cell? ⟨nb, no + i, none⟩ = some (.string (ns i))) :
    Calls Ybaz.prog 9 #[.slice ao nn nc] w fun e w' => ∃ ao' n' c', e = .returned (.slice ao' n' c') ∧ (∃ base, w'.ownsRow base 9 1 (.slice ao' n' c') (nList ns nn).length ((nList ns nn).map .string)) ∧ w.grownBy w' none := by
  by_cases h0 : nn = 0
  · subst h0
    cases ao with
    | none =>
      refine (Ybaz.slices_Clone_string_nil 0 nc w).mono ?_
      rintro e w' ⟨rfl, rfl⟩
      exact ⟨none, 0, 0, rfl, ⟨0, World.ownsRow_nil _ _ _ _⟩, grown_refl _ _⟩
    | some a =>
      refine (Ybaz.slices_Clone_string_zero a nc w).mono ?_
      rintro e w' ⟨v', rfl, hown, _, hb⟩
      obtain ⟨ao', n', c', rfl⟩ := own_slice hown
      exact ⟨ao', n', c', rfl, ⟨_, hown⟩, grown_below hb (Nat.le_refl _)⟩
  · obtain rfl := hao (by omega)
    refine (Ybaz.slices_Clone_string nb no nn nc (nList ns nn) w (by rw [nList_length]; exact Nat.le_refl _) (by omega) (fun j hj => ?_)).mono ?_
    · rw [nList_length] at hj
      rw [hc j hj]
      simp [nList, List.getD, hj]
    · rintro e w' ⟨v', rfl, hown, _, hb⟩
      obtain ⟨ao', n', c', rfl⟩ := own_slice hown
      have e1 : (nList ns nn).take nn = nList ns nn := List.take_of_length_le (by rw [nList_length]; exact Nat.le_refl _)
      rw [e1] at hown
      exact ⟨ao', n', c', rfl, ⟨_, by rw [nList_length]; exact hown⟩, grown_below hb (Nat.le_refl _)⟩

theorem isDrop_kp {w w' : World} {v : Value} {ifx : Bool} {names : List ByteArray} (h : IsDrop w v ifx names) (hk : Kp w w') : IsDrop w' v ifx names := by
  obtain ⟨d, sv, base, h1, h2, h3⟩ := h
  refine ⟨d, sv, base, h1, hk _ _ _ _ h2 (by decide), h3.1, ?_⟩
  rcases h3.2 with hn | ⟨g, cap, cur, hg, hb, hh, rest⟩
  · exact .inl hn
  · exact .inr ⟨g, cap, cur, hg, hb, hk _ _ _ _ hh (by decide), rest⟩

end Go.Proofs.YbulkexobaGreatFmt
