/-
  PIECES OF A STATEMENT's TEXT, with no Go in sight: blanks, words, quoted names, digits, operators; their bytes, their tokens.
-/
import Derived.Test.YbulkexobaGreatFmtOper
import Derived.Test.YbulkexobaGreatFmtQuoted2
namespace Go.Proofs.YbulkexobaGreatFmt
open Go.RowKit

/-- A piece: kind 0 a blank, 1 a word (its letters in lower case; written in upper case where up says so), 2 a quoted name, 3 digits, 4 an operator. -/
structure Pc where
  kind : Nat
  up : Bool
  bs : List UInt8

def Pc.src (p : Pc) : List UInt8 :=
  if p.kind = 0 then [32] else if p.kind = 1 then (if p.up then p.bs.map upB else p.bs) else if p.kind = 2 then 34 :: (dblB p.bs ++ [34]) else p.bs
def Pc.toks (p : Pc) : List Tok :=
  if p.kind = 0 then [] else if p.kind = 1 then [kwt p.up ⟨p.bs.toArray⟩] else if p.kind = 2 then [⟨2, ⟨(34 :: (dblB p.bs ++ [34])).toArray⟩, ⟨p.bs.toArray⟩⟩] else if p.kind = 3 then [⟨3, ⟨p.bs.toArray⟩, ⟨p.bs.toArray⟩⟩] else [opt ⟨p.bs.toArray⟩]

/-- It stands well ahead of what follows. -/
def Pc.ok (p : Pc) (rest : List UInt8) : Prop :=
  (p.kind = 0) ∨
  (p.kind = 1 ∧ p.bs ≠ [] ∧ p.bs.length ≤ 1000 ∧ (∀ b ∈ p.bs, 97 ≤ b.toNat ∧ b.toNat ≤ 122) ∧ ∀ b, rest.head? = some b → partB (b.toNat : Int) = false) ∨
  (p.kind = 2 ∧ rest.head? ≠ some 34) ∨
  (p.kind = 3 ∧ p.bs ≠ [] ∧ (∀ b ∈ p.bs, digB (b.toNat : Int) = true) ∧ ∀ b, rest.head? = some b → digB (b.toNat : Int) = false) ∨
  (p.kind = 4 ∧ ∃ c, p.bs = [c] ∧ (c = 41 ∨ c = 44 ∨ c = 59 ∨ c = 45 ∨ c = 61) ∧ (c = 45 → rest.head? ≠ some 45))

def srcOf (ps : List Pc) : List UInt8 := ps.flatMap Pc.src
def toksOf (ps : List Pc) : List Tok := ps.flatMap Pc.toks
def OkL : List Pc → Prop
  | [] => True
  | p :: ps => p.ok (srcOf ps) ∧ OkL ps
/-- No empty name among them. -/
def Full (ps : List Pc) : Prop := ∀ p ∈ ps, p.kind = 2 → p.bs ≠ []

theorem srcOf_append (a b : List Pc) : srcOf (a ++ b) = srcOf a ++ srcOf b := by simp [srcOf]
theorem srcOf_cons (p : Pc) (b : List Pc) : srcOf (p :: b) = p.src ++ srcOf b := by simp [srcOf]
theorem toksOf_append (a b : List Pc) : toksOf (a ++ b) = toksOf a ++ toksOf b := by simp [toksOf]
theorem toksOf_one (p : Pc) : toksOf [p] = p.toks := by simp [toksOf]

/-- The tokens' cells in a row. -/
def tokCells (ts : List Tok) : List Value := ts.flatMap Tok.cells
theorem tokCells_length (ts : List Tok) : (tokCells ts).length = ts.length * 3 := by
  induction ts with
  | nil => rfl
  | cons t ts ih => simp [tokCells, Tok.cells] at ih ⊢; omega
theorem tokCells_snoc (ts : List Tok) (t : Tok) : tokCells (ts ++ [t]) = tokCells ts ++ t.cells := by simp [tokCells]

/-- Tokens are no more than bytes. -/
theorem toks_le (ps : List Pc) (h : OkL ps) : (toksOf ps).length ≤ (srcOf ps).length := by
  induction ps with
  | nil => simp [toksOf]
  | cons p ps ih =>
    have ih' := ih h.2
    have : p.toks.length ≤ p.src.length := by
      unfold Pc.toks Pc.src
      rcases h.1 with h | ⟨h, hb, _⟩ | ⟨h, _⟩ | ⟨h, hb, _⟩ | ⟨h, c, hc, _⟩
      · simp [h]
      · have := List.length_pos_iff.2 hb
        cases p.up <;> simp [h] <;> omega
      · simp [h]
      · have := List.length_pos_iff.2 hb
        simp [h]
        omega
      · simp [h, hc]
    simp only [toksOf, srcOf, List.flatMap_cons, List.length_append] at ih' ⊢
    omega

end Go.Proofs.YbulkexobaGreatFmt
