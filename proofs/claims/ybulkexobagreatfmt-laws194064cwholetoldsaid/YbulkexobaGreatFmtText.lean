/-
  THE PIECES THAT THE LAW WRITES: their bytes, their tokens, that they stand well.
-/
import Derived.Test.YbulkexobaGreatFmtParse
import Derived.Test.YbulkexobaGreatFmtZmodes
namespace Go.Proofs.YbulkexobaGreatFmt
open Go.RowKit

def blP : Pc := ⟨0, false, []⟩
def kwP (up : Bool) (s : ByteArray) : Pc := ⟨1, up, s.data.toList⟩
def quP (l : List UInt8) : Pc := ⟨2, false, l⟩
def diP (l : List UInt8) : Pc := ⟨3, false, l⟩
def opP (c : UInt8) : Pc := ⟨4, false, [c]⟩
/-- A quoted name's token. -/
def quT (l : List UInt8) : Tok := ⟨2, ⟨(34 :: (dblB l ++ [34])).toArray⟩, ⟨l.toArray⟩⟩

theorem ck_list (l : List UInt8) (up : Bool) : (ckB ⟨l.toArray⟩ up).data.toList = if up then l.map upB else l := by cases up <;> simp [ckB]
theorem bl_src : blP.src = [32] := rfl
theorem kw_src (up : Bool) (s : ByteArray) : (kwP up s).src = (ckB s up).data.toList := by
  cases up <;> simp [Pc.src, kwP, ckB]
theorem qu_src (l : List UInt8) : (quP l).src = 34 :: (dblB l ++ [34]) := rfl
theorem di_src (l : List UInt8) : (diP l).src = l := rfl
theorem op_src (c : UInt8) : (opP c).src = [c] := rfl
theorem bl_toks : blP.toks = [] := rfl
theorem kw_toks (up : Bool) (s : ByteArray) : (kwP up s).toks = [kwt up s] := by simp [Pc.toks, kwP]
theorem qu_toks (l : List UInt8) : (quP l).toks = [quT l] := rfl
theorem di_toks (l : List UInt8) : (diP l).toks = [⟨3, ⟨l.toArray⟩, ⟨l.toArray⟩⟩] := rfl
theorem op_toks (c : UInt8) : (opP c).toks = [opt ⟨#[c]⟩] := rfl

theorem srcOf_nil : srcOf [] = [] := rfl
theorem toksOf_nil : toksOf [] = [] := rfl
theorem toksOf_cons (p : Pc) (ps : List Pc) : toksOf (p :: ps) = p.toks ++ toksOf ps := by simp [toksOf]

/-- What follows begins with a blank, or there is nothing. -/
def Hd (ps : List Pc) : Prop := ∀ b, (srcOf ps).head? = some b → b = 32
theorem hd_nil : Hd [] := fun b h => by simp [srcOf] at h
theorem hd_bl (ps : List Pc) : Hd (blP :: ps) := fun b h => by simp [srcOf_cons, bl_src] at h; exact h.symm

theorem okl_bl {ps : List Pc} (h : OkL ps) : OkL (blP :: ps) := ⟨.inl rfl, h⟩
theorem okl_kw {up : Bool} {s : ByteArray} {ps : List Pc} (hs : s.data.toList ≠ [] ∧ s.data.toList.length ≤ 1000 ∧ ∀ b ∈ s.data.toList, 97 ≤ b.toNat ∧ b.toNat ≤ 122) (hd : Hd ps) (h : OkL ps) : OkL (kwP up s :: ps) :=
  ⟨.inr (.inl ⟨rfl, hs.1, hs.2.1, hs.2.2, fun b hb => by rw [hd b hb]; decide⟩), h⟩
theorem okl_qu {l : List UInt8} {ps : List Pc} (hd : (srcOf ps).head? ≠ some 34) (h : OkL ps) : OkL (quP l :: ps) := ⟨.inr (.inr (.inl ⟨rfl, hd⟩)), h⟩
theorem Hd.nq {ps : List Pc} (h : Hd ps) : (srcOf ps).head? ≠ some 34 := fun e => by have := h _ e; revert this; decide
theorem okl_di {l : List UInt8} {ps : List Pc} (h0 : l ≠ []) (hl : ∀ b ∈ l, digB (b.toNat : Int) = true) (hd : Hd ps) (h : OkL ps) : OkL (diP l :: ps) :=
  ⟨.inr (.inr (.inr (.inl ⟨rfl, h0, hl, fun b hb => by rw [hd b hb]; decide⟩))), h⟩
theorem okl_op {c : UInt8} {ps : List Pc} (hc : c = 41 ∨ c = 44 ∨ c = 59 ∨ c = 45 ∨ c = 61) (hd : Hd ps) (h : OkL ps) : OkL (opP c :: ps) :=
  ⟨.inr (.inr (.inr (.inr ⟨rfl, c, rfl, hc, fun _ e => by have := hd _ e; revert this; decide⟩))), h⟩

theorem full_nil : Full [] := fun p hp => by cases hp
theorem full_cons {p : Pc} {ps : List Pc} (hp : p.kind = 2 → p.bs ≠ []) (h : Full ps) : Full (p :: ps) := fun q hq => by
  rcases List.mem_cons.1 hq with rfl | hq
  · exact hp
  · exact h q hq
theorem full_append {a b : List Pc} (ha : Full a) (hb : Full b) : Full (a ++ b) := fun q hq => by
  rcases List.mem_append.1 hq with hq | hq
  · exact ha q hq
  · exact hb q hq

/-- The tail's bytes, pieces. -/
def tl (semi par : Bool) : List UInt8 := (if semi then [32, 59] else []) ++ (if par then [32, 41] else [])
def tailPs (semi par : Bool) : List Pc := (if semi then [blP, opP 59] else []) ++ (if par then [blP, opP 41] else [])
theorem tail_src (semi par : Bool) : srcOf (tailPs semi par) = tl semi par := by cases semi <;> cases par <;> rfl
theorem tail_toks (semi par : Bool) : toksOf (tailPs semi par) = semiToks semi ++ parToks par := by cases semi <;> cases par <;> rfl
theorem tail_hd (semi par : Bool) : Hd (tailPs semi par) := by
  cases semi <;> cases par <;> first | exact hd_nil | exact hd_bl _
theorem tail_ok (semi par : Bool) : OkL (tailPs semi par) := by
  cases semi <;> cases par
  · exact trivial
  · exact okl_bl (okl_op (by decide) hd_nil trivial)
  · exact okl_bl (okl_op (by decide) hd_nil trivial)
  · exact okl_bl (okl_op (by decide) (hd_bl _) (okl_bl (okl_op (by decide) hd_nil trivial)))
theorem tail_full (semi par : Bool) : Full (tailPs semi par) := by
  cases semi <;> cases par <;> (intro p hp h2; simp [tailPs, blP, opP] at hp; try (rcases hp with rfl | rfl | rfl | rfl <;> simp at h2); try (rcases hp with rfl | rfl <;> simp at h2))
theorem tl_len (semi par : Bool) : (tl semi par).length ≤ 4 := by cases semi <;> cases par <;> decide

/-- work, transaction. -/
def wordPs (up : Bool) (wi : Nat) : List Pc := if wi = 1 then [blP, kwP up sWork] else if wi = 2 then [blP, kwP up sTransaction] else []
theorem word_src (up : Bool) (wi : Nat) : srcOf (wordPs up wi) = (ckB (wordB wi) up).data.toList := by
  unfold wordPs wordB
  split
  · rw [ck_list]; cases up <;> rfl
  · split
    · rw [ck_list]; cases up <;> rfl
    · rw [ck_list]; cases up <;> rfl
theorem word_toks (up : Bool) (wi : Nat) : toksOf (wordPs up wi) = wordToks up wi := by
  unfold wordPs wordToks
  split
  · simp [toksOf, bl_toks, kw_toks]
  · split
    · simp [toksOf, bl_toks, kw_toks]
    · rfl
theorem hd_word {up : Bool} {wi : Nat} {ps : List Pc} (h : Hd ps) : Hd (wordPs up wi ++ ps) := by
  unfold wordPs
  split
  · exact hd_bl _
  · split
    · exact hd_bl _
    · exact h
theorem okl_word {up : Bool} {wi : Nat} {ps : List Pc} (hd : Hd ps) (h : OkL ps) : OkL (wordPs up wi ++ ps) := by
  unfold wordPs
  split
  · exact okl_bl (okl_kw (by decide) hd h)
  · split
    · exact okl_bl (okl_kw (by decide) hd h)
    · exact h
theorem full_word (up : Bool) (wi : Nat) : Full (wordPs up wi) := by
  unfold wordPs
  split
  · exact full_cons (by decide) (full_cons (by intro h; cases h) full_nil)
  · split
    · exact full_cons (by decide) (full_cons (by intro h; cases h) full_nil)
    · exact full_nil

/-- savepoint, where alt says so; a blank behind it. -/
def spPs (up alt : Bool) : List Pc := if alt then [kwP up sSavepoint, blP] else []
def spB (alt : Bool) : ByteArray := if alt then ⟨#[115, 97, 118, 101, 112, 111, 105, 110, 116, 32]⟩ else ⟨#[]⟩
theorem sp_src (up alt : Bool) : srcOf (spPs up alt) = (ckB (spB alt) up).data.toList := by
  cases alt
  · show srcOf [] = (ckB ⟨([] : List UInt8).toArray⟩ up).data.toList
    rw [ck_list]; cases up <;> rfl
  · show srcOf [kwP up sSavepoint, blP] = (ckB ⟨([115, 97, 118, 101, 112, 111, 105, 110, 116, 32] : List UInt8).toArray⟩ up).data.toList
    rw [ck_list]; cases up <;> rfl
theorem sp_toks (up alt : Bool) : toksOf (spPs up alt) = spToks up alt := by cases alt <;> simp [toksOf, spPs, spToks, bl_toks, kw_toks]
theorem okl_sp {up alt : Bool} {ps : List Pc} (h : OkL ps) : OkL (spPs up alt ++ ps) := by
  cases alt
  · exact h
  · exact okl_kw (by decide) (hd_bl _) (okl_bl h)
theorem full_sp (up alt : Bool) : Full (spPs up alt) := by
  cases alt
  · exact full_nil
  · exact full_cons (by intro h; cases h) (full_cons (by decide) full_nil)

/-- freeze. -/
def frPs (up alt : Bool) : List Pc := if alt then [blP, kwP up sFreeze] else []
def frB (alt : Bool) : ByteArray := if alt then ⟨#[32, 102, 114, 101, 101, 122, 101]⟩ else ⟨#[]⟩
theorem fr_src (up alt : Bool) : srcOf (frPs up alt) = (ckB (frB alt) up).data.toList := by
  cases alt
  · show srcOf [] = (ckB ⟨([] : List UInt8).toArray⟩ up).data.toList
    rw [ck_list]; cases up <;> rfl
  · show srcOf [blP, kwP up sFreeze] = (ckB ⟨([32, 102, 114, 101, 101, 122, 101] : List UInt8).toArray⟩ up).data.toList
    rw [ck_list]; cases up <;> rfl
theorem fr_toks (up alt : Bool) : toksOf (frPs up alt) = frToks up alt := by cases alt <;> simp [toksOf, frPs, frToks, bl_toks, kw_toks]
theorem hd_fr {up alt : Bool} {ps : List Pc} (h : Hd ps) : Hd (frPs up alt ++ ps) := by
  cases alt
  · exact h
  · exact hd_bl _
theorem okl_fr {up alt : Bool} {ps : List Pc} (hd : Hd ps) (h : OkL ps) : OkL (frPs up alt ++ ps) := by
  cases alt
  · exact h
  · exact okl_bl (okl_kw (by decide) hd h)
theorem full_fr (up alt : Bool) : Full (frPs up alt) := by
  cases alt
  · exact full_nil
  · exact full_cons (by decide) (full_cons (by intro h; cases h) full_nil)

/-- if exists. -/
def ifPs (up alt : Bool) : List Pc := if alt then [blP, kwP up sIf, blP, kwP up sExists] else []
def ifB (alt : Bool) : ByteArray := if alt then ⟨#[32, 105, 102, 32, 101, 120, 105, 115, 116, 115]⟩ else ⟨#[]⟩
theorem if_src (up alt : Bool) : srcOf (ifPs up alt) = (ckB (ifB alt) up).data.toList := by
  cases alt
  · show srcOf [] = (ckB ⟨([] : List UInt8).toArray⟩ up).data.toList
    rw [ck_list]; cases up <;> rfl
  · show srcOf [blP, kwP up sIf, blP, kwP up sExists] = (ckB ⟨([32, 105, 102, 32, 101, 120, 105, 115, 116, 115] : List UInt8).toArray⟩ up).data.toList
    rw [ck_list]; cases up <;> rfl
theorem if_toks (up alt : Bool) : toksOf (ifPs up alt) = ifToks up alt := by cases alt <;> simp [toksOf, ifPs, ifToks, bl_toks, kw_toks]
theorem hd_if {up alt : Bool} {ps : List Pc} (h : Hd ps) : Hd (ifPs up alt ++ ps) := by
  cases alt
  · exact h
  · exact hd_bl _
theorem okl_if {up alt : Bool} {ps : List Pc} (hd : Hd ps) (h : OkL ps) : OkL (ifPs up alt ++ ps) := by
  cases alt
  · exact h
  · exact okl_bl (okl_kw (by decide) (hd_bl _) (okl_bl (okl_kw (by decide) hd h)))
theorem full_if (up alt : Bool) : Full (ifPs up alt) := by
  cases alt
  · exact full_nil
  · exact full_cons (by decide) (full_cons (by intro h; cases h) (full_cons (by decide) (full_cons (by intro h; cases h) full_nil)))

/-- One mode. -/
def modePs (up : Bool) (c : Nat) : List Pc :=
  if c = 0 then [blP, kwP up sIsolation, blP, kwP up sLevel, blP, kwP up sSerializable]
  else if c = 1 then [blP, kwP up sIsolation, blP, kwP up sLevel, blP, kwP up sRepeatable, blP, kwP up sRead]
  else if c = 2 then [blP, kwP up sIsolation, blP, kwP up sLevel, blP, kwP up sRead, blP, kwP up sCommitted]
  else if c = 3 then [blP, kwP up sIsolation, blP, kwP up sLevel, blP, kwP up sRead, blP, kwP up sUncommitted]
  else if c = 4 then [blP, kwP up sRead, blP, kwP up sOnly] else [blP, kwP up sRead, blP, kwP up sWrite]
theorem mode_src (up : Bool) (c : Nat) : srcOf (modePs up c) = (ckB (modeB c) up).data.toList := by
  unfold modePs modeB
  repeat' split
  all_goals (rw [ck_list]; cases up <;> rfl)
theorem mode_toks (up : Bool) (c : Nat) : toksOf (modePs up c) = modeToks up c := by
  unfold modePs modeToks isoToks accToks
  by_cases h0 : c = 0
  · subst h0; simp [toksOf, bl_toks, kw_toks]
  by_cases h1 : c = 1
  · subst h1; simp [toksOf, bl_toks, kw_toks]
  by_cases h2 : c = 2
  · subst h2; simp [toksOf, bl_toks, kw_toks]
  by_cases h3 : c = 3
  · subst h3; simp [toksOf, bl_toks, kw_toks]
  by_cases h4 : c = 4
  · subst h4; simp [toksOf, bl_toks, kw_toks]
  · have h5 : ¬ c < 4 := by omega
    simp [h0, h1, h2, h3, h4, h5, toksOf, bl_toks, kw_toks]
theorem hd_mode {up : Bool} {c : Nat} {ps : List Pc} : Hd (modePs up c ++ ps) := by
  unfold modePs
  repeat' split
  all_goals exact hd_bl _
theorem okl_mode {up : Bool} {c : Nat} {ps : List Pc} (hd : Hd ps) (h : OkL ps) : OkL (modePs up c ++ ps) := by
  unfold modePs
  repeat' split
  · exact okl_bl (okl_kw (by decide) (hd_bl _) (okl_bl (okl_kw (by decide) (hd_bl _) (okl_bl (okl_kw (by decide) hd h)))))
  · exact okl_bl (okl_kw (by decide) (hd_bl _) (okl_bl (okl_kw (by decide) (hd_bl _) (okl_bl (okl_kw (by decide) (hd_bl _) (okl_bl (okl_kw (by decide) hd h)))))))
  · exact okl_bl (okl_kw (by decide) (hd_bl _) (okl_bl (okl_kw (by decide) (hd_bl _) (okl_bl (okl_kw (by decide) (hd_bl _) (okl_bl (okl_kw (by decide) hd h)))))))
  · exact okl_bl (okl_kw (by decide) (hd_bl _) (okl_bl (okl_kw (by decide) (hd_bl _) (okl_bl (okl_kw (by decide) (hd_bl _) (okl_bl (okl_kw (by decide) hd h)))))))
  · exact okl_bl (okl_kw (by decide) (hd_bl _) (okl_bl (okl_kw (by decide) hd h)))
  · exact okl_bl (okl_kw (by decide) (hd_bl _) (okl_bl (okl_kw (by decide) hd h)))
/-- No names at all. -/
theorem full_no {ps : List Pc} (h : ∀ p ∈ ps, p.kind ≠ 2) : Full ps := fun p hp h2 => absurd h2 (h p hp)
theorem kw_kind (up : Bool) (s : ByteArray) : (kwP up s).kind ≠ 2 := by show (1 : Nat) ≠ 2; decide
theorem full_mode (up : Bool) (c : Nat) : Full (modePs up c) := by
  refine full_no ?_
  unfold modePs
  repeat' split
  all_goals (intro p hp; simp at hp; rcases hp with rfl | rfl | rfl | rfl | rfl | rfl | rfl | rfl <;> first | exact kw_kind _ _ | decide)

/-- The modes. -/
def onePs (up : Bool) (m : Bool × Nat) : List Pc := (if m.1 then [blP, opP 44] else []) ++ modePs up m.2
def modesPs (up : Bool) (ms : List (Bool × Nat)) : List Pc := ms.flatMap (onePs up)
theorem modes_src (up : Bool) (ms : List (Bool × Nat)) : srcOf (modesPs up ms) = mBytes up ms := by
  induction ms with
  | nil => rfl
  | cons m ms ih =>
    show srcOf (onePs up m ++ modesPs up ms) = oneB up m ++ mBytes up ms
    rw [srcOf_append, ih, onePs, oneB, srcOf_append, mode_src]
    cases m.1 <;> rfl
theorem modes_tail (up : Bool) (ms : List (Bool × Nat)) (rest : List Tok) : toksOf (modesPs up ms) ++ rest = tailToks up ms rest := by
  induction ms with
  | nil => rfl
  | cons m ms ih =>
    show toksOf (onePs up m ++ modesPs up ms) ++ rest = (if m.1 then [opt sComma] else []) ++ (modeToks up m.2 ++ tailToks up ms rest)
    rw [toksOf_append, List.append_assoc, ih, onePs, toksOf_append, mode_toks, List.append_assoc]
    cases m.1 <;> rfl
theorem modes_head (up : Bool) (ms : List (Bool × Nat)) (h0 : ∀ m, ms.head? = some m → m.1 = false) (rest : List Tok) : toksOf (modesPs up ms) ++ rest = headToks up ms rest := by
  cases ms with
  | nil => rfl
  | cons m ms =>
    rw [modes_tail]
    have h := h0 m rfl
    show (if m.1 then [opt sComma] else []) ++ (modeToks up m.2 ++ tailToks up ms rest) = modeToks up m.2 ++ tailToks up ms rest
    rw [h]
    rfl
theorem hd_modes {up : Bool} {ms : List (Bool × Nat)} {ps : List Pc} (h : Hd ps) : Hd (modesPs up ms ++ ps) := by
  cases ms with
  | nil => exact h
  | cons m ms =>
    show Hd (onePs up m ++ modesPs up ms ++ ps)
    unfold onePs
    cases m.1
    · simp only [Bool.false_eq_true, if_false, List.nil_append, List.append_assoc]
      exact hd_mode
    · exact hd_bl _
theorem okl_modes {up : Bool} {ms : List (Bool × Nat)} {ps : List Pc} (hd : Hd ps) (h : OkL ps) : OkL (modesPs up ms ++ ps) := by
  induction ms with
  | nil => exact h
  | cons m ms ih =>
    show OkL (onePs up m ++ modesPs up ms ++ ps)
    rw [List.append_assoc, onePs, List.append_assoc]
    have h1 := okl_mode (up := up) (c := m.2) (hd_modes (up := up) (ms := ms) hd) ih
    cases m.1
    · exact h1
    · exact okl_bl (okl_op (by decide) hd_mode h1)
theorem full_modes (up : Bool) (ms : List (Bool × Nat)) : Full (modesPs up ms) := by
  induction ms with
  | nil => exact full_nil
  | cons m ms ih =>
    show Full (onePs up m ++ modesPs up ms)
    refine full_append (full_append ?_ (full_mode _ _)) ih
    cases m.1
    · exact full_nil
    · exact full_cons (by decide) (full_cons (by decide) full_nil)

/-- Names behind commas. -/
def moreNs (ns : List (List UInt8)) : List Pc := ns.flatMap fun n => [opP 44, blP, quP n]
def moreB (ns : List (List UInt8)) : List UInt8 := ns.flatMap fun n => [44, 32] ++ 34 :: (dblB n ++ [34])
theorem more_src (ns : List (List UInt8)) : srcOf (moreNs ns) = moreB ns := by
  induction ns with
  | nil => rfl
  | cons n ns ih =>
    show srcOf ([opP 44, blP, quP n] ++ moreNs ns) = ([44, 32] ++ 34 :: (dblB n ++ [34])) ++ moreB ns
    rw [srcOf_append, ih]
    simp [srcOf, op_src, bl_src, qu_src]
theorem more_toks (ns : List (List UInt8)) (rest : List Tok) : toksOf (moreNs ns) ++ rest = sepToks (ns.map quT) rest := by
  induction ns with
  | nil => rfl
  | cons n ns ih =>
    show toksOf ([opP 44, blP, quP n] ++ moreNs ns) ++ rest = opt sComma :: quT n :: sepToks (ns.map quT) rest
    rw [toksOf_append, List.append_assoc, ih]
    simp [toksOf, op_toks, bl_toks, qu_toks, sComma]
theorem more_nq {ns : List (List UInt8)} {ps : List Pc} (h : Hd ps) : (srcOf (moreNs ns ++ ps)).head? ≠ some 34 := by
  cases ns with
  | nil => exact h.nq
  | cons n ns =>
    show (srcOf (opP 44 :: _)).head? ≠ some 34
    rw [srcOf_cons, op_src]
    simp
theorem okl_more {ns : List (List UInt8)} {ps : List Pc} (hd : Hd ps) (h : OkL ps) : OkL (moreNs ns ++ ps) := by
  induction ns with
  | nil => exact h
  | cons n ns ih => exact okl_op (by decide) (hd_bl _) (okl_bl (okl_qu (more_nq hd) ih))
theorem full_more {ns : List (List UInt8)} (h : ∀ n ∈ ns, n ≠ []) : Full (moreNs ns) := by
  induction ns with
  | nil => exact full_nil
  | cons n ns ih =>
    refine full_cons (by decide) (full_cons (by decide) (full_cons (fun _ => h n (by simp)) (ih fun m hm => h m (by simp [hm]))))

end Go.Proofs.YbulkexobaGreatFmt
