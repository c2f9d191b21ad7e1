/-
  .. KIND BY KIND: all but drop table.
-/
import Derived.Test.YbulkexobaGreatFmtEnds
namespace Go.Proofs.YbulkexobaGreatFmt
open Go.RowKit Go.Extern.Stop Go.Stop Go.Extern

theorem qu_val (n : ByteArray) : (quT n.data.toList).val = n := by simp [quT]

theorem good_from {L : Lay} {w w' : World} {ty sty : Nat} {cs : Array Value} {ts : List Tok} {e : Ending} {w2 : World} (hg : w.grownBy w' (some L.p)) (h : Good L w' ty sty cs ts e w2) :
    ∃ v u, e = .returned (.tuple #[v, u]) ∧ Good L w ty sty cs ts (.returned (.tuple #[v, u])) w2 := by
  obtain ⟨v, rfl, hv, hA, hg2⟩ := h
  exact ⟨v, .nilIface, rfl, v, rfl, hv, hA, grown_trans hg hg2⟩
theorem bad_from {L : Lay} {w w' : World} {e : Ending} {w2 : World} (hg : w.grownBy w' (some L.p)) (h : Bad L w' e w2) :
    ∃ v u, e = .returned (.tuple #[v, u]) ∧ Bad L w (.returned (.tuple #[v, u])) w2 := by
  obtain ⟨v, u, rfl, hu, hg2⟩ := h
  exact ⟨v, u, rfl, v, u, rfl, hu, grown_trans hg hg2⟩

theorem full_kw {up : Bool} {s : ByteArray} {ps : List Pc} (h : Full ps) : Full (kwP up s :: ps) := full_cons (fun h => absurd h (kw_kind _ _)) h
theorem full_bl {ps : List Pc} (h : Full ps) : Full (blP :: ps) := full_cons (by decide) h
theorem full_op {c : UInt8} {ps : List Pc} (h : Full ps) : Full (opP c :: ps) := full_cons (fun h => absurd h (by show (4 : Nat) ≠ 2; decide)) h
theorem full_di {l : List UInt8} {ps : List Pc} (h : Full ps) : Full (diP l :: ps) := full_cons (fun h => absurd h (by show (3 : Nat) ≠ 2; decide)) h
theorem full_qu {l : List UInt8} {ps : List Pc} (hl : l ≠ []) (h : Full ps) : Full (quP l :: ps) := full_cons (fun _ => hl) h
theorem not_full {l : List UInt8} {ps : List Pc} (h : quP l ∈ ps) (hl : l = []) : ¬ Full ps := fun hf => hf _ h rfl hl

section
variable (F : Interp) {T : List UInt8} {semi par : Bool} {w : World} {want : Value} {up : Bool} {wi : Nat} {alt bad : Bool} {n : ByteArray}

theorem ends0 (hF : F.answers w.tape) (hT : T = srcOf [kwP up sCheckpoint]) (hsz : T.length ≤ 90000000) (hw : IsStm w want 30 32 #[]) : Ends false semi par T want w :=
  ends_good F hF hT (okl_kw (by decide) (tail_hd _ _) (tail_ok _ _)) (full_kw full_nil) hsz
    (fun L w' hA _ => by
      rw [toksOf_cons, kw_toks] at hA
      exact stm_checkpoint up hA) hw (by decide) (fun b c w _ _ => eq_30 b c w)

theorem ends1 (hF : F.answers w.tape) (hT : T = srcOf (kwP up (if alt then sEnd else sCommit) :: wordPs up wi)) (hsz : T.length ≤ 90000000) (hw : IsStm w want 33 34 #[]) : Ends false semi par T want w := by
  obtain ⟨r, rs, hr, k1, k2, k3⟩ := rest_form semi par
  refine ends_good F hF hT ?_ (full_kw (full_word _ _)) hsz (fun L w' hA _ => ?_) hw (by decide) (fun b c w _ _ => eq_33 b c w)
  · cases alt <;> exact okl_kw (by decide) (hd_word (tail_hd _ _)) (okl_word (tail_hd _ _) (tail_ok _ _))
  · rw [toksOf_cons, kw_toks, word_toks, hr] at hA
    rw [hr]
    cases alt
    · exact stm_commit up wi hA k1
    · exact stm_end up wi hA k1

theorem ends2 (hF : F.answers w.tape) (hT : T = srcOf (kwP up (if alt then sAbort else sRollback) :: wordPs up wi)) (hsz : T.length ≤ 90000000) (hw : IsStm w want 35 36 #[]) : Ends false semi par T want w := by
  obtain ⟨r, rs, hr, k1, k2, k3⟩ := rest_form semi par
  refine ends_good F hF hT ?_ (full_kw (full_word _ _)) hsz (fun L w' hA _ => ?_) hw (by decide) (fun b c w _ _ => eq_35 b c w)
  · cases alt <;> exact okl_kw (by decide) (hd_word (tail_hd _ _)) (okl_word (tail_hd _ _) (tail_ok _ _))
  · rw [toksOf_cons, kw_toks, word_toks, hr] at hA
    rw [hr]
    cases alt
    · refine stm_rollback up hA _ (fun w2 hA2 hg => (rollback_plain up wi hA2 k1).mono fun e w3 h => good_from hg h)
    · exact stm_abort up wi hA k1

theorem ends3 (hF : F.answers w.tape) (hT : T = srcOf (kwP up sRollback :: (wordPs up wi ++ (blP :: kwP up sTo :: blP :: (spPs up alt ++ [quP n.data.toList]))))) (hsz : T.length ≤ 90000000)
    (hb : bad = decide (n.data.toList = [])) (hw : IsStm w want 38 40 #[.string n]) : Ends bad semi par T want w := by
  have hq : OkL (quP n.data.toList :: tailPs semi par) := okl_qu (tail_hd _ _).nq (tail_ok _ _)
  have hok : OkL ((kwP up sRollback :: (wordPs up wi ++ (blP :: kwP up sTo :: blP :: (spPs up alt ++ [quP n.data.toList])))) ++ tailPs semi par) := by
    simp only [List.cons_append, List.append_assoc]
    exact okl_kw (by decide) (hd_word (hd_bl _)) (okl_word (hd_bl _) (okl_bl (okl_kw (by decide) (hd_bl _) (okl_bl (okl_sp hq)))))
  by_cases hn : n.data.toList = []
  · exact ends_lex F (by rw [hb]; simp [hn]) hF hT hok (not_full (l := n.data.toList) (by simp) hn) hsz
  · rw [show bad = false by rw [hb]; simp [hn]]
    refine ends_good F hF hT hok (full_kw (full_append (full_word _ _) (full_bl (full_kw (full_bl (full_append (full_sp _ _) (full_qu hn full_nil))))))) hsz (fun L w' hA _ => ?_) hw (by decide) (fun b c w h1 h2 => eq_38 b c n w h1 h2)
    have e : toksOf (kwP up sRollback :: (wordPs up wi ++ (blP :: kwP up sTo :: blP :: (spPs up alt ++ [quP n.data.toList])))) ++ restT semi par = kwt up sRollback :: (wordToks up wi ++ kwt up sTo :: (spToks up alt ++ quT n.data.toList :: restT semi par)) := by
      simp [toksOf_append, toksOf_cons, toksOf_nil, kw_toks, bl_toks, qu_toks, word_toks, sp_toks]
    rw [e] at hA
    refine stm_rollback up hA _ (fun w2 hA2 hg => (rollback_to up alt wi hA2 rfl).mono fun e w3 h => good_from hg (by rw [qu_val] at h; exact h))

theorem ends4 (hF : F.answers w.tape) (hT : T = srcOf [kwP up sSavepoint, blP, quP n.data.toList]) (hsz : T.length ≤ 90000000)
    (hb : bad = decide (n.data.toList = [])) (hw : IsStm w want 41 42 #[.string n]) : Ends bad semi par T want w := by
  have hq : OkL (quP n.data.toList :: tailPs semi par) := okl_qu (tail_hd _ _).nq (tail_ok _ _)
  have hok : OkL ([kwP up sSavepoint, blP, quP n.data.toList] ++ tailPs semi par) := okl_kw (by decide) (hd_bl _) (okl_bl hq)
  by_cases hn : n.data.toList = []
  · exact ends_lex F (by rw [hb]; simp [hn]) hF hT hok (not_full (l := n.data.toList) (by simp) hn) hsz
  · rw [show bad = false by rw [hb]; simp [hn]]
    refine ends_good F hF hT hok (full_kw (full_bl (full_qu hn full_nil))) hsz (fun L w' hA _ => ?_) hw (by decide) (fun b c w h1 h2 => eq_41 b c n w h1 h2)
    have e : toksOf [kwP up sSavepoint, blP, quP n.data.toList] ++ restT semi par = kwt up sSavepoint :: quT n.data.toList :: restT semi par := by
      simp [toksOf_cons, toksOf_nil, kw_toks, bl_toks, qu_toks]
    rw [e] at hA
    exact (stm_savepoint up hA rfl).mono fun e w3 h => by rw [qu_val] at h; exact h

theorem ends5 (hF : F.answers w.tape) (hT : T = srcOf (kwP up sRelease :: blP :: (spPs up alt ++ [quP n.data.toList]))) (hsz : T.length ≤ 90000000)
    (hb : bad = decide (n.data.toList = [])) (hw : IsStm w want 43 44 #[.string n]) : Ends bad semi par T want w := by
  have hq : OkL (quP n.data.toList :: tailPs semi par) := okl_qu (tail_hd _ _).nq (tail_ok _ _)
  have hok : OkL ((kwP up sRelease :: blP :: (spPs up alt ++ [quP n.data.toList])) ++ tailPs semi par) := by
    simp only [List.cons_append, List.append_assoc]
    exact okl_kw (by decide) (hd_bl _) (okl_bl (okl_sp hq))
  by_cases hn : n.data.toList = []
  · exact ends_lex F (by rw [hb]; simp [hn]) hF hT hok (not_full (l := n.data.toList) (by simp) hn) hsz
  · rw [show bad = false by rw [hb]; simp [hn]]
    refine ends_good F hF hT hok (full_kw (full_bl (full_append (full_sp _ _) (full_qu hn full_nil)))) hsz (fun L w' hA _ => ?_) hw (by decide) (fun b c w h1 h2 => eq_43 b c n w h1 h2)
    have e : toksOf (kwP up sRelease :: blP :: (spPs up alt ++ [quP n.data.toList])) ++ restT semi par = kwt up sRelease :: (spToks up alt ++ quT n.data.toList :: restT semi par) := by
      simp [toksOf_append, toksOf_cons, toksOf_nil, kw_toks, bl_toks, qu_toks, sp_toks]
    rw [e] at hA
    exact (stm_release up alt hA rfl).mono fun e w3 h => by rw [qu_val] at h; exact h

theorem ends6 (hF : F.answers w.tape) (hT : T = srcOf [kwP up sShow, blP, quP n.data.toList]) (hsz : T.length ≤ 90000000)
    (hb : bad = decide (n.data.toList = [])) (hw : IsStm w want 45 46 #[.string n]) : Ends bad semi par T want w := by
  have hq : OkL (quP n.data.toList :: tailPs semi par) := okl_qu (tail_hd _ _).nq (tail_ok _ _)
  have hok : OkL ([kwP up sShow, blP, quP n.data.toList] ++ tailPs semi par) := okl_kw (by decide) (hd_bl _) (okl_bl hq)
  by_cases hn : n.data.toList = []
  · exact ends_lex F (by rw [hb]; simp [hn]) hF hT hok (not_full (l := n.data.toList) (by simp) hn) hsz
  · rw [show bad = false by rw [hb]; simp [hn]]
    refine ends_good F hF hT hok (full_kw (full_bl (full_qu hn full_nil))) hsz (fun L w' hA _ => ?_) hw (by decide) (fun b c w h1 h2 => eq_45 b c n w h1 h2)
    have e : toksOf [kwP up sShow, blP, quP n.data.toList] ++ restT semi par = kwt up sShow :: quT n.data.toList :: restT semi par := by
      simp [toksOf_cons, toksOf_nil, kw_toks, bl_toks, qu_toks]
    rw [e] at hA
    exact (stm_show up hA rfl).mono fun e w3 h => by rw [qu_val] at h; exact h

/-- vacuum without a name -/
theorem ends7 (hF : F.answers w.tape) (hT : T = srcOf (kwP up sVacuum :: frPs up alt)) (hsz : T.length ≤ 90000000) (hw : IsStm w want 47 49 #[.bool alt, .string ⟨#[]⟩]) : Ends false semi par T want w := by
  have hok : OkL ((kwP up sVacuum :: frPs up alt) ++ tailPs semi par) := okl_kw (by decide) (hd_fr (tail_hd _ _)) (okl_fr (tail_hd _ _) (tail_ok _ _))
  have hfu : Full (kwP up sVacuum :: frPs up alt) := full_kw (full_fr _ _)
  have e : toksOf (kwP up sVacuum :: frPs up alt) ++ restT semi par = kwt up sVacuum :: (frToks up alt ++ restT semi par) := by
    simp [toksOf_cons, kw_toks, fr_toks]
  by_cases hp : semi = false ∧ par = true
  · obtain ⟨rfl, rfl⟩ := hp
    refine ends_bad F rfl hF hT hok hfu hsz (fun L w' hA htp => ?_)
    rw [e] at hA
    refine stm_vacuum up hA _ (fun w2 hA2 hg => (vacuum_bad F up alt (t := opt sParen) (ts := [eofT]) hA2 (by rw [hg.tape, htp]; exact hF) rfl rfl).mono fun e w3 h => bad_from hg h)
  · refine ends_good F hF hT hok hfu hsz (fun L w' hA _ => ?_) hw (by decide) (fun b c w h1 h2 => eq_47 b c alt ⟨#[]⟩ w h1 h2)
    rw [e] at hA
    refine stm_vacuum up hA _ (fun w2 hA2 hg => ?_)
    cases semi
    · cases par
      · exact (vacuum_bare up alt (t := eofT) (ts := []) hA2 (.inl rfl)).mono fun e w3 h => good_from hg h
      · exact absurd ⟨rfl, rfl⟩ hp
    · exact (vacuum_bare up alt (t := opt sSemi) (ts := parToks par ++ [eofT]) hA2 (.inr ⟨rfl, rfl⟩)).mono fun e w3 h => good_from hg h

/-- .. with one -/
theorem ends7n (hF : F.answers w.tape) (hT : T = srcOf (kwP up sVacuum :: (frPs up alt ++ [blP, quP n.data.toList]))) (hsz : T.length ≤ 90000000)
    (hb : bad = decide (n.data.toList = [])) (hw : IsStm w want 47 49 #[.bool alt, .string n]) : Ends bad semi par T want w := by
  have hq : OkL (blP :: quP n.data.toList :: tailPs semi par) := okl_bl (okl_qu (tail_hd _ _).nq (tail_ok _ _))
  have hok : OkL ((kwP up sVacuum :: (frPs up alt ++ [blP, quP n.data.toList])) ++ tailPs semi par) := by
    simp only [List.cons_append, List.append_assoc]
    exact okl_kw (by decide) (hd_fr (hd_bl _)) (okl_fr (hd_bl _) hq)
  by_cases hn : n.data.toList = []
  · exact ends_lex F (by rw [hb]; simp [hn]) hF hT hok (not_full (l := n.data.toList) (by simp) hn) hsz
  · rw [show bad = false by rw [hb]; simp [hn]]
    refine ends_good F hF hT hok (full_kw (full_append (full_fr _ _) (full_bl (full_qu hn full_nil)))) hsz (fun L w' hA _ => ?_) hw (by decide) (fun b c w h1 h2 => eq_47 b c alt n w h1 h2)
    have e : toksOf (kwP up sVacuum :: (frPs up alt ++ [blP, quP n.data.toList])) ++ restT semi par = kwt up sVacuum :: (frToks up alt ++ quT n.data.toList :: restT semi par) := by
      simp [toksOf_append, toksOf_cons, toksOf_nil, kw_toks, bl_toks, qu_toks, fr_toks]
    rw [e] at hA
    refine stm_vacuum up hA _ (fun w2 hA2 hg => (vacuum_name up alt hA2 rfl).mono fun e w3 h => good_from hg (by rw [qu_val] at h; exact h))

def toPs (up alt : Bool) : List Pc := if alt then [blP, kwP up sTo, blP] else [blP, opP 61, blP]
def negPs (neg : Bool) : List Pc := if neg then [opP 45, blP] else []
theorem ends8 (neg : Bool) (d : List UInt8) (hd0 : d ≠ []) (hd : ∀ b ∈ d, digB (b.toNat : Int) = true) (hdl : d.length ≤ 1000) (hF : F.answers w.tape)
    (hT : T = srcOf (kwP up sSet :: blP :: quP n.data.toList :: (toPs up alt ++ (negPs neg ++ [diP d])))) (hsz : T.length ≤ 90000000)
    (hb : bad = decide (n.data.toList = [])) (hw : IsStm w want 51 53 #[.string n, .string ((if neg then sMinus else ⟨#[]⟩) ++ ⟨d.toArray⟩)]) : Ends bad semi par T want w := by
  have h1 : OkL (diP d :: tailPs semi par) := okl_di hd0 hd (tail_hd _ _) (tail_ok _ _)
  have h2 : OkL (negPs neg ++ diP d :: tailPs semi par) := by
    cases neg
    · exact h1
    · exact okl_op (by decide) (hd_bl _) (okl_bl h1)
  have h3 : Hd (toPs up alt ++ (negPs neg ++ diP d :: tailPs semi par)) := by cases alt <;> exact hd_bl _
  have h4 : OkL (toPs up alt ++ (negPs neg ++ diP d :: tailPs semi par)) := by
    cases alt
    · exact okl_bl (okl_op (by decide) (hd_bl _) (okl_bl h2))
    · exact okl_bl (okl_kw (by decide) (hd_bl _) (okl_bl h2))
  have hok : OkL ((kwP up sSet :: blP :: quP n.data.toList :: (toPs up alt ++ (negPs neg ++ [diP d]))) ++ tailPs semi par) := by
    simp only [List.cons_append, List.append_assoc]
    exact okl_kw (by decide) (hd_bl _) (okl_bl (okl_qu h3.nq h4))
  by_cases hn : n.data.toList = []
  · exact ends_lex F (by rw [hb]; simp [hn]) hF hT hok (not_full (l := n.data.toList) (by simp) hn) hsz
  · rw [show bad = false by rw [hb]; simp [hn]]
    have hf : Full (toPs up alt ++ (negPs neg ++ [diP d])) := by
      refine full_append ?_ (full_append ?_ (full_di full_nil))
      · cases alt
        · exact full_bl (full_op (full_bl full_nil))
        · exact full_bl (full_kw (full_bl full_nil))
      · cases neg
        · exact full_nil
        · exact full_op (full_bl full_nil)
    refine ends_good F hF hT hok (full_kw (full_bl (full_qu hn hf))) hsz (fun L w' hA _ => ?_) hw (by decide) (fun b c w h1 h2 => eq_51 b c _ _ w h1 h2)
    have e : toksOf (kwP up sSet :: blP :: quP n.data.toList :: (toPs up alt ++ (negPs neg ++ [diP d]))) ++ restT semi par = kwt up sSet :: quT n.data.toList :: (if alt then kwt up sTo else opt sEq) :: ((if neg then [opt sMinus] else []) ++ (⟨3, ⟨d.toArray⟩, ⟨d.toArray⟩⟩ : Tok) :: restT semi par) := by
      cases alt <;> cases neg <;> simp [toksOf_cons, toksOf_nil, kw_toks, bl_toks, qu_toks, op_toks, di_toks, toPs, negPs, sEq, sMinus]
    rw [e] at hA
    refine stm_set up hA (by show (2 : Int) ≠ 1; decide) _ (fun w2 hA2 hg => (set_ok up alt neg hA2 rfl rfl (by show d.toArray.size ≤ 1000; simpa using hdl)).mono fun e w3 h => good_from hg (by rw [qu_val] at h; exact h))

theorem head_form (up : Bool) (ms : List (Bool × Nat)) {r : Tok} (rs : List Tok) (k1 : r.kind ≠ 1) : ∃ t ts, headToks up ms (r :: rs) = t :: ts ∧ t.is 1 sWork = false ∧ t.is 1 sTransaction = false := by
  cases ms with
  | nil => exact ⟨r, rs, rfl, by unfold Tok.is; simp [k1], by unfold Tok.is; simp [k1]⟩
  | cons m ms =>
    show ∃ t ts, modeToks up m.2 ++ tailToks up ms (r :: rs) = t :: ts ∧ t.is 1 sWork = false ∧ t.is 1 sTransaction = false
    unfold modeToks
    split
    · exact ⟨kwt up sIsolation, _, rfl, by rw [kwt_is]; decide, by rw [kwt_is]; decide⟩
    · exact ⟨kwt up sRead, _, rfl, by rw [kwt_is]; decide, by rw [kwt_is]; decide⟩

def beginPs (up alt : Bool) (wi : Nat) : List Pc := if alt then [kwP up sStart, blP, kwP up sTransaction] else kwP up sBegin :: wordPs up wi
theorem ends9 (ms : List (Bool × Nat)) (h0 : ∀ m, ms.head? = some m → m.1 = false) (hF : F.answers w.tape) (hT : T = srcOf (beginPs up alt wi ++ modesPs up ms)) (hsz : T.length ≤ 90000000)
    (hw : IsStm w want 60 62 (mCells (setModes (0, 0) ms))) : Ends false semi par T want w := by
  obtain ⟨r, rs, hr, k1, k2, k3⟩ := rest_form semi par
  have hm : OkL (modesPs up ms ++ tailPs semi par) := okl_modes (tail_hd _ _) (tail_ok _ _)
  have hh : Hd (modesPs up ms ++ tailPs semi par) := hd_modes (tail_hd _ _)
  have hok : OkL ((beginPs up alt wi ++ modesPs up ms) ++ tailPs semi par) := by
    rw [List.append_assoc]
    cases alt
    · exact okl_kw (by decide) (hd_word hh) (okl_word hh hm)
    · exact okl_kw (by decide) (hd_bl _) (okl_bl (okl_kw (by decide) hh hm))
  have hfu : Full (beginPs up alt wi ++ modesPs up ms) := by
    refine full_append ?_ (full_modes _ _)
    cases alt
    · exact full_kw (full_word _ _)
    · exact full_kw (full_bl (full_kw full_nil))
  refine ends_good F hF hT hok hfu hsz (fun L w' hA _ => ?_) hw (by decide) (fun b c w h1 h2 => eq_60 b c _ _ w h1 h2)
  rw [toksOf_append, List.append_assoc, modes_head up ms h0, hr] at hA
  rw [hr]
  cases alt
  · have e : toksOf (beginPs up false wi) = kwt up sBegin :: wordToks up wi := by
      show toksOf (kwP up sBegin :: wordPs up wi) = _
      rw [toksOf_cons, kw_toks, word_toks]
      rfl
    rw [e] at hA
    obtain ⟨t, ts, ht, q1, q2⟩ := head_form up ms rs k1
    refine stm_begin up (ts2 := headToks up ms (r :: rs)) hA _ (fun w2 hA2 => ?_) (fun w2 hA2 hg => (begin_ok up ms hA2 k1 k3).mono fun e w3 h => good_from hg h)
    rw [ht] at hA2 ⊢
    exact tword up wi hA2 q1 q2
  · have e : toksOf (beginPs up true wi) = [kwt up sStart, kwt up sTransaction] := by
      show toksOf [kwP up sStart, blP, kwP up sTransaction] = _
      simp [toksOf_cons, toksOf_nil, kw_toks, bl_toks]
    rw [e] at hA
    exact stm_start up hA _ (fun w2 hA2 hg => (begin_ok up ms hA2 k1 k3).mono fun e w3 h => good_from hg h)

theorem ends10 (ms : List (Bool × Nat)) (h0 : ∀ m, ms.head? = some m → m.1 = false) (hF : F.answers w.tape) (hT : T = srcOf ([kwP up sSet, blP, kwP up sTransaction] ++ modesPs up ms)) (hsz : T.length ≤ 90000000)
    (hb : bad = decide (ms = [])) (hw : IsStm w want 63 64 (mCells (setModes (0, 0) ms))) : Ends bad semi par T want w := by
  obtain ⟨r, rs, hr, k1, k2, k3⟩ := rest_form semi par
  have hm : OkL (modesPs up ms ++ tailPs semi par) := okl_modes (tail_hd _ _) (tail_ok _ _)
  have hh : Hd (modesPs up ms ++ tailPs semi par) := hd_modes (tail_hd _ _)
  have hok : OkL (([kwP up sSet, blP, kwP up sTransaction] ++ modesPs up ms) ++ tailPs semi par) := by
    rw [List.append_assoc]
    exact okl_kw (by decide) (hd_bl _) (okl_bl (okl_kw (by decide) hh hm))
  have hfu : Full ([kwP up sSet, blP, kwP up sTransaction] ++ modesPs up ms) := full_append (full_kw (full_bl (full_kw full_nil))) (full_modes _ _)
  have e : toksOf [kwP up sSet, blP, kwP up sTransaction] = [kwt up sSet, kwt up sTransaction] := by simp [toksOf_cons, toksOf_nil, kw_toks, bl_toks]
  by_cases hn : ms = []
  · subst hn
    refine ends_bad F (by rw [hb]; rfl) hF hT hok hfu hsz (fun L w' hA htp => ?_)
    rw [toksOf_append, List.append_assoc, modes_head up [] h0, hr, e] at hA
    exact stm_setT up hA _ (fun w2 hA2 hg => (setTrans_bad F hA2 (by rw [hg.tape, htp]; exact hF) k1).mono fun e w3 h => bad_from hg h)
  · rw [show bad = false by rw [hb]; simp [hn]]
    refine ends_good F hF hT hok hfu hsz (fun L w' hA _ => ?_) hw (by decide) (fun b c w h1 h2 => eq_63 b c _ _ w h1 h2)
    rw [toksOf_append, List.append_assoc, modes_head up ms h0, hr, e] at hA
    rw [hr]
    exact stm_setT up hA _ (fun w2 hA2 hg => (setTrans_ok up ms hn hA2 k1 k3).mono fun e w3 h => good_from hg h)
end

end Go.Proofs.YbulkexobaGreatFmt
