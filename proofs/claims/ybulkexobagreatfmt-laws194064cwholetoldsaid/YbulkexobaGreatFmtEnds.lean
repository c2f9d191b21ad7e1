/-
  WHAT Parse ANSWERS AT EACH OF THE LAW's TEXTS.
-/
import Derived.Test.YbulkexobaGreatFmtText
import Derived.Test.YbulkexobaGreatFmtLex
import Derived.Test.YbulkexobaGreatFmtEq
namespace Go.Proofs.YbulkexobaGreatFmt
open Go.RowKit Go.Extern.Stop Go.Stop Go.Extern

def PBad (s : ByteArray) (w : World) : Prop :=
  Calls Ybaz.prog 10 #[.string s] w fun e w' => ∃ u, e = .returned (.tuple #[.nilIface, .int .i64 0, u]) ∧ IsErr u ∧ w.grownBy w' none
def PGood (s : ByteArray) (want : Value) (w : World) : Prop :=
  Calls Ybaz.prog 10 #[.string s] w fun e w' => ∃ v, e = .returned (.tuple #[v, .int .i64 0, .nilIface]) ∧ (∃ ty p, v = .iface ty p) ∧ w.grownBy w' none ∧
    Calls Ybaz.prog 11 #[v, want] w' fun e w2 => e = .returned (.bool true) ∧ w'.grownBy w2 none
/-- The law's end: an error, or the statement that was wanted. -/
def Ends (bad semi par : Bool) (T : List UInt8) (want : Value) (w : World) : Prop :=
  if bad || par then PBad ⟨(T ++ tl semi par).toArray⟩ w else PGood ⟨(T ++ tl semi par).toArray⟩ want w

/-- The tokens behind the statement. -/
def restT (semi par : Bool) : List Tok := semiToks semi ++ (parToks par ++ [eofT])
theorem rest_form (semi par : Bool) : ∃ r rs, restT semi par = r :: rs ∧ r.kind ≠ 1 ∧ r.kind ≠ 2 ∧ r.is 6 sComma = false := by
  cases semi <;> cases par
  · exact ⟨eofT, [], rfl, by decide, by decide, by decide⟩
  · exact ⟨opt sParen, [eofT], rfl, by decide, by decide, by decide⟩
  · exact ⟨opt sSemi, [eofT], rfl, by decide, by decide, by decide⟩
  · exact ⟨opt sSemi, [opt sParen, eofT], rfl, by decide, by decide, by decide⟩

section
variable (F : Interp) {T : List UInt8} {ps : List Pc} {semi par : Bool} {w : World}

theorem text_src (hT : T = srcOf ps) : (⟨(T ++ tl semi par).toArray⟩ : ByteArray).data.toList = srcOf (ps ++ tailPs semi par) := by
  rw [srcOf_append, tail_src, hT]
theorem text_size (hsz : T.length ≤ 90000000) : (⟨(T ++ tl semi par).toArray⟩ : ByteArray).size ≤ 100000000 := by
  show (T ++ tl semi par).toArray.size ≤ _
  have := tl_len semi par
  simp
  omega
theorem text_toks (ps : List Pc) (semi par : Bool) : toksOf (ps ++ tailPs semi par) ++ [eofT] = toksOf ps ++ restT semi par := by
  rw [toksOf_append, tail_toks, restT]
  simp
theorem text_few (hT : T = srcOf ps) (hok : OkL (ps ++ tailPs semi par)) (hsz : T.length ≤ 90000000) : (toksOf (ps ++ tailPs semi par)).length + 1 ≤ 1000000000 := by
  have h := toks_le _ hok
  rw [srcOf_append, tail_src, ← hT, List.length_append] at h
  have := tl_len semi par
  omega

theorem isStm_later {w w' : World} {v : Value} {ty sty : Nat} {cs : Array Value} (h : IsStm w v ty sty cs) (hg : w.grownBy w' none) : IsStm w' v ty sty cs := by
  obtain ⟨b, h1, h2⟩ := h
  exact ⟨b, h1, blk_later h2 hg⟩
theorem isStm_at {w w' : World} {v : Value} {ty sty : Nat} {cs : Array Value} {L : Lay} {ts : List Tok} (h : IsStm w v ty sty cs) (hA : At L ts w) (hsty : sty ≠ 84) (hg : w.grownBy w' (some L.p)) : IsStm w' v ty sty cs := by
  obtain ⟨b, h1, h2⟩ := h
  obtain ⟨cp, hp⟩ := hA.blk
  exact ⟨b, h1, blk_later' h2 hg (blk_ne h2 hp hsty)⟩

/-- The two statements are alike. -/
def EqAt (ty sty : Nat) (cs : Array Value) : Prop := ∀ b c (w : World), w.heap[b]? = some (.cells cs sty (0, 0)) → w.heap[c]? = some (.cells cs sty (0, 0)) →
  Calls Ybaz.prog 11 #[.iface ty (.pointer (some ⟨b, 0, none⟩)), .iface ty (.pointer (some ⟨c, 0, none⟩))] w fun e w' => e = .returned (.bool true) ∧ w.grownBy w' none

theorem ends_good {want : Value} {ty sty : Nat} {cs : Array Value} (hF : F.answers w.tape) (hT : T = srcOf ps) (hok : OkL (ps ++ tailPs semi par)) (hfull : Full ps) (hsz : T.length ≤ 90000000)
    (hst : ∀ L w', At L (toksOf ps ++ restT semi par) w' → w'.tape = w.tape → Calls Ybaz.prog 14 #[.pointer (some ⟨L.p, 0, none⟩)] w' (Good L w' ty sty cs (restT semi par)))
    (hw : IsStm w want ty sty cs) (hsty : sty ≠ 84) (heq : EqAt ty sty cs) : Ends false semi par T want w := by
  have hfl : Full (ps ++ tailPs semi par) := full_append hfull (tail_full _ _)
  have hlex : LexOk ⟨(T ++ tl semi par).toArray⟩ (toksOf (ps ++ tailPs semi par)) w := lex_ok F _ _ w hF (text_src hT) hok (text_size hsz) hfl
  have hn := text_few hT hok hsz
  unfold Ends
  cases par
  · refine (parse_good _ _ w hlex hn semi (fun v w' => IsStm w' v ty sty cs ∧ IsStm w' want ty sty cs) ?_ ?_).mono ?_
    · intro L w' hA htp hg
      rw [text_toks] at hA
      refine (hst L w' hA htp).mono ?_
      rintro e w2 ⟨v, he, hv, hA2, hg2⟩
      obtain ⟨b, hb, _⟩ := id hv
      exact ⟨v, he, ⟨_, _, hb⟩, ⟨hv, isStm_at (isStm_later hw hg) hA hsty hg2⟩, hA2, hg2⟩
    · intro L v w2 w3 ts' hq hA hg
      exact ⟨isStm_at hq.1 hA hsty hg, isStm_at hq.2 hA hsty hg⟩
    · rintro e w' ⟨v, he, hv, hq, hg⟩
      refine ⟨v, he, hv, hg, ?_⟩
      obtain ⟨⟨b, hb1, hb2⟩, ⟨c, hc1, hc2⟩⟩ := hq
      rw [hb1, hc1]
      exact heq b c w' hb2 hc2
  · refine parse_par F _ _ w hF hlex hn semi (fun _ _ => True) ?_
    intro L w' hA htp _
    rw [text_toks] at hA
    refine (hst L w' hA htp).mono ?_
    rintro e w2 ⟨v, he, hv, hA2, hg2⟩
    obtain ⟨b, hb, _⟩ := id hv
    exact ⟨v, he, ⟨_, _, hb⟩, trivial, hA2, hg2⟩

theorem ends_lex {bad : Bool} {want : Value} (hb : (bad || par) = true) (hF : F.answers w.tape) (hT : T = srcOf ps) (hok : OkL (ps ++ tailPs semi par)) (hnf : ¬ Full ps) (hsz : T.length ≤ 90000000) : Ends bad semi par T want w := by
  have hlex : LexBad ⟨(T ++ tl semi par).toArray⟩ w := lex_bad F _ _ w hF (text_src hT) hok (text_size hsz) (fun h => hnf fun p hp => h p (List.mem_append_left _ hp))
  unfold Ends
  rw [if_pos hb]
  exact parse_lexbad _ w hlex

theorem ends_bad {bad : Bool} {want : Value} (hb : (bad || par) = true) (hF : F.answers w.tape) (hT : T = srcOf ps) (hok : OkL (ps ++ tailPs semi par)) (hfull : Full ps) (hsz : T.length ≤ 90000000)
    (hst : ∀ L w', At L (toksOf ps ++ restT semi par) w' → w'.tape = w.tape → Calls Ybaz.prog 14 #[.pointer (some ⟨L.p, 0, none⟩)] w' (Bad L w')) : Ends bad semi par T want w := by
  have hfl : Full (ps ++ tailPs semi par) := full_append hfull (tail_full _ _)
  have hlex : LexOk ⟨(T ++ tl semi par).toArray⟩ (toksOf (ps ++ tailPs semi par)) w := lex_ok F _ _ w hF (text_src hT) hok (text_size hsz) hfl
  unfold Ends
  rw [if_pos hb]
  refine parse_bad _ _ w hlex (text_few hT hok hsz) ?_
  intro L w' hA htp
  rw [text_toks] at hA
  exact hst L w' hA htp
end

end Go.Proofs.YbulkexobaGreatFmt
