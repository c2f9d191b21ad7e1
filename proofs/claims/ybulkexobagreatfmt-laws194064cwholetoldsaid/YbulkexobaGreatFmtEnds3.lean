/-
  .. drop table.
-/
import Derived.Test.YbulkexobaGreatFmtEnds2
namespace Go.Proofs.YbulkexobaGreatFmt
open Go.RowKit Go.Extern.Stop Go.Stop Go.Extern

/-- A drop-table statement in memory. -/
def IsDrop (w : World) (v : Value) (ifx : Bool) (names : List ByteArray) : Prop :=
  ∃ d sv base, v = .iface 65 (.pointer (some ⟨d, 0, none⟩)) ∧ w.heap[d]? = some (.cells #[sv, .bool ifx] 68 (0, 0)) ∧ w.ownsRow base 9 1 sv names.length (names.map .string)

theorem isDrop_later {w w' : World} {v : Value} {ifx : Bool} {names : List ByteArray} (h : IsDrop w v ifx names) (hg : w.grownBy w' none) : IsDrop w' v ifx names := by
  obtain ⟨d, sv, base, h1, h2, h3⟩ := h
  exact ⟨d, sv, base, h1, blk_later h2 hg, h3.kept hg (own_or _)⟩
theorem isDrop_at {w w' : World} {v : Value} {ifx : Bool} {names : List ByteArray} {L : Lay} {ts : List Tok} (h : IsDrop w v ifx names) (hA : At L ts w) (hg : w.grownBy w' (some L.p)) : IsDrop w' v ifx names := by
  obtain ⟨d, sv, base, h1, h2, h3⟩ := h
  obtain ⟨cp, hp⟩ := hA.blk
  refine ⟨d, sv, base, h1, blk_later' h2 hg (blk_ne h2 hp (by decide)), h3.kept hg ?_⟩
  cases hv : sv.ownBlock with
  | none => exact .inl rfl
  | some k =>
    refine .inr (fun e => ?_)
    obtain ⟨cur, hc⟩ := own_blk h3 hv
    injection e with e
    subst e
    exact blk_ne hc hp (by decide) rfl

theorem row_cells {w : World} {base g n cap : Nat} {names : List ByteArray} (h : w.ownsRow base 9 1 (.slice (some ⟨g, 0, none⟩) n cap) n (names.map .string)) (k : Nat) :
    ∀ j, j < names.length → (w.drewN k).cell? ⟨g, 0 + j, none⟩ = some (.string (names.getD j ByteArray.empty)) := by
  intro j hj
  have h1 := h.cells (g := g) rfl j (.string (names.getD j ByteArray.empty)) (by simp [List.getElem?_eq_getElem hj, List.getD])
  rw [Addr.add_lit] at h1
  rw [World.cell?_drewN]
  exact h1

theorem isDrop_eq {w : World} {v u : Value} {ifx : Bool} {names : List ByteArray} (hne : names ≠ []) (hl : names.length ≤ 1000000) (hv : IsDrop w v ifx names) (hu : IsDrop w u ifx names) :
    Calls Ybaz.prog 11 #[v, u] w fun e w' => e = .returned (.bool true) ∧ w.grownBy w' none := by
  obtain ⟨d, sv, base, rfl, h2, h3⟩ := hv
  obtain ⟨c, su, base', rfl, k2, k3⟩ := hu
  obtain ⟨m, hm⟩ : ∃ m, names.length = m + 1 := ⟨names.length - 1, by have := List.length_pos_iff.2 hne; omega⟩
  rw [hm] at h3 k3
  obtain ⟨g1, c1, rfl⟩ := own_form h3
  obtain ⟨g2, c2, rfl⟩ := own_form k3
  refine eq_65 d c g1 g2 (m + 1) c1 c2 ifx w h2 k2 (fun k => ?_)
  refine (Ybaz.slices_Equal_string g1 0 (m + 1) c1 g2 0 (m + 1) c2 names names (w.drewN k) (by omega) (by omega) (by omega) (by omega) (row_cells h3 k) (row_cells k3 k)).mono ?_
  rintro e w' ⟨he, hq⟩
  exact ⟨by rw [he]; simp, hq⟩

theorem goodDrop_from {L : Lay} {w w' : World} {ifx : Bool} {names : List ByteArray} {ts : List Tok} {e : Ending} {w2 : World} (hg : w.grownBy w' (some L.p)) (h : GoodDrop L w' ifx names ts e w2) :
    ∃ v u, e = .returned (.tuple #[v, u]) ∧ GoodDrop L w ifx names ts (.returned (.tuple #[v, u])) w2 := by
  obtain ⟨d, sv, base, rfl, h1, h2, h3, h4⟩ := h
  exact ⟨_, _, rfl, d, sv, base, rfl, h1, h2, h3, grown_trans hg h4⟩

def namesPs : List ByteArray → List Pc
  | [] => []
  | n :: ns => blP :: quP n.data.toList :: moreNs (ns.map fun n => n.data.toList)

theorem ends11 (F : Interp) {T : List UInt8} {semi par : Bool} {w : World} {want : Value} {up alt bad : Bool} (names : List ByteArray) (hl : names.length ≤ 1000000) (hF : F.answers w.tape)
    (hT : T = srcOf (kwP up sDrop :: blP :: kwP up sTable :: (ifPs up alt ++ namesPs names))) (hsz : T.length ≤ 90000000)
    (hb : bad = true ↔ (names = [] ∨ ∃ n ∈ names, n.data.toList = [])) (hw : IsDrop w want alt names) : Ends bad semi par T want w := by
  obtain ⟨r, rs, hr, k1, k2, k3⟩ := rest_form semi par
  cases names with
  | nil =>
    have hbt : bad = true := hb.2 (.inl rfl)
    have hok : OkL ((kwP up sDrop :: blP :: kwP up sTable :: (ifPs up alt ++ namesPs [])) ++ tailPs semi par) := by
      show OkL (kwP up sDrop :: blP :: kwP up sTable :: ((ifPs up alt ++ []) ++ tailPs semi par))
      rw [List.append_nil]
      exact okl_kw (by decide) (hd_bl _) (okl_bl (okl_kw (by decide) (hd_if (tail_hd _ _)) (okl_if (tail_hd _ _) (tail_ok _ _))))
    refine ends_bad F (by rw [hbt]; rfl) hF hT hok (full_kw (full_bl (full_kw (full_append (full_if _ _) full_nil)))) hsz (fun L w' hA htp => ?_)
    have e : toksOf (kwP up sDrop :: blP :: kwP up sTable :: (ifPs up alt ++ namesPs [])) ++ restT semi par = kwt up sDrop :: kwt up sTable :: (ifToks up alt ++ restT semi par) := by
      simp [toksOf_cons, kw_toks, bl_toks, if_toks, namesPs]
    rw [e, hr] at hA
    exact stm_drop up hA _ (fun w2 hA2 hg => (drop_bad F up alt hA2 (by rw [hg.tape, htp]; exact hF) k1 k2).mono fun e w3 h => bad_from hg h)
  | cons n ns =>
    have hq : OkL (blP :: quP n.data.toList :: (moreNs (ns.map fun n => n.data.toList) ++ tailPs semi par)) := okl_bl (okl_qu (more_nq (tail_hd _ _)) (okl_more (tail_hd _ _) (tail_ok _ _)))
    have hok : OkL ((kwP up sDrop :: blP :: kwP up sTable :: (ifPs up alt ++ namesPs (n :: ns))) ++ tailPs semi par) := by
      show OkL (kwP up sDrop :: blP :: kwP up sTable :: ((ifPs up alt ++ namesPs (n :: ns)) ++ tailPs semi par))
      rw [List.append_assoc]
      exact okl_kw (by decide) (hd_bl _) (okl_bl (okl_kw (by decide) (hd_if (hd_bl _)) (okl_if (hd_bl _) hq)))
    by_cases hn : ∃ m ∈ n :: ns, m.data.toList = []
    · obtain ⟨m, hm, hme⟩ := hn
      have hbt : bad = true := hb.2 (.inr ⟨m, hm, hme⟩)
      refine ends_lex F (by rw [hbt]; rfl) hF hT hok (not_full (l := m.data.toList) ?_ hme) hsz
      rcases List.mem_cons.1 hm with rfl | hm
      · simp [namesPs]
      · simp only [namesPs, moreNs, List.mem_cons, List.mem_append, List.mem_flatMap, List.mem_map]
        exact .inr (.inr (.inr (.inr (.inr (.inr ⟨m.data.toList, ⟨m, hm, rfl⟩, by simp⟩)))))
    · have hbf : bad = false := by
        cases hbb : bad with
        | false => rfl
        | true =>
          rcases hb.1 hbb with h | h
          · cases h
          · exact absurd h hn
      have hall : ∀ m ∈ n :: ns, m.data.toList ≠ [] := fun m hm he => hn ⟨m, hm, he⟩
      rw [hbf]
      have hfull : Full (kwP up sDrop :: blP :: kwP up sTable :: (ifPs up alt ++ namesPs (n :: ns))) := by
        refine full_kw (full_bl (full_kw (full_append (full_if _ _) (full_bl (full_qu (hall n (by simp)) (full_more ?_))))))
        intro x hx
        obtain ⟨m, hm, rfl⟩ := List.mem_map.1 hx
        exact hall m (by simp [hm])
      have hst : ∀ L w', At L (toksOf (kwP up sDrop :: blP :: kwP up sTable :: (ifPs up alt ++ namesPs (n :: ns))) ++ restT semi par) w' → Calls Ybaz.prog 14 #[.pointer (some ⟨L.p, 0, none⟩)] w' (GoodDrop L w' alt (n :: ns) (restT semi par)) := by
        intro L w' hA
        have e : toksOf (kwP up sDrop :: blP :: kwP up sTable :: (ifPs up alt ++ namesPs (n :: ns))) ++ restT semi par = kwt up sDrop :: kwt up sTable :: (ifToks up alt ++ quT n.data.toList :: (toksOf (moreNs (ns.map fun n => n.data.toList)) ++ restT semi par)) := by
          simp [toksOf_append, toksOf_cons, kw_toks, bl_toks, qu_toks, if_toks, namesPs]
        rw [e, more_toks, hr] at hA
        rw [hr]
        refine stm_drop up hA _ (fun w2 hA2 hg => ?_)
        have hd := drop_ok up alt hA2 (by simpa using hl) (fun t ht => by
          rcases List.mem_cons.1 ht with rfl | ht
          · rfl
          · obtain ⟨x, _, rfl⟩ := List.mem_map.1 ht
            rfl) k3
        have en : (quT n.data.toList :: (ns.map fun n => n.data.toList).map quT).map Tok.val = n :: ns := by
          simp only [List.map_cons, List.map_map, qu_val]
          congr 1
          conv => rhs; rw [← List.map_id ns]
          exact List.map_congr_left fun x _ => qu_val x
        rw [en] at hd
        exact hd.mono fun e w3 h => goodDrop_from hg h
      have hfl : Full ((kwP up sDrop :: blP :: kwP up sTable :: (ifPs up alt ++ namesPs (n :: ns))) ++ tailPs semi par) := full_append hfull (tail_full _ _)
      have hlex : LexOk ⟨(T ++ tl semi par).toArray⟩ (toksOf ((kwP up sDrop :: blP :: kwP up sTable :: (ifPs up alt ++ namesPs (n :: ns))) ++ tailPs semi par)) w := lex_ok F _ _ w hF (text_src hT) hok (text_size hsz) hfl
      have hfew := text_few hT hok hsz
      unfold Ends
      cases par
      · refine (parse_good _ _ w hlex hfew semi (fun v w' => IsDrop w' v alt (n :: ns) ∧ IsDrop w' want alt (n :: ns)) ?_ ?_).mono ?_
        · intro L w' hA htp hg
          rw [text_toks] at hA
          refine (hst L w' hA).mono ?_
          rintro e w2 ⟨d, sv, base, he, q1, q2, hA2, hg2⟩
          exact ⟨_, he, ⟨_, _, rfl⟩, ⟨⟨d, sv, base, rfl, q1, q2⟩, isDrop_at (isDrop_later hw hg) hA hg2⟩, hA2, hg2⟩
        · intro L v w2 w3 ts' hq hA hg
          exact ⟨isDrop_at hq.1 hA hg, isDrop_at hq.2 hA hg⟩
        · rintro e w' ⟨v, he, hv, hq, hg⟩
          exact ⟨v, he, hv, hg, isDrop_eq (by simp) hl hq.1 hq.2⟩
      · refine parse_par F _ _ w hF hlex hfew semi (fun _ _ => True) ?_
        intro L w' hA htp _
        rw [text_toks] at hA
        refine (hst L w' hA).mono ?_
        rintro e w2 ⟨d, sv, base, he, q1, q2, hA2, hg2⟩
        exact ⟨_, he, ⟨_, _, rfl⟩, trivial, hA2, hg2⟩

end Go.Proofs.YbulkexobaGreatFmt
