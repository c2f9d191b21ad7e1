/-
  THE PROOF OF Rows.LawS194064CWholeToldSaid: the row out of the law's walks; the told and tied card by the kit's builder.
-/
import Derived.Test.YbulkexobaGreatFmtLaw
import Derived.Test.YbulkexobaGreatFmtTie
import Derived.Test.YbulkexobaGreatFmtCards
import Derived.ProofKit
import Derived.OpenShut
import Derived.ShutString
import Derived.ChangeOld
import Derived.LaidMore
import Derived.Stop.Joined
import Derived.Stop.JoinedTold
import Derived.Stop.LaidErr
import Derived.Deep.DeepWitnessRef
import Derived.SliceStrings
import Derived.SizedLaws
import Derived.OpenVars
import Derived.SevenTiedAt
namespace Go.Proofs.YbulkexobaGreatFmt.lawS194064CWhole
open Go.ChangeShapes Go.WideShapes Go.ChangeAt Go.WideMaps Go.WideElems Go.RowKit
open Go.ChangeMaps (open_string shut_string)
open Go.Extern.Stop Go.Stop Go.Extern
set_option linter.unusedVariables false

theorem own : ownKnob Ybaz.prog.godebug = none := by kernel_rfl
theorem laidOut : laidOutB Ybaz.prog = true := by kernel_rfl

theorem below_of {w w' : World} (h : w.grownBy w' none) : Below w.heap.size w w' := ⟨h.os, h.tape, h.output, h.size, fun k hk => h.block k hk (by simp)⟩

/-! ### WHAT CAME IN -/
theorem weights_strs {H : Type} (P : Program) (e : TypeId) {s : ByteArray} : ∀ {ss : List ByteArray}, s ∈ ss → s.data.toList.length ∈ DataW.weightsAll P e (strs (H := H) ss) := by
  intro ss
  induction ss with
  | nil => intro h; cases h
  | cons x ss ih =>
    intro h
    show _ ∈ DataW.weights P e (.lit (.string x.data.toList)) ++ DataW.weightsAll P e (strs ss)
    rcases List.mem_cons.1 h with rfl | h
    · exact List.mem_append_left _ (by simp [DataW.weights])
    · exact List.mem_append_right _ (ih h)
theorem sized_elem {H : Type} {P : Program} {ts : List TypeId} {ds : List (DataW H)} (h : (DataW.weightsEach P ts ds).all (· ≤ reachBytes) = true) {j : Nat} {t e : TypeId} {ss : List ByteArray} {sp : List (DataW H)} (ht : ts[j]? = some t) (hd : ds[j]? = some (.slice (strs ss) sp)) (hu : P.underlying t = some (.slice e)) :
    ∀ s ∈ ss, s.size ≤ reachBytes := by
  intro s hs
  have := List.all_eq_true.1 h _ (DataW.weights_mem_each ht hd s.data.toList.length (by
    simp only [DataW.weights, hu]
    exact List.mem_cons_of_mem _ (List.mem_append_left _ (weights_strs P e hs))))
  rw [Array.length_toList] at this
  simpa using this

/-! ### THE LAID VARIABLES -/
theorem door_met (os : Os) (args : Array Value) : laidMetH Ybaz.prog Rows.lawS194064CWholeRow.laid ((World.doorLaid Ybaz.prog 207 os).forCall (fun _ _ => 0) ⟨#[], args, []⟩).memory :=
  laidMetH_of_parts3 (fuel := 8) (laidMet_of_run' 8 (by kernel_rfl) (by kernel_rfl)) (by kernel_rfl) (by kernel_rfl)

theorem tab_global : Ybaz.prog.globalNamed (Rows.lawS194064CWholeRow.named.getD 0 "") = some 0 := by kernel_rfl
theorem tab_of {W : World} (h : laidMetH Ybaz.prog Rows.lawS194064CWholeRow.laid W) : Lib.TabIs Ybaz.prog W (Rows.lawS194064CWholeRow.named.getD 0 "") .u64 Lib.pow10Tab := by
  rw [MakeChecks.laidMetH_plain _ _ _ (by kernel_rfl)] at h
  have h2 := h.tail.tail
  exact Lib.tabIs_of_head (P := Ybaz.prog) (g := 0) (t := 126) (e := 24) (n := 20) (name := Rows.lawS194064CWholeRow.named.getD 0 "") (k := .u64) (zs := Lib.pow10Tab) (by kernel_rfl) (by kernel_rfl) (by kernel_rfl) (by kernel_rfl) (by kernel_rfl) (by kernel_rfl) h2
theorem tab_later {W W' : World} (h : Lib.TabIs Ybaz.prog W (Rows.lawS194064CWholeRow.named.getD 0 "") .u64 Lib.pow10Tab) (hg : W.grownBy W' none) : Lib.TabIs Ybaz.prog W' (Rows.lawS194064CWholeRow.named.getD 0 "") .u64 Lib.pow10Tab := by
  unfold Lib.TabIs World.var? at h ⊢
  rw [tab_global] at h ⊢
  simp only [Option.bind_some] at h ⊢
  cases hh : W.heap[0]? with
  | none => rw [hh] at h; cases h
  | some o =>
    rw [hg.block 0 (Array.getElem?_eq_some_iff.1 hh).1 (by simp)]
    exact h

theorem two_vars {H : Type} {enc : TypeId × Value → H} {P : Program} {W : World} {sp : Nat → Bool} {n1 n2 : String} : ∀ {gs : List (DataW H)} {q : List MemPlace}, DataW.TrodVars enc P W sp [n1, n2] gs q → ∃ g1 g2, gs = [g1, g2]
  | [], _, h => h.elim
  | [_], _, ⟨_, _, _, _, _, _, _, _, _, _, h, _⟩ => h.elim
  | [a, b], _, _ => ⟨a, b, rfl⟩
  | _ :: _ :: _ :: _, _, ⟨_, _, _, _, _, _, _, _, _, _, ⟨_, _, _, _, _, _, _, _, _, _, h, _⟩, _⟩ => h.elim

/-! ### THE ROW's STEP -/
theorem witness_row (os : Os) {H : Type} (enc : TypeId × Value → H) :
    (OpenSpec.ofChange Rows.lawS194064CWholeSpec).preRow enc Ybaz.prog Ybaz.f3 Rows.lawS194064CWholeRow.domain Rows.lawS194064CWholeRow.apart Rows.lawS194064CWholeRow.laid
      ((World.doorLaid Ybaz.prog 207 os).forCall (fun _ _ => 0) ⟨#[], #[.int .u8 0, .int .u8 0, .string ⟨#[]⟩, .slice none 0 0, .slice none 0 0, .int .u64 0], []⟩).memory #[.int .u8 0, .int .u8 0, .string ⟨#[]⟩, .slice none 0 0, .slice none 0 0, .int .u64 0] :=
  ⟨⟨ChangeSpec.pre_of_preB (fuel := 8) (by kernel_rfl), door_met os _⟩, sizedMet_of_sizedB (fuel := 8) (by kernel_rfl)⟩

set_option maxRecDepth 100000 in
theorem lifted (os : Os) (started : os.Started) (H : Type) (enc : TypeId × Value → H) :
    ReturnsInTold none {} Ybaz.checked os 3 .any Input.okWide ((OpenSpec.ofChange Rows.lawS194064CWholeSpec).preRow enc Ybaz.prog Ybaz.f3 Rows.lawS194064CWholeRow.domain Rows.lawS194064CWholeRow.apart Rows.lawS194064CWholeRow.laid)
      (fun F => ((OpenSpec.ofChange Rows.lawS194064CWholeSpec).at F).post enc Ybaz.prog Ybaz.f3 Rows.lawS194064CWholeRow.apart Rows.lawS194064CWholeRow.fresh Rows.lawS194064CWholeRow.handsOn Rows.lawS194064CWholeRow.again) (aloneAtReturn Ybaz.prog) nothingAlways := by
  refine returnsInTold_of_row (C := Ybaz.checked) (s := OpenSpec.ofChange Rows.lawS194064CWholeSpec) (by kernel_rfl) own started (by kernel_rfl) Ybaz.func3
    (OpenSpec.witness_stopped_atRef (enc := enc) (C := Ybaz.checked) false (World.doorLaid Ybaz.prog 207 os) #[.int .u8 0, .int .u8 0, .string ⟨#[]⟩, .slice none 0 0, .slice none 0 0, .int .u64 0] rfl (by kernel_rfl) (by kernel_rfl) (by kernel_rfl) (witness_row os enc)) ?_
  intro F W base args ds gs before _ hF hval0 hW _ _ hsz0 hL _
  have hval : ∀ (j : Nat) t v, Ybaz.f3.params[j]? = some t → args[j]? = some v → Value.okWide Ybaz.prog W .any base t v := hval0
  have hsz : (DataW.weightsEach Ybaz.prog (Ybaz.f3.params.toList ++ (OpenSpec.ofChange Rows.lawS194064CWholeSpec).bare.plain.varTypes Ybaz.prog) (ds ++ gs)).all (· ≤ reachBytes) = true := hsz0
  have hW' := hW
  obtain ⟨p, q, hA0, hV, rfl, hfz, hnd⟩ := hW
  have hA : DataW.TrodAll enc Ybaz.prog W 0 (fun _ => true) true Ybaz.f3.params.toList args.toList ds p := hA0
  have hVk : DataW.TrodVars enc Ybaz.prog W (fun _ => true) Rows.lawS194064CWholeSpec.vars gs q := hV
  rw [Ybaz.params3] at hA hval hsz
  obtain ⟨v0, vs0, d0, ds0, p0, q0, hargs, rfl, rfl, h0, r0⟩ := trodAll_cons hA
  obtain ⟨v1, vs1, d1, ds1, p1, q1, rfl, rfl, rfl, h1, r1⟩ := trodAll_cons r0
  obtain ⟨v2, vs2, d2, ds2, p2, q2, rfl, rfl, rfl, h2, r2⟩ := trodAll_cons r1
  obtain ⟨v3, vs3, d3, ds3, p3, q3, rfl, rfl, rfl, h3, r3⟩ := trodAll_cons r2
  obtain ⟨v4, vs4, d4, ds4, p4, q4, rfl, rfl, rfl, h4, r4⟩ := trodAll_cons r3
  obtain ⟨v5, vs5, d5, ds5, p5, q5, rfl, rfl, rfl, h5, r5⟩ := trodAll_cons r4
  obtain ⟨rfl, rfl, rfl⟩ := trodAll_nil r5
  obtain rfl : args = #[v0, v1, v2, v3, v4, v5] := by cases args; simp_all
  obtain ⟨a3, nn, nc, rfl⟩ := okWide_slice Ybaz.underlying22 (hval 3 22 v3 rfl rfl)
  obtain ⟨a4, mn, mc, rfl⟩ := okWide_slice Ybaz.underlying23 (hval 4 23 v4 rfl rfl)
  have k3 := h3
  have k4 := h4
  have lt3 : ∀ x ∈ p3, x.block < W.heap.size := by obtain ⟨m, hm⟩ := k3; exact DataW.trod_lt m _ _ _ hm
  have lt4 : ∀ x ∈ p4, x.block < W.heap.size := by obtain ⟨m, hm⟩ := k4; exact DataW.trod_lt m _ _ _ hm
  obtain ⟨nb, no, ss, hna, hnl, hnc, hns⟩ : ∃ (nb no : Nat) (ss : List ByteArray), (0 < nn → a3 = some ⟨nb, no, none⟩) ∧ nn ≤ ss.length ∧ (∀ j, j < nn → W.cell? ⟨nb, no + j, none⟩ = some (.string (ss.getD j ByteArray.empty))) ∧ (∀ j, j < nn → (ss.getD j ByteArray.empty).size ≤ reachBytes) := by
    obtain ⟨fuel, hf⟩ := h3
    rcases open_strings Ybaz.underlying22 Ybaz.underlying9 (by kernel_rfl) hf with ⟨hcs, _⟩ | ⟨a, l, c, zs, hcs, _, hl, hm, hz, hx, hcell, _⟩
    · simp [Value.cells] at hcs
      obtain ⟨rfl, rfl, rfl⟩ := hcs
      exact ⟨0, 0, [], by simp, by simp, by simp, by simp⟩
    · simp [Value.cells] at hcs
      obtain ⟨rfl, rfl, rfl⟩ := hcs
      have hd3 : d3 = .slice (strs (zs.take nn)) (strs (zs.drop nn)) := congrArg Prod.fst hx
      have hb := sized_elem hsz (j := 3) (t := 22) (e := 9) (ss := zs.take nn) rfl (by rw [hd3]; rfl) Ybaz.underlying22
      simp only [if_true] at hz
      rcases Nat.eq_zero_or_pos nn with hz0 | hzp
      · exact ⟨0, 0, zs, by omega, by omega, by omega, by omega⟩
      · obtain ⟨xb, xo, spot⟩ := a
        have hspot : spot = none := by simpa [Addr.add] using World.cell?_spot (hcell 0 (by omega))
        subst hspot
        refine ⟨xb, xo, zs, fun _ => rfl, by omega, fun j hj => by rw [← Lib.add_plain]; exact hcell j (by omega), fun j hj => hb _ ?_⟩
        have hjz : j < zs.length := by omega
        rw [show zs.getD j ByteArray.empty = zs[j] by simp [List.getD, hjz]]
        exact List.mem_take_iff_getElem.2 ⟨j, by omega, rfl⟩
  obtain ⟨mb, mo, zs, hma, hml, hmc, hmw⟩ : ∃ (mb mo : Nat) (zs : List Int), (0 < mn → a4 = some ⟨mb, mo, none⟩) ∧ mn ≤ zs.length ∧ (∀ j, j < mn → W.cell? ⟨mb, mo + j, none⟩ = some (.int .u8 (zs.getD j 0))) ∧ (∀ j, j < mn → 0 ≤ zs.getD j 0 ∧ zs.getD j 0 ≤ 255) := by
    obtain ⟨fuel, hf⟩ := h4
    rcases open_ints Ybaz.underlying23 Ybaz.underlying5 (by kernel_rfl) hf with ⟨hcs, _⟩ | ⟨a, l, c, zs, hcs, _, hl, hm, hz, hx, hcell, hwz⟩
    · simp [Value.cells] at hcs
      obtain ⟨rfl, rfl, rfl⟩ := hcs
      exact ⟨0, 0, [], by simp, by simp, by simp, by simp⟩
    · simp [Value.cells] at hcs
      obtain ⟨rfl, rfl, rfl⟩ := hcs
      have hzl : zs.length = mc := by simpa using hz
      rcases Nat.eq_zero_or_pos mn with hz0 | hzp
      · exact ⟨0, 0, zs, by omega, by omega, by omega, by omega⟩
      · obtain ⟨xb, xo, spot⟩ := a
        have hspot : spot = none := by simpa [Addr.add] using World.cell?_spot (hcell 0 (by omega))
        subst hspot
        refine ⟨xb, xo, zs, fun _ => rfl, by omega, fun j hj => by rw [← Lib.add_plain]; exact hcell j (by omega), fun j hj => ?_⟩
        have hjz : j < zs.length := by omega
        have e : zs.getD j 0 = zs[j] := by simp [List.getD, hjz]
        rw [e]
        have := hwz zs[j] (List.getElem_mem hjz)
        simpa [Lit.wf, IntKind.min, IntKind.max, IntKind.bits, IntKind.signed] using this
  obtain ⟨b0, rfl, rfl, rfl, w0⟩ := open_int Ybaz.underlying5 (hval 0 5 v0 rfl rfl) h0
  obtain ⟨b1, rfl, rfl, rfl, w1⟩ := open_int Ybaz.underlying5 (hval 1 5 v1 rfl rfl) h1
  obtain ⟨s2, rfl, rfl, rfl, hs2⟩ := open_string Ybaz.underlying9 (hval 2 9 v2 rfl rfl) h2
  obtain ⟨b5, rfl, rfl, rfl, w5⟩ := open_int Ybaz.underlying24 (hval 5 24 v5 rfl rfl) h5
  obtain ⟨g1, g2, rfl⟩ := two_vars hVk
  have T := tab_of hL
  have q0 : 0 ≤ b0 ∧ b0 ≤ 255 := by simpa [Lit.wf, IntKind.min, IntKind.max, IntKind.bits, IntKind.signed] using w0
  have q1 : 0 ≤ b1 ∧ b1 ≤ 255 := by simpa [Lit.wf, IntKind.min, IntKind.max, IntKind.bits, IntKind.signed] using w1
  have q5 : 0 ≤ b5 ∧ b5 ≤ 18446744073709551615 := by simpa [Lit.wf, IntKind.min, IntKind.max, IntKind.bits, IntKind.signed] using w5
  obtain ⟨num, rfl⟩ : ∃ n : Nat, b5 = (n : Int) := ⟨b5.toNat, by omega⟩
  clear hA0 hval0
  refine (law_any F.told W b0 b1 s2 a3 nb no nn nc (fun j => ss.getD j ByteArray.empty) a4 mb mo mn mc (fun j => zs.getD j 0) num q0 q1 hna (fun w' hg i hi => hg.cell (hnc i hi) (by simp)) (fun i hi => Nat.le_trans (hns i hi) (by decide)) hma (fun w' hg i hi => hg.cell (hmc i hi) (by simp)) hmw (by omega) (fun w' hg => tab_later T hg) hF).mono fun e W' ⟨he, hg⟩ => ?_
  have bel := below_of hg
  subst he
  exact ⟨_, rfl, _, _, _, [], _, q, hW', trodAll_mk1 (shut_bool Ybaz.underlying4 _), (trodAll_cons_mk (shut_int Ybaz.underlying5 w0) (trodAll_cons_mk (shut_int Ybaz.underlying5 w1) (trodAll_cons_mk (shut_string Ybaz.underlying9 hs2) (trodAll_cons_mk (Below.trod laidOut (by kernel_rfl) (of_decide_eq_true (by kernel_rfl)) k3 bel lt3) (trodAll_cons_mk (Below.trod laidOut (by kernel_rfl) (of_decide_eq_true (by kernel_rfl)) k4 bel lt4) (trodAll_cons_mk (shut_int Ybaz.underlying24 w5) trodAll_mk0)))))),
    Below.trodVars laidOut bel (by kernel_rfl) hVk, bel.frame _, fun h => by cases h⟩

theorem stops_eq : Ybaz.pinned.checked.prog.stops = ["fmt.Sprintf"] := by kernel_rfl
theorem knobs_eq : Ybaz.pinned.checked.prog.stopKnobs = [] := by kernel_rfl
theorem quiet (os : Os) : Stop.quiet Ybaz.pinned.checked.prog os := by
  intro k hk
  rw [knobs_eq] at hk
  cases hk

/-- ████ THE STATEMENT: the told and tied card ████ -/
theorem proved : Rows.LawS194064CWholeToldSaid :=
  Claim7.holds_of_told_tied_any_at .later 3 Ybaz.f3 "fmt.Sprintf" [] [] _ _ _ _ _ (by kernel_rfl) rfl rfl rfl laidOut (by kernel_rfl) rfl ⟨rfl, rfl, rfl, rfl, rfl, rfl, rfl⟩ rfl rfl (by kernel_rfl) (by kernel_rfl) Ybaz.func3 (by kernel_rfl)
    (of_decide_eq_true (by kernel_rfl)) (of_decide_eq_true (by kernel_rfl)) stops_eq.symm rfl knobs_eq.symm (by kernel_rfl)
    (by kernel_rfl) (by kernel_rfl) (by kernel_rfl) (by kernel_rfl) (by kernel_rfl) (by kernel_rfl) (by kernel_rfl) (by kernel_rfl) (by kernel_rfl) rfl (by kernel_rfl) rfl rfl
    rfl rfl
    rfl (by kernel_rfl) (by kernel_rfl) (by kernel_rfl) (by decide) (by kernel_rfl) lawS194064CWhole_row_tie
    (OpenClaim.moreEntering_of (by kernel_rfl) (by kernel_rfl) (by kernel_rfl) (by kernel_rfl) (by kernel_rfl) (by kernel_rfl) (by kernel_rfl) (by kernel_rfl) (by kernel_rfl) (by kernel_rfl))
    ⟨_, WideRow.started_initial, quiet _⟩
    (fun os started _ H enc _ => lifted os started H enc)
#print axioms proved
end Go.Proofs.YbulkexobaGreatFmt.lawS194064CWhole
