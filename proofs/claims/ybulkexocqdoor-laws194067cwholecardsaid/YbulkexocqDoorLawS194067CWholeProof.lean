/-
  THE PROOF OF Rows.LawS194067CWholeCardSaid: the row out of the four walks; the tied card by the kit's builder.
-/
import Derived.Test.YbulkexocqDoorPlainFalse
import Derived.Test.YbulkexocqDoorPlainTrue
import Derived.Test.YbulkexocqDoorDefaultFalse
import Derived.Test.YbulkexocqDoorDefaultTrue
import Derived.Test.YbulkexocqDoorTie
import Derived.Test.YbulkexocqDoorCards
import Derived.ProofKit
import Derived.OpenShut
import Derived.ShutString
import Derived.ChangeOld
import Derived.LaidMore
import Derived.Stop.Joined
import Derived.Stop.LaidErr
import Derived.OpenVars
import Derived.SevenTiedAt
namespace Go.Proofs.YbulkexocqDoor.lawS194067CWhole
open Go.ChangeShapes Go.WideShapes Go.ChangeAt Go.WideMaps Go.WideElems Go.RowKit
open Go.ChangeMaps (open_string shut_string)
set_option linter.unusedVariables false

theorem Ybad.bytes5 : Ybad.prog.bytesOf 5 = 1 := by kernel_rfl
theorem own : ownKnob Ybad.prog.godebug = none := by kernel_rfl
theorem laidOut : laidOutB Ybad.prog = true := by kernel_rfl

def IsRow (k : IntKind) (w : World) (a : Option Addr) (len cap : Nat) (zs : List Int) : Prop :=
  (a = none ∧ len = 0 ∧ cap = 0 ∧ zs = []) ∨
  ∃ x, a = some x ∧ len ≤ cap ∧ cap ≤ maxLen ∧ zs.length = cap ∧ (∀ i, i < zs.length → w.cell? (x.add i) = some (.int k (zs.getD i 0))) ∧ ∀ n ∈ zs, (Lit.int k n).wf = true

/-- The prefix as bytes. -/
def bytesOf (zs : List Int) : List UInt8 := zs.map fun z => UInt8.ofNat z.toNat

theorem prefix_of {w : World} {a : Option Addr} {len cap : Nat} {zs : List Int} (h : IsRow .u8 w a len cap zs) :
    (bytesOf (zs.take len)).length = len ∧ (0 < len → ∃ ad, a = some ad ∧ ad.block < w.heap.size ∧ ∀ (j : Nat) (u : Value), (bcells (bytesOf (zs.take len)))[j]? = some u → w.cell? (ad.add j) = some u) := by
  rcases h with ⟨rfl, rfl, rfl, rfl⟩ | ⟨x, rfl, hl, hm, hz, hcell, hwz⟩
  · exact ⟨rfl, fun h => by omega⟩
  · refine ⟨by simp [bytesOf]; omega, fun hpos => ⟨x, rfl, ?_, ?_⟩⟩
    · have := World.block_lt_of_cell? w _ (hcell 0 (by omega))
      have e : (x.add 0).block = x.block := by unfold Addr.add; split <;> rfl
      rwa [e] at this
    · intro j u hu
      have hj : j < len := by
        have := (List.getElem?_eq_some_iff.1 hu).1
        simp [bcells, bytesOf] at this
        omega
      have hjz : j < zs.length := by omega
      rw [hcell j hjz]
      have hb : 0 ≤ zs[j] ∧ zs[j] ≤ 255 := by
        have := hwz zs[j] (List.getElem_mem hjz)
        simpa [Lit.wf, IntKind.min, IntKind.max, IntKind.bits, IntKind.signed] using this
      simp only [bcells, bytesOf, List.getElem?_map, List.getElem?_take_of_lt hj, List.getElem?_eq_getElem hjz, Option.map_some, Option.some.injEq] at hu
      rw [← hu]
      simp only [List.getD, List.getElem?_eq_getElem hjz, Option.getD_some]
      have e2 : ((UInt8.ofNat (zs[j]).toNat).toNat : Int) = zs[j] := by simp; omega
      rw [e2]

/-! ### THE WALK -/
set_option maxRecDepth 100000 in
theorem walk (nm : ByteArray) (a1 : Option Addr) (len cap : Nat) (zs : List Int) (last num quals : Int) (hd sq : Bool) (w : World) (w1 : IsRow .u8 w a1 len cap zs) (w4 : (Lit.int .i32 num).wf = true) (w5 : (Lit.int .u8 quals).wf = true)
    (hg : 3 < w.heap.size) (T : Lib.TabIs Ybad.prog w tabName .u64 Lib.pow10Tab) (hlen : len ≤ 140737488355328) (hnm : nm.size ≤ 140737488355328) :
    Calls Ybad.prog 3 #[.string nm, .slice a1 len cap, .int .u8 last, .bool hd, .int .i32 num, .int .u8 quals, .bool sq] w fun e w' => e = .returned (.bool true) ∧ Below w.heap.size w w' := by
  obtain ⟨p1, p2⟩ := prefix_of w1
  by_cases hbig : 1048576 < nm.size + len
  · have hbig' : (1048576 : Int) < (nm.size : Int) + (len : Int) := by omega
    go_enter Ybad.func3, Ybad.ntmps3
    go_wp2
    go_ret
    exact ⟨rfl, Below.refl _ _⟩
  · cases hd <;> cases sq
    · exact walk_plain_false nm a1 len cap _ last num quals w (by omega) w4 p1 p2 hg T
    · exact walk_plain_true nm a1 len cap _ last num quals w (by omega) w5 w4 p1 p2 hg T
    · exact walk_default_false nm a1 len cap _ last num quals w (by omega) w4 p1 p2 hg T
    · exact walk_default_true nm a1 len cap _ last num quals w (by omega) w5 w4 p1 p2 hg T

theorem door_met (os : Os) (args : Array Value) : laidMetH Ybad.prog Rows.lawS194067CWholeRow.laid ((World.doorLaid Ybad.prog 148 os).forCall (fun _ _ => 0) ⟨#[], args, []⟩).memory :=
  laidMetH_of_parts3 (fuel := 8) (laidMet_of_run' 8 (by kernel_rfl) (by kernel_rfl)) (by kernel_rfl) (by kernel_rfl)

theorem tab_of {W : World} (h : laidMetH Ybad.prog Rows.lawS194067CWholeRow.laid W) : Lib.TabIs Ybad.prog W tabName .u64 Lib.pow10Tab := by
  rw [MakeChecks.laidMetH_plain _ _ _ (by kernel_rfl)] at h
  have h2 := h.tail.tail
  exact Lib.tabIs_of_head (P := Ybad.prog) (g := 3) (t := 101) (e := 50) (n := 20) (name := tabName) (k := .u64) (zs := Lib.pow10Tab) (by kernel_rfl) (by kernel_rfl) (by kernel_rfl) (by kernel_rfl) (by kernel_rfl) (by kernel_rfl) h2

theorem tab_lt {W : World} (h : Lib.TabIs Ybad.prog W tabName .u64 Lib.pow10Tab) : 3 < W.heap.size := by
  unfold Lib.TabIs World.var? at h
  rw [tab_global] at h
  simp only [Option.bind_some] at h
  cases hh : W.heap[3]? with
  | none => rw [hh] at h; cases h
  | some o => exact (Array.getElem?_eq_some_iff.1 hh).1

theorem three_vars {H : Type} {enc : TypeId × Value → H} {P : Program} {W : World} {sp : Nat → Bool} {n1 n2 n3 : String} : ∀ {gs : List (DataW H)} {q : List MemPlace}, DataW.TrodVars enc P W sp [n1, n2, n3] gs q → ∃ g1 g2 g3, gs = [g1, g2, g3]
  | [], _, h => h.elim
  | [_], _, ⟨_, _, _, _, _, _, _, _, _, _, h, _⟩ => h.elim
  | [_, _], _, ⟨_, _, _, _, _, _, _, _, _, _, ⟨_, _, _, _, _, _, _, _, _, _, h, _⟩, _⟩ => h.elim
  | [a, b, c], _, _ => ⟨a, b, c, rfl⟩
  | _ :: _ :: _ :: _ :: _, _, ⟨_, _, _, _, _, _, _, _, _, _, ⟨_, _, _, _, _, _, _, _, _, _, ⟨_, _, _, _, _, _, _, _, _, _, h, _⟩, _⟩, _⟩ => h.elim

/-! ### THE ROW's STEP -/
set_option maxRecDepth 100000 in
theorem lifted (os : Os) (started : os.Started) (H : Type) (enc : TypeId × Value → H) :
    ReturnsInHanded {} Ybad.checked os 3 .any (fun w args => (Rows.lawS194067CWholeSpec.pre enc Ybad.prog Ybad.f3 [] false w args ∧ laidMetH Ybad.prog Rows.lawS194067CWholeRow.laid w) ∧ sizedMet enc Ybad.prog Ybad.f3 (OpenSpec.ofChange Rows.lawS194067CWholeSpec) false w args)
      (Rows.lawS194067CWholeSpec.post enc Ybad.prog Ybad.f3 false true false false) := by
  refine returnsInHanded_of_change_and (C := Ybad.checked) (X := fun w _ => laidMetH Ybad.prog Rows.lawS194067CWholeRow.laid w) (fun _ _ _ hh h => h.of_heap hh) own started (by kernel_rfl) Ybad.func3
    (ChangeSpec.witness_shaped (enc := enc) (C := Ybad.checked) (os := os) (X := fun w _ => laidMetH Ybad.prog Rows.lawS194067CWholeRow.laid w) false (World.doorLaid Ybad.prog 148 os) #[.string ⟨#[]⟩, .slice none 0 0, .int .u8 0, .bool false, .int .i32 0, .int .u8 0, .bool false] 8 rfl (World.shaped_of_RefB (by kernel_rfl) (by kernel_rfl)) (by kernel_rfl) (by kernel_rfl) (by kernel_rfl) (door_met os _)) ?_
  intro W base args ds gs before hval0 hW _ hsz0 hL _
  have hval : ∀ (j : Nat) t v, Ybad.f3.params[j]? = some t → args[j]? = some v → Value.okWide Ybad.prog W .any base t v := hval0
  have hsz : (DataW.weightsEach Ybad.prog (Ybad.f3.params.toList ++ Rows.lawS194067CWholeSpec.plain.varTypes Ybad.prog) (ds ++ gs)).all (· ≤ reachBytes) = true := hsz0
  have hW' := hW
  obtain ⟨p, q, hA0, hV, rfl, hfz, hnd⟩ := hW
  have hA : DataW.TrodAll enc Ybad.prog W 0 (fun _ => true) true Ybad.f3.params.toList args.toList ds p := hA0
  have hVk : DataW.TrodVars enc Ybad.prog W (fun _ => true) Rows.lawS194067CWholeSpec.vars gs q := hV
  rw [Ybad.params3] at hA hval hsz
  obtain ⟨v0, vs0, d0, ds0, p0, q0, hargs, rfl, rfl, h0, r0⟩ := trodAll_cons hA
  obtain ⟨v1, vs1, d1, ds1, p1, q1, rfl, rfl, rfl, h1, r1⟩ := trodAll_cons r0
  obtain ⟨v2, vs2, d2, ds2, p2, q2, rfl, rfl, rfl, h2, r2⟩ := trodAll_cons r1
  obtain ⟨v3, vs3, d3, ds3, p3, q3, rfl, rfl, rfl, h3, r3⟩ := trodAll_cons r2
  obtain ⟨v4, vs4, d4, ds4, p4, q4, rfl, rfl, rfl, h4, r4⟩ := trodAll_cons r3
  obtain ⟨v5, vs5, d5, ds5, p5, q5, rfl, rfl, rfl, h5, r5⟩ := trodAll_cons r4
  obtain ⟨v6, vs6, d6, ds6, p6, q6, rfl, rfl, rfl, h6, r6⟩ := trodAll_cons r5
  obtain ⟨rfl, rfl, rfl⟩ := trodAll_nil r6
  obtain rfl : args = #[v0, v1, v2, v3, v4, v5, v6] := by cases args; simp_all
  obtain ⟨a1, len1, cap1, rfl⟩ := okWide_slice Ybad.underlying22 (hval 1 22 v1 rfl rfl)
  have k1 := h1
  have lt1 : ∀ x ∈ p1, x.block < W.heap.size := by obtain ⟨m, hm⟩ := k1; exact DataW.trod_lt m _ _ _ hm
  obtain ⟨z1, w1, hl1⟩ : ∃ zs, IsRow .u8 W a1 len1 cap1 zs ∧ len1 ≤ 140737488355328 := by
    obtain ⟨fuel, hf⟩ := h1
    rcases open_ints Ybad.underlying22 Ybad.underlying5 (by kernel_rfl) hf with ⟨hcs, _⟩ | ⟨x, l, c, zs, hcs, _, hl, hm, hz, hx, hcell, hwz⟩
    · simp [Value.cells] at hcs
      obtain ⟨rfl, rfl, rfl⟩ := hcs
      exact ⟨[], .inl ⟨rfl, rfl, rfl, rfl⟩, by omega⟩
    · simp [Value.cells] at hcs
      obtain ⟨rfl, rfl, rfl⟩ := hcs
      have hd1 : d1 = .slice (lits .u8 (zs.take len1)) (lits .u8 (zs.drop len1)) := congrArg Prod.fst hx
      have hzl : zs.length = cap1 := by simpa using hz
      have hb := sized_slice hsz (j := 1) (t := 22) (e := 5) rfl (by rw [hd1]; rfl) Ybad.underlying22
      rw [Ybad.bytes5] at hb
      simp only [lits, List.length_map, List.length_take, List.length_drop, reachBytes] at hb
      exact ⟨zs, .inr ⟨_, rfl, hl, hm, hzl, hcell, hwz⟩, by omega⟩
  obtain ⟨s0, rfl, rfl, rfl, hs0⟩ := open_string Ybad.underlying9 (hval 0 9 v0 rfl rfl) h0
  obtain ⟨a2, rfl, rfl, rfl, w2⟩ := open_int Ybad.underlying5 (hval 2 5 v2 rfl rfl) h2
  obtain ⟨b3, rfl, rfl, rfl⟩ := open_bool Ybad.underlying4 (hval 3 4 v3 rfl rfl) h3
  obtain ⟨a4, rfl, rfl, rfl, w4⟩ := open_int Ybad.underlying21 (hval 4 21 v4 rfl rfl) h4
  obtain ⟨a5, rfl, rfl, rfl, w5⟩ := open_int Ybad.underlying5 (hval 5 5 v5 rfl rfl) h5
  obtain ⟨b6, rfl, rfl, rfl⟩ := open_bool Ybad.underlying4 (hval 6 4 v6 rfl rfl) h6
  obtain ⟨g1, g2, g3, rfl⟩ := three_vars hVk
  have T := tab_of hL
  have hl0 : s0.size ≤ 140737488355328 := by
    have hb := sized_string hsz (j := 0) (t := 9) (bytes := s0.data.toList) rfl rfl
    rw [Array.length_toList] at hb
    have e : s0.data.size = s0.size := rfl
    simp only [reachBytes] at hb
    omega
  clear hA0 hval0
  refine (walk s0 a1 len1 cap1 z1 a2 a4 a5 b3 b6 W w1 w4 w5 (tab_lt T) T hl1 hl0).mono fun e W' ⟨he, bel⟩ => ?_
  subst he
  exact ⟨_, rfl, _, _, _, [], _, q, hW', trodAll_mk1 (shut_bool Ybad.underlying4 _), (trodAll_cons_mk (shut_string Ybad.underlying9 hs0) (trodAll_cons_mk (Below.trod laidOut (by kernel_rfl) (of_decide_eq_true (by kernel_rfl)) k1 bel lt1) (trodAll_cons_mk (shut_int Ybad.underlying5 w2) (trodAll_cons_mk (shut_bool Ybad.underlying4 _) (trodAll_cons_mk (shut_int Ybad.underlying21 w4) (trodAll_cons_mk (shut_int Ybad.underlying5 w5) (trodAll_cons_mk (shut_bool Ybad.underlying4 _) trodAll_mk0))))))),
    Below.trodVars laidOut bel (by kernel_rfl) hVk, bel.frame _, fun h => by cases h⟩

theorem over : Rows.LawS194067CWholeSaid :=
  OpenClaim.holds_of_wide 3 Ybad.f3 rfl rfl rfl rfl rfl rfl rfl ⟨rfl, rfl, rfl, rfl, rfl⟩ rfl rfl rfl rfl rfl (by kernel_rfl) Ybad.func3 (by kernel_rfl)
    (of_decide_eq_true (by kernel_rfl)) (by unfold Func.isWrapper; first | (rw [if_pos (by decide +kernel)]; kernel_rfl) | (rw [if_neg (by decide +kernel)]; exact ⟨rfl, rfl⟩))
    (fun os started H enc _ => lifted os started H enc)

/-- ████ THE STATEMENT: the tied card ████ -/
theorem proved : Rows.LawS194067CWholeCardSaid :=
  Claim7.holds_tied_plain_at .later [] Rows.lawS194067CWholeCard.laidKinds true Rows.lawS194067CWholeCard.stood.harness false
    over (fun _ h => by cases h) (by kernel_rfl) (fun _ h => by cases h) lawS194067CWhole_row_tie rfl ⟨rfl, rfl⟩ (by kernel_rfl) rfl
    (fun f fn hf hfn => by
      obtain rfl : f = 3 := Option.some.inj ((show Ybad.prog.funcNamed Rows.lawS194067CWholeRow.func = some 3 by kernel_rfl).symm.trans hf) |>.symm
      obtain rfl : fn = Ybad.f3 := (Option.some.inj (Ybad.func3.symm.trans hfn)).symm
      exact ⟨by kernel_rfl, fun j t ht => by
        rw [Ybad.params3] at ht
        have hm : t ∈ [9, 22, 5, 4, 21, 5, 4] := by simpa using Array.mem_of_getElem? ht
        have hall : ([9, 22, 5, 4, 21, 5, 4].all fun u => !Ybad.prog.wantsStandIn u) = true := by kernel_rfl
        exact (show Ybad.prog.wantsStandIn t = false by simpa using List.all_eq_true.1 hall t hm)⟩)
    (by kernel_rfl)
#print axioms proved
end Go.Proofs.YbulkexocqDoor.lawS194067CWhole
