/-
  lex over pieces.
-/
import Derived.Test.YbulkexobaGreatFmtPieces
import Derived.OwnWalk
import Derived.Deep.RegionLaw
import Derived.Deep.RegionHeld3
namespace Go.Proofs.YbulkexobaGreatFmt
open Go.RowKit Go.Extern.Stop Go.Stop Go.Extern

def zTok : Value := .agg #[.int .i64 0, .string ⟨#[]⟩, .string ⟨#[]⟩]
theorem Ybaz.info90 : (Ybaz.prog.info? 90).map (fun i => (i.zero, i.size, i.bytes)) = some (some zTok, 3, 40) := by kernel_rfl

/-- What is known while the text is read: the pieces don are behind, rem lie ahead. -/
structure LS (w : World) (s : ByteArray) (ps don rem : List Pc) (v : Value) (i : Nat) (wr : World) : Prop where
  cut : don ++ rem = ps
  at_ : i = (srcOf don).length
  own : wr.ownsRow w.heap.size 90 3 v (toksOf don).length (tokCells (toksOf don))
  g : w.grownBy wr none

theorem LS.text {w : World} {s : ByteArray} {ps don : List Pc} {p : Pc} {rem : List Pc} {v : Value} {i : Nat} {wr : World} (h : LS w s ps don (p :: rem) v i wr) (hs : s.data.toList = srcOf ps) :
    s.data.toList = srcOf don ++ (p.src ++ srcOf rem) := by rw [hs, ← h.cut, srcOf_append, srcOf_cons]

theorem news3 (w : World) (a b c : Value) : ∀ j u, ([a, b, c] : List Value)[j]? = some u → (w.alloc (.cells #[a, b, c] 90)).cell? ((⟨w.heap.size, 0, none⟩ : Addr).add j) = some u := by
  intro j u hu
  have hblk : (w.alloc (.cells #[a, b, c] 90)).heap[w.heap.size]? = some (.cells #[a, b, c] 90 (0, 0)) := heap_alloc_new w _
  rw [Addr.add_lit, show 0 + j = j by omega, cells_at hblk]
  simpa using hu
theorem ones3 (k : IntKind) (x : Int) (a b : ByteArray) : ∀ u ∈ ([.int k x, .string a, .string b] : List Value), u.oneCell' = true := by
  intro u hu
  simp at hu
  rcases hu with rfl | rfl | rfl <;> rfl

theorem LS.few {w : World} {s : ByteArray} {ps don rem : List Pc} {v : Value} {i : Nat} {wr : World} (h : LS w s ps don rem v i wr) (hs : s.data.toList = srcOf ps) (hl : s.size = s.data.toList.length) (hok : OkL ps) (hsz : s.size ≤ 100000000) : (toksOf don).length ≤ 100000000 := by
  have h1 := toks_le ps hok
  rw [← hs, ← hl] at h1
  rw [← h.cut, toksOf_append, List.length_append] at h1
  omega

theorem own_or (v : Value) : v.ownBlock = none ∨ v.ownBlock ≠ none := by cases v.ownBlock <;> simp
theorem le2 {w wr w2 : World} (hg : w.grownBy wr none) (hg2 : wr.grownBy w2 none) (o1 o2 : Obj) : w.heap.size ≤ ((w2.alloc o1).alloc o2).heap.size := by
  have := hg.size
  have := hg2.size
  simp
  omega
theorem news3b (w : World) (o : Obj) (a b c : Value) : ∀ j u, ([a, b, c] : List Value)[j]? = some u → ((w.alloc o).alloc (.cells #[a, b, c] 90)).cell? ((⟨w.heap.size + 1, 0, none⟩ : Addr).add j) = some u := by
  have h := news3 (w.alloc o) a b c
  simpa using h

theorem byteAt_in {s : ByteArray} {pre mid suf : List UInt8} (h : s.data.toList = pre ++ (mid ++ suf)) (k : Nat) (h1 : pre.length ≤ k) (h2 : k < pre.length + mid.length) : ∃ b, b ∈ mid ∧ byteAt s k = (b.toNat : Int) := by
  refine ⟨mid[k - pre.length]'(by omega), List.getElem_mem _, ?_⟩
  unfold byteAt
  rw [h, List.getD_eq_getElem?_getD, List.getElem?_append_right h1, List.getElem?_append_left (by omega), List.getElem?_eq_getElem (by omega)]
  rfl
theorem byteAt_end {s : ByteArray} {pre mid suf : List UInt8} (h : s.data.toList = pre ++ (mid ++ suf)) (f : Int → Bool) (hf : ∀ b, suf.head? = some b → f (b.toNat : Int) = false) (hk : pre.length + mid.length < s.size) : f (byteAt s (pre.length + mid.length)) = false := by
  cases suf with
  | nil =>
    have hl : s.size = s.data.toList.length := by rw [Array.length_toList]; rfl
    rw [hl, h] at hk
    simp at hk
  | cons x xs =>
    have b2 := byteAt_mid (s := s) (pre := pre ++ mid) (b := x) (suf := xs) (by rw [h]; simp)
    rw [List.length_append] at b2
    rw [b2.2]
    exact hf x rfl
theorem ext_mid {s : ByteArray} {pre mid suf : List UInt8} (h : s.data.toList = pre ++ (mid ++ suf)) : s.extract pre.length (pre.length + mid.length) = ⟨mid.toArray⟩ := by
  rw [ext_eq, h, List.take_append]
  simp

theorem up_let (x : UInt8) (h : 97 ≤ x.toNat ∧ x.toNat ≤ 122) : 65 ≤ (upB x).toNat ∧ (upB x).toNat ≤ 90 := by
  have h1 : 97 ≤ x ∧ x ≤ 122 := ⟨UInt8.le_iff_toNat_le.2 h.1, UInt8.le_iff_toNat_le.2 h.2⟩
  unfold upB
  rw [if_pos h1, UInt8.toNat_sub_of_le _ _ (UInt8.le_iff_toNat_le.2 (by show 32 ≤ x.toNat; omega))]
  show 65 ≤ x.toNat - 32 ∧ x.toNat - 32 ≤ 90
  omega

theorem full_snoc {don : List Pc} {p : Pc} (h : Full don) (hp : p.kind = 2 → p.bs ≠ []) : Full (don ++ [p]) := fun q hq => by
  rcases List.mem_append.1 hq with hq | hq
  · exact h q hq
  · rw [List.mem_singleton.1 hq]
    exact hp
theorem hid' {p : Prop} (h : p) : Hid p := h

/-- THE LEXER's END: the tokens, or an error where a name is empty. -/
def LexEnd (w : World) (ps : List Pc) (e : Ending) (w' : World) : Prop :=
  (Full ps ∧ ∃ v, e = .returned (.tuple #[v, .nilIface]) ∧ w'.ownsRow w.heap.size 90 3 v ((toksOf ps).length + 1) (tokCells (toksOf ps ++ [⟨0, ⟨#[]⟩, ⟨#[]⟩⟩])) ∧ w.grownBy w' none) ∨
  (¬ Full ps ∧ ∃ v u, e = .returned (.tuple #[v, u]) ∧ IsErr u ∧ w.grownBy w' none)

set_option linter.unusedSimpArgs false in
set_option maxHeartbeats 60000000 in
set_option maxRecDepth 100000 in
theorem lex_any (F : Interp) (s : ByteArray) (ps : List Pc) (w : World) (hF : F.answers w.tape) (hs : s.data.toList = srcOf ps) (hok : OkL ps) (hsz : s.size ≤ 100000000) :
    Calls Ybaz.prog 13 #[.string s] w fun e w' => LexEnd w ps e w' := by
  obtain ⟨i0, hi', hz0, hz1, hz2⟩ := info_parts Ybaz.info90
  have HF : Hid (F.answers w.tape) := hF
  clear hF
  have hl : Hid (s.size = s.data.toList.length) := by show s.size = _; rw [Array.length_toList]; rfl
  go_enter Ybaz.func13, Ybaz.ntmps13
  go_wp2_with (at_make; refine wpList_make_own _ rfl (.const (.int .i64 0)) (.tmp 17) 77 rfl w.heap.size 90 i0 zTok 3 Ybaz.underlying77 hi' hz0 hz1 .i64 .i64 _ (s.size / 2 + 1) rfl rfl ?m1 (by rw [hz2]; omega) (by unfold maxLen; omega) (Nat.le_refl _) ?_)
  case m1 => omega
  intro w1 hown hg1
  have HS : Hid (s.data.toList = srcOf ps) := hs
  have HOK : Hid (OkL ps) := hok
  have H0 : Hid (LS w s ps [] ps (.slice (some ⟨w.heap.size, 0, none⟩) 0 (s.size / 2 + 1)) 0 w1) := ⟨rfl, rfl, hown, hg1⟩
  clear hs hown hg1
  go_wp2_with fail
  go_loopg [4, 5] ps.length (fun g v iv wr => ∃ (don rem : List Pc) (i : Nat), g = rem.length ∧ iv = .int .i64 i ∧ OkL rem ∧ Full don ∧ LS w s ps don rem v i wr)
  case atStart => exact ⟨[], ps, 0, rfl, rfl, hok, fun q hq => (by cases hq), H0.out⟩
  case round =>
    clear H0 hok
    obtain ⟨don, rem, i, hgk, rfl, hok, hfull, hL⟩ := hrel
    cases rem with
    | nil =>
      have hcut := hL.cut
      simp at hcut
      subst hcut
      have hi : i = s.size := by rw [hL.at_, hl.out, HS.out]
      subst hi
      have hown := hL.own
      have hg := hL.g
      have hfew := hL.few HS.out hl.out HOK.out hsz
      have HFu := hid' hfull
      clear hL hok hfull
      have hbw : w.heap.size ≤ (wr.alloc (.cells #[.int .i64 0, .string ⟨#[]⟩, .string ⟨#[]⟩] 90)).heap.size := by have := hg.size; simp; omega
      go_wp2_with (at_builtin; refine wpList_append_own _ rfl (.tmp 214) (.tmp 216) 77 rfl w.heap.size 90 i0 zTok 3 40 Ybaz.underlying77 hi' hz0 hz1 hz2 rfl (by decide) _ _ _ rfl (hown.alloc _) ⟨wr.heap.size, 0, none⟩ 1 1 [.int .i64 0, .string ⟨#[]⟩, .string ⟨#[]⟩] rfl rfl (news3 _ _ _ _) (ones3 _ _ _ _) (by unfold maxLen; omega) (by omega) hbw ?_)
      intro v' w2 hown2 hgrow _
      go_wp2_with fail
      go_ret2
      exact .inl ⟨HFu.out, v', rfl, by rw [tokCells_snoc]; exact hown2, grown_new (hg.alc _) hgrow (fun j hj => (hown.lt j hj).1)⟩
    | cons p rem =>
      have htx := hL.text HS.out
      have hdl : (srcOf don).length = i := hL.at_.symm
      have hpo := hok.1
      have hL' := hL
      rcases hok.1 with h0 | ⟨h0, h1, h1l, h2, h3⟩ | ⟨h0, h1⟩ | ⟨h0, h1, h2, h3⟩ | ⟨h0, c, h1, h2, h3⟩
      · have hps : p.src = [32] := by simp [Pc.src, h0]
        have hpt : p.toks = [] := by simp [Pc.toks, h0]
        rw [hps] at htx
        have b0 := byteAt_mid (s := s) (pre := srcOf don) (b := 32) (suf := srcOf rem) htx
        rw [hdl] at b0
        have hi1 : i < s.size := b0.1
        have hi1' : (i : Int) < (s.size : Int) := by omega
        have e1 : (s[i].toNat : Int) = 32 := by rw [← byteAt_eq s i hi1]; exact b0.2
        have HN : Hid (OkL rem ∧ Full (don ++ [p]) ∧ LS w s ps (don ++ [p]) rem u4 (i + 1) wr) := ⟨hok.2, full_snoc hfull (fun h => absurd (h0.symm.trans h) (by decide)), ⟨by rw [← hL.cut]; simp, by rw [srcOf_append, ← hdl]; simp [srcOf, hps], by rw [toksOf_append, toksOf_one, hpt]; simpa using hL.own, hL.g⟩⟩
        clear hL hL' hpo hok hfull htx b0 hdl hps hpt h0
        go_wp2_with fail
        go_roundg (gk - 1)
        case measure => simp at hgk; omega
        case rel => exact ⟨don ++ [p], rem, i + 1, by simp at hgk; omega, rfl, HN.out.1, HN.out.2.1, HN.out.2.2⟩
      · as_aux_lemma =>
          have hpt : p.toks = [⟨1, ckB ⟨p.bs.toArray⟩ p.up, ⟨p.bs.toArray⟩⟩] := by simp [Pc.toks, h0, kwt]
          have hps : p.src = (ckB ⟨p.bs.toArray⟩ p.up).data.toList := by cases hu : p.up <;> simp [Pc.src, h0, ckB, hu]
          have hlt : ∀ b ∈ p.src, (97 ≤ b.toNat ∧ b.toNat ≤ 122) ∨ (65 ≤ b.toNat ∧ b.toNat ≤ 90) := by
            intro b hb
            have hu8 : ∀ x : UInt8, 97 ≤ x.toNat ∧ x.toNat ≤ 122 → 65 ≤ (upB x).toNat ∧ (upB x).toNat ≤ 90 := up_let
            cases hu : p.up with
            | false => rw [show p.src = p.bs by simp [Pc.src, h0, hu]] at hb; exact .inl (h2 b hb)
            | true =>
              rw [show p.src = p.bs.map upB by simp [Pc.src, h0, hu]] at hb
              obtain ⟨x, hx, rfl⟩ := List.mem_map.1 hb
              exact .inr (hu8 x (h2 x hx))
          have hsl : p.src.length = p.bs.length := by cases hu : p.up <;> simp [Pc.src, h0, hu]
          have hbl : 1 ≤ p.src.length := by rw [hsl]; exact List.length_pos_iff.2 h1
          obtain ⟨c, bt, hbs⟩ : ∃ c bt, p.src = c :: bt := by
            cases hb : p.src with
            | nil => rw [hb] at hbl; simp at hbl
            | cons c bt => exact ⟨c, bt, rfl⟩
          have b0 := byteAt_mid (s := s) (pre := srcOf don) (b := c) (suf := bt ++ srcOf rem) (by rw [htx, hbs]; simp)
          rw [hdl] at b0
          have hi1 : i < s.size := b0.1
          have hi1' : (i : Int) < (s.size : Int) := by omega
          have e1 : (s[i].toNat : Int) = (c.toNat : Int) := by rw [← byteAt_eq s i hi1]; exact b0.2
          have hc := hlt c (by rw [hbs]; simp)
          have hdg : digB (c.toNat : Int) = false := by unfold digB; rcases hc with hc | hc <;> simp <;> omega
          have hst : startB (c.toNat : Int) = true := by unfold startB; rcases hc with hc | hc <;> simp <;> omega
          have k1 : ((c.toNat : Int) == 32) = false := beq_eq_false_iff_ne.2 (by omega)
          have k2 : ((c.toNat : Int) == 9) = false := beq_eq_false_iff_ne.2 (by omega)
          have k3 : ((c.toNat : Int) == 10) = false := beq_eq_false_iff_ne.2 (by omega)
          have k4 : ((c.toNat : Int) == 13) = false := beq_eq_false_iff_ne.2 (by omega)
          have k5 : ((c.toNat : Int) == 12) = false := beq_eq_false_iff_ne.2 (by omega)
          have k6 : ((c.toNat : Int) == 11) = false := beq_eq_false_iff_ne.2 (by omega)
          have hjs : i + p.src.length ≤ s.size := by rw [hl.out, htx, ← hdl]; simp
          have hin : ∀ k, i + 1 ≤ k → k < i + p.src.length → partB (byteAt s k) = true := fun k hk1 hk2 => by
            obtain ⟨b, hb, he⟩ := byteAt_in htx k (by omega) (by omega)
            rw [he]
            unfold partB startB
            rcases hlt b hb with h | h <;> simp <;> omega
          have hen : i + p.src.length < s.size → partB (byteAt s (i + p.src.length)) = false := fun hk => by
            have := byteAt_end htx partB h3 (by rw [hdl]; exact hk)
            rw [hdl] at this
            exact this
          have hex : s.extract i (i + p.src.length) = ⟨p.src.toArray⟩ := by rw [← hdl]; exact ext_mid htx
          have hfo := fold_any ⟨p.bs.toArray⟩ p.up wr.drew (fun b hb => h2 b (by simpa using hb)) (by show 0 < p.bs.toArray.size; simp; exact List.length_pos_iff.2 h1) (by show p.bs.toArray.size ≤ _; simp; omega)
          obtain ⟨j, hj⟩ : ∃ j, j = i + p.src.length := ⟨_, rfl⟩
          obtain ⟨tx, htxe⟩ : ∃ tx : ByteArray, tx = ckB ⟨p.bs.toArray⟩ p.up := ⟨_, rfl⟩
          obtain ⟨nm, hnme⟩ : ∃ nm : ByteArray, nm = ⟨p.bs.toArray⟩ := ⟨_, rfl⟩
          have hsx : (⟨p.src.toArray⟩ : ByteArray) = tx := by rw [hps, htxe]
          rw [hsx] at hex
          rw [← htxe] at hfo hpt
          rw [← hnme] at hfo hpt
          rw [← hj] at hin hen hex hjs
          have hij : i + 1 ≤ j := by omega
          have hij' : (i : Int) ≤ (j : Int) := by omega
          have hjs' : (j : Int) ≤ (s.size : Int) := by omega
          have hown := hL.own
          have hg := hL.g
          have hfew := hL.few HS.out hl.out HOK.out hsz
          have HN : Hid (OkL rem ∧ Full (don ++ [p]) ∧ ∀ v' w', w'.ownsRow w.heap.size 90 3 v' ((toksOf don).length + 1) (tokCells (toksOf don) ++ [.int .i64 1, .string tx, .string nm]) → w.grownBy w' none → LS w s ps (don ++ [p]) rem v' j w') := ⟨hok.2, full_snoc hfull (fun h => absurd (h0.symm.trans h) (by decide)), fun v' w' ho hgg => ⟨by rw [← hL.cut]; simp, by rw [srcOf_append, hj, ← hdl]; simp [srcOf], by rw [toksOf_append, toksOf_one, hpt, tokCells_snoc]; simpa [Tok.cells] using ho, hgg⟩⟩
          have hownA : ∀ w2, wr.drew.grownBy w2 none → (w2.alloc (.cells #[.int .i64 1, .string tx, .string nm] 90)).ownsRow w.heap.size 90 3 u4 (toksOf don).length (tokCells (toksOf don)) := fun w2 h => ((World.ownsRow.drew hown).kept h (own_or _)).alloc _
          have hbwA : ∀ w2, wr.drew.grownBy w2 none → w.heap.size ≤ (w2.alloc (.cells #[.int .i64 1, .string tx, .string nm] 90)).heap.size := fun w2 h => by have := hg.size; have h2 := h.size; have e3 : wr.drew.heap.size = wr.heap.size := rfl; simp; omega
          have hgA : Hid (∀ w2, wr.drew.grownBy w2 none → w.grownBy (w2.alloc (.cells #[.int .i64 1, .string tx, .string nm] 90)) none) := fun w2 h => (grown_trans hg.drw h).alc _
          have hlow : Hid (∀ j, u4.ownBlock = some j → w.heap.size ≤ j) := fun j hj => (hown.lt j hj).1
          have HI : Hid ((∀ k, i + 1 ≤ k → k < j → partB (byteAt s k) = true) ∧ (j < s.size → partB (byteAt s j) = false)) := ⟨hin, hen⟩
          clear hL hL' hpo hok hfull htx hdl hps hpt h0 h1 h1l h2 h3 htxe hnme hsx hj b0 hbs hbl hsl hlt hc hown hg hin hen
          go_wp2_with (first
            | (go_at_call 23; refine (isDigit_any _ _).mono ?_; rintro e w' ⟨rfl, rfl⟩; rw [hdg])
            | (go_at_call 25; refine (isIdentStart_any _ _).mono ?_; rintro e w' ⟨rfl, rfl⟩; rw [hst]))
          obtain ⟨ga, hga⟩ : ∃ g, g = gk := ⟨gk, rfl⟩
          rw [← hga] at hgk
          have HGA : Hid (ga = gk) := hga
          clear hga
          go_loopg [8] (j - (i + 1)) (fun g kv wx => ∃ k : Nat, g = j - k ∧ i + 1 ≤ k ∧ k ≤ j ∧ kv = .int .i64 k ∧ wx = wr)
          case atStart => exact ⟨i + 1, rfl, Nat.le_refl _, hij, by simp, rfl⟩
          case round =>
            obtain ⟨k, hgk2, hk1, hk2, rfl, hwx⟩ := hrel
            rw [hwx]
            clear hwx
            by_cases hkj : k < j
            · have hks : k < s.size := by omega
              have hks' : (k : Int) < (s.size : Int) := by omega
              have hpk : partB (s[k].toNat : Int) = true := by rw [← byteAt_eq s k hks]; exact HI.out.1 k hk1 hkj
              go_wp2_with (first
                | (go_at_call 26; refine (isIdentPart_any _ _).mono ?_; rintro e w' ⟨rfl, rfl⟩; rw [hpk]))
              go_roundg (gk - 1)
              case measure => omega
              case rel => exact ⟨k + 1, by omega, by omega, by omega, by simp, rfl⟩
            · have hkj2 : j = k := by omega
              subst hkj2
              by_cases hjz : j < s.size
              · have hjz' : (j : Int) < (s.size : Int) := by omega
                have hpk : partB (s[j].toNat : Int) = false := by rw [← byteAt_eq s j hjz]; exact HI.out.2 hjz
                go_wp2_with (first
                  | (go_at_call 26; refine (isIdentPart_any _ _).mono ?_; rintro e w' ⟨rfl, rfl⟩; rw [hpk]))
                go_region_held3 (fun _ => True) (trivial) (first
                  | (go_at_call 27; refine hfo.mono ?_; rintro e w2 ⟨rfl, hg2⟩; have hB := hownA _ hg2; have hbw := hbwA _ hg2; have hgw := hgA.out _ hg2)
                  | (refine step_append_own rfl (.tmp 111) (.tmp 122) 77 rfl w.heap.size 90 i0 zTok 3 40 Ybaz.underlying77 hi' hz0 hz1 hz2 rfl (by decide) u4 _ _ hB (by simp [Act.eval]) ⟨w2.heap.size, 0, none⟩ 1 1 [.int .i64 1, .string tx, .string nm] (by simp [Act.eval]) rfl (news3 _ _ _ _) (ones3 _ _ _ _) (by simp only [maxLen]; omega) (by omega) hbw ?_; intro v' w3 hown2 hgrow; have HN2 : Hid (LS w s ps (don ++ [p]) rem v' j w3) := HN.out.2.2 v' w3 hown2 (grown_new hgw hgrow hlow.out); clear hown2 hgrow))
                go_wp2_with fail
                go_roundg (ga - 1)
                case measure => simp at hgk; have := HGA.out; omega
                case rel => exact ⟨don ++ [p], rem, j, by simp at hgk; omega, by simp, HN.out.1, HN.out.2.1, HN2.out⟩
              · have hjz' : ¬ ((j : Int) < (s.size : Int)) := by omega
                go_wp2_with fail
                go_region_held3 (fun _ => True) (trivial) (first
                  | (go_at_call 27; refine hfo.mono ?_; rintro e w2 ⟨rfl, hg2⟩; have hB := hownA _ hg2; have hbw := hbwA _ hg2; have hgw := hgA.out _ hg2)
                  | (refine step_append_own rfl (.tmp 111) (.tmp 122) 77 rfl w.heap.size 90 i0 zTok 3 40 Ybaz.underlying77 hi' hz0 hz1 hz2 rfl (by decide) u4 _ _ hB (by simp [Act.eval]) ⟨w2.heap.size, 0, none⟩ 1 1 [.int .i64 1, .string tx, .string nm] (by simp [Act.eval]) rfl (news3 _ _ _ _) (ones3 _ _ _ _) (by simp only [maxLen]; omega) (by omega) hbw ?_; intro v' w3 hown2 hgrow; have HN2 : Hid (LS w s ps (don ++ [p]) rem v' j w3) := HN.out.2.2 v' w3 hown2 (grown_new hgw hgrow hlow.out); clear hown2 hgrow))
                go_wp2_with fail
                go_roundg (ga - 1)
                case measure => simp at hgk; have := HGA.out; omega
                case rel => exact ⟨don ++ [p], rem, j, by simp at hgk; omega, by simp, HN.out.1, HN.out.2.1, HN2.out⟩
      · as_aux_lemma =>
          have hps : p.src = 34 :: (dblB p.bs ++ [34]) := by simp [Pc.src, h0]
          have hpt : p.toks = [⟨2, ⟨(34 :: (dblB p.bs ++ [34])).toArray⟩, ⟨p.bs.toArray⟩⟩] := by simp [Pc.toks, h0]
          by_cases hne : p.bs = []
          · have hps2 : p.src = [34, 34] := by rw [hps, hne]; rfl
            rw [hps2] at htx
            have b0 := byteAt_mid (s := s) (pre := srcOf don) (b := 34) (suf := 34 :: srcOf rem) (by rw [htx]; simp)
            rw [hdl] at b0
            have hi1 : i < s.size := b0.1
            have hi1' : (i : Int) < (s.size : Int) := by omega
            have hi1'' : (i : Int) ≤ (s.size : Int) := by omega
            have e1 : (s[i].toNat : Int) = 34 := by rw [← byteAt_eq s i hi1]; exact b0.2
            have hx : (s.extract i s.size).data.toList = 34 :: 34 :: srcOf rem := by
              rw [ext_eq, hl.out, List.take_length, htx, ← hdl]
              simp
            have hxs : (s.extract i s.size).size ≤ 100000000 := by
              have : (s.extract i s.size).size = (s.extract i s.size).data.toList.length := by rw [Array.length_toList]; rfl
              have h2 : s.data.toList.length = (srcOf don).length + (s.extract i s.size).data.toList.length := by rw [hx, htx]; simp
              have := hl.out
              omega
            have hq := quoted_bad F (s.extract i s.size) (srcOf rem) wr (by rw [hL.g.tape]; exact HF.out) hx h1 hxs
            have HB : Hid (¬ Full ps) := fun hf => hf p (by rw [← hL.cut]; simp) h0 hne
            have hg := hL.g
            clear hL hL' hpo hok hfull htx hdl hps hpt h0 h1 hx hxs b0 hne hps2
            go_wp2_with (first
              | (go_at_call 23; refine (isDigit_any _ _).mono ?_; rintro e w' ⟨rfl, rfl⟩; rw [show digB 34 = false by decide])
              | (go_at_call 25; refine (isIdentStart_any _ _).mono ?_; rintro e w' ⟨rfl, rfl⟩; rw [show startB 34 = false by decide])
              | (go_at_call 28; refine hq.mono ?_; rintro e w2 ⟨u, rfl, ⟨bb, rfl⟩, hg2⟩))
            go_ret2
            exact .inr ⟨HB.out, _, _, rfl, ⟨bb, rfl⟩, (grown_trans hg hg2).alc _⟩
          rw [hps] at htx
          have b0 := byteAt_mid (s := s) (pre := srcOf don) (b := 34) (suf := dblB p.bs ++ [34] ++ srcOf rem) (by rw [htx]; simp)
          rw [hdl] at b0
          have hi1 : i < s.size := b0.1
          have hi1' : (i : Int) < (s.size : Int) := by omega
          have hi1'' : (i : Int) ≤ (s.size : Int) := by omega
          have e1 : (s[i].toNat : Int) = 34 := by rw [← byteAt_eq s i hi1]; exact b0.2
          have hx : (s.extract i s.size).data.toList = 34 :: (dblB p.bs ++ 34 :: srcOf rem) := by
            rw [ext_eq, hl.out, List.take_length, htx, ← hdl]
            simp
          have hxs : (s.extract i s.size).size ≤ 100000000 := by
            have : (s.extract i s.size).size = (s.extract i s.size).data.toList.length := by rw [Array.length_toList]; rfl
            have h2 : s.data.toList.length = (srcOf don).length + (s.extract i s.size).data.toList.length := by rw [hx, htx]; simp
            have := hl.out
            omega
          have hq := quoted_ok (s.extract i s.size) p.bs (srcOf rem) wr hx h1 hne hxs
          have hlen : i + ((dblB p.bs).length + 2) ≤ s.size := by
            rw [hl.out, htx]
            simp
            omega
          have hwr : IntKind.i64.wrap ((i : Int) + (((dblB p.bs).length + 2 : Nat) : Int)) = (i : Int) + (((dblB p.bs).length + 2 : Nat) : Int) := by rw [IntKind.wrap_i64]; omega
          obtain ⟨tx, htxe⟩ : ∃ tx : ByteArray, tx = ⟨(34 :: (dblB p.bs ++ [34])).toArray⟩ := ⟨_, rfl⟩
          obtain ⟨nm, hnme⟩ : ∃ nm : ByteArray, nm = ⟨p.bs.toArray⟩ := ⟨_, rfl⟩
          obtain ⟨m, hm⟩ : ∃ m : Nat, m = (dblB p.bs).length + 2 := ⟨_, rfl⟩
          rw [← htxe, ← hnme, ← hm] at hq
          rw [← htxe, ← hnme] at hpt
          rw [← hm] at hwr hlen
          have hown := hL.own
          have hg := hL.g
          have hfew := hL.few HS.out hl.out HOK.out hsz
          have HN : Hid (OkL rem ∧ Full (don ++ [p]) ∧ ∀ v' w', w'.ownsRow w.heap.size 90 3 v' ((toksOf don).length + 1) (tokCells (toksOf don) ++ [.int .i64 2, .string tx, .string nm]) → w.grownBy w' none → LS w s ps (don ++ [p]) rem v' (i + m) w') := ⟨hok.2, full_snoc hfull (fun _ => hne), fun v' w' ho hgg => ⟨by rw [← hL.cut]; simp, by rw [srcOf_append, ← hdl, hm]; simp [srcOf, hps], by rw [toksOf_append, toksOf_one, hpt, tokCells_snoc]; simpa [Tok.cells] using ho, hgg⟩⟩
          clear hL hL' hpo hok hfull htx hdl hps hpt h0 h1 hx hxs htxe hnme hm b0 hne
          go_wp2_with (first
            | (go_at_call 23; refine (isDigit_any _ _).mono ?_; rintro e w' ⟨rfl, rfl⟩; rw [show digB 34 = false by decide])
            | (go_at_call 25; refine (isIdentStart_any _ _).mono ?_; rintro e w' ⟨rfl, rfl⟩; rw [show startB 34 = false by decide])
            | (go_at_call 28; refine hq.mono ?_; rintro e w2 ⟨rfl, hg2⟩; have hown1 := hown.kept hg2 (own_or _))
            | (at_builtin; refine wpList_append_own _ rfl (.tmp 207) (.tmp 209) 77 rfl w.heap.size 90 i0 zTok 3 40 Ybaz.underlying77 hi' hz0 hz1 hz2 rfl (by decide) _ _ _ rfl ((hown1.alloc _).alloc _) ⟨w2.heap.size + 1, 0, none⟩ 1 1 [.int .i64 2, .string tx, .string nm] rfl rfl (news3b _ _ _ _ _) (ones3 _ _ _ _) (by unfold maxLen; omega) (by omega) (le2 hg hg2 _ _) ?_; intro v' w3 hown2 hgrow _; have HN2 : Hid (LS w s ps (don ++ [p]) rem v' (i + m) w3) := HN.out.2.2 v' w3 hown2 (grown_new (((grown_trans hg hg2).alc _).alc _) hgrow (fun j hj => (hown.lt j hj).1)); clear hown2 hgrow))
          go_roundg (gk - 1)
          case measure => simp at hgk; omega
          case rel => exact ⟨don ++ [p], rem, i + m, by simp at hgk; omega, by simp, HN.out.1, HN.out.2.1, HN2.out⟩
      · have hps : p.src = p.bs := by simp [Pc.src, h0]
        have hpt : p.toks = [⟨3, ⟨p.bs.toArray⟩, ⟨p.bs.toArray⟩⟩] := by simp [Pc.toks, h0]
        rw [hps] at htx
        obtain ⟨c, bt, hbs⟩ : ∃ c bt, p.bs = c :: bt := by
          cases hb : p.bs with
          | nil => exact absurd hb h1
          | cons c bt => exact ⟨c, bt, rfl⟩
        have b0 := byteAt_mid (s := s) (pre := srcOf don) (b := c) (suf := bt ++ srcOf rem) (by rw [htx, hbs]; simp)
        rw [hdl] at b0
        have hi1 : i < s.size := b0.1
        have hi1' : (i : Int) < (s.size : Int) := by omega
        have e1 : (s[i].toNat : Int) = (c.toNat : Int) := by rw [← byteAt_eq s i hi1]; exact b0.2
        have hdg : digB (c.toNat : Int) = true := h2 c (by rw [hbs]; simp)
        have hr : 48 ≤ (c.toNat : Int) ∧ (c.toNat : Int) ≤ 57 := by simpa [digB] using hdg
        have k1 : ((c.toNat : Int) == 32) = false := beq_eq_false_iff_ne.2 (by omega)
        have k2 : ((c.toNat : Int) == 9) = false := beq_eq_false_iff_ne.2 (by omega)
        have k3 : ((c.toNat : Int) == 10) = false := beq_eq_false_iff_ne.2 (by omega)
        have k4 : ((c.toNat : Int) == 13) = false := beq_eq_false_iff_ne.2 (by omega)
        have k5 : ((c.toNat : Int) == 12) = false := beq_eq_false_iff_ne.2 (by omega)
        have k6 : ((c.toNat : Int) == 11) = false := beq_eq_false_iff_ne.2 (by omega)
        have hbl : 1 ≤ p.bs.length := by rw [hbs]; simp
        have hjs : i + p.bs.length ≤ s.size := by rw [hl.out, htx, ← hdl]; simp
        have hde := digitsEnd_any s (i + 1) (i + p.bs.length) wr (by omega) hjs
          (fun k hk1 hk2 => by
            obtain ⟨b, hb, he⟩ := byteAt_in htx k (by omega) (by omega)
            rw [he]; exact h2 b hb)
          (fun hk => by
            have := byteAt_end htx digB h3 (by rw [hdl]; exact hk)
            rw [hdl] at this; exact this) (by omega)
        have hex : s.extract i (i + p.bs.length) = ⟨p.bs.toArray⟩ := by rw [← hdl]; exact ext_mid htx
        obtain ⟨j, hj⟩ : ∃ j, j = i + p.bs.length := ⟨_, rfl⟩
        obtain ⟨tx, htxe⟩ : ∃ tx : ByteArray, tx = ⟨p.bs.toArray⟩ := ⟨_, rfl⟩
        rw [← htxe] at hex hpt
        rw [← hj] at hde hex hjs
        have hij : (i : Int) ≤ (j : Int) := by omega
        have hjs' : (j : Int) ≤ (s.size : Int) := by omega
        have hown := hL.own
        have hg := hL.g
        have hfew := hL.few HS.out hl.out HOK.out hsz
        have HN : Hid (OkL rem ∧ Full (don ++ [p]) ∧ ∀ v' w', w'.ownsRow w.heap.size 90 3 v' ((toksOf don).length + 1) (tokCells (toksOf don) ++ [.int .i64 3, .string tx, .string tx]) → w.grownBy w' none → LS w s ps (don ++ [p]) rem v' j w') := ⟨hok.2, full_snoc hfull (fun h => absurd (h0.symm.trans h) (by decide)), fun v' w' ho hgg => ⟨by rw [← hL.cut]; simp, by rw [srcOf_append, hj, ← hdl]; simp [srcOf, hps], by rw [toksOf_append, toksOf_one, hpt, tokCells_snoc]; simpa [Tok.cells] using ho, hgg⟩⟩
        have hownA : (wr.drew.alloc (.cells #[.int .i64 3, .string tx, .string tx] 90)).ownsRow w.heap.size 90 3 u4 (toksOf don).length (tokCells (toksOf don)) := (World.ownsRow.drew hown).alloc _
        have hbwA : w.heap.size ≤ (wr.drew.alloc (.cells #[.int .i64 3, .string tx, .string tx] 90)).heap.size := by have := hg.size; simp; omega
        have hgA : Hid (w.grownBy (wr.drew.alloc (.cells #[.int .i64 3, .string tx, .string tx] 90)) none) := hg.drw.alc _
        have hnewsA := news3 wr.drew (.int .i64 3) (.string tx) (.string tx)
        have hlow : Hid (∀ j, u4.ownBlock = some j → w.heap.size ≤ j) := fun j hj => (hown.lt j hj).1
        clear hL hL' hpo hok hfull htx hdl hps hpt h0 h1 h2 h3 htxe hj b0 hbs hbl hr hown hg
        go_wp2_with (first
          | (go_at_call 23; refine (isDigit_any _ _).mono ?_; rintro e w' ⟨rfl, rfl⟩; rw [hdg])
          | (go_at_call 24; refine hde.mono ?_; rintro e w' ⟨rfl, rfl⟩))
        go_region_law (refine step_append_own rfl (.tmp 81) (.tmp 91) 77 rfl w.heap.size 90 i0 zTok 3 40 Ybaz.underlying77 hi' hz0 hz1 hz2 rfl (by decide) u4 _ _ hownA (by simp [Act.eval, Act.put]) ⟨wr.heap.size, 0, none⟩ 1 1 [.int .i64 3, .string tx, .string tx] (by simp [Act.eval, Act.put]) rfl hnewsA (ones3 _ _ _ _) (by simp only [maxLen]; omega) (by omega) hbwA ?_; intro v' w2 hown2 hgrow; have HN2 : Hid (LS w s ps (don ++ [p]) rem v' j w2) := HN.out.2.2 v' w2 hown2 (grown_new hgA.out hgrow hlow.out); clear hown2 hgrow)
        go_wp2_with fail
        go_roundg (gk - 1)
        case measure => simp at hgk; omega
        case rel => exact ⟨don ++ [p], rem, j, by simp at hgk; omega, by simp, HN.out.1, HN.out.2.1, HN2.out⟩
      · as_aux_lemma =>
          have hps : p.src = [c] := by simp [Pc.src, h0, h1]
          have hpt : p.toks = [opt ⟨#[c]⟩] := by simp [Pc.toks, h0, h1]
          rw [hps] at htx
          have b0 := byteAt_mid (s := s) (pre := srcOf don) (b := c) (suf := srcOf rem) htx
          rw [hdl] at b0
          have hi1 : i < s.size := b0.1
          have hi1' : (i : Int) < (s.size : Int) := by omega
          have hi1'' : (i : Int) ≤ (s.size : Int) := by omega
          have e1 : (s[i].toNat : Int) = (c.toNat : Int) := by rw [← byteAt_eq s i hi1]; exact b0.2
          have hx : (s.extract i s.size).data.toList = c :: srcOf rem := by
            rw [ext_eq, hl.out, List.take_length, htx, ← hdl]
            simp
          have hop := operator_any (s.extract i s.size) c (srcOf rem) wr hx h2
          have hdg : digB (c.toNat : Int) = false := by rcases h2 with h | h | h | h | h <;> rw [h] <;> decide
          have hid : startB (c.toNat : Int) = false := by rcases h2 with h | h | h | h | h <;> rw [h] <;> decide
          have hcs : ∀ n ∈ ([32, 9, 10, 13, 12, 11, 36, 39, 34] : List Int), ((c.toNat : Int) == n) = false := by
            intro n hn
            simp at hn
            rcases h2 with h | h | h | h | h <;> rw [h] <;> rcases hn with rfl | rfl | rfl | rfl | rfl | rfl | rfl | rfl | rfl <;> decide
          have k1 := hcs 32 (by simp)
          have k2 := hcs 9 (by simp)
          have k3 := hcs 10 (by simp)
          have k4 := hcs 13 (by simp)
          have k5 := hcs 12 (by simp)
          have k6 := hcs 11 (by simp)
          have k7 := hcs 36 (by simp)
          have k8 := hcs 39 (by simp)
          have k9 := hcs 34 (by simp)
          have hown := hL.own
          have hg := hL.g
          have hfew := hL.few HS.out hl.out HOK.out hsz
          have hbw : w.heap.size ≤ (wr.alloc (.cells #[.int .i64 6, .string ⟨#[c]⟩, .string ⟨#[c]⟩] 90)).heap.size := by have := hg.size; simp; omega
          have HN : Hid (OkL rem ∧ Full (don ++ [p]) ∧ ∀ v' w', w'.ownsRow w.heap.size 90 3 v' ((toksOf don).length + 1) (tokCells (toksOf don) ++ [.int .i64 6, .string ⟨#[c]⟩, .string ⟨#[c]⟩]) → w.grownBy w' none → LS w s ps (don ++ [p]) rem v' (i + 1) w') := ⟨hok.2, full_snoc hfull (fun h => absurd (h0.symm.trans h) (by decide)), fun v' w' ho hgg => ⟨by rw [← hL.cut]; simp, by rw [srcOf_append, ← hdl]; simp [srcOf, hps], by rw [toksOf_append, toksOf_one, hpt, tokCells_snoc]; simpa [opt, Tok.cells] using ho, hgg⟩⟩
          clear hL hL' hpo hok hfull hps hpt h0 hcs hx
          have hnx : c = 45 → ∀ h : i + 1 < s.size, ((s[i + 1].toNat : Int) == 45) = false := by
            intro hc h
            refine beq_eq_false_iff_ne.2 (fun hx => ?_)
            cases hrm : srcOf rem with
            | nil =>
              rw [hrm] at htx
              have hh := h
              rw [hl.out, htx] at hh
              simp at hh
              omega
            | cons x rr =>
              rw [hrm] at htx h3
              have b2 := byteAt_mid (s := s) (pre := srcOf don ++ [c]) (b := x) (suf := rr) (by rw [htx]; simp)
              have hpl2 : (srcOf don ++ [c]).length = i + 1 := by simp [hdl]
              rw [hpl2, byteAt_eq s (i + 1) h, hx] at b2
              have h45 : x.toNat = 45 := by have := b2.2; omega
              exact h3 hc (by rw [show x = 45 from UInt8.toNat_inj.1 h45]; rfl)
          clear htx hdl
          by_cases h45 : c = 45
          · have hnx2 := hnx h45
            have k45 : ((c.toNat : Int) == 45) = true := by rw [h45]; decide
            clear hnx h2 h3 h45
            by_cases hi2 : i + 1 < s.size
            · have hi2' : (i : Int) + 1 < (s.size : Int) := by omega
              have e2 := hnx2 hi2
              clear hnx2
              go_wp2_with (first
                | (go_at_call 23; refine (isDigit_any _ _).mono ?_; rintro e w' ⟨rfl, rfl⟩; rw [hdg])
                | (go_at_call 25; refine (isIdentStart_any _ _).mono ?_; rintro e w' ⟨rfl, rfl⟩; rw [hid])
                | (go_at_call 29; refine hop.mono ?_; rintro e w' ⟨rfl, rfl⟩)
                | (at_builtin; refine wpList_append_own _ rfl (.tmp 39) (.tmp 43) 77 rfl w.heap.size 90 i0 zTok 3 40 Ybaz.underlying77 hi' hz0 hz1 hz2 rfl (by decide) _ _ _ rfl (hown.alloc _) ⟨wr.heap.size, 0, none⟩ 1 1 [.int .i64 6, .string ⟨#[c]⟩, .string ⟨#[c]⟩] rfl rfl (news3 _ _ _ _) (ones3 _ _ _ _) (by unfold maxLen; omega) (by omega) hbw ?_; intro v' w2 hown2 hgrow _; have HN2 : Hid (LS w s ps (don ++ [p]) rem v' (i + 1) w2) := HN.out.2.2 v' w2 hown2 (grown_new (hg.alc _) hgrow (fun j hj => (hown.lt j hj).1)); clear hown2 hgrow))
              go_roundg (gk - 1)
              case measure => simp at hgk; omega
              case rel => exact ⟨don ++ [p], rem, i + 1, by simp at hgk; omega, rfl, HN.out.1, HN.out.2.1, HN2.out⟩
            · have hi2' : ¬ ((i : Int) + 1 < (s.size : Int)) := by omega
              clear hnx2
              go_wp2_with (first
                | (go_at_call 23; refine (isDigit_any _ _).mono ?_; rintro e w' ⟨rfl, rfl⟩; rw [hdg])
                | (go_at_call 25; refine (isIdentStart_any _ _).mono ?_; rintro e w' ⟨rfl, rfl⟩; rw [hid])
                | (go_at_call 29; refine hop.mono ?_; rintro e w' ⟨rfl, rfl⟩)
                | (at_builtin; refine wpList_append_own _ rfl (.tmp 39) (.tmp 43) 77 rfl w.heap.size 90 i0 zTok 3 40 Ybaz.underlying77 hi' hz0 hz1 hz2 rfl (by decide) _ _ _ rfl (hown.alloc _) ⟨wr.heap.size, 0, none⟩ 1 1 [.int .i64 6, .string ⟨#[c]⟩, .string ⟨#[c]⟩] rfl rfl (news3 _ _ _ _) (ones3 _ _ _ _) (by unfold maxLen; omega) (by omega) hbw ?_; intro v' w2 hown2 hgrow _; have HN2 : Hid (LS w s ps (don ++ [p]) rem v' (i + 1) w2) := HN.out.2.2 v' w2 hown2 (grown_new (hg.alc _) hgrow (fun j hj => (hown.lt j hj).1)); clear hown2 hgrow))
              go_roundg (gk - 1)
              case measure => simp at hgk; omega
              case rel => exact ⟨don ++ [p], rem, i + 1, by simp at hgk; omega, rfl, HN.out.1, HN.out.2.1, HN2.out⟩
          · have k45 : ((c.toNat : Int) == 45) = false := beq_eq_false_iff_ne.2 (fun h => h45 (UInt8.toNat_inj.1 (by show c.toNat = 45; omega)))
            clear h45 h2 h3 hnx
            go_wp2_with (first
              | (go_at_call 23; refine (isDigit_any _ _).mono ?_; rintro e w' ⟨rfl, rfl⟩; rw [hdg])
              | (go_at_call 25; refine (isIdentStart_any _ _).mono ?_; rintro e w' ⟨rfl, rfl⟩; rw [hid])
              | (go_at_call 29; refine hop.mono ?_; rintro e w' ⟨rfl, rfl⟩)
              | (at_builtin; refine wpList_append_own _ rfl (.tmp 39) (.tmp 43) 77 rfl w.heap.size 90 i0 zTok 3 40 Ybaz.underlying77 hi' hz0 hz1 hz2 rfl (by decide) _ _ _ rfl (hown.alloc _) ⟨wr.heap.size, 0, none⟩ 1 1 [.int .i64 6, .string ⟨#[c]⟩, .string ⟨#[c]⟩] rfl rfl (news3 _ _ _ _) (ones3 _ _ _ _) (by unfold maxLen; omega) (by omega) hbw ?_; intro v' w2 hown2 hgrow _; have HN2 : Hid (LS w s ps (don ++ [p]) rem v' (i + 1) w2) := HN.out.2.2 v' w2 hown2 (grown_new (hg.alc _) hgrow (fun j hj => (hown.lt j hj).1)); clear hown2 hgrow))
            go_roundg (gk - 1)
            case measure => simp at hgk; omega
            case rel => exact ⟨don ++ [p], rem, i + 1, by simp at hgk; omega, rfl, HN.out.1, HN.out.2.1, HN2.out⟩

theorem lex_ok (F : Interp) (s : ByteArray) (ps : List Pc) (w : World) (hF : F.answers w.tape) (hs : s.data.toList = srcOf ps) (hok : OkL ps) (hsz : s.size ≤ 100000000) (hf : Full ps) :
    Calls Ybaz.prog 13 #[.string s] w fun e w' => ∃ v, e = .returned (.tuple #[v, .nilIface]) ∧ w'.ownsRow w.heap.size 90 3 v ((toksOf ps).length + 1) (tokCells (toksOf ps ++ [⟨0, ⟨#[]⟩, ⟨#[]⟩⟩])) ∧ w.grownBy w' none :=
  (lex_any F s ps w hF hs hok hsz).mono fun e w' h => by
    rcases h with h | h
    · exact h.2
    · exact absurd hf h.1
theorem lex_bad (F : Interp) (s : ByteArray) (ps : List Pc) (w : World) (hF : F.answers w.tape) (hs : s.data.toList = srcOf ps) (hok : OkL ps) (hsz : s.size ≤ 100000000) (hf : ¬ Full ps) :
    Calls Ybaz.prog 13 #[.string s] w fun e w' => ∃ v u, e = .returned (.tuple #[v, u]) ∧ IsErr u ∧ w.grownBy w' none :=
  (lex_any F s ps w hF hs hok hsz).mono fun e w' h => by
    rcases h with h | h
    · exact absurd h.1 hf
    · exact h.2

end Go.Proofs.YbulkexobaGreatFmt
