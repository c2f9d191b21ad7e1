/-
  dropTable: the item that commaList calls; commaList over it; dropTable.
-/
import Derived.Test.YbulkexobaGreatFmtVacuum
import Derived.Deep.RegionLaw
namespace Go.Proofs.YbulkexobaGreatFmt
open Go.RowKit Go.Extern.Stop Go.Stop Go.Extern

/-- append to a row that the call owns, as one step of a region that draws. -/
theorem step_append_own {P : Program} {ops : Array Oper} {o : Oper} {a : Act} {w : World} {K : Act → World → Prop} {Q : Exit → Act → World → Prop} {E : Prop}
    (hg : o.guard = none) (s x : Operand) (t : TypeId) (hop : o.op = Op.call { callee := Callee.builtin Builtin.append, args := #[s, x], argTypes := #[t, t] })
    (base : Nat) (e : TypeId) (i : TypeInfo) (z : Value) (size bytes : Nat) (h1 : P.underlying t = some (.slice e)) (h2 : P.info? e = some i) (h3 : i.zero = some z) (h4 : i.size = size) (h5 : i.bytes = bytes) (h6 : z.cells.size = size) (h7 : 0 < size)
    (v : Value) (n : Nat) (xs : List Value) (hown : w.ownsRow base e size v n xs) (hs : a.eval s = v)
    (ad : Addr) (m c : Nat) (news : List Value) (hx : a.eval x = .slice (some ad) m c) (hn : news.length = m * size) (hc : ∀ j u, news[j]? = some u → w.cell? (ad.add j) = some u) (h1c : ∀ u ∈ news, u.oneCell' = true)
    (b1 : n + m ≤ maxLen) (b2 : (n + m) * bytes ≤ 140737488355328) (hb : base ≤ w.heap.size)
    (hK : ∀ v' w', w'.ownsRow base e size v' (n + m) (xs ++ news) → w.grownBy w' v.ownBlock → K (a.put o.dst v') w') :
    if Region.wanted o (yielded ops a.tmps) = true then Oper.wp P o a w K Q else E := by
  have hw : Region.wanted o (yielded ops a.tmps) = true := by simp [Region.wanted, hg]
  rw [if_pos hw]
  obtain ⟨v', w', hrun, r1, r2, _⟩ := run_append_own (P := P) w base t o.type e i z size bytes h1 h2 h3 h4 h5 h6 h7 v n xs hown ad m c news hn hc h1c b1 b2 hb
  unfold Oper.wp
  simp [execOp, hop, resolve, invoke, builtin, hs, hx, hrun, Result.andThen]
  exact hK v' w' r1 r2

theorem Ybaz.info9 : (Ybaz.prog.info? 9).map (fun i => (i.zero, i.size, i.bytes)) = some (some (.string ⟨#[]⟩), 1, 16) := by kernel_rfl
theorem Ybaz.info5 : (Ybaz.prog.info? 5).map (fun i => (i.zero, i.size, i.bytes)) = some (some (.int .u8 0), 1, 1) := by kernel_rfl

theorem info_parts {P : Program} {e : TypeId} {z : Value} {s b : Nat} (h : (P.info? e).map (fun i => (i.zero, i.size, i.bytes)) = some (some z, s, b)) : ∃ i, P.info? e = some i ∧ i.zero = some z ∧ i.size = s ∧ i.bytes = b := by
  obtain ⟨i, h1, h2⟩ := Option.map_eq_some_iff.1 h
  simp only [Prod.mk.injEq] at h2
  exact ⟨i, h1, h2.1, h2.2.1, h2.2.2⟩

theorem grown_new {a b c : World} {row row' : Option Nat} (h : a.grownBy b row) (k : b.grownBy c row') (hr : ∀ j, row' = some j → a.heap.size ≤ j) : a.grownBy c row :=
  ⟨k.os.trans h.os, k.tape.trans h.tape, k.output.trans h.output, Nat.le_trans h.size k.size, fun i hi hne => (k.block i (Nat.lt_of_lt_of_le hi h.size) (fun e => by have := hr i e.symm; omega)).trans (h.block i hi hne)⟩

/-- The statement under way, in memory. -/
structure DS (L : Lay) (pp dv d base : Nat) (ifx : Bool) (v : Value) (names : List ByteArray) (w : World) : Prop where
  hpp : w.heap[pp]? = some (.cells #[.pointer (some ⟨L.p, 0, none⟩)] 80 (0, 0))
  hdv : w.heap[dv]? = some (.cells #[.pointer (some ⟨d, 0, none⟩)] 65 (0, 0))
  hd : w.heap[d]? = some (.cells #[v, .bool ifx] 68 (0, 0))
  own : w.ownsRow base 9 1 v names.length (names.map .string)
  bd : base ≤ d
  bw : base ≤ w.heap.size

section
variable {L : Lay} {pp dv d base : Nat} {ifx : Bool} {v : Value} {names : List ByteArray} {w w' : World}

theorem own_blk {w : World} {base e sz n : Nat} {v : Value} {xs : List Value} (h : w.ownsRow base e sz v n xs) {g : Nat} (hg : v.ownBlock = some g) : ∃ cur, w.heap[g]? = some (.cells cur e (0, 0)) := by
  rcases h.2 with ⟨rfl, _⟩ | ⟨g', cap, cur, rfl, _, hgg, _⟩
  · simp [Value.ownBlock] at hg
  · simp [Value.ownBlock] at hg
    subst hg
    exact ⟨cur, hgg⟩

theorem DS.later (h : DS L pp dv d base ifx v names w) (hg : w.grownBy w' none) : DS L pp dv d base ifx v names w' where
  hpp := blk_later h.hpp hg
  hdv := blk_later h.hdv hg
  hd := blk_later h.hd hg
  own := h.own.kept hg (by cases v.ownBlock <;> simp)
  bd := h.bd
  bw := Nat.le_trans h.bw hg.size

theorem DS.step {ts : List Tok} (h : DS L pp dv d base ifx v names w) (ha : At L ts w) (hg : w.grownBy w' (some L.p)) : DS L pp dv d base ifx v names w' where
  hpp := blk_later' h.hpp hg (At.ne ha h.hpp (by decide))
  hdv := blk_later' h.hdv hg (At.ne ha h.hdv (by decide))
  hd := blk_later' h.hd hg (At.ne ha h.hd (by decide))
  own := h.own.kept hg (by
    cases hv : v.ownBlock with
    | none => exact .inl rfl
    | some g =>
      obtain ⟨cur, hc⟩ := own_blk h.own hv
      exact .inr (by simpa using At.ne ha hc (by decide)))
  bd := h.bd
  bw := Nat.le_trans h.bw hg.size
/-- Behind an append to the names. -/
theorem own_keep {b : Nat} {cs : Array Value} {ty : TypeId} {fr : Nat × Nat} {n : Nat} {xs : List Value} (h : w.ownsRow base 9 1 v n xs) (hg : w.grownBy w' v.ownBlock) (hb : w.heap[b]? = some (.cells cs ty fr)) (hty : ty ≠ 9) : w'.heap[b]? = some (.cells cs ty fr) := by
  rw [hg.block b (Array.getElem?_eq_some_iff.1 hb).1 (fun e => by
    obtain ⟨cur, hc⟩ := own_blk h e.symm
    exact blk_ne hc hb (Ne.symm hty) rfl)]
  exact hb
theorem own_form {w : World} {base e sz n : Nat} {v : Value} {xs : List Value} (h : w.ownsRow base e sz v (n + 1) xs) : ∃ g cap, v = .slice (some ⟨g, 0, none⟩) (n + 1) cap := by
  rcases h.2 with ⟨_, hn⟩ | ⟨g, cap, _, hg, _⟩
  · omega
  · exact ⟨g, cap, hg⟩
theorem At.keep {ts : List Tok} {n : Nat} {xs : List Value} (ha : At L ts w) (h : w.ownsRow base 9 1 v n xs) (hg : w.grownBy w' v.ownBlock) : At L ts w' := by
  obtain ⟨k, hk, ha⟩ := ha
  exact ⟨k, hk, own_keep h hg ha.p (by decide), own_keep h hg ha.t (by decide), ha.h, ha.n⟩
theorem ownsRow_setOther {n : Nat} {xs : List Value} (h : w.ownsRow base 9 1 v n xs) {b : Nat} {cs : Array Value} {tb : TypeId} (hb : w.heap[b]? = some (.cells cs tb (0, 0))) (hne : 9 ≠ tb) (j : Nat) (u : Value) :
    (w.setCell ⟨b, j, none⟩ u).ownsRow base 9 1 v n xs := by
  refine ⟨h.1, ?_⟩
  rcases h.2 with hn | ⟨g, cap, cur, hv, h1, hgg, rest⟩
  · exact .inl hn
  · refine .inr ⟨g, cap, cur, hv, h1, ?_, rest⟩
    rw [Below.heap_setCell _ _ _ _ (by exact blk_ne hgg hb hne)]
    exact hgg
/-- The statement under way behind the item's append and store. -/
theorem DS.put {v' : Value} (h : DS L pp dv d base ifx v names w) (hg : w.grownBy w' v.ownBlock) (s : ByteArray) (hown : w'.ownsRow base 9 1 v' (names.length + 1) (names.map .string ++ [.string s])) :
    DS L pp dv d base ifx v' (names ++ [s]) (w'.setCell ⟨d, 0, none⟩ v') where
  hpp := by
    have hd' := own_keep h.own hg h.hd (by decide)
    have := own_keep h.own hg h.hpp (by decide)
    rw [Below.heap_setCell _ _ _ _ (by exact blk_ne this hd' (by decide))]; exact this
  hdv := by
    have hd' := own_keep h.own hg h.hd (by decide)
    have := own_keep h.own hg h.hdv (by decide)
    rw [Below.heap_setCell _ _ _ _ (by exact blk_ne this hd' (by decide))]; exact this
  hd := by
    rw [heap_setCell_same _ _ _ _ _ _ (own_keep h.own hg h.hd (by decide))]; rfl
  own := by
    have := ownsRow_setOther hown (own_keep h.own hg h.hd (by decide)) (by decide) 0 v'
    simpa using this
  bd := h.bd
  bw := by
    have := hg.size
    have := h.bw
    simp [World.setCell]
    omega
end

set_option linter.unusedSimpArgs false in
set_option maxHeartbeats 2000000 in
/-- The item: whatever name answers. -/
theorem item_any {L : Lay} {pp dv d base : Nat} {ifx : Bool} {v : Value} {names : List ByteArray} {w w0 : World} {ts ts1 : List Tok} (s : ByteArray) (C : Value → Prop)
    (h : DS L pp dv d base ifx v names w) (ha : At L ts w) (h0 : w0.grownBy w (some L.p)) (hb0 : w0.heap.size ≤ base) (hlen : names.length ≤ 1000000)
    (hnm : Calls Ybaz.prog 44 #[.pointer (some ⟨L.p, 0, none⟩)] w fun e w1 => ∃ u, e = .returned (.tuple #[.string s, u]) ∧ C u ∧ At L ts1 w1 ∧ w.grownBy w1 (some L.p)) :
    Calls Ybaz.prog 66 #[.pointer (some ⟨pp, 0, none⟩), .pointer (some ⟨dv, 0, none⟩)] w fun e w' => ∃ u v', e = .returned u ∧ C u ∧ DS L pp dv d base ifx v' (names ++ [s]) w' ∧ At L ts1 w' ∧ w0.grownBy w' (some L.p) := by
  have c0 : w.cell? ⟨pp, 0, none⟩ = some (.pointer (some ⟨L.p, 0, none⟩)) := cells_at h.hpp 0
  go_enter Ybaz.func66, Ybaz.ntmps66
  go_wp2_with (go_at_call 44; refine hnm.mono ?_; rintro e w1 ⟨u, rfl, hu, ha1, hg1⟩)
  have h1 := h.step ha hg1
  have G1 := grown_trans h0 hg1
  clear hnm h ha hg1 h0 c0
  obtain ⟨i9, hi, hz0, hz1, hz2⟩ := info_parts Ybaz.info9
  have hS : ∀ w', w1.grownBy w' none → w'.cell? ⟨dv, 0, none⟩ = some (.pointer (some ⟨d, 0, none⟩)) := fun w' hg => cells_at (h1.later hg).hdv 0
  have G0 : w1.grownBy w1.drew none := (grown_refl w1 none).drw
  have GA : w1.grownBy (w1.drew.alloc (.cells #[.string s] 9)) none := G0.alc _
  have hd0 : w1.cell? ⟨d, 0, none⟩ = some v := cells_at h1.hd 0
  have hd1 : (w1.alloc (.cells #[.string s] 9)).cell? ⟨d, 0, none⟩ = some v := cells_at (h1.later ((grown_refl w1 none).alc _)).hd 0
  have hv0 : w1.cell? ⟨dv, 0, none⟩ = some (.pointer (some ⟨d, 0, none⟩)) := cells_at h1.hdv 0
  have hv1 : (w1.alloc (.cells #[.string s] 9)).cell? ⟨dv, 0, none⟩ = some (.pointer (some ⟨d, 0, none⟩)) := cells_at (h1.later ((grown_refl w1 none).alc _)).hdv 0
  have H1 : Hid (DS L pp dv d base ifx v names w1) := h1
  have HA1 : Hid (At L ts1 w1) := ha1
  clear h1 ha1
  have hadd : ∀ j, (⟨w1.heap.size, 0, none⟩ : Addr).add j = ⟨w1.heap.size, j, none⟩ := fun j => Addr.add_lit _ _ _ |>.trans (by simp)
  have hnews : ∀ j u, ([Value.string s] : List Value)[j]? = some u → (w1.drew.alloc (.cells #[.string s] 9)).cell? ((⟨w1.heap.size, 0, none⟩ : Addr).add j) = some u := by
    intro j u hu
    have hblk : (w1.drew.alloc (.cells #[.string s] 9)).heap[w1.heap.size]? = some (.cells #[.string s] 9 (0, 0)) := heap_alloc_new w1.drew _
    rw [hadd, cells_at hblk]
    simpa using hu
  have hv2 : ∀ w2, (w1.drew.alloc (.cells #[.string s] 9)).grownBy w2 v.ownBlock → w2.cell? ⟨dv, 0, none⟩ = some (.pointer (some ⟨d, 0, none⟩)) := fun w2 hg =>
    cells_at (own_keep (H1.out.later GA).own hg (H1.out.later GA).hdv (by decide)) 0
  have hd2 : ∀ w2, (w1.drew.alloc (.cells #[.string s] 9)).grownBy w2 v.ownBlock → w2.cell? ⟨d, 0, none⟩ = some v ∧ w2.frozen? ⟨d, 0, none⟩ = false := fun w2 hg =>
    ⟨cells_at (own_keep (H1.out.later GA).own hg (H1.out.later GA).hd (by decide)) 0, free_at (own_keep (H1.out.later GA).own hg (H1.out.later GA).hd (by decide)) 0⟩
  go_region_law (refine step_append_own rfl (.tmp 14) (.tmp 16) 22 rfl base 9 i9 (.string ⟨#[]⟩) 1 16 Ybaz.underlying22 hi hz0 hz1 hz2 rfl (by decide) v _ _ (H1.out.later GA).own (by simp [Act.eval, Act.put]) ⟨w1.heap.size, 0, none⟩ 1 1 [.string s] (by simp [Act.eval, Act.put]) rfl hnews (by simp [Value.oneCell']) (by simp only [maxLen]; omega) (by omega) (H1.out.later GA).bw ?_; intro v' w2 hown hgrow; have hc2 := (hd2 _ hgrow).1; have hv3 := hv2 _ hgrow; have hf2 := (hd2 _ hgrow).2; have HO : Hid (w2.ownsRow base 9 1 v' (names.length + 1) (names.map .string ++ [.string s])) := hown; have HG : Hid ((w1.drew.alloc (.cells #[.string s] 9)).grownBy w2 v.ownBlock) := hgrow; obtain ⟨g, cap, rfl⟩ := own_form hown; clear hown hgrow)
  all_goals (
    go_wp2_with fail
    go_ret
    refine ⟨u, _, rfl, hu, (H1.out.later GA).put HG.out s HO.out, ?_, ?_⟩
    · exact ((HA1.out.later GA).keep (H1.out.later GA).own HG.out).set (own_keep (H1.out.later GA).own HG.out (H1.out.later GA).hd (by decide)) (by decide) (by decide) 0 _
    · exact (grown_new (grown_trans G1 (grown_but GA _)) HG.out (fun j hj => Nat.le_trans hb0 (H1.out.own.lt j hj).1)).set _ _ (.inr (Nat.le_trans hb0 H1.out.bd)))

/-- Names behind the first, each behind a comma. -/
def sepToks : List Tok → List Tok → List Tok
  | [], rest => rest
  | q :: qs, rest => opt sComma :: q :: sepToks qs rest

set_option maxHeartbeats 2000000 in
/-- commaList over the item -/
theorem commas {L : Lay} {pp dv d base : Nat} {ifx : Bool} {w w0 : World} {q : Tok} {qs rs : List Tok} {r : Tok}
    (h : DS L pp dv d base ifx (.slice none 0 0) [] w) (ha : At L (q :: sepToks qs (r :: rs)) w) (h0 : w0.grownBy w (some L.p)) (hb0 : w0.heap.size ≤ base) (hlen : qs.length + 1 ≤ 1000000)
    (hq : ∀ t ∈ q :: qs, t.kind = 2) (hr : r.is 6 sComma = false) :
    Calls Ybaz.prog 65 #[.pointer (some ⟨L.p, 0, none⟩), .func (.func 66) #[] #[.pointer (some ⟨pp, 0, none⟩), .pointer (some ⟨dv, 0, none⟩)]] w fun e w' => ∃ v', e = .returned .nilIface ∧ DS L pp dv d base ifx v' ((q :: qs).map Tok.val) w' ∧ At L (r :: rs) w' ∧ w0.grownBy w' (some L.p) := by
  have HD : Hid (DS L pp dv d base ifx (.slice none 0 0) [] w) := h
  have HA : Hid (At L (q :: sepToks qs (r :: rs)) w) := ha
  have H0 : Hid (w0.grownBy w (some L.p)) := h0
  clear h ha h0
  go_enter Ybaz.func65, Ybaz.ntmps65
  go_wp2_with fail
  go_loopg [] qs.length (fun g wr => ∃ don t ts v, g = ts.length ∧ don ++ t :: ts = q :: qs ∧ At L (t :: sepToks ts (r :: rs)) wr ∧ DS L pp dv d base ifx v (don.map Tok.val) wr ∧ w0.grownBy wr (some L.p))
  case atStart => exact ⟨[], q, qs, _, rfl, rfl, HA.out, HD.out, H0.out⟩
  case round =>
    clear HD HA H0
    obtain ⟨don, t, ts, v, hgk, hall, ha, hd, hG⟩ := hrel
    have hk : t.kind = 2 := hq t (by rw [← hall]; simp)
    have hlen' : (don.map Tok.val).length ≤ 1000000 := by
      have := congrArg List.length hall
      simp at this ⊢
      omega
    have hnm : Calls Ybaz.prog 44 #[.pointer (some ⟨L.p, 0, none⟩)] wr fun e w1 => ∃ u, e = .returned (.tuple #[.string t.val, u]) ∧ u = Value.nilIface ∧ At L (sepToks ts (r :: rs)) w1 ∧ wr.grownBy w1 (some L.p) :=
      (name_quoted ha hk).mono fun e w1 ⟨he, h1, hg⟩ => ⟨_, he, rfl, h1, hg⟩
    have hit := item_any t.val (fun u => u = Value.nilIface) hd ha hG hb0 hlen' hnm
    clear hnm
    cases ts with
    | nil =>
      go_wp2_with (first
        | (go_at_call 66; refine hit.mono ?_; rintro e w2 ⟨u, v', rfl, rfl, hd2, ha2, hG2⟩)
        | (go_at_call 15; refine (acceptOp (t := r) (ts := rs) ha2 sComma false hr).mono ?_; rintro e w3 ⟨rfl, ha3, hg3⟩))
      go_ret
      refine ⟨v', rfl, ?_, ha3, grown_trans hG2 hg3⟩
      have h3 := hd2.step ha2 hg3
      rw [← hall]
      simpa using h3
    | cons t2 ts =>
      go_wp2_with (first
        | (go_at_call 66; refine hit.mono ?_; rintro e w2 ⟨u, v', rfl, rfl, hd2, ha2, hG2⟩)
        | (go_at_call 15; refine (acceptOp (t := opt sComma) (ts := t2 :: sepToks ts (r :: rs)) ha2 sComma true (by decide)).mono ?_; rintro e w3 ⟨rfl, ha3, hg3⟩))
      go_roundg (gk - 1)
      case measure =>
        simp at hgk
        omega
      case rel =>
        refine ⟨don ++ [t], t2, ts, v', ?_, by rw [← hall]; simp, ha3, ?_, grown_trans hG2 hg3⟩
        · simp at hgk
          omega
        · have h3 := hd2.step ha2 hg3
          simpa using h3

end Go.Proofs.YbulkexobaGreatFmt
