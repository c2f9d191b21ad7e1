/-
  dropTable.
-/
import Derived.Test.YbulkexobaGreatFmtDrop
namespace Go.Proofs.YbulkexobaGreatFmt
open Go.RowKit Go.Extern.Stop Go.Stop Go.Extern

def sTable : ByteArray := ⟨#[116, 97, 98, 108, 101]⟩

set_option maxHeartbeats 2000000 in
/-- commaList over the item, no name there -/
theorem commas_bad (F : Interp) {L : Lay} {pp dv d base : Nat} {ifx : Bool} {w w0 : World} {rs : List Tok} {r : Tok}
    (h : DS L pp dv d base ifx (.slice none 0 0) [] w) (ha : At L (r :: rs) w) (h0 : w0.grownBy w (some L.p)) (hb0 : w0.heap.size ≤ base)
    (hF : F.answers w.tape) (hr1 : r.kind ≠ 1) (hr2 : r.kind ≠ 2) :
    Calls Ybaz.prog 65 #[.pointer (some ⟨L.p, 0, none⟩), .func (.func 66) #[] #[.pointer (some ⟨pp, 0, none⟩), .pointer (some ⟨dv, 0, none⟩)]] w fun e w' => ∃ u v' nm, e = .returned u ∧ IsErr u ∧ DS L pp dv d base ifx v' nm w' ∧ w0.grownBy w' (some L.p) := by
  have hnm : Calls Ybaz.prog 44 #[.pointer (some ⟨L.p, 0, none⟩)] w fun e w1 => ∃ u, e = .returned (.tuple #[.string ⟨#[]⟩, u]) ∧ IsErr u ∧ At L (r :: rs) w1 ∧ w.grownBy w1 (some L.p) :=
    (name_not F ha hF hr2 hr1).mono fun e w1 ⟨v, he, hv, hg⟩ => ⟨v, he, hv, ha.later hg, grown_but hg _⟩
  have hit := item_any ⟨#[]⟩ IsErr h ha h0 hb0 (by simp) hnm
  clear hnm h ha h0 hr1 hr2
  go_enter Ybaz.func65, Ybaz.ntmps65
  go_wp2_with fail
  refine wp_loop_rounds 1 ?_
  rw [rounds_succ]
  go_wp2_with (go_at_call 66; refine hit.mono ?_; rintro e w2 ⟨u, v', rfl, ⟨b, rfl⟩, hd2, ha2, hG2⟩)
  go_ret
  exact ⟨_, v', _, rfl, ⟨b, rfl⟩, hd2, hG2⟩

/-- dropTable's good end. -/
def GoodDrop (L : Lay) (w : World) (ifx : Bool) (names : List ByteArray) (ts : List Tok) (e : Ending) (w' : World) : Prop :=
  ∃ d v base, e = .returned (.tuple #[.iface 65 (.pointer (some ⟨d, 0, none⟩)), .nilIface]) ∧ w'.heap[d]? = some (.cells #[v, .bool ifx] 68 (0, 0)) ∧ w'.ownsRow base 9 1 v names.length (names.map .string) ∧ At L ts w' ∧ w.grownBy w' (some L.p)

/-- The words if exists. -/
def ifToks (up ifx : Bool) : List Tok := if ifx then [kwt up sIf, kwt up sExists] else []

theorem kws_any {L : Lay} {t : Tok} {ts : List Tok} {w : World} (up ifx : Bool) (h : At L (ifToks up ifx ++ t :: ts) w) (ht : t.kind ≠ 1) (kb : Nat) (hkb : w.heap[kb]? = some (.cells #[.string sIf, .string sExists] 9 (0, 0))) :
    Calls Ybaz.prog 60 #[.pointer (some ⟨L.p, 0, none⟩), .slice (some ⟨kb, 0, none⟩) 2 2] w fun e w' => e = .returned (.bool ifx) ∧ At L (t :: ts) w' ∧ w.grownBy w' (some L.p) := by
  cases ifx
  · exact (kws_no (t := t) (ts := ts) h ht kb hkb).mono fun e w' ⟨he, hg⟩ => ⟨he, At.later (ts := t :: ts) h hg, grown_but hg _⟩
  · exact kws_yes (t := kwt up sIf) (u := kwt up sExists) (ts := t :: ts) h (by rw [kwt_is]; decide) (by rw [kwt_is]; decide) kb hkb

/-- The statement, new. -/
theorem ds_new {L : Lay} {w2 : World} {b : Nat} (ifx : Bool) (hp : w2.heap[b]? = some (.cells #[.pointer (some ⟨L.p, 0, none⟩)] 80 (0, 0))) :
    DS L b (w2.heap.size + 1) w2.heap.size w2.heap.size ifx (.slice none 0 0) [] ((w2.alloc (.cells #[.slice none 0 0, .bool ifx] 68)).alloc (.cells #[.pointer (some ⟨w2.heap.size, 0, none⟩)] 65)) where
  hpp := blk_later hp (((grown_refl w2 none).alc _).alc _)
  hdv := new2 _ _ _
  hd := blk_later (heap_alloc_new w2 _) ((grown_refl _ none).alc _)
  own := World.ownsRow_nil _ _ _ _
  bd := Nat.le_refl _
  bw := by simp; omega

set_option maxHeartbeats 2000000 in
theorem drop_ok {L : Lay} {q r : Tok} {qs rs : List Tok} {w : World} (up ifx : Bool) (h : At L (kwt up sTable :: (ifToks up ifx ++ q :: sepToks qs (r :: rs))) w) (hlen : qs.length + 1 ≤ 1000000)
    (hq : ∀ t ∈ q :: qs, t.kind = 2) (hr : r.is 6 sComma = false) :
    Calls Ybaz.prog 33 #[.pointer (some ⟨L.p, 0, none⟩)] w (GoodDrop L w ifx ((q :: qs).map Tok.val) (r :: rs)) := by
  have hqk : q.kind ≠ 1 := by rw [hq q (by simp)]; decide
  have h0 := h.later ((grown_refl w none).alc (.cells #[.pointer (some ⟨L.p, 0, none⟩)] 80))
  have hpp : (w.alloc (.cells #[.pointer (some ⟨L.p, 0, none⟩)] 80)).heap[w.heap.size]? = some (.cells #[.pointer (some ⟨L.p, 0, none⟩)] 80 (0, 0)) := heap_alloc_new _ _
  have hne := At.ne h0 hpp (by decide)
  clear h
  go_enter Ybaz.func33, Ybaz.ntmps33
  go_wp2_with (first
    | (go_at_call 40; refine (expectKw h0 sTable (by rw [kwt_is]; decide)).mono ?_; rintro e w1 ⟨rfl, h1, hg1⟩; have p1 := blk_later' hpp hg1 hne; have c1 : w1.cell? ⟨w.heap.size, 0, none⟩ = some (.pointer (some ⟨L.p, 0, none⟩)) := cells_at p1 0; have HP1 : Hid (w1.heap[w.heap.size]? = some (.cells #[.pointer (some ⟨L.p, 0, none⟩)] 80 (0, 0))) := p1; clear p1 h0)
    | (go_at_call 60; refine (kws_any up ifx (h1.later ((grown_refl w1 none).alc _)) hqk w1.heap.size (heap_alloc_new _ _)).mono ?_; rintro e w2 ⟨rfl, h2, hg2⟩; have G2 := grown_trans ((grown_refl w1 (some L.p)).alc _) hg2; have p2 := blk_later' HP1.out G2 hne; have c2 : ∀ o o', ((w2.alloc o).alloc o').cell? ⟨w.heap.size, 0, none⟩ = some (.pointer (some ⟨L.p, 0, none⟩)) := fun o o' => cells_at (blk_later p2 (((grown_refl w2 none).alc o).alc o')) 0; have HP2 : Hid (w2.heap[w.heap.size]? = some (.cells #[.pointer (some ⟨L.p, 0, none⟩)] 80 (0, 0))) := p2; have G02 : Hid (w.grownBy w2 (some L.p)) := grown_trans (grown_trans ((grown_refl w (some L.p)).alc _) hg1) G2; clear p2 c1 HP1 h1 hg2 G2)
    | (go_at_call 65; refine (commas (ds_new ifx HP2.out) (h2.later (((grown_refl w2 none).alc _).alc _)) ((G02.out.alc _).alc _) G02.out.size hlen hq hr).mono ?_; rintro e w3 ⟨v', rfl, h3, ha3, hg3⟩; have c3 : w3.cell? ⟨w2.heap.size + 1, 0, none⟩ = some (.pointer (some ⟨w2.heap.size, 0, none⟩)) := cells_at h3.hdv 0))
  go_ret2
  exact ⟨_, v', _, rfl, h3.hd, by simpa using h3.own, ha3, hg3⟩

set_option maxHeartbeats 2000000 in
theorem drop_bad (F : Interp) {L : Lay} {q : Tok} {qs : List Tok} {w : World} (up ifx : Bool) (h : At L (kwt up sTable :: (ifToks up ifx ++ q :: qs)) w) (hF : F.answers w.tape) (hqk : q.kind ≠ 1) (hqk2 : q.kind ≠ 2) :
    Calls Ybaz.prog 33 #[.pointer (some ⟨L.p, 0, none⟩)] w (Bad L w) := by
  have h0 := h.later ((grown_refl w none).alc (.cells #[.pointer (some ⟨L.p, 0, none⟩)] 80))
  have hpp : (w.alloc (.cells #[.pointer (some ⟨L.p, 0, none⟩)] 80)).heap[w.heap.size]? = some (.cells #[.pointer (some ⟨L.p, 0, none⟩)] 80 (0, 0)) := heap_alloc_new _ _
  have hne := At.ne h0 hpp (by decide)
  clear h
  go_enter Ybaz.func33, Ybaz.ntmps33
  go_wp2_with (first
    | (go_at_call 40; refine (expectKw h0 sTable (by rw [kwt_is]; decide)).mono ?_; rintro e w1 ⟨rfl, h1, hg1⟩; have p1 := blk_later' hpp hg1 hne; have c1 : w1.cell? ⟨w.heap.size, 0, none⟩ = some (.pointer (some ⟨L.p, 0, none⟩)) := cells_at p1 0; have HP1 : Hid (w1.heap[w.heap.size]? = some (.cells #[.pointer (some ⟨L.p, 0, none⟩)] 80 (0, 0))) := p1; clear p1 h0)
    | (go_at_call 60; refine (kws_any up ifx (h1.later ((grown_refl w1 none).alc _)) hqk w1.heap.size (heap_alloc_new _ _)).mono ?_; rintro e w2 ⟨rfl, h2, hg2⟩; have G2 := grown_trans ((grown_refl w1 (some L.p)).alc _) hg2; have p2 := blk_later' HP1.out G2 hne; have c2 : ∀ o o', ((w2.alloc o).alloc o').cell? ⟨w.heap.size, 0, none⟩ = some (.pointer (some ⟨L.p, 0, none⟩)) := fun o o' => cells_at (blk_later p2 (((grown_refl w2 none).alc o).alc o')) 0; have HP2 : Hid (w2.heap[w.heap.size]? = some (.cells #[.pointer (some ⟨L.p, 0, none⟩)] 80 (0, 0))) := p2; have G02 : Hid (w.grownBy w2 (some L.p)) := grown_trans (grown_trans ((grown_refl w (some L.p)).alc _) hg1) G2; clear p2 c1 HP1 h1 hg2 G2)
    | (go_at_call 65; refine (commas_bad F (ds_new ifx HP2.out) (h2.later (((grown_refl w2 none).alc _).alc _)) ((G02.out.alc _).alc _) G02.out.size (by rw [((G02.out.alc _).alc _).tape]; exact hF) hqk hqk2).mono ?_; rintro e w3 ⟨u, v', nm, rfl, hu, h3, hg3⟩; have c3 : w3.cell? ⟨w2.heap.size + 1, 0, none⟩ = some (.pointer (some ⟨w2.heap.size, 0, none⟩)) := cells_at h3.hdv 0))
  go_ret2
  exact ⟨_, u, rfl, hu, hg3⟩

end Go.Proofs.YbulkexobaGreatFmt
