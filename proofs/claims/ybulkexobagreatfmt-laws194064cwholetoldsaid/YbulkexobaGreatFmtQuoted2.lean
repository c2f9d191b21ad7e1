/-
  lexQuoted at an empty name.
-/
import Derived.Test.YbulkexobaGreatFmtQuoted
import Derived.Test.YbulkexobaGreatFmtErrs
namespace Go.Proofs.YbulkexobaGreatFmt
open Go.RowKit Go.Extern.Stop Go.Stop Go.Extern

set_option maxHeartbeats 4000000 in
set_option maxRecDepth 100000 in
theorem quoted_bad (F : Interp) (s : ByteArray) (rest : List UInt8) (w : World) (hF : F.answers w.tape) (hs : s.data.toList = 34 :: 34 :: rest) (hr : rest.head? ≠ some 34) (hsz : s.size ≤ 100000000) :
    Calls Ybaz.prog 28 #[.string s] w fun e w' => ∃ u, e = .returned (.tuple #[.agg #[.int .i64 0, .string ⟨#[]⟩, .string ⟨#[]⟩], .int .i64 0, u]) ∧ IsErr u ∧ w.grownBy w' none := by
  have h0 := byteAt_mid (s := s) (pre := []) (b := 34) (suf := 34 :: rest) hs
  have h1 := byteAt_mid (s := s) (pre := [34]) (b := 34) (suf := rest) hs
  have hlt0 : 0 < s.size := h0.1
  have hlt1 : 1 < s.size := h1.1
  have hlt0' : (0 : Int) < (s.size : Int) := by omega
  have hlt1' : (1 : Int) < (s.size : Int) := by omega
  have hle2 : (2 : Int) ≤ (s.size : Int) := by omega
  have hq : (s[0].toNat : Int) = 34 := by rw [← byteAt_eq s 0 hlt0]; exact h0.2
  have hq1 : (s[1].toNat : Int) = 34 := by rw [← byteAt_eq s 1 hlt1]; exact h1.2
  have hl : s.size = s.data.toList.length := by rw [Array.length_toList]; rfl
  have hnx : ∀ h : 2 < s.size, ¬ (s[2].toNat : Int) = 34 := by
    intro h hx
    cases rest with
    | nil =>
      rw [hl, hs] at h
      simp at h
    | cons x rs =>
      have b2 := byteAt_mid (s := s) (pre := [34, 34]) (b := x) (suf := rs) hs
      have b3 := b2.2
      rw [show ([34, 34] : List UInt8).length = 2 from rfl, byteAt_eq s 2 h, hx] at b3
      have h34 : x.toNat = 34 := by omega
      exact hr (by rw [show x = 34 from UInt8.toNat_inj.1 h34]; rfl)
  clear h0 h1 hl hs hr
  have hQ := QS.start w s [] rest
  have hlen := Go.Proofs.Ybaz.Builder_Len (w.heap.size + 1) (w.heap.size + 1) [] _ hQ.b
  have hF' := answers_open hF
  have k1 := Ybaz.call49
  have k2 := Ybaz.guard
  have k3 := Ybaz.fmtZero
  unfold fZero at k3
  have k4 := Ybaz.op9_115
  clear hQ
  go_enter Ybaz.func28, Ybaz.ntmps28
  go_wp2_with fail
  refine wp_loop_rounds 1 ?_
  rw [rounds_succ]
  by_cases hi2 : 2 < s.size
  · have hi2' : (2 : Int) < (s.size : Int) := by omega
    have e2 := hnx hi2
    clear hnx
    go_wp2_with (go_at_call 58; refine hlen.mono ?_; rintro e w2 ⟨rfl, rfl⟩)
    refine bodyPost_ret (v := .tuple #[.agg #[.int .i64 0, .string ⟨#[]⟩, .string ⟨#[]⟩], .int .i64 0, .iface 73 (.pointer (some ⟨w.heap.size + 3, 0, none⟩))]) (by simp [results, Ybaz.results28, go_sem]) rfl ⟨_, rfl, ⟨_, rfl⟩, ?_⟩
    exact (((((grown_refl w none).alc _).alc _).alc _).alc _).drw
  · have hi2' : ¬ ((2 : Int) < (s.size : Int)) := by omega
    clear hnx
    go_wp2_with (go_at_call 58; refine hlen.mono ?_; rintro e w2 ⟨rfl, rfl⟩)
    refine bodyPost_ret (v := .tuple #[.agg #[.int .i64 0, .string ⟨#[]⟩, .string ⟨#[]⟩], .int .i64 0, .iface 73 (.pointer (some ⟨w.heap.size + 3, 0, none⟩))]) (by simp [results, Ybaz.results28, go_sem]) rfl ⟨_, rfl, ⟨_, rfl⟩, ?_⟩
    exact (((((grown_refl w none).alc _).alc _).alc _).alc _).drw

end Go.Proofs.YbulkexobaGreatFmt
