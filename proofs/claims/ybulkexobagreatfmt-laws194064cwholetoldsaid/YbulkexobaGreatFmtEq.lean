/-
  zzs194064ceq: two statements of one kind with the same fields.
-/
import Derived.Test.YbulkexobaGreatFmtBase
namespace Go.Proofs.YbulkexobaGreatFmt
open Go.RowKit
set_option linter.unusedSimpArgs false

theorem as_no (t T el : Nat) (hu : Ybaz.prog.underlying T = some (.pointer el)) (hz : (Ybaz.prog.info? T).map (·.zero) = some (some (.pointer none))) (hne : t ≠ T) (v : Value) (x : Nat) (w : World) :
    (Instr.typeAssert (.iface t v) x T true).run Ybaz.prog w = .ok (.tuple #[.pointer none, .bool false]) w := by
  obtain ⟨j, hj, hz'⟩ := Option.map_eq_some_iff.1 hz
  simp [Instr.typeAssert, run_underlying hu, hne, zeroValue, typeInfo, hj, hz']
theorem as_yes (T el : Nat) (hu : Ybaz.prog.underlying T = some (.pointer el)) (v : Value) (x : Nat) (w : World) :
    (Instr.typeAssert (.iface T v) x T true).run Ybaz.prog w = .ok (.tuple #[v, .bool true]) w := by
  simp [Instr.typeAssert, run_underlying hu]

set_option maxRecDepth 100000 in
theorem eq_30 (b c : Nat) (w : World) :
    Calls Ybaz.prog 11 #[.iface 30 (.pointer (some ⟨b, 0, none⟩)), .iface 30 (.pointer (some ⟨c, 0, none⟩))] w fun e w' => e = .returned (.bool true) ∧ w.grownBy w' none := by
  have y30 := as_yes 30 32 Ybaz.underlying30
  go_enter Ybaz.func11, Ybaz.ntmps11
  go_wp2_with fail
  go_ret
  exact ⟨rfl, grown_refl _ _⟩

set_option maxRecDepth 100000 in
theorem eq_33 (b c : Nat) (w : World) :
    Calls Ybaz.prog 11 #[.iface 33 (.pointer (some ⟨b, 0, none⟩)), .iface 33 (.pointer (some ⟨c, 0, none⟩))] w fun e w' => e = .returned (.bool true) ∧ w.grownBy w' none := by
  have n30 := as_no 33 30 32 Ybaz.underlying30 (by kernel_rfl) (by decide)
  have y33 := as_yes 33 34 Ybaz.underlying33
  go_enter Ybaz.func11, Ybaz.ntmps11
  go_wp2_with fail
  go_ret
  exact ⟨rfl, grown_refl _ _⟩

set_option maxRecDepth 100000 in
theorem eq_35 (b c : Nat) (w : World) :
    Calls Ybaz.prog 11 #[.iface 35 (.pointer (some ⟨b, 0, none⟩)), .iface 35 (.pointer (some ⟨c, 0, none⟩))] w fun e w' => e = .returned (.bool true) ∧ w.grownBy w' none := by
  have n30 := as_no 35 30 32 Ybaz.underlying30 (by kernel_rfl) (by decide)
  have n33 := as_no 35 33 34 Ybaz.underlying33 (by kernel_rfl) (by decide)
  have y35 := as_yes 35 36 Ybaz.underlying35
  go_enter Ybaz.func11, Ybaz.ntmps11
  go_wp2_with fail
  go_ret
  exact ⟨rfl, grown_refl _ _⟩

set_option maxRecDepth 100000 in
set_option maxHeartbeats 2000000 in
theorem eq_38 (b c : Nat) (n : ByteArray) (w : World) (hb : w.heap[b]? = some (.cells #[.string n] 40 (0, 0))) (hc : w.heap[c]? = some (.cells #[.string n] 40 (0, 0))) :
    Calls Ybaz.prog 11 #[.iface 38 (.pointer (some ⟨b, 0, none⟩)), .iface 38 (.pointer (some ⟨c, 0, none⟩))] w fun e w' => e = .returned (.bool true) ∧ w.grownBy w' none := by
  have b0 := cells_at hb 0
  have c0 := cells_at hc 0
  clear hb hc
  have n30 := as_no 38 30 32 Ybaz.underlying30 (by kernel_rfl) (by decide)
  have n33 := as_no 38 33 34 Ybaz.underlying33 (by kernel_rfl) (by decide)
  have n35 := as_no 38 35 36 Ybaz.underlying35 (by kernel_rfl) (by decide)
  have y38 := as_yes 38 40 Ybaz.underlying38
  go_enter Ybaz.func11, Ybaz.ntmps11
  go_wp2_with fail
  go_big_quiet (fail)
  go_wp2_with fail
  go_ret
  exact ⟨by first | rfl | simp, by first | exact grown_refl _ _ | exact grown_drewN _ _ _⟩

set_option maxRecDepth 100000 in
set_option maxHeartbeats 2000000 in
theorem eq_41 (b c : Nat) (n : ByteArray) (w : World) (hb : w.heap[b]? = some (.cells #[.string n] 42 (0, 0))) (hc : w.heap[c]? = some (.cells #[.string n] 42 (0, 0))) :
    Calls Ybaz.prog 11 #[.iface 41 (.pointer (some ⟨b, 0, none⟩)), .iface 41 (.pointer (some ⟨c, 0, none⟩))] w fun e w' => e = .returned (.bool true) ∧ w.grownBy w' none := by
  have b0 := cells_at hb 0
  have c0 := cells_at hc 0
  clear hb hc
  have n30 := as_no 41 30 32 Ybaz.underlying30 (by kernel_rfl) (by decide)
  have n33 := as_no 41 33 34 Ybaz.underlying33 (by kernel_rfl) (by decide)
  have n35 := as_no 41 35 36 Ybaz.underlying35 (by kernel_rfl) (by decide)
  have n38 := as_no 41 38 40 Ybaz.underlying38 (by kernel_rfl) (by decide)
  have y41 := as_yes 41 42 Ybaz.underlying41
  go_enter Ybaz.func11, Ybaz.ntmps11
  go_wp2_with fail
  go_big_quiet (fail)
  go_wp2_with fail
  go_ret
  exact ⟨by first | rfl | simp, by first | exact grown_refl _ _ | exact grown_drewN _ _ _⟩

set_option maxRecDepth 100000 in
set_option maxHeartbeats 2000000 in
theorem eq_43 (b c : Nat) (n : ByteArray) (w : World) (hb : w.heap[b]? = some (.cells #[.string n] 44 (0, 0))) (hc : w.heap[c]? = some (.cells #[.string n] 44 (0, 0))) :
    Calls Ybaz.prog 11 #[.iface 43 (.pointer (some ⟨b, 0, none⟩)), .iface 43 (.pointer (some ⟨c, 0, none⟩))] w fun e w' => e = .returned (.bool true) ∧ w.grownBy w' none := by
  have b0 := cells_at hb 0
  have c0 := cells_at hc 0
  clear hb hc
  have n30 := as_no 43 30 32 Ybaz.underlying30 (by kernel_rfl) (by decide)
  have n33 := as_no 43 33 34 Ybaz.underlying33 (by kernel_rfl) (by decide)
  have n35 := as_no 43 35 36 Ybaz.underlying35 (by kernel_rfl) (by decide)
  have n38 := as_no 43 38 40 Ybaz.underlying38 (by kernel_rfl) (by decide)
  have n41 := as_no 43 41 42 Ybaz.underlying41 (by kernel_rfl) (by decide)
  have y43 := as_yes 43 44 Ybaz.underlying43
  go_enter Ybaz.func11, Ybaz.ntmps11
  go_wp2_with fail
  go_big_quiet (fail)
  go_wp2_with fail
  go_ret
  exact ⟨by first | rfl | simp, by first | exact grown_refl _ _ | exact grown_drewN _ _ _⟩

set_option maxRecDepth 100000 in
set_option maxHeartbeats 2000000 in
theorem eq_45 (b c : Nat) (n : ByteArray) (w : World) (hb : w.heap[b]? = some (.cells #[.string n] 46 (0, 0))) (hc : w.heap[c]? = some (.cells #[.string n] 46 (0, 0))) :
    Calls Ybaz.prog 11 #[.iface 45 (.pointer (some ⟨b, 0, none⟩)), .iface 45 (.pointer (some ⟨c, 0, none⟩))] w fun e w' => e = .returned (.bool true) ∧ w.grownBy w' none := by
  have b0 := cells_at hb 0
  have c0 := cells_at hc 0
  clear hb hc
  have n30 := as_no 45 30 32 Ybaz.underlying30 (by kernel_rfl) (by decide)
  have n33 := as_no 45 33 34 Ybaz.underlying33 (by kernel_rfl) (by decide)
  have n35 := as_no 45 35 36 Ybaz.underlying35 (by kernel_rfl) (by decide)
  have n38 := as_no 45 38 40 Ybaz.underlying38 (by kernel_rfl) (by decide)
  have n41 := as_no 45 41 42 Ybaz.underlying41 (by kernel_rfl) (by decide)
  have n43 := as_no 45 43 44 Ybaz.underlying43 (by kernel_rfl) (by decide)
  have y45 := as_yes 45 46 Ybaz.underlying45
  go_enter Ybaz.func11, Ybaz.ntmps11
  go_wp2_with fail
  go_big_quiet (fail)
  go_wp2_with fail
  go_ret
  exact ⟨by first | rfl | simp, by first | exact grown_refl _ _ | exact grown_drewN _ _ _⟩

set_option maxRecDepth 100000 in
set_option maxHeartbeats 2000000 in
theorem eq_47 (b c : Nat) (f : Bool) (n : ByteArray) (w : World) (hb : w.heap[b]? = some (.cells #[.bool f, .string n] 49 (0, 0))) (hc : w.heap[c]? = some (.cells #[.bool f, .string n] 49 (0, 0))) :
    Calls Ybaz.prog 11 #[.iface 47 (.pointer (some ⟨b, 0, none⟩)), .iface 47 (.pointer (some ⟨c, 0, none⟩))] w fun e w' => e = .returned (.bool true) ∧ w.grownBy w' none := by
  have b0 := cells_at hb 0
  have c0 := cells_at hc 0
  have b1 := cells_at hb 1
  have c1 := cells_at hc 1
  clear hb hc
  have n30 := as_no 47 30 32 Ybaz.underlying30 (by kernel_rfl) (by decide)
  have n33 := as_no 47 33 34 Ybaz.underlying33 (by kernel_rfl) (by decide)
  have n35 := as_no 47 35 36 Ybaz.underlying35 (by kernel_rfl) (by decide)
  have n38 := as_no 47 38 40 Ybaz.underlying38 (by kernel_rfl) (by decide)
  have n41 := as_no 47 41 42 Ybaz.underlying41 (by kernel_rfl) (by decide)
  have n43 := as_no 47 43 44 Ybaz.underlying43 (by kernel_rfl) (by decide)
  have n45 := as_no 47 45 46 Ybaz.underlying45 (by kernel_rfl) (by decide)
  have y47 := as_yes 47 49 Ybaz.underlying47
  go_enter Ybaz.func11, Ybaz.ntmps11
  go_wp2_with fail
  go_big_quiet (fail)
  go_wp2_with fail
  go_ret
  exact ⟨by first | rfl | simp, by first | exact grown_refl _ _ | exact grown_drewN _ _ _⟩

set_option maxRecDepth 100000 in
set_option maxHeartbeats 2000000 in
theorem eq_51 (b c : Nat) (n x : ByteArray) (w : World) (hb : w.heap[b]? = some (.cells #[.string n, .string x] 53 (0, 0))) (hc : w.heap[c]? = some (.cells #[.string n, .string x] 53 (0, 0))) :
    Calls Ybaz.prog 11 #[.iface 51 (.pointer (some ⟨b, 0, none⟩)), .iface 51 (.pointer (some ⟨c, 0, none⟩))] w fun e w' => e = .returned (.bool true) ∧ w.grownBy w' none := by
  have b0 := cells_at hb 0
  have c0 := cells_at hc 0
  have b1 := cells_at hb 1
  have c1 := cells_at hc 1
  clear hb hc
  have n30 := as_no 51 30 32 Ybaz.underlying30 (by kernel_rfl) (by decide)
  have n33 := as_no 51 33 34 Ybaz.underlying33 (by kernel_rfl) (by decide)
  have n35 := as_no 51 35 36 Ybaz.underlying35 (by kernel_rfl) (by decide)
  have n38 := as_no 51 38 40 Ybaz.underlying38 (by kernel_rfl) (by decide)
  have n41 := as_no 51 41 42 Ybaz.underlying41 (by kernel_rfl) (by decide)
  have n43 := as_no 51 43 44 Ybaz.underlying43 (by kernel_rfl) (by decide)
  have n45 := as_no 51 45 46 Ybaz.underlying45 (by kernel_rfl) (by decide)
  have n47 := as_no 51 47 49 Ybaz.underlying47 (by kernel_rfl) (by decide)
  have y51 := as_yes 51 53 Ybaz.underlying51
  go_enter Ybaz.func11, Ybaz.ntmps11
  go_wp2_with fail
  go_big_quiet (fail)
  go_wp2_with fail
  go_ret
  exact ⟨by first | rfl | simp, by first | exact grown_refl _ _ | exact grown_drewN _ _ _⟩

set_option maxRecDepth 100000 in
set_option maxHeartbeats 2000000 in
theorem eq_60 (b c : Nat) (x y : Int) (w : World) (hb : w.heap[b]? = some (.cells #[.int .i64 x, .int .i64 y] 62 (0, 0))) (hc : w.heap[c]? = some (.cells #[.int .i64 x, .int .i64 y] 62 (0, 0))) :
    Calls Ybaz.prog 11 #[.iface 60 (.pointer (some ⟨b, 0, none⟩)), .iface 60 (.pointer (some ⟨c, 0, none⟩))] w fun e w' => e = .returned (.bool true) ∧ w.grownBy w' none := by
  have b0 := cells_at hb 0
  have c0 := cells_at hc 0
  have b1 := cells_at hb 1
  have c1 := cells_at hc 1
  clear hb hc
  have n30 := as_no 60 30 32 Ybaz.underlying30 (by kernel_rfl) (by decide)
  have n33 := as_no 60 33 34 Ybaz.underlying33 (by kernel_rfl) (by decide)
  have n35 := as_no 60 35 36 Ybaz.underlying35 (by kernel_rfl) (by decide)
  have n38 := as_no 60 38 40 Ybaz.underlying38 (by kernel_rfl) (by decide)
  have n41 := as_no 60 41 42 Ybaz.underlying41 (by kernel_rfl) (by decide)
  have n43 := as_no 60 43 44 Ybaz.underlying43 (by kernel_rfl) (by decide)
  have n45 := as_no 60 45 46 Ybaz.underlying45 (by kernel_rfl) (by decide)
  have n47 := as_no 60 47 49 Ybaz.underlying47 (by kernel_rfl) (by decide)
  have n51 := as_no 60 51 53 Ybaz.underlying51 (by kernel_rfl) (by decide)
  have y60 := as_yes 60 62 Ybaz.underlying60
  go_enter Ybaz.func11, Ybaz.ntmps11
  go_wp2_with fail
  go_big_quiet (fail)
  go_wp2_with fail
  go_ret
  exact ⟨by first | rfl | simp, by first | exact grown_refl _ _ | exact grown_drewN _ _ _⟩

set_option maxRecDepth 100000 in
set_option maxHeartbeats 2000000 in
theorem eq_63 (b c : Nat) (x y : Int) (w : World) (hb : w.heap[b]? = some (.cells #[.int .i64 x, .int .i64 y] 64 (0, 0))) (hc : w.heap[c]? = some (.cells #[.int .i64 x, .int .i64 y] 64 (0, 0))) :
    Calls Ybaz.prog 11 #[.iface 63 (.pointer (some ⟨b, 0, none⟩)), .iface 63 (.pointer (some ⟨c, 0, none⟩))] w fun e w' => e = .returned (.bool true) ∧ w.grownBy w' none := by
  have b0 := cells_at hb 0
  have c0 := cells_at hc 0
  have b1 := cells_at hb 1
  have c1 := cells_at hc 1
  clear hb hc
  have n30 := as_no 63 30 32 Ybaz.underlying30 (by kernel_rfl) (by decide)
  have n33 := as_no 63 33 34 Ybaz.underlying33 (by kernel_rfl) (by decide)
  have n35 := as_no 63 35 36 Ybaz.underlying35 (by kernel_rfl) (by decide)
  have n38 := as_no 63 38 40 Ybaz.underlying38 (by kernel_rfl) (by decide)
  have n41 := as_no 63 41 42 Ybaz.underlying41 (by kernel_rfl) (by decide)
  have n43 := as_no 63 43 44 Ybaz.underlying43 (by kernel_rfl) (by decide)
  have n45 := as_no 63 45 46 Ybaz.underlying45 (by kernel_rfl) (by decide)
  have n47 := as_no 63 47 49 Ybaz.underlying47 (by kernel_rfl) (by decide)
  have n51 := as_no 63 51 53 Ybaz.underlying51 (by kernel_rfl) (by decide)
  have n60 := as_no 63 60 62 Ybaz.underlying60 (by kernel_rfl) (by decide)
  have y63 := as_yes 63 64 Ybaz.underlying63
  go_enter Ybaz.func11, Ybaz.ntmps11
  go_wp2_with fail
  go_big_quiet (fail)
  go_wp2_with fail
  go_ret
  exact ⟨by first | rfl | simp, by first | exact grown_refl _ _ | exact grown_drewN _ _ _⟩

set_option maxRecDepth 100000 in
set_option maxHeartbeats 2000000 in
theorem eq_65 (b c g1 g2 n c1 c2 : Nat) (f : Bool) (w : World) (hb : w.heap[b]? = some (.cells #[.slice (some ⟨g1, 0, none⟩) n c1, .bool f] 68 (0, 0))) (hc : w.heap[c]? = some (.cells #[.slice (some ⟨g2, 0, none⟩) n c2, .bool f] 68 (0, 0)))
    (hE : ∀ k, Calls Ybaz.prog 18 #[.slice (some ⟨g1, 0, none⟩) n c1, .slice (some ⟨g2, 0, none⟩) n c2] (w.drewN k) fun e w' => e = .returned (.bool true) ∧ ∃ q, w' = (w.drewN k).drewN q) :
    Calls Ybaz.prog 11 #[.iface 65 (.pointer (some ⟨b, 0, none⟩)), .iface 65 (.pointer (some ⟨c, 0, none⟩))] w fun e w' => e = .returned (.bool true) ∧ w.grownBy w' none := by
  have b0 := cells_at hb 0
  have c0 := cells_at hc 0
  have b1 := cells_at hb 1
  have c1' := cells_at hc 1
  clear hb hc
  have n30 := as_no 65 30 32 Ybaz.underlying30 (by kernel_rfl) (by decide)
  have n33 := as_no 65 33 34 Ybaz.underlying33 (by kernel_rfl) (by decide)
  have n35 := as_no 65 35 36 Ybaz.underlying35 (by kernel_rfl) (by decide)
  have n38 := as_no 65 38 40 Ybaz.underlying38 (by kernel_rfl) (by decide)
  have n41 := as_no 65 41 42 Ybaz.underlying41 (by kernel_rfl) (by decide)
  have n43 := as_no 65 43 44 Ybaz.underlying43 (by kernel_rfl) (by decide)
  have n45 := as_no 65 45 46 Ybaz.underlying45 (by kernel_rfl) (by decide)
  have n47 := as_no 65 47 49 Ybaz.underlying47 (by kernel_rfl) (by decide)
  have n51 := as_no 65 51 53 Ybaz.underlying51 (by kernel_rfl) (by decide)
  have n60 := as_no 65 60 62 Ybaz.underlying60 (by kernel_rfl) (by decide)
  have n63 := as_no 65 63 64 Ybaz.underlying63 (by kernel_rfl) (by decide)
  have y65 := as_yes 65 68 Ybaz.underlying65
  go_enter Ybaz.func11, Ybaz.ntmps11
  go_wp2_with fail
  go_big_quiet (first | (go_at_call 18; exact Calls.quiet_of (hE _)))
  go_wp2_with fail
  go_ret
  exact ⟨by first | rfl | simp, by first | exact grown_refl _ _ | exact grown_drewN _ _ _⟩

end Go.Proofs.YbulkexobaGreatFmt
