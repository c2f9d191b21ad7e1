/-
  zzs194064cmodes: the modes' bytes, and what they set.
-/
import Derived.Test.YbulkexobaGreatFmtCq
import Derived.Test.YbulkexobaGreatFmtModes
namespace Go.Proofs.YbulkexobaGreatFmt
open Go.RowKit

/-- The mode's text, with its blanks. -/
def modeB (c : Nat) : ByteArray :=
  if c = 0 then ⟨#[32, 105, 115, 111, 108, 97, 116, 105, 111, 110, 32, 108, 101, 118, 101, 108, 32, 115, 101, 114, 105, 97, 108, 105, 122, 97, 98, 108, 101]⟩
  else if c = 1 then ⟨#[32, 105, 115, 111, 108, 97, 116, 105, 111, 110, 32, 108, 101, 118, 101, 108, 32, 114, 101, 112, 101, 97, 116, 97, 98, 108, 101, 32, 114, 101, 97, 100]⟩
  else if c = 2 then ⟨#[32, 105, 115, 111, 108, 97, 116, 105, 111, 110, 32, 108, 101, 118, 101, 108, 32, 114, 101, 97, 100, 32, 99, 111, 109, 109, 105, 116, 116, 101, 100]⟩
  else if c = 3 then ⟨#[32, 105, 115, 111, 108, 97, 116, 105, 111, 110, 32, 108, 101, 118, 101, 108, 32, 114, 101, 97, 100, 32, 117, 110, 99, 111, 109, 109, 105, 116, 116, 101, 100]⟩
  else if c = 4 then ⟨#[32, 114, 101, 97, 100, 32, 111, 110, 108, 121]⟩ else ⟨#[32, 114, 101, 97, 100, 32, 119, 114, 105, 116, 101]⟩
theorem modeB_size (c : Nat) : (modeB c).size ≤ 33 := by
  unfold modeB
  repeat' split
  all_goals decide
theorem ckB_size (s : ByteArray) (up : Bool) : (ckB s up).size = s.size := by
  cases up
  · rfl
  · show (s.data.map upB).size = s.data.size
    simp

def oneB (up : Bool) (m : Bool × Nat) : List UInt8 := (if m.1 then [32, 44] else []) ++ (ckB (modeB m.2) up).data.toList
def mBytes (up : Bool) (ms : List (Bool × Nat)) : List UInt8 := ms.flatMap (oneB up)
theorem mBytes_snoc (up : Bool) (ms : List (Bool × Nat)) (m : Bool × Nat) : mBytes up (ms ++ [m]) = mBytes up ms ++ oneB up m := by simp [mBytes]
theorem setModes_snoc (s : Int × Int) (ms : List (Bool × Nat)) (m : Bool × Nat) : setModes s (ms ++ [m]) = setMode (setModes s ms) m.2 := by simp [setModes]

/-- The comma's bit. -/
def cmB (x : Int) : Bool := bits .and .u8 x 8 != 0
def mAt (xs : Nat → Int) (i : Nat) : Bool × Nat := (decide (0 < i) && cmB (xs i), (xs i % 6).toNat)
/-- The first i modes. -/
def mFirst (xs : Nat → Int) (i : Nat) : List (Bool × Nat) := (List.range i).map (mAt xs)
theorem mFirst_succ (xs : Nat → Int) (i : Nat) : mFirst xs (i + 1) = mFirst xs i ++ [mAt xs i] := by simp [mFirst, List.range_succ]

/-- The text under way, the modes' two blocks beside it. -/
structure ZS (w0 w : World) (N : Nat) (v : Value) (l : List UInt8) (b : Nat) (cs : Array Value) (wr : World) : Prop where
  B : BR w0 v l b wr
  K : Kp w wr
  h0 : wr.heap[N]? = some (.cells #[.int .i64 0, .int .i64 0] 57 (0, 0))
  h1 : wr.heap[N + 1]? = some (.cells cs 57 (0, 0))
  n0 : w0.heap.size ≤ N
  n1 : w.heap.size ≤ N
section
variable {w0 w wr : World} {N : Nat} {v : Value} {l : List UInt8} {b : Nat} {cs : Array Value}
theorem ZS.later {w' : World} (h : ZS w0 w N v l b cs wr) (hg : wr.grownBy w' none) : ZS w0 w N v l b cs w' where
  B := h.B.later hg
  K := h.K.trans (.of hg)
  h0 := blk_later h.h0 hg
  h1 := blk_later h.h1 hg
  n0 := h.n0
  n1 := h.n1
theorem ZS.set (h : ZS w0 w N v l b cs wr) (j : Nat) (u : Value) : ZS w0 w N v l b (cs.setIfInBounds j u) (wr.setCell ⟨N + 1, j, none⟩ u) where
  B := ⟨h.B.own.kept (grown_set wr ⟨N + 1, j, none⟩ u) (by
      cases hv : v.ownBlock with
      | none => exact .inl rfl
      | some k =>
        refine .inr (fun e => ?_)
        obtain ⟨cur, hc⟩ := own_blk h.B.own hv
        injection e with e
        subst e
        exact blk_ne hc h.h1 (by decide) rfl), h.B.g.set _ _ (.inr (by have := h.n0; show _ ≤ N + 1; omega)), h.B.n⟩
  K := fun k cs' ty fr h1 h2 => by
    have hk := (Array.getElem?_eq_some_iff.1 h1).1
    have := h.n1
    rw [Below.heap_setCell _ _ _ _ (by show k ≠ N + 1; omega)]
    exact h.K k cs' ty fr h1 h2
  h0 := by rw [Below.heap_setCell _ _ _ _ (by show N ≠ N + 1; omega)]; exact h.h0
  h1 := heap_setCell_same wr (N + 1) j cs 57 u h.h1
  n0 := h.n0
  n1 := h.n1
theorem ZS.app {w' : World} {v' : Value} {l' : List UInt8} {b' : Nat} (h : ZS w0 w N v l b cs wr) (hB : BR w0 v' l' b' w') (hk : Kp wr w') : ZS w0 w N v' l' b' cs w' :=
  ⟨hB, h.K.trans hk, hk _ _ _ _ h.h0 (by decide), hk _ _ _ _ h.h1 (by decide), h.n0, h.n1⟩
end

theorem BR.set {w0 wr : World} {v : Value} {l : List UInt8} {b k : Nat} {cs : Array Value} {ty : TypeId} {fr : Nat × Nat} (h : BR w0 v l b wr) (hb : wr.heap[k]? = some (.cells cs ty fr)) (hty : ty ≠ 5) (hk : w0.heap.size ≤ k) (j : Nat) (u : Value) : BR w0 v l b (wr.setCell ⟨k, j, none⟩ u) :=
  ⟨h.own.kept (grown_set wr ⟨k, j, none⟩ u) (by
      cases hv : v.ownBlock with
      | none => exact .inl rfl
      | some g =>
        refine .inr (fun e => ?_)
        obtain ⟨cur, hc⟩ := own_blk h.own hv
        injection e with e
        subst e
        exact blk_ne hc hb (Ne.symm hty) rfl), h.g.set _ _ (.inr hk), h.n⟩
theorem Kp.set {w wr : World} (h : Kp w wr) {k : Nat} (hk : w.heap.size ≤ k) (j : Nat) (u : Value) : Kp w (wr.setCell ⟨k, j, none⟩ u) := fun i cs' ty fr h1 h2 => by
  have hi := (Array.getElem?_eq_some_iff.1 h1).1
  rw [Below.heap_setCell _ _ _ _ (by show i ≠ k; omega)]
  exact h i cs' ty fr h1 h2
theorem BR.drw {w0 wr : World} {v : Value} {l : List UInt8} {b : Nat} (h : BR w0 v l b wr) : BR w0 v l b wr.drew := h.later ((grown_refl wr none).drw)

set_option maxRecDepth 100000 in
set_option maxHeartbeats 8000000 in
theorem zmodes (w0 w : World) (v : Value) (l : List UInt8) (b : Nat) (up : Bool) (ao : Option Addr) (mb mo n mc : Nat) (xs : Nat → Int) (hao : 0 < n → ao = some ⟨mb, mo, none⟩) (hB : BR w0 v l b w) (hb : b + 40 * n ≤ 1000000000) (hn : n ≤ 65536)
    (hx : ∀ i, i < n → 0 ≤ xs i ∧ xs i ≤ 255) (hc : ∀ w', w0.grownBy w' none → ∀ i, i < n → w'.cell? ⟨mb, mo + i, none⟩ = some (.int .u8 (xs i))) :
    Calls Ybaz.prog 8 #[v, .slice ao n mc, .bool up] w fun e w' => ∃ v', e = .returned (.tuple #[v', .agg #[.int .i64 (setModes (0, 0) (mFirst xs n)).1, .int .i64 (setModes (0, 0) (mFirst xs n)).2]]) ∧
      BR w0 v' (l ++ mBytes up (mFirst xs n)) (b + 40 * n) w' ∧ Kp w w' := by
  obtain ⟨N, hN⟩ : ∃ N, N = w.heap.size := ⟨_, rfl⟩
  have H0 : Hid (ZS w0 w N v l b #[.int .i64 0, .int .i64 0] ((w.alloc (.cells #[.int .i64 0, .int .i64 0] 57)).alloc (.cells #[.int .i64 0, .int .i64 0] 57))) := by
    refine ⟨(hB.alc _).alc _, ((Kp.refl w).alc _).alc _, ?_, ?_, by rw [hN]; exact hB.base, by omega⟩
    · rw [hN, Below.heap_alloc _ _ _ (by simp)]
      exact heap_alloc_new w _
    · have := heap_alloc_new (w.alloc (.cells #[.int .i64 0, .int .i64 0] 57)) (.cells #[.int .i64 0, .int .i64 0] 57)
      simpa [hN] using this
  have HN : Hid (N = w.heap.size) := hN
  clear hN hB
  go_enter Ybaz.func8, Ybaz.ntmps8
  go_wp2_with fail
  rw [← HN.out]
  go_loopg [0, 9] n (fun g bv iv wr => ∃ i : Nat, g = n - i ∧ i ≤ n ∧ iv = .int .i64 i ∧ ZS w0 w N bv (l ++ mBytes up (mFirst xs i)) (b + 40 * i) (mCells (setModes (0, 0) (mFirst xs i))) wr)
  case atStart => exact ⟨0, rfl, Nat.zero_le _, rfl, by have h := H0.out; rw [← List.append_nil l] at h; exact h⟩
  case round =>
    clear H0
    obtain ⟨i, hgk, hile, rfl, hZ⟩ := hrel
    by_cases hi : i < n
    · have hi' : (i : Int) < (n : Int) := by omega
      obtain rfl := hao (by omega)
      have hxi := hx i hi
      have hci := hc wr hZ.B.g i hi
      obtain ⟨m, hm⟩ : ∃ m, m = setModes (0, 0) (mFirst xs i) := ⟨_, rfl⟩
      have HM : Hid (m = setModes (0, 0) (mFirst xs i)) := hm
      rw [← hm] at hZ
      clear hm
      unfold mCells at hZ
      have c1 := cells_at hZ.h1 0
      have c2 := cells_at hZ.h1 1
      have f1 := free_at hZ.h1 0
      have f2 := free_at hZ.h1 1
      obtain ⟨c, hcc⟩ : ∃ c : Nat, xs i % 6 = (c : Int) := ⟨(xs i % 6).toNat, by omega⟩
      have hc6 : c = 0 ∨ c = 1 ∨ c = 2 ∨ c = 3 ∨ c = 4 ∨ c = 5 := by omega
      have hA : Hid (mAt xs i = (decide (0 < i) && cmB (xs i), c)) := by
        show mAt xs i = _
        unfold mAt
        rw [hcc]
        simp
      have hG : Hid (∀ v' w' (cm : Bool), (decide (0 < i) && cmB (xs i)) = cm →
          ZS w0 w N v' (l ++ mBytes up (mFirst xs i) ++ (if cm then [32, 44] else []) ++ (ckB (modeB c) up).data.toList) (b + 40 * i + (if cm then 2 else 0) + (ckB (modeB c) up).size) (#[Value.int .i64 m.1, Value.int .i64 m.2].setIfInBounds (if c < 4 then 0 else 1) (.int .i64 (if c < 4 then 4 - (c : Int) else accVal c))) w' →
          ZS w0 w N v' (l ++ mBytes up (mFirst xs (i + 1))) (b + 40 * (i + 1)) (mCells (setModes (0, 0) (mFirst xs (i + 1)))) w') := by
        intro v' w' cm hcm hz
        have e : l ++ mBytes up (mFirst xs (i + 1)) = l ++ mBytes up (mFirst xs i) ++ (if cm then [32, 44] else []) ++ (ckB (modeB c) up).data.toList := by
          rw [mFirst_succ, mBytes_snoc, hA.out, hcm, oneB]
          simp
        have e2 : mCells (setModes (0, 0) (mFirst xs (i + 1))) = #[Value.int .i64 m.1, Value.int .i64 m.2].setIfInBounds (if c < 4 then 0 else 1) (.int .i64 (if c < 4 then 4 - (c : Int) else accVal c)) := by
          rw [mFirst_succ, setModes_snoc, hA.out, ← HM.out]
          by_cases h4 : c < 4
          · simp [setMode, h4, mCells]
          · simp [setMode, h4, mCells]
        rw [e, e2]
        have h1 := modeB_size c
        have h2 := ckB_size (modeB c) up
        have h3 : (if cm then 2 else 0) ≤ 2 := by split <;> omega
        exact ⟨⟨hz.B.own, hz.B.g, by have := hz.B.n; omega⟩, hz.K, hz.h0, hz.h1, hz.n0, hz.n1⟩
      have hbb : b + 40 * i + 40 ≤ 1000000000 := by omega
      clear hx hc hA HM
      by_cases hi0 : 0 < i
      · have hi0' : (0 : Int) < (i : Int) := by omega
        cases hcm : (bits .and .u8 (xs i) 8 != 0)
        · have HC : Hid ((decide (0 < i) && cmB (xs i)) = false) := by show _ = _; simp [cmB, hcm]
          rcases hc6 with rfl | rfl | rfl | rfl | rfl | rfl <;> (
            first | (replace hcc : xs i % 6 = 0 := hcc) | (replace hcc : xs i % 6 = 1 := hcc) | (replace hcc : xs i % 6 = 2 := hcc) | (replace hcc : xs i % 6 = 3 := hcc) | (replace hcc : xs i % 6 = 4 := hcc) | (replace hcc : xs i % 6 = 5 := hcc)
            go_wp2_with (first
              | (go_at_call 5; refine (ck_any _ up _ (by decide)).mono ?_; rintro e w2 ⟨rfl, hg2⟩; have hZ2 := ZS.later (ZS.set hZ _ _) hg2; clear hg2)
              | (at_builtin; refine wpl_str hZ2.B rfl (.tmp 49) _ rfl rfl _ rfl (by rw [ckB_size]; refine Nat.le_trans (Nat.add_le_add_left (show _ ≤ 40 by decide) _) hbb) ?_; intro v3 w3 hB3 hk3; have hZ3 := hZ2.app hB3 hk3; clear hB3 hk3))
            go_roundg (gk - 1)
            case measure => omega
            case rel => exact ⟨i + 1, by omega, by omega, by simp, hG.out _ _ false HC.out (by have h := hZ3; rw [← List.append_nil (l ++ mBytes up (mFirst xs i))] at h; exact h)⟩)
        · have HC : Hid ((decide (0 < i) && cmB (xs i)) = true) := by show _ = _; simp [cmB, hcm, hi0]
          rcases hc6 with rfl | rfl | rfl | rfl | rfl | rfl <;> (
            first | (replace hcc : xs i % 6 = 0 := hcc) | (replace hcc : xs i % 6 = 1 := hcc) | (replace hcc : xs i % 6 = 2 := hcc) | (replace hcc : xs i % 6 = 3 := hcc) | (replace hcc : xs i % 6 = 4 := hcc) | (replace hcc : xs i % 6 = 5 := hcc)
            go_wp2_with (first
              | (at_builtin; refine wpl_str hZ.B rfl (.tmp 29) _ rfl rfl ⟨#[32, 44]⟩ rfl (Nat.le_trans (Nat.add_le_add_left (show _ ≤ 40 by decide) _) hbb) ?_; intro v1 w1 hB1 hk1; have hZ1 := hZ.app hB1 hk1; clear hB1 hk1 c1 c2 f1 f2 hZ; have c1 := cells_at hZ1.h1 0; have c2 := cells_at hZ1.h1 1; have f1 := free_at hZ1.h1 0; have f2 := free_at hZ1.h1 1)
              | (go_at_call 5; refine (ck_any _ up _ (by decide)).mono ?_; rintro e w2 ⟨rfl, hg2⟩; have hZ2 := ZS.later (ZS.set hZ1 _ _) hg2; clear hg2)
              | (at_builtin; refine wpl_str hZ2.B rfl (.tmp 49) _ rfl rfl _ rfl (by rw [ckB_size, Nat.add_assoc]; refine Nat.le_trans (Nat.add_le_add_left (show _ ≤ 40 by decide) _) hbb) ?_; intro v3 w3 hB3 hk3; have hZ3 := hZ2.app hB3 hk3; clear hB3 hk3))
            go_roundg (gk - 1)
            case measure => omega
            case rel => exact ⟨i + 1, by omega, by omega, by simp, hG.out _ _ true HC.out hZ3⟩)
      · have hi0' : ¬ ((0 : Int) < (i : Int)) := by omega
        have HC : Hid ((decide (0 < i) && cmB (xs i)) = false) := by show _ = _; simp [hi0]
        rcases hc6 with rfl | rfl | rfl | rfl | rfl | rfl <;> (
          first | (replace hcc : xs i % 6 = 0 := hcc) | (replace hcc : xs i % 6 = 1 := hcc) | (replace hcc : xs i % 6 = 2 := hcc) | (replace hcc : xs i % 6 = 3 := hcc) | (replace hcc : xs i % 6 = 4 := hcc) | (replace hcc : xs i % 6 = 5 := hcc)
          go_wp2_with (first
            | (go_at_call 5; refine (ck_any _ up _ (by decide)).mono ?_; rintro e w2 ⟨rfl, hg2⟩; have hZ2 := ZS.later (ZS.set hZ _ _) hg2; clear hg2)
            | (at_builtin; refine wpl_str hZ2.B rfl (.tmp 49) _ rfl rfl _ rfl (by rw [ckB_size]; refine Nat.le_trans (Nat.add_le_add_left (show _ ≤ 40 by decide) _) hbb) ?_; intro v3 w3 hB3 hk3; have hZ3 := hZ2.app hB3 hk3; clear hB3 hk3))
          go_roundg (gk - 1)
          case measure => omega
          case rel => exact ⟨i + 1, by omega, by omega, by simp, hG.out _ _ false HC.out (by have h := hZ3; rw [← List.append_nil (l ++ mBytes up (mFirst xs i))] at h; exact h)⟩)
    · have hin : i = n := by omega
      subst hin
      obtain ⟨m, hm⟩ : ∃ m, m = setModes (0, 0) (mFirst xs i) := ⟨_, rfl⟩
      have HM : Hid (m = setModes (0, 0) (mFirst xs i)) := hm
      rw [← hm] at hZ
      clear hm hx hc
      unfold mCells at hZ
      have c1 := cells_at hZ.h1 0
      have c2 := cells_at hZ.h1 1
      have d1 := cells_at hZ.h0 0
      have d2 := cells_at hZ.h0 1
      have f1 := free_at hZ.h0 0
      have f2 := free_at hZ.h0 1
      go_wp2_with fail
      go_region
      go_wp2_with fail
      have e1 : (wr.setCell ⟨N, 0, none⟩ (.int .i64 m.1)).heap[N]? = some (.cells #[.int .i64 m.1, .int .i64 0] 57 (0, 0)) := heap_setCell_same wr N 0 _ 57 _ hZ.h0
      have e2 : ((wr.setCell ⟨N, 0, none⟩ (.int .i64 m.1)).setCell ⟨N, 1, none⟩ (.int .i64 m.2)).heap[N]? = some (.cells #[.int .i64 m.1, .int .i64 m.2] 57 (0, 0)) := heap_setCell_same _ N 1 _ 57 _ e1
      have r0 := cells_at e2 0
      have r1 := cells_at e2 1
      refine bodyPost_ret (v := .tuple #[u0, .agg #[.int .i64 m.1, .int .i64 m.2]]) (by simp [results, Ybaz.results8, go_sem, r0, r1]) rfl ⟨u0, ?_, ?_, ?_⟩
      · rw [← HM.out]
      · exact ((hZ.B.set hZ.h0 (by decide) hZ.n0 0 _).set e1 (by decide) hZ.n0 1 _).drw
      · exact (((hZ.K.set hZ.n1 0 _).set hZ.n1 1 _).trans (.of ((grown_refl _ none).drw)))

end Go.Proofs.YbulkexobaGreatFmt
