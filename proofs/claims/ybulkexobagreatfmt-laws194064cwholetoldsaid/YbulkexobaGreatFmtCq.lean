/-
  THE TEXT UNDER WAY: bytes in a row of the law's own; appends to it; zzs194064cq, zzs194064cword.
-/
import Derived.Test.YbulkexobaGreatFmtFold
import Derived.Lib.AppendStr
namespace Go.Proofs.YbulkexobaGreatFmt
open Go.RowKit

/-- The bytes l lie in the row v, which was made behind w0; they are no more than b. -/
structure BR (w0 : World) (v : Value) (l : List UInt8) (b : Nat) (w : World) : Prop where
  own : w.ownsRow w0.heap.size 5 1 v l.length (bcells l)
  g : w0.grownBy w none
  n : l.length ≤ b

/-- Whatever is no row of bytes is kept. -/
def Kp (w w' : World) : Prop := ∀ (b : Nat) (cs : Array Value) (ty : TypeId) (fr : Nat × Nat), w.heap[b]? = some (.cells cs ty fr) → ty ≠ 5 → w'.heap[b]? = some (.cells cs ty fr)
theorem Kp.refl (w : World) : Kp w w := fun _ _ _ _ h _ => h
theorem Kp.trans {a b c : World} (h : Kp a b) (k : Kp b c) : Kp a c := fun i cs ty fr h1 h2 => k i cs ty fr (h i cs ty fr h1 h2) h2
theorem Kp.of {a b : World} (h : a.grownBy b none) : Kp a b := fun i _ _ _ h1 _ => (h.block i (Array.getElem?_eq_some_iff.1 h1).1 (by simp)).trans h1
theorem Kp.alc {a b : World} (h : Kp a b) (o : Obj) : Kp a (b.alloc o) := h.trans (.of (World.grownBy_alloc b o none))

section
variable {w0 w : World} {v : Value} {l : List UInt8} {b : Nat}

theorem BR.later {w' : World} (h : BR w0 v l b w) (hg : w.grownBy w' none) : BR w0 v l b w' :=
  ⟨h.own.kept hg (by cases v.ownBlock <;> simp), grown_trans h.g hg, h.n⟩
theorem BR.alc (h : BR w0 v l b w) (o : Obj) : BR w0 v l b (w.alloc o) := h.later (World.grownBy_alloc _ _ _)
theorem BR.base (h : BR w0 v l b w) : w0.heap.size ≤ w.heap.size := h.g.size

theorem BR.app {w' : World} {v' : Value} {n : Nat} {x : List UInt8} (h : BR w0 v l b w) (ho : w'.ownsRow w0.heap.size 5 1 v' (l.length + n) (bcells l ++ bcells x)) (hn : n = x.length) (hg : w.grownBy w' v.ownBlock) :
    BR w0 v' (l ++ x) (b + n) w' ∧ Kp w w' := by
  refine ⟨⟨?_, grown_new h.g hg (fun j hj => (h.own.lt j hj).1), ?_⟩, ?_⟩
  · rw [List.length_append, ← hn]
    simpa [bcells] using ho
  · have := h.n
    rw [List.length_append]
    omega
  · intro k cs ty fr h1 h2
    rw [hg.block k (Array.getElem?_eq_some_iff.1 h1).1 (fun e => by
      obtain ⟨cur, hc⟩ := own_blk h.own e.symm
      exact blk_ne hc h1 (Ne.symm h2) rfl)]
    exact h1
end

section
variable {w0 w : World} {v : Value} {l : List UInt8} {b : Nat} {ops : Array Oper} {rest : List Oper} {o : Oper} {a : Act} {Q : Exit → Act → World → Prop}

/-- 'append(b, s...)', s a string -/
theorem wpl_str (hB : BR w0 v l b w) (hgd : o.guard = none) (sl x : Operand) (ho : o.op = .call { callee := .builtin .append, args := #[sl, x], argTypes := #[23, 9] })
    (hs : a.eval sl = v) (s : ByteArray) (hx : a.eval x = .string s) (hsz : b + s.size ≤ 1000000000)
    (h : ∀ v' w', BR w0 v' (l ++ s.data.toList) (b + s.size) w' → Kp w w' → wpList Ybaz.prog ops Q rest (a.put o.dst v') w') : wpList Ybaz.prog ops Q (o :: rest) a w := by
  obtain ⟨i0, hi', hz0, hz1, hz2⟩ := info_parts Ybaz.info5
  have hn := hB.n
  refine Go.Lib.wpList_append_own_string w hgd sl x 23 9 ho w0.heap.size 5 i0 Ybaz.underlying23 Ybaz.underlying9 hi' hz0 hz1 hz2 v l.length (bcells l) hs hB.own s hx (by unfold maxLen; omega) (by omega) hB.base ?_
  intro v' w' h1 h2 _
  obtain ⟨h3, h4⟩ := hB.app (x := s.data.toList) h1 (by rw [Array.length_toList]; rfl) h2
  exact h v' w' h3 h4

/-- 'append(b, x, y)' -/
theorem wpl_bytes (xs : List UInt8) (hB : BR w0 v l b w) (hgd : o.guard = none) (sl x : Operand) (ho : o.op = .call { callee := .builtin .append, args := #[sl, x], argTypes := #[23, 23] })
    (hs : a.eval sl = v) (g c : Nat) (hx : a.eval x = .slice (some ⟨g, 0, none⟩) xs.length c) (hblk : w.heap[g]? = some (.cells (bcells xs).toArray 5 (0, 0))) (hsz : b + xs.length ≤ 1000000000)
    (h : ∀ v' w', BR w0 v' (l ++ xs) (b + xs.length) w' → Kp w w' → wpList Ybaz.prog ops Q rest (a.put o.dst v') w') : wpList Ybaz.prog ops Q (o :: rest) a w := by
  obtain ⟨i0, hi', hz0, hz1, hz2⟩ := info_parts Ybaz.info5
  have hn := hB.n
  refine wpList_append_own w hgd sl x 23 ho w0.heap.size 5 i0 (.int .u8 0) 1 1 Ybaz.underlying23 hi' hz0 hz1 hz2 rfl (by decide) v l.length (bcells l) hs hB.own ⟨g, 0, none⟩ xs.length c (bcells xs) hx (by simp [bcells]) ?_ ?_ (by unfold maxLen; omega) (by omega) hB.base ?_
  · intro j u hu
    rw [Addr.add_lit, cells_at hblk]
    simpa using hu
  · intro u hu
    simp only [bcells, List.mem_map] at hu
    obtain ⟨y, _, rfl⟩ := hu
    rfl
  · intro v' w' h1 h2 _
    obtain ⟨h3, h4⟩ := hB.app (x := xs) h1 rfl h2
    exact h v' w' h3 h4
end

/-- zzs194064cword -/
def wordB (wi : Nat) : ByteArray := if wi = 1 then ⟨#[32, 119, 111, 114, 107]⟩ else if wi = 2 then ⟨#[32, 116, 114, 97, 110, 115, 97, 99, 116, 105, 111, 110]⟩ else ⟨#[]⟩
theorem word_any (wi : Nat) (w : World) : Calls Ybaz.prog 4 #[.int .i64 wi] w fun e w' => e = .returned (.string (wordB wi)) ∧ w = w' := by
  unfold wordB
  by_cases h1 : wi = 1
  · subst h1
    go_enter Ybaz.func4, Ybaz.ntmps4
    go_wp2_with fail
    go_ret
    exact ⟨rfl, rfl⟩
  · by_cases h2 : wi = 2
    · subst h2
      go_enter Ybaz.func4, Ybaz.ntmps4
      go_wp2_with fail
      go_ret
      exact ⟨rfl, rfl⟩
    · have h1' : ¬ ((wi : Int) = 1) := by omega
      have h2' : ¬ ((wi : Int) = 2) := by omega
      rw [if_neg h1, if_neg h2]
      go_enter Ybaz.func4, Ybaz.ntmps4
      go_wp2_with fail
      go_ret
      exact ⟨rfl, rfl⟩

theorem dblB_len2 (l : List UInt8) : (dblB l).length ≤ 2 * l.length := by
  induction l with
  | nil => simp [dblB]
  | cons x l ih => simp only [dblB]; split <;> simp <;> omega

theorem take_byte (s : ByteArray) (i : Nat) (h : i < s.size) : s.data.toList.take (i + 1) = s.data.toList.take i ++ [s[i]] := by
  have h' : i < s.data.toList.length := by rw [Array.length_toList]; exact h
  rw [List.take_succ_eq_append_getElem h']
  rfl

set_option maxRecDepth 100000 in
set_option maxHeartbeats 2000000 in
/-- zzs194064cq -/
theorem cq_any (w0 : World) (v : Value) (l : List UInt8) (b : Nat) (s : ByteArray) (w : World) (hB : BR w0 v l b w) (hb : b + (2 * s.size + 2) ≤ 1000000000) :
    Calls Ybaz.prog 6 #[v, .string s] w fun e w' => ∃ v', e = .returned v' ∧ BR w0 v' (l ++ 34 :: (dblB s.data.toList ++ [34])) (b + (2 * s.size + 2)) w' ∧ Kp w w' := by
  go_enter Ybaz.func6, Ybaz.ntmps6
  go_wp2_with (at_builtin; refine wpl_bytes [34] (hB.alc _) rfl _ _ rfl rfl _ 1 rfl (heap_alloc_new w _) (by show b + 1 ≤ _; omega) ?_; intro v1 w1 hB1 hk1)
  have HB : Hid (BR w0 v1 (l ++ [34]) (b + 1) w1 ∧ Kp w w1) := ⟨hB1, (Kp.refl w).alc _ |>.trans hk1⟩
  clear hB hB1 hk1
  go_loopg [0, 5] s.size (fun g bv iv wr => ∃ i : Nat, g = s.size - i ∧ i ≤ s.size ∧ iv = .int .i64 i ∧ BR w0 bv (l ++ 34 :: dblB (s.data.toList.take i)) (b + (2 * i + 1)) wr ∧ Kp w wr)
  case atStart => exact ⟨0, rfl, Nat.zero_le _, rfl, HB.out.1, HB.out.2⟩
  case round =>
    clear HB
    obtain ⟨i, hgk, hile, rfl, hB, hK⟩ := hrel
    by_cases hi : i < s.size
    · have hi' : (i : Int) < (s.size : Int) := by omega
      have htk := take_byte s i hi
      by_cases hq : s[i] = 34
      · have hqi : (s[i].toNat : Int) = 34 := by rw [hq]; rfl
        have hbl : dblB (s.data.toList.take (i + 1)) = dblB (s.data.toList.take i) ++ [34, 34] := by rw [htk, dblB_append, hq]; rfl
        have HBL : Hid (dblB (s.data.toList.take (i + 1)) = dblB (s.data.toList.take i) ++ [34, 34]) := hbl
        clear hbl htk hq
        go_wp2_with (first
          | (at_builtin; refine wpl_bytes [34] (hB.alc _) rfl (.tmp 19) _ rfl rfl _ 1 rfl (heap_alloc_new _ _) (by show _ + 1 ≤ _; omega) ?_; intro v2 w2 hB2 hk2)
          | (at_builtin; refine wpl_bytes [34] (hB2.alc _) rfl (.tmp 22) _ rfl rfl _ 1 rfl (heap_alloc_new _ _) (by show _ + 1 + 1 ≤ _; omega) ?_; intro v3 w3 hB3 hk3))
        go_roundg (gk - 1)
        case measure => omega
        case rel => exact ⟨i + 1, by omega, by omega, by simp, by
            have h := hB3
            have e : l ++ 34 :: dblB (s.data.toList.take i) ++ [34] ++ [34] = l ++ 34 :: dblB (s.data.toList.take (i + 1)) := by rw [HBL.out]; simp
            rw [e] at h
            exact ⟨h.own, h.g, by have := h.n; simp only [List.length_cons, List.length_nil] at this; omega⟩, (((hK.alc _).trans hk2).alc _).trans hk3⟩
      · have hqi : ¬ ((s[i].toNat : Int) = 34) := fun h => hq (UInt8.toNat_inj.1 (by show s[i].toNat = 34; omega))
        have HBL : Hid (dblB (s.data.toList.take (i + 1)) = dblB (s.data.toList.take i) ++ [s[i]]) := by
          show dblB (s.data.toList.take (i + 1)) = _
          rw [htk, dblB_append]
          simp [dblB, hq]
        clear htk hq
        go_wp2_with (at_builtin; refine wpl_bytes [s[i]] (hB.alc _) rfl (.tmp 22) _ rfl rfl _ 1 rfl (heap_alloc_new _ _) (by show _ + 1 ≤ _; omega) ?_; intro v2 w2 hB2 hk2)
        go_roundg (gk - 1)
        case measure => omega
        case rel => exact ⟨i + 1, by omega, by omega, by simp, by
            have h := hB2
            have e : l ++ 34 :: dblB (s.data.toList.take i) ++ [s[i]] = l ++ 34 :: dblB (s.data.toList.take (i + 1)) := by rw [HBL.out]; simp
            rw [e] at h
            exact ⟨h.own, h.g, by have := h.n; simp only [List.length_cons, List.length_nil] at this; omega⟩, (hK.alc _).trans hk2⟩
    · have hin : i = s.size := by omega
      subst hin
      have htk : s.data.toList.take s.size = s.data.toList := List.take_of_length_le (by rw [Array.length_toList]; exact Nat.le_refl _)
      rw [htk] at hB
      clear htk
      go_wp2_with (at_builtin; refine wpl_bytes [34] (hB.alc _) rfl (.tmp 28) _ rfl rfl _ 1 rfl (heap_alloc_new _ _) (by show _ + 1 ≤ _; omega) ?_; intro v2 w2 hB2 hk2)
      go_ret
      refine ⟨v2, rfl, ?_, (hK.alc _).trans hk2⟩
      have e : l ++ 34 :: dblB s.data.toList ++ [34] = l ++ 34 :: (dblB s.data.toList ++ [34]) := by simp
      rw [e] at hB2
      exact ⟨hB2.own, hB2.g, by have := hB2.n; simp only [List.length_cons, List.length_nil] at this; omega⟩

end Go.Proofs.YbulkexobaGreatFmt
