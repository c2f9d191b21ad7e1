/-
  THE LAW's INPUTS, as the walks read them; the end of every walk.
-/
import Derived.Test.YbulkexobaGreatFmtEnds3
import Derived.Test.YbulkexobaGreatFmtUint
namespace Go.Proofs.YbulkexobaGreatFmt
open Go.RowKit Go.Extern.Stop Go.Stop Go.Extern

/-- The names' lengths, summed. -/
def tot (ns : Nat → ByteArray) : Nat → Nat
  | 0 => 0
  | i + 1 => tot ns i + (ns i).size

structure LawIn (w : World) (sel fl : Int) (name : ByteArray) (ao : Option Addr) (nb no nn : Nat) (ns : Nat → ByteArray) (bo : Option Addr) (mb mo mn : Nat) (xs : Nat → Int) (num : Nat) (up alt alt2 semi par : Bool) (wi : Nat) : Prop where
  hsel : 0 ≤ sel ∧ sel ≤ 255
  hfl : 0 ≤ fl ∧ fl ≤ 255
  hname : name.size ≤ 1048576
  hnn : nn ≤ 65536
  hmn : mn ≤ 65536
  hao : 0 < nn → ao = some ⟨nb, no, none⟩
  hnc : ∀ w', w.grownBy w' none → ∀ i, i < nn → w'.cell? ⟨nb, no + i, none⟩ = some (.string (ns i))
  htot : ∀ i, i ≤ nn → tot ns i ≤ 1048576
  hbo : 0 < mn → bo = some ⟨mb, mo, none⟩
  hmc : ∀ w', w.grownBy w' none → ∀ i, i < mn → w'.cell? ⟨mb, mo + i, none⟩ = some (.int .u8 (xs i))
  hxs : ∀ i, i < mn → 0 ≤ xs i ∧ xs i ≤ 255
  hnum : num < 18446744073709551616
  htab : ∀ w', w.grownBy w' none → Lib.TabIs Ybaz.prog w' (Rows.lawS194064CWholeRow.named.getD 0 "") .u64 Lib.pow10Tab
  hup : (bits .and .u8 fl 2 != 0) = up
  halt : (bits .and .u8 fl 32 != 0) = alt
  halt2 : (bits .and .u8 fl 64 != 0) = alt2
  hsemi : (bits .and .u8 fl 1 != 0) = semi
  hpar : (bits .and .u8 fl 4 != 0) = par
  hwi : (wrap64 (bits BinOp.and IntKind.u8 (fl / 8) 3)).tmod 3 = (wi : Int)

/-- 'string(b)' -/
theorem BR.conv {w0 w : World} {v : Value} {l : List UInt8} {b : Nat} (h : BR w0 v l b w) : (convert 23 9 v).run Ybaz.prog w = .ok (.string ⟨l.toArray⟩) w := by
  rcases h.own.2 with ⟨rfl, h0⟩ | ⟨g, cap, cur, rfl, _, hg, _⟩
  · have hl : l = [] := List.eq_nil_of_length_eq_zero h0
    subst hl
    exact conv_bytes w none 0 0 [] rfl (fun h => by omega)
  · exact conv_bytes w (some ⟨g, 0, none⟩) l.length cap l rfl (fun _ => ⟨⟨g, 0, none⟩, rfl, h.own.cells (g := g) rfl⟩)

theorem BR.made {w0 w : World} {v : Value} (h : w.ownsRow w0.heap.size 5 1 v 0 []) (hg : w0.grownBy w none) : BR w0 v [] 0 w := ⟨h, hg, Nat.le_refl _⟩

theorem BR.wk {w0 w : World} {v : Value} {l l' : List UInt8} {b b' : Nat} (h : BR w0 v l b w) (hl : l' = l) (hb : b ≤ b') : BR w0 v l' b' w := by
  subst hl
  exact ⟨h.own, h.g, Nat.le_trans h.n hb⟩
theorem ends_badP {bad semi par : Bool} {T : List UInt8} {want : Value} {w : World} (h : Ends bad semi par T want w) (hb : (bad || par) = true) : PBad ⟨(T ++ tl semi par).toArray⟩ w := by
  unfold Ends at h
  rw [if_pos hb] at h
  exact h
theorem ends_goodP {bad semi par : Bool} {T : List UInt8} {want : Value} {w : World} (h : Ends bad semi par T want w) (hb : (bad || par) = false) : PGood ⟨(T ++ tl semi par).toArray⟩ want w := by
  unfold Ends at h
  rw [if_neg (by rw [hb]; decide)] at h
  exact h

theorem isStm_kp {w w' : World} {v : Value} {ty sty : Nat} {cs : Array Value} (h : IsStm w v ty sty cs) (hk : Kp w w') (hs : sty ≠ 5) : IsStm w' v ty sty cs := by
  obtain ⟨b, h1, h2⟩ := h
  exact ⟨b, h1, hk _ _ _ _ h2 hs⟩
theorem isStm_new (w : World) (ty sty : Nat) (cs : Array Value) : IsStm (w.alloc (.cells cs sty)) (.iface ty (.pointer (some ⟨w.heap.size, 0, none⟩))) ty sty cs := ⟨_, rfl, heap_alloc_new w _⟩

theorem as73 (v : Value) (w : World) : (Instr.typeAssert (.iface 73 v) 70 73 true).run Ybaz.prog w = .ok (.tuple #[v, .bool true]) w := as_yes 73 _ Ybaz.underlying73 v 70 w

theorem sz_ck {s : ByteArray} {up : Bool} (h : s.size ≤ 40) : (ckB s up).size ≤ 40 := by rw [ckB_size]; exact h
theorem wordB_size (wi : Nat) : (wordB wi).size ≤ 40 := by
  unfold wordB
  repeat' split
  all_goals decide

section
variable {w0 w : World} {v : Value} {l : List UInt8} {b : Nat} {ops : Array Oper} {rest : List Oper} {o : Oper} {a : Act} {Q : Exit → Act → World → Prop}
/-- 'append(b, s...)', s short -/
theorem wpl_s (hB : BR w0 v l b w) (hgd : o.guard = none) (sl x : Operand) (ho : o.op = .call { callee := .builtin .append, args := #[sl, x], argTypes := #[23, 9] })
    (hs : a.eval sl = v) (s : ByteArray) (hx : a.eval x = .string s) (hsz : s.size ≤ 40) (hb : b ≤ 500000000)
    (h : ∀ v' w', BR w0 v' (l ++ s.data.toList) (b + 40) w' → Kp w w' → wpList Ybaz.prog ops Q rest (a.put o.dst v') w') : wpList Ybaz.prog ops Q (o :: rest) a w :=
  wpl_str hB hgd sl x ho hs s hx (by omega) fun v' w' h1 h2 => h v' w' ⟨h1.own, h1.g, by have := h1.n; omega⟩ h2
end
theorem cq_s (w0 : World) (v : Value) (l : List UInt8) (b : Nat) (s : ByteArray) (w : World) (hB : BR w0 v l b w) (hs : s.size ≤ 1048576) (hb : b ≤ 500000000) :
    Calls Ybaz.prog 6 #[v, .string s] w fun e w' => ∃ v', e = .returned v' ∧ BR w0 v' (l ++ 34 :: (dblB s.data.toList ++ [34])) (b + 2100000) w' ∧ Kp w w' :=
  (cq_any w0 v l b s w hB (by omega)).mono fun e w' ⟨v', h1, h2, h3⟩ => ⟨v', h1, ⟨h2.own, h2.g, by have := h2.n; omega⟩, h3⟩

theorem k_to (up : Bool) : (ckB ⟨#[32, 116, 111, 32]⟩ up).data.toList = [32] ++ (ckB sTo up).data.toList ++ [32] := by
  unfold sTo
  simp only [ck_list]
  cases up <;> rfl
theorem k_sp (up : Bool) : (ckB ⟨#[115, 97, 118, 101, 112, 111, 105, 110, 116, 32]⟩ up).data.toList = (ckB sSavepoint up).data.toList ++ [32] := by
  unfold sSavepoint
  simp only [ck_list]
  cases up <;> rfl
theorem k_release (up : Bool) : (ckB ⟨#[114, 101, 108, 101, 97, 115, 101, 32]⟩ up).data.toList = (ckB sRelease up).data.toList ++ [32] := by
  unfold sRelease
  simp only [ck_list]
  cases up <;> rfl
theorem k_show (up : Bool) : (ckB ⟨#[115, 104, 111, 119, 32]⟩ up).data.toList = (ckB sShow up).data.toList ++ [32] := by
  unfold sShow
  simp only [ck_list]
  cases up <;> rfl
theorem k_set (up : Bool) : (ckB ⟨#[115, 101, 116, 32]⟩ up).data.toList = (ckB sSet up).data.toList ++ [32] := by
  unfold sSet
  simp only [ck_list]
  cases up <;> rfl
theorem k_start (up : Bool) : (ckB ⟨#[115, 116, 97, 114, 116, 32, 116, 114, 97, 110, 115, 97, 99, 116, 105, 111, 110]⟩ up).data.toList = (ckB sStart up).data.toList ++ [32] ++ (ckB sTransaction up).data.toList := by
  unfold sStart sTransaction
  simp only [ck_list]
  cases up <;> rfl
theorem k_setT (up : Bool) : (ckB ⟨#[115, 101, 116, 32, 116, 114, 97, 110, 115, 97, 99, 116, 105, 111, 110]⟩ up).data.toList = (ckB sSet up).data.toList ++ [32] ++ (ckB sTransaction up).data.toList := by
  unfold sSet sTransaction
  simp only [ck_list]
  cases up <;> rfl
theorem k_drop (up : Bool) : (ckB ⟨#[100, 114, 111, 112, 32, 116, 97, 98, 108, 101]⟩ up).data.toList = (ckB sDrop up).data.toList ++ [32] ++ (ckB sTable up).data.toList := by
  unfold sDrop sTable
  simp only [ck_list]
  cases up <;> rfl
theorem k_freeze (up : Bool) : (ckB ⟨#[32, 102, 114, 101, 101, 122, 101]⟩ up).data.toList = [32] ++ (ckB sFreeze up).data.toList := by
  unfold sFreeze
  simp only [ck_list]
  cases up <;> rfl
theorem k_if (up : Bool) : (ckB ⟨#[32, 105, 102, 32, 101, 120, 105, 115, 116, 115]⟩ up).data.toList = [32] ++ (ckB sIf up).data.toList ++ [32] ++ (ckB sExists up).data.toList := by
  unfold sIf sExists
  simp only [ck_list]
  cases up <;> rfl
theorem bad_of (n : ByteArray) : n.toList.isEmpty = decide (n.data.toList = []) := by
  rw [ByteArray.toList_eq]
  cases n.data.toList <;> simp
theorem mFirst_head (xs : Nat → Int) (n : Nat) : ∀ m, (mFirst xs n).head? = some m → m.1 = false := by
  intro m hm
  cases n with
  | zero => simp [mFirst] at hm
  | succ n =>
    simp [mFirst, List.range_succ_eq_map] at hm
    rw [← hm]
    rfl
theorem mFirst_nil (xs : Nat → Int) (n : Nat) : ((n : Int) == 0) = decide (mFirst xs n = []) := by
  cases n with
  | zero => rfl
  | succ n =>
    have h : mFirst xs (n + 1) ≠ [] := fun h => by have := congrArg List.length h; simp [mFirst] at this
    rw [decide_eq_false h]
    exact beq_eq_false_iff_ne.2 (by omega)

end Go.Proofs.YbulkexobaGreatFmt
