import Derived.Test.Qxb6626501aFmtP
namespace Go.Proofs.Qxb6626501aFmt
open Go.RowKit Go.Extern.Stop Go.Stop Go.Extern
set_option linter.unusedVariables false

/-- the first claim that is set -/
def fcR (l : Lim) : ByteArray :=
  if l.notBefore.isSome = true then nNb else
  if l.expires.isSome = true then nEx else
  if l.docs.isSome = true then nDo else
  if l.schemas.isSome = true then nSc else
  if l.fromTs.isSome = true then nFt else
  if l.toTs.isSome = true then nTt else
  if l.fromSeq.isSome = true then nFs else
  if l.toSeq.isSome = true then nTs else
  ⟨#[]⟩

theorem ptr_none {w : World} {p : Option Addr} {x : Option Nat} (h : PtrAt w (.pointer p) x) (hx : x.isSome = false) : p = none := by
  cases x with
  | none => have : Value.pointer p = .pointer none := h; injection this
  | some n => cases hx
theorem ptr_some {w : World} {p : Option Addr} {x : Option Nat} (h : PtrAt w (.pointer p) x) (hx : x.isSome = true) : ∃ a, p = some a := by
  cases x with
  | none => cases hx
  | some n => obtain ⟨a, e, _⟩ := h; injection e with e; exact ⟨a, e⟩
theorem sl_none {w : World} {p : Option Addr} {n k : Nat} {x : Option (List ByteArray)} (h : StrsAt w (.slice p n k) x) (hx : x.isSome = false) : p = none ∧ n = 0 ∧ k = 0 := by
  cases x with
  | none => have : Value.slice p n k = .slice none 0 0 := h; injection this with e1 e2 e3; exact ⟨e1, e2, e3⟩
  | some n => cases hx
theorem sl_some {w : World} {p : Option Addr} {n k : Nat} {x : Option (List ByteArray)} (h : StrsAt w (.slice p n k) x) (hx : x.isSome = true) : ∃ a, p = some a := by
  cases x with
  | none => cases hx
  | some n => obtain ⟨a, c, e, _⟩ := h; injection e with e; exact ⟨a, e⟩
theorem nil_neq (w : World) : (binOp BinOp.neq 23 (.slice none 0 0) (.slice none 0 0)).run Tryf.prog w = .ok (.bool false) w := by kernel_rfl
theorem nil_nne (a : Addr) (n c : Nat) (w : World) : (binOp BinOp.neq 23 (.slice (some a) n c) (.slice none 0 0)).run Tryf.prog w = .ok (.bool true) w := by kernel_rfl
theorem ptr_neq (w : World) : (binOp BinOp.neq 24 (.pointer none) (.pointer none)).run Tryf.prog w = .ok (.bool false) w := by kernel_rfl
theorem ptr_nne (a : Addr) (w : World) : (binOp BinOp.neq 24 (.pointer (some a)) (.pointer none)).run Tryf.prog w = .ok (.bool true) w := by kernel_rfl

set_option maxHeartbeats 1000000 in
set_option maxRecDepth 20000 in
theorem firstClaim_any (d : CapD) (v : Vals) (w : World) (hm : Means w d v) :
    Calls Tryf.prog 14 #[.agg (cellsC d v).toArray] w fun e w' => e = .returned (.string (fcR d.lim)) ∧ w.Extends w' := by
  obtain ⟨W, hW⟩ : ∃ W, W = w.alloc (.cells (cellsC d v).toArray 28) := ⟨_, rfl⟩
  have hx : Hid (w.Extends W) := hW ▸ (World.Extends.refl w).alloc _
  have hr : W.rangeAt w.heap.size 0 (cellsC d v) := hW ▸ new_range w _ _
  obtain ⟨c96, c97, c98, c99, c100, c101, c102, c103, c104, c105, c106, c107⟩ := cap_cells (hm.ext hx.out) hr
  simp only [Nat.zero_add, Vals.v98, Vals.v99, Vals.v100, Vals.v101, Vals.v102, Vals.v103, Vals.v104, Vals.v105] at c98 c99 c100 c101 c102 c103 c104 c105
  clear c96 c97 c106 c107 hr
  have q1 := nil_neq
  have q2 := nil_nne
  have q3 := ptr_neq
  have q4 := ptr_nne
  replace hW := hW.symm
  obtain ⟨R, hR⟩ : ∃ R, R = fcR d.lim := ⟨_, rfl⟩
  rw [← hR]
  unfold fcR at hR
  cases h0 : d.lim.notBefore.isSome
  case true =>
    obtain ⟨a, ea⟩ := ptr_some hm.notBefore h0
    rw [ea] at c104
    rw [if_pos h0] at hR
    clear ea
    clear hm
    subst hR
    go_enter Tryf.func14, Tryf.ntmps14
    go_wp2
    go_ret
    exact ⟨rfl, hx.out⟩
  have en0 := ptr_none hm.notBefore h0
  rw [en0] at c104
  clear en0
  rw [if_neg (by rw [h0]; exact Bool.false_ne_true)] at hR
  cases h1 : d.lim.expires.isSome
  case true =>
    obtain ⟨a, ea⟩ := ptr_some hm.expires h1
    rw [ea] at c105
    rw [if_pos h1] at hR
    clear ea
    clear hm
    subst hR
    go_enter Tryf.func14, Tryf.ntmps14
    go_wp2
    go_ret
    exact ⟨rfl, hx.out⟩
  have en1 := ptr_none hm.expires h1
  rw [en1] at c105
  clear en1
  rw [if_neg (by rw [h1]; exact Bool.false_ne_true)] at hR
  cases h2 : d.lim.docs.isSome
  case true =>
    obtain ⟨a, ea⟩ := sl_some hm.docs h2
    rw [ea] at c98
    rw [if_pos h2] at hR
    clear ea
    clear hm
    subst hR
    go_enter Tryf.func14, Tryf.ntmps14
    go_wp2
    go_ret
    exact ⟨rfl, hx.out⟩
  obtain ⟨ea2, eb2, ec2⟩ := sl_none hm.docs h2
  rw [ea2, eb2, ec2] at c98
  clear ea2 eb2 ec2
  rw [if_neg (by rw [h2]; exact Bool.false_ne_true)] at hR
  cases h3 : d.lim.schemas.isSome
  case true =>
    obtain ⟨a, ea⟩ := sl_some hm.schemas h3
    rw [ea] at c99
    rw [if_pos h3] at hR
    clear ea
    clear hm
    subst hR
    go_enter Tryf.func14, Tryf.ntmps14
    go_wp2
    go_ret
    exact ⟨rfl, hx.out⟩
  obtain ⟨ea3, eb3, ec3⟩ := sl_none hm.schemas h3
  rw [ea3, eb3, ec3] at c99
  clear ea3 eb3 ec3
  rw [if_neg (by rw [h3]; exact Bool.false_ne_true)] at hR
  cases h4 : d.lim.fromTs.isSome
  case true =>
    obtain ⟨a, ea⟩ := ptr_some hm.fromTs h4
    rw [ea] at c100
    rw [if_pos h4] at hR
    clear ea
    clear hm
    subst hR
    go_enter Tryf.func14, Tryf.ntmps14
    go_wp2
    go_ret
    exact ⟨rfl, hx.out⟩
  have en4 := ptr_none hm.fromTs h4
  rw [en4] at c100
  clear en4
  rw [if_neg (by rw [h4]; exact Bool.false_ne_true)] at hR
  cases h5 : d.lim.toTs.isSome
  case true =>
    obtain ⟨a, ea⟩ := ptr_some hm.toTs h5
    rw [ea] at c101
    rw [if_pos h5] at hR
    clear ea
    clear hm
    subst hR
    go_enter Tryf.func14, Tryf.ntmps14
    go_wp2
    go_ret
    exact ⟨rfl, hx.out⟩
  have en5 := ptr_none hm.toTs h5
  rw [en5] at c101
  clear en5
  rw [if_neg (by rw [h5]; exact Bool.false_ne_true)] at hR
  cases h6 : d.lim.fromSeq.isSome
  case true =>
    obtain ⟨a, ea⟩ := ptr_some hm.fromSeq h6
    rw [ea] at c102
    rw [if_pos h6] at hR
    clear ea
    clear hm
    subst hR
    go_enter Tryf.func14, Tryf.ntmps14
    go_wp2
    go_ret
    exact ⟨rfl, hx.out⟩
  have en6 := ptr_none hm.fromSeq h6
  rw [en6] at c102
  clear en6
  rw [if_neg (by rw [h6]; exact Bool.false_ne_true)] at hR
  cases h7 : d.lim.toSeq.isSome
  case true =>
    obtain ⟨a, ea⟩ := ptr_some hm.toSeq h7
    rw [ea] at c103
    rw [if_pos h7] at hR
    clear ea
    clear hm
    subst hR
    go_enter Tryf.func14, Tryf.ntmps14
    go_wp2
    go_ret
    exact ⟨rfl, hx.out⟩
  have en7 := ptr_none hm.toSeq h7
  rw [en7] at c103
  clear en7
  rw [if_neg (by rw [h7]; exact Bool.false_ne_true)] at hR
  clear hm
  subst hR
  go_enter Tryf.func14, Tryf.ntmps14
  go_wp2
  go_ret
  exact ⟨rfl, hx.out⟩
end Go.Proofs.Qxb6626501aFmt
