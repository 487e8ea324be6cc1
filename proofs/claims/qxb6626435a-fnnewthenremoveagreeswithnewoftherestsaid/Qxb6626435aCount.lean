import Derived.Test.Qxb6626435aReindex
namespace Go.Proofs.Qxb6626435a
set_option linter.unusedVariables false

/-- how many heads lie in slice t -/
def cntOf (hs : List Nat) (sh t : Nat) : Nat := (hs.filter fun h => decide (h / 2 ^ sh = t)).length
theorem below_zero (hs : List Nat) (sh : Nat) : below hs sh 0 = 0 := by
  unfold below
  rw [List.length_eq_zero_iff, List.filter_eq_nil_iff]
  intro a _; simp
theorem below_succ (hs : List Nat) (sh s : Nat) : below hs sh (s + 1) = below hs sh s + cntOf hs sh s := by
  unfold below cntOf
  induction hs with
  | nil => rfl
  | cons h t ih =>
    rw [List.filter_cons, List.filter_cons, List.filter_cons]
    by_cases h1 : h / 2 ^ sh < s
    · rw [if_pos (decide_eq_true (show h / 2 ^ sh < s + 1 by omega)), if_pos (decide_eq_true h1), if_neg (by simp; omega), List.length_cons, List.length_cons, ih]; omega
    · by_cases h2 : h / 2 ^ sh = s
      · rw [if_pos (decide_eq_true (show h / 2 ^ sh < s + 1 by omega)), if_neg (by simp; omega), if_pos (decide_eq_true h2), List.length_cons, List.length_cons, ih]; omega
      · rw [if_neg (by simp; omega), if_neg (by simp; omega), if_neg (by simp; omega), ih]
theorem cntOf_nil (sh t : Nat) : cntOf [] sh t = 0 := rfl
theorem cntOf_take (hs : List Nat) (sh t k : Nat) (hk : k < hs.length) : cntOf (hs.take (k + 1)) sh t = cntOf (hs.take k) sh t + if hs[k] / 2 ^ sh = t then 1 else 0 := by
  unfold cntOf
  rw [List.take_succ_eq_append_getElem hk, List.filter_append, List.length_append]
  congr 1
  by_cases h : hs[k] / 2 ^ sh = t
  · rw [if_pos h, List.filter_cons, if_pos (decide_eq_true h)]; rfl
  · rw [if_neg h, List.filter_cons, if_neg (by simpa using h)]; rfl
theorem cntOf_le (hs : List Nat) (sh t : Nat) : cntOf hs sh t ≤ hs.length := List.length_filter_le _ _
theorem slice_lt (p bl sh : Nat) (hp : p < 18446744073709551616) (hs : sh + bl = 64) : p / 2 ^ sh < 2 ^ bl := by
  rw [Nat.div_lt_iff_lt_mul (Nat.pow_pos (by decide)), ← Nat.pow_add, Nat.add_comm bl sh, hs]
  exact hp
end Go.Proofs.Qxb6626435a
