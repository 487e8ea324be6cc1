import Derived.Test.Qxb6626435aSearchW
import Derived.Lib.LazyBuf
namespace Go.Proofs.Qxb6626435a
open Go.RowKit Go.Sort
set_option linter.unusedVariables false

theorem erase_at (ys : List Nat) (i t x : Nat) (h : (ys.eraseIdx i)[t]? = some x) : ys[if t < i then t else t + 1]? = some x := by
  rw [List.getElem?_eraseIdx] at h
  split <;> simp_all

theorem del_row (w : World) (b i : Nat) (ys : List Nat) (hi : i < ys.length) (hr : Row w b 0 ys) (ht : w.there b 0 (ys.length * 20)) :
    Row ((w.setCells b (i * 20) ((ys.drop (i + 1)).flatMap enc)).setCells b ((ys.length - 1) * 20) (enc 0)) b 0 (ys.eraseIdx i) := by
  intro t x hx
  have hlt : t < ys.length - 1 := by
    have := (List.getElem?_eq_some_iff.1 hx).1
    rw [List.length_eraseIdx, if_pos hi] at this
    exact this
  have hx' := erase_at ys i t x hx
  refine World.rangeAt_setCells_apart ?_ _ _ _ (Or.inr (by rw [enc_length, enc_length]; omega))
  by_cases hti : t < i
  · rw [if_pos hti] at hx'
    refine World.rangeAt_setCells_apart (hr t x hx') _ _ _ (Or.inr ?_)
    rw [enc_length]; omega
  · rw [if_neg hti] at hx'
    have hS := World.rangeAt_setCells_same w b (i * 20) ((ys.drop (i + 1)).flatMap enc) (fun j hj => by
      rw [flat_len, List.length_drop] at hj
      have := ht (i * 20 + j) (by omega)
      rwa [Nat.zero_add] at this)
    intro j v hv
    have hj : j < 20 := by have := (List.getElem?_eq_some_iff.1 hv).1; rwa [enc_length] at this
    have := hS ((t - i) * 20 + j) v (by
      rw [flat_get _ _ _ hj, List.getElem?_drop, show i + 1 + (t - i) = t + 1 from by omega, hx']
      exact hv)
    rwa [show i * 20 + ((t - i) * 20 + j) = 0 + t * 20 + j from by omega] at this

theorem del_heads (w : World) (b nh i : Nat) (g : Nat → Value) (ys : List Nat) (hi : i < ys.length) (hr : w.rowIs b 41 nh g) (hg : ∀ t (ht : t < ys.length), g t = .int .u64 (pre ys[t] 8 : Nat)) :
    ∃ g', ((w.setCells b i ((List.range (ys.length - (i + 1))).map fun t => g (i + 1 + t))).setCells b (ys.length - 1) [.int .u64 0]).rowIs b 41 nh g' ∧ ∀ t (ht : t < (ys.eraseIdx i).length), g' t = .int .u64 (pre (ys.eraseIdx i)[t] 8 : Nat) := by
  refine ⟨_, rowIs_setCells _ _ _ _ (rowIs_setCells _ _ _ _ hr), fun t ht => ?_⟩
  have hlt : t < ys.length - 1 := by rwa [List.length_eraseIdx, if_pos hi] at ht
  have hx' := erase_at ys i t _ (List.getElem?_eq_getElem ht)
  rw [if_neg (by omega)]
  by_cases hti : t < i
  · rw [if_pos hti] at hx'
    rw [if_neg (by omega), hg t (by omega)]
    rw [List.getElem?_eq_getElem (by omega)] at hx'
    rw [Option.some.inj hx']
  · rw [if_neg hti] at hx'
    rw [if_pos (by rw [List.length_map, List.length_range]; omega), List.getElem?_map, List.getElem?_range (by omega)]
    show g (i + 1 + (t - i)) = _
    rw [show i + 1 + (t - i) = t + 1 from by omega, hg (t + 1) (by omega)]
    rw [List.getElem?_eq_getElem (by omega)] at hx'
    rw [Option.some.inj hx']

theorem below_erase (hs : List Nat) (sh t i : Nat) (hi : i < hs.length) : below (hs.eraseIdx i) sh t = if hs[i] / 2 ^ sh < t then below hs sh t - 1 else below hs sh t := by
  induction hs generalizing i with
  | nil => simp at hi
  | cons h r ih =>
    cases i with
    | zero =>
      unfold below
      rw [List.eraseIdx_zero, List.tail_cons, List.getElem_cons_zero, List.filter_cons]
      by_cases hh : h / 2 ^ sh < t
      · rw [if_pos hh, if_pos (decide_eq_true hh), List.length_cons]; omega
      · rw [if_neg hh, if_neg (by simpa using hh)]
    | succ i =>
      have := ih i (by simpa using hi)
      rw [List.eraseIdx_cons_succ, List.getElem_cons_succ]
      unfold below at this ⊢
      rw [List.filter_cons, List.filter_cons]
      have hpos : r[i]'(by simpa using hi) / 2 ^ sh < t → 0 < (r.filter fun h => decide (h / 2 ^ sh < t)).length := fun hh => by
        refine List.length_pos_of_mem (a := r[i]'(by simpa using hi)) (List.mem_filter.2 ⟨List.getElem_mem _, decide_eq_true hh⟩)
      by_cases hh : h / 2 ^ sh < t
      · rw [if_pos (decide_eq_true hh), if_pos (decide_eq_true hh), List.length_cons, List.length_cons, this]
        split
        · have := hpos ‹_›; omega
        · rfl
      · have e : ∀ l : List Nat, (if decide (h / 2 ^ sh < t) = true then h :: l else l) = l := fun l => if_neg (by simpa using hh)
        rw [e, e, this]
theorem below_one (hs : List Nat) (sh t i : Nat) (hi : i < hs.length) (h : hs[i] / 2 ^ sh < t) : 1 ≤ below hs sh t :=
  List.length_pos_of_mem (a := hs[i]) (List.mem_filter.2 ⟨List.getElem_mem _, decide_eq_true h⟩)
theorem map_erase (ys : List Nat) (i : Nat) : (ys.eraseIdx i).map (pre · 8) = (ys.map (pre · 8)).eraseIdx i := by
  induction ys generalizing i with
  | nil => rfl
  | cons y r ih => cases i with
    | zero => rfl
    | succ i => simp [ih]
theorem cons_erase (ys : List Nat) (i : Nat) (hi : i < ys.length) : (ys[i] :: ys.eraseIdx i).Perm ys := by
  induction ys generalizing i with
  | nil => simp at hi
  | cons y r ih => cases i with
    | zero => exact List.Perm.refl _
    | succ i =>
      rw [List.getElem_cons_succ, List.eraseIdx_cons_succ]
      exact (List.Perm.swap y _ _).trans ((ih i (by simpa using hi)).cons y)
theorem erase_perm (ys : List Nat) (i x : Nat) (hi : i < ys.length) (h : ys[i] = x) : (ys.eraseIdx i).Perm (ys.erase x) := by
  have h1 : (x :: ys.eraseIdx i).Perm ys := by rw [← h]; exact cons_erase ys i hi
  have h2 : ys.Perm (x :: ys.erase x) := List.perm_cons_erase (by rw [← h]; exact List.getElem_mem hi)
  exact List.Perm.cons_inv (h1.trans h2)
theorem erase_sorted (ys : List Nat) (i : Nat) (h : ys.Pairwise (· ≤ ·)) : (ys.eraseIdx i).Pairwise (· ≤ ·) := h.sublist (List.eraseIdx_sublist _ _)
end Go.Proofs.Qxb6626435a
