import Derived.Test.Qxb6626435aBSearch
import Derived.Test.Qxb6626435aCountRem
namespace Go.Proofs.Qxb6626435a
open Go.RowKit Go.Sort
set_option linter.unusedVariables false

/-- of sorted heads the first 'below s' are those of the slices below s -/
theorem below_iff (hs : List Nat) (sh s : Nat) (hsr : hs.Pairwise (· ≤ ·)) (t : Nat) (ht : t < hs.length) : t < below hs sh s ↔ hs[t] / 2 ^ sh < s := by
  obtain ⟨i, hi, h1, h2⟩ : ∃ i, i ≤ hs.length ∧ (∀ t (ht : t < hs.length), t < i → hs[t] / 2 ^ sh < s) ∧ (∀ (h : i < hs.length), ¬ hs[i] / 2 ^ sh < s) := by
    refine ⟨hs.findIdx (fun h => !decide (h / 2 ^ sh < s)), List.findIdx_le_length, fun t ht h => ?_, fun h => ?_⟩
    · have := List.not_of_lt_findIdx h
      simpa using this
    · have := List.findIdx_getElem (w := h)
      simpa using this
  rw [below_eq hs sh s i hi hsr h1 h2]
  constructor
  · exact h1 t ht
  · intro h
    refine Nat.lt_of_not_le fun hle => ?_
    have hil : i < hs.length := by omega
    have hle2 : hs[i] ≤ hs[t] := by
      by_cases e : i = t
      · subst e; exact Nat.le_refl _
      · exact List.pairwise_iff_getElem.1 hsr i t hil ht (by omega)
    have := h2 hil
    have hd : hs[i] / 2 ^ sh ≤ hs[t] / 2 ^ sh := Nat.div_le_div_right hle2
    omega
theorem below_mono (hs : List Nat) (sh s : Nat) (hsr : hs.Pairwise (· ≤ ·)) : below hs sh s ≤ below hs sh (s + 1) := by
  refine Nat.le_of_not_lt fun h => ?_
  have hl := below_le hs sh s
  have h1 := (below_iff hs sh s hsr (below hs sh (s + 1)) (by omega)).1 h
  have h2 := (below_iff hs sh (s + 1) hsr (below hs sh (s + 1)) (by omega)).2 (by omega)
  omega
theorem lo_below (hs : List Nat) (sh p : Nat) (hsr : hs.Pairwise (· ≤ ·)) : Lo hs p (below hs sh (p / 2 ^ sh)) := fun t ht h => by
  have h1 := (below_iff hs sh _ hsr t ht).1 h
  refine Nat.lt_of_not_le fun hle => ?_
  have hd : p / 2 ^ sh ≤ hs[t] / 2 ^ sh := Nat.div_le_div_right hle
  omega
/-- from i on no head is smaller than p -/
def Up (hs : List Nat) (p i : Nat) : Prop := ∀ t (ht : t < hs.length), i ≤ t → p ≤ hs[t]
theorem up_below (hs : List Nat) (sh p : Nat) (hsr : hs.Pairwise (· ≤ ·)) : Up hs p (below hs sh (p / 2 ^ sh + 1)) := fun t ht h => by
  have h1 : ¬ hs[t] / 2 ^ sh < p / 2 ^ sh + 1 := fun h2 => by
    have := (below_iff hs sh _ hsr t ht).2 h2
    omega
  refine Nat.le_of_not_lt fun hlt => ?_
  have hd : hs[t] / 2 ^ sh ≤ p / 2 ^ sh := Nat.div_le_div_right (Nat.le_of_lt hlt)
  omega
theorem up_here (hs : List Nat) (p i : Nat) (hsr : hs.Pairwise (· ≤ ·)) (hi : i < hs.length) (h : p ≤ hs[i]) : Up hs p i := fun t ht hit => by
  by_cases e : i = t
  · subst e; exact h
  · have := List.pairwise_iff_getElem.1 hsr i t hi ht (by omega)
    omega
theorem lo_seg (hs : List Nat) (p i hi j : Nat) (h1 : Lo hs p i) (h2 : Lo ((hs.drop i).take (hi - i)) p j) (hj : j ≤ hi - i) : Lo hs p (i + j) := fun t ht h => by
  by_cases e : t < i
  · exact h1 t ht e
  · have := h2 (t - i) (by rw [List.length_take, List.length_drop]; omega) (by omega)
    rw [List.getElem_take, List.getElem_drop] at this
    simpa [show i + (t - i) = t from by omega] using this
theorem pre_mono (x y : Nat) (h : x ≤ y) : pre x 8 ≤ pre y 8 := Nat.div_le_div_right h
theorem below_of_pre (x y : Nat) (h : pre x 8 < pre y 8) : x < y := Nat.lt_of_not_le fun hle => by
  have := pre_mono y x hle
  omega
end Go.Proofs.Qxb6626435a
