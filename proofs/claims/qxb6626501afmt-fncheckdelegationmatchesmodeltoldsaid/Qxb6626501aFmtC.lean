import Derived.Test.Qxb6626501aFmtB
import Derived.Shelf.Small.Strs
namespace Go.Proofs.Qxb6626501aFmt
open Go.RowKit
set_option linter.unusedVariables false

/-- a string's number: a one, then its bytes, base 256: the shorter is the lesser, then bytewise -/
def fold (x : Nat) (l : List UInt8) : Nat := l.foldl (fun x b => x * 256 + b.toNat) x
def K (s : ByteArray) : Nat := fold 1 s.data.toList

theorem fold_nil (x : Nat) : fold x [] = x := rfl
theorem fold_cons (x : Nat) (b : UInt8) (l : List UInt8) : fold x (b :: l) = fold (x * 256 + b.toNat) l := rfl
theorem fold_app (x : Nat) (l m : List UInt8) : fold x (l ++ m) = fold (fold x l) m := by simp [fold]
theorem fold_ge : ∀ (l : List UInt8) (x : Nat), x ≤ fold x l
  | [], x => Nat.le_refl _
  | b :: l, x => by rw [fold_cons]; have := fold_ge l (x * 256 + b.toNat); omega
theorem fold_lt : ∀ (b a : List UInt8) (x y : Nat), a.length ≤ b.length → x < y → fold x a < fold y b
  | b, [], x, y, _, h => by have := fold_ge b y; rw [fold_nil]; omega
  | [], _ :: _, x, y, hl, _ => by simp at hl
  | d :: b, c :: a, x, y, hl, h => by
    rw [fold_cons, fold_cons]
    have := c.toNat_lt
    exact fold_lt b a _ _ (by simpa using hl) (by omega)
theorem fold_short (a b : List UInt8) (h : a.length < b.length) : fold 1 a < fold 1 b := by
  cases b with
  | nil => simp at h
  | cons d b => rw [fold_cons]; exact fold_lt b a _ _ (by simp at h; omega) (by omega)
theorem fold_inj : ∀ (a b : List UInt8) (x : Nat), a.length = b.length → fold x a = fold x b → a = b
  | [], [], _, _, _ => rfl
  | [], _ :: _, _, h, _ => by simp at h
  | _ :: _, [], _, h, _ => by simp at h
  | c :: a, d :: b, x, hl, h => by
    rw [fold_cons, fold_cons] at h
    have hl' : a.length = b.length := by simpa using hl
    have e : c = d := by
      rcases Nat.lt_trichotomy c.toNat d.toNat with hc | hc | hc
      · have := fold_lt b a (x * 256 + c.toNat) (x * 256 + d.toNat) (by omega) (by omega); omega
      · exact UInt8.toNat_inj.1 hc
      · have := fold_lt a b (x * 256 + d.toNat) (x * 256 + c.toNat) (by omega) (by omega); omega
    subst e
    rw [fold_inj a b _ hl' h]
theorem cmp_lt : ∀ (a b : List UInt8) (x : Nat), a.length = b.length → (Lib.compareBytes a b < 0 ↔ fold x a < fold x b) ∧ (Lib.compareBytes a b = 0 ↔ fold x a = fold x b)
  | [], [], x, _ => by simp [Lib.compareBytes]
  | [], _ :: _, _, h => by simp at h
  | _ :: _, [], _, h => by simp at h
  | c :: a, d :: b, x, hl => by
    have hl' : a.length = b.length := by simpa using hl
    rw [fold_cons, fold_cons]
    simp only [Lib.compareBytes]
    by_cases h1 : c < d
    · have h1' : c.toNat < d.toNat := UInt8.lt_iff_toNat_lt.1 h1
      have := fold_lt b a (x * 256 + c.toNat) (x * 256 + d.toNat) (by omega) (by omega)
      rw [if_pos h1]
      constructor
      · simp; omega
      · simp; omega
    · by_cases h2 : d < c
      · have h2' : d.toNat < c.toNat := UInt8.lt_iff_toNat_lt.1 h2
        have := fold_lt a b (x * 256 + d.toNat) (x * 256 + c.toNat) (by omega) (by omega)
        rw [if_neg h1, if_pos h2]
        constructor
        · simp; omega
        · simp; omega
      · rw [if_neg h1, if_neg h2]
        have e : c = d := by
          apply UInt8.toNat_inj.1
          have a1 : ¬ c.toNat < d.toNat := fun h => h1 (UInt8.lt_iff_toNat_lt.2 h)
          have a2 : ¬ d.toNat < c.toNat := fun h => h2 (UInt8.lt_iff_toNat_lt.2 h)
          omega
        subst e
        exact cmp_lt a b _ hl'

theorem K_inj {a b : ByteArray} (h : K a = K b) : a = b := by
  rcases Nat.lt_trichotomy a.data.toList.length b.data.toList.length with hl | hl | hl
  · have := fold_short _ _ hl; unfold K at h; omega
  · exact WideShapes.bytes_inj (fold_inj _ _ 1 hl h)
  · have := fold_short _ _ hl; unfold K at h; omega
theorem K_short {a b : ByteArray} (h : a.size < b.size) : K a < K b := fold_short _ _ (by simpa using h)

/-- the order's sign -/
def sgn (a b : ByteArray) : Int := if a.size < b.size then -1 else if b.size < a.size then 1 else Lib.compareBytes a.data.toList b.data.toList
theorem cmp_bounds : ∀ (a b : List UInt8), -1 ≤ Lib.compareBytes a b ∧ Lib.compareBytes a b ≤ 1
  | [], [] => by simp [Lib.compareBytes]
  | [], _ :: _ => by simp [Lib.compareBytes]
  | _ :: _, [] => by simp [Lib.compareBytes]
  | c :: a, d :: b => by
    simp only [Lib.compareBytes]
    have := cmp_bounds a b
    split
    · omega
    · split <;> omega
theorem sgn_bounds (a b : ByteArray) : -1 ≤ sgn a b ∧ sgn a b ≤ 1 := by
  unfold sgn
  have := cmp_bounds a.data.toList b.data.toList
  split
  · omega
  · split <;> omega
theorem sgn_neg (a b : ByteArray) : sgn a b < 0 ↔ K a < K b := by
  unfold sgn
  by_cases h1 : a.size < b.size
  · have := K_short h1; rw [if_pos h1]; omega
  · rw [if_neg h1]
    by_cases h2 : b.size < a.size
    · have := K_short h2; rw [if_pos h2]; omega
    · rw [if_neg h2]
      exact (cmp_lt _ _ 1 (by simp; omega)).1
theorem sgn_zero (a b : ByteArray) : sgn a b = 0 ↔ K a = K b := by
  unfold sgn
  by_cases h1 : a.size < b.size
  · have := K_short h1; rw [if_pos h1]; omega
  · rw [if_neg h1]
    by_cases h2 : b.size < a.size
    · have := K_short h2; rw [if_pos h2]; omega
    · rw [if_neg h2]
      exact (cmp_lt _ _ 1 (by simp; omega)).2

/-- at the first byte that differs -/
theorem K_first {a b : ByteArray} (hl : a.size = b.size) (i : Nat) (h1 : i < a.data.toList.length) (h2 : i < b.data.toList.length) (hp : a.data.toList.take i = b.data.toList.take i) (hlt : a.data.toList[i] < b.data.toList[i]) : K a < K b := by
  unfold K
  rw [← List.take_append_drop i a.data.toList, ← List.take_append_drop i b.data.toList, fold_app, fold_app, hp, List.drop_eq_getElem_cons h1, List.drop_eq_getElem_cons h2, fold_cons, fold_cons]
  have := UInt8.lt_iff_toNat_lt.1 hlt
  refine fold_lt _ _ _ _ ?_ (by omega)
  simp
  omega

/-- sorted strictly -/
def Asc (ss : List ByteArray) : Prop := ss.Pairwise fun a b => K a < K b
theorem asc_of_steps (ss : List ByteArray) (h : ∀ i (hi : i + 1 < ss.length), K ss[i] < K ss[i + 1]) : Asc ss := by
  refine List.pairwise_iff_getElem.2 fun i j hi hj hij => ?_
  obtain ⟨d, rfl⟩ : ∃ d, j = i + 1 + d := ⟨j - i - 1, by omega⟩
  induction d with
  | zero => exact h i hj
  | succ d ih =>
    have h1 := ih (by omega) (by omega)
    have h2 := h (i + 1 + d) (by omega)
    exact Nat.lt_trans h1 h2
end Go.Proofs.Qxb6626501aFmt
