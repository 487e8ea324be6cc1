import Derived.Test.Qxb6626435aNum
import Derived.Shelf.SlSortCmp.QuietGrown
import Derived.Deep.MidRow
import Derived.Deep.OwnRows
namespace Go.Proofs.Qxb6626435a
open Go.RowKit Go.Sort
set_option linter.unusedVariables false

/-- w' is w, some draws on, some new blocks behind -/
def Grew (w w' : World) : Prop := ∃ q os, w' = grow (w.drewN q) os
theorem Grew.refl (w : World) : Grew w w := ⟨0, #[], (grow_empty _).symm⟩
theorem Grew.alloc {w w' : World} (h : Grew w w') (o : Obj) : Grew w (w'.alloc o) := by
  obtain ⟨q, os, rfl⟩ := h
  exact ⟨q, os ++ #[o], by rw [alloc_eq_grow, grow_grow]⟩
theorem Grew.drewN {w w' : World} (h : Grew w w') (n : Nat) : Grew w (w'.drewN n) := by
  obtain ⟨q, os, rfl⟩ := h
  exact ⟨q + n, os, by show grow ((w.drewN q).drewN n) os = _; rw [World.drewN_drewN]⟩
theorem Grew.drew {w w' : World} (h : Grew w w') : Grew w w'.drew := h.drewN 1
theorem Grew.trans {a b c : World} (h : Grew a b) (k : Grew b c) : Grew a c := by
  obtain ⟨q, os, rfl⟩ := k
  obtain ⟨q', os', e⟩ := h.drewN q
  rw [e, grow_grow]
  exact ⟨_, _, rfl⟩
theorem below_drewN {B : Nat} {a w : World} (h : Below B a w) (n : Nat) : Below B a (w.drewN n) := by
  induction n with
  | zero => exact h
  | succ n ih => exact ih.drew
theorem Grew.below {w w' : World} (h : Grew w w') : Below w.heap.size w w' := by
  obtain ⟨q, os, rfl⟩ := h
  have h1 : Below w.heap.size w (w.drewN q) := below_drewN (Below.refl _ _) q
  exact ⟨h1.os, h1.tape, h1.output, by rw [size_grow]; exact Nat.le_trans h1.size (Nat.le_add_right _ _), fun k hk => by
    rw [heap_grow_old _ _ (Nat.lt_of_lt_of_le hk h1.size)]; exact h1.block k hk⟩

/-- in block b, from off on, lie the identifiers xs -/
def Row (w : World) (b off : Nat) (xs : List Nat) : Prop := ∀ i x, xs[i]? = some x → w.rangeAt b (off + i * 20) (enc x)
theorem Row.block {w w' : World} {b off : Nat} {xs : List Nat} (h : Row w b off xs) (e : w'.heap[b]? = w.heap[b]?) : Row w' b off xs := fun i x hx j v hv => by
  rw [World.cell?_of_block (w := w) e]; exact h i x hx j v hv
theorem Row.below {B : Nat} {w w' : World} {b off : Nat} {xs : List Nat} (h : Row w b off xs) (k : Below B w w') (hb : b < B) : Row w' b off xs := h.block (k.block b hb)
theorem Row.other {w : World} {b off : Nat} {xs : List Nat} (h : Row w b off xs) (b' o : Nat) (vs : List Value) (hne : b ≠ b') : Row (w.setCells b' o vs) b off xs := fun i x hx =>
  World.rangeAt_setCells_apart (h i x hx) b' o vs (Or.inl hne)
theorem Row.set {w : World} {b : Nat} {xs : List Nat} (h : Row w b 0 xs) (ht : w.there b 0 (xs.length * 20)) (i y : Nat) (hi : i < xs.length) : Row (w.setCells b (i * 20) (enc y)) b 0 (xs.set i y) := fun j x hx => by
  rw [List.getElem?_set] at hx
  by_cases e : i = j
  · subst e
    rw [if_pos rfl, if_pos hi] at hx
    cases hx
    rw [Nat.zero_add]
    refine World.rangeAt_setCells_same w b (i * 20) (enc y) (fun t hlt => ?_)
    rw [enc_length] at hlt
    have := ht (i * 20 + t) (by omega)
    rwa [Nat.zero_add] at this
  · rw [if_neg e] at hx
    refine World.rangeAt_setCells_apart (h j x hx) b (i * 20) (enc y) ?_
    rw [enc_length, enc_length]
    right
    omega
theorem Row.at {w : World} {b off : Nat} {xs : List Nat} (h : Row w b off xs) (i : Nat) (hi : i < xs.length) : w.rangeAt b (off + i * 20) (enc xs[i]) := h i _ (List.getElem?_eq_getElem hi)
theorem Row.take {w : World} {b off : Nat} {xs : List Nat} (h : Row w b off xs) (n : Nat) : Row w b off (xs.take n) := fun i x hx => by
  refine h i x ?_
  rw [List.getElem?_take] at hx
  split at hx
  · exact hx
  · cases hx
theorem there_at {w : World} {b n : Nat} (h : w.there b 0 (n * 20)) (i : Nat) (hi : i < n) : w.there b (i * 20) 20 := fun t ht => by
  have := h (i * 20 + t) (by omega)
  rwa [Nat.zero_add] at this
theorem there_block {w w' : World} {b o n : Nat} (h : w.there b o n) (e : w'.heap[b]? = w.heap[b]?) : w'.there b o n := fun j hj => by
  rw [World.cell?_of_block (w := w) e, World.frozen?_of_block (w := w) e]; exact h j hj
theorem there_lt {w : World} {b o n : Nat} (h : w.there b o n) (hn : 0 < n) : b < w.heap.size := by
  obtain ⟨u, hu⟩ := Option.isSome_iff_exists.1 (h 0 hn).1
  exact World.block_lt_of_cell? w _ hu
theorem setCells_block (b o : Nat) (vs : List Value) (w : World) (k : Nat) (hk : k ≠ b) : (w.setCells b o vs).heap[k]? = w.heap[k]? := by
  induction vs generalizing w o with
  | nil => rfl
  | cons v r ih => rw [World.setCells, ih]; exact Below.heap_setCell _ _ _ _ hk
theorem below_setCells {B : Nat} {a w : World} (h : Below B a w) (b o : Nat) (vs : List Value) (hb : B ≤ b) : Below B a (w.setCells b o vs) := by
  induction vs generalizing w o with
  | nil => exact h
  | cons v r ih => exact ih (h.setCell (p := ⟨b, o, none⟩) hb v) (o + 1)

/-- what 'make' lays: n zeros -/
theorem made_row (w : World) (n : Nat) (t : TypeId) : Row (w.alloc (.cells (madeCells (enc 0).toArray (n * 20)) t)) w.heap.size 0 (List.replicate n 0) := fun i x hx j v hv => by
  have hi : i < n := by
    rw [List.getElem?_replicate] at hx
    split at hx
    · assumption
    · cases hx
  have hx0 : x = 0 := by rw [List.getElem?_replicate, if_pos hi] at hx; exact (Option.some.inj hx).symm
  subst hx0
  have hj : j < 20 := by have := (List.getElem?_eq_some_iff.1 hv).1; rwa [enc_length] at this
  rw [cell_of_row _ _ _ _ t (0, 0) (heap_alloc_new w _), Nat.zero_add]
  have hb : i * 20 + j < n * 20 := by omega
  unfold madeCells
  rw [Array.getElem?_map, Array.getElem?_range, if_pos hb]
  simp only [Option.map_some]
  have e : (i * 20 + j) % (enc 0).toArray.size = j := by
    rw [show (enc 0).toArray.size = 20 from by rw [List.size_toArray, enc_length]]; omega
  rw [e]
  rw [getElem!_def, List.getElem?_toArray, hv]
theorem made_there (w : World) (z : Array Value) (m : Nat) (t : TypeId) : (w.alloc (.cells (madeCells z m) t)).there w.heap.size 0 m := fun j hj => by
  rw [cell_of_row _ _ _ _ t (0, 0) (heap_alloc_new w _), frozen_of_row _ _ _ _ t (heap_alloc_new w _), Nat.zero_add]
  refine ⟨?_, rfl⟩
  rw [Array.getElem?_eq_getElem (by rw [size_madeCells]; exact hj)]
  rfl
end Go.Proofs.Qxb6626435a
