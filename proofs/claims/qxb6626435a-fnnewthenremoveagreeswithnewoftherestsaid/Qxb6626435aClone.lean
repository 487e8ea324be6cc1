import Derived.Test.Qxb6626435aSortFunc
namespace Go.Proofs.Qxb6626435a
open Go.RowKit Go.Sort
set_option linter.unusedVariables false

theorem flat_len (xs : List Nat) : (xs.flatMap enc).length = xs.length * 20 := by
  induction xs with
  | nil => rfl
  | cons x t ih => rw [List.flatMap_cons, List.length_append, enc_length, ih, List.length_cons]; omega
theorem flat_get (xs : List Nat) (i j : Nat) (hj : j < 20) : (xs.flatMap enc)[i * 20 + j]? = (xs[i]?).bind (fun x => (enc x)[j]?) := by
  induction xs generalizing i with
  | nil => simp
  | cons x t ih =>
    rw [List.flatMap_cons]
    cases i with
    | zero => rw [List.getElem?_append_left (by rw [enc_length]; omega)]; simp
    | succ i => rw [List.getElem?_append_right (by rw [enc_length]; omega), enc_length, show (i + 1) * 20 + j - 20 = i * 20 + j from by omega, ih]; simp
theorem info26 : (Try.prog.info? 26).map (fun i => (i.zero, i.size, i.bytes)) = some (some (.agg (enc 0).toArray), 20, 20) := by kernel_rfl

theorem clone_any (b off c n : Nat) (xs : List Nat) (hx : xs.length = n) (hn0 : 0 < n) (hn : n ≤ 65536) (w : World) (hr : Row w b off xs) :
    Calls Try.prog 14 #[.slice (some ⟨b, off, none⟩) n c] w fun e w' => ∃ M cm, e = .returned (.slice (some ⟨M, 0, none⟩) n cm) ∧ n ≤ cm ∧ cm ≤ maxLen ∧ w.heap.size ≤ M ∧ M < w'.heap.size ∧ Row w' M 0 xs ∧ w'.there M 0 (n * 20) ∧ RowKit.Below w.heap.size w w' := by
  obtain ⟨i0, hi, hz0, hz1, hz2⟩ := info_parts info26
  have hcon := AnyE.slices_Clone Try.cloneID i0 (.agg (enc 0).toArray) 20 20 hi hz0 hz1 hz2 (by show (enc 0).toArray.size = 20; rw [List.size_toArray, enc_length]) (by omega) Try.sizeOf26 b off n c (xs.flatMap enc) w
    (by rw [flat_len, hx]) (by unfold maxLen; omega) (by omega)
    (fun j u hj => by
      have e : j = j / 20 * 20 + j % 20 := by omega
      rw [e, flat_get xs (j / 20) (j % 20) (by omega)] at hj
      obtain ⟨x, hx1, hx2⟩ := Option.bind_eq_some_iff.1 hj
      have := hr (j / 20) x hx1 (j % 20) u hx2
      rwa [show off + j / 20 * 20 + j % 20 = off + j from by omega] at this)
    (fun u hu => by
      obtain ⟨x, _, hx2⟩ := List.mem_flatMap.1 hu
      exact enc_one x u hx2)
  change Calls Try.prog 14 _ _ _ at hcon
  refine hcon.mono ?_
  rintro e w' ⟨v', rfl, hown, hne, hb⟩
  obtain ⟨_, h | ⟨g, cap, cur, rfl, hg, hh, hcap, hmx, hcs, htk⟩⟩ := hown
  · exact absurd h.1 hne
  · have hcell : ∀ t, t < n * 20 → w'.cell? ⟨g, t, none⟩ = (xs.flatMap enc)[t]? := fun t ht => by
      rw [cell_of_row _ _ _ _ _ _ hh, ← htk, List.getElem?_take, if_pos ht, Array.getElem?_toList]
    refine ⟨g, cap, rfl, hcap, hmx, hg, (Array.getElem?_eq_some_iff.1 hh).1, fun i x hxi j v hv => ?_, fun t ht => ?_, hb⟩
    · have hil := (List.getElem?_eq_some_iff.1 hxi).1
      have hj : j < 20 := by
        have := (List.getElem?_eq_some_iff.1 hv).1
        rwa [enc_length] at this
      rw [show 0 + i * 20 + j = i * 20 + j from by omega, hcell _ (by omega), flat_get xs i j hj, hxi]
      exact hv
    · rw [Nat.zero_add, hcell t ht, frozen_of_row _ _ _ _ _ hh]
      refine ⟨?_, rfl⟩
      rw [List.getElem?_eq_getElem (by rw [flat_len, hx]; exact ht)]
      rfl
theorem clone_nil (c n : Nat) (w : World) : Calls Try.prog 14 #[.slice none n c] w fun e w' => e = .returned (.slice none 0 0) ∧ w = w' := by
  have hcon := AnyE.slices_Clone_nil Try.cloneID n c w
  change Calls Try.prog 14 _ _ _ at hcon
  exact hcon.mono fun e w' ⟨h1, h2⟩ => ⟨h1, h2.symm⟩
end Go.Proofs.Qxb6626435a
