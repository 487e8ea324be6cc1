import Derived.Test.Qxb6626435aCompare
import Derived.Test.Qxb6626435aShelf
namespace Go.Proofs.Qxb6626435a
open Go.RowKit Go.Sort
set_option linter.unusedVariables false

/-- of what was there block M alone has turned -/
structure But (M : Nat) (w w' : World) : Prop where
  os : w'.os = w.os
  tape : w'.tape = w.tape
  output : w'.output = w.output
  size : w.heap.size ≤ w'.heap.size
  oth : ∀ k, k < w.heap.size → k ≠ M → w'.heap[k]? = w.heap[k]?
theorem But.below {M B : Nat} {w w' : World} (h : But M w w') (hB : B ≤ M) (hw : B ≤ w.heap.size) : RowKit.Below B w w' := ⟨h.os, h.tape, h.output, h.size, fun k hk => h.oth k (by omega) (by omega)⟩
theorem But.row {M : Nat} {w w' : World} (h : But M w w') {b off : Nat} {xs : List Nat} (hr : Row w b off xs) (hb : b ≠ M) (hlt : b < w.heap.size) : Row w' b off xs := hr.block (h.oth b hlt hb)

theorem ltOf_cf (x y : Nat) : ltOf cf x y = decide (x % top < y % top) := by
  unfold ltOf cf sgn
  split
  · rename_i h; rw [decide_eq_true (by omega), decide_eq_true (by omega)]
  · rename_i h
    split
    · rw [decide_eq_false (by omega), decide_eq_false (by omega)]
    · rw [decide_eq_false (by omega), decide_eq_false (by omega)]
theorem swo_cf : SWO (ltOf cf) where
  irrefl x := by rw [ltOf_cf]; simp
  trans x y z h1 h2 := by rw [ltOf_cf] at *; simp at *; omega
  ntrans x y z h1 h2 := by rw [ltOf_cf] at *; simp at *; omega

theorem holds_of_row {w : World} {M n : Nat} {xs : List Nat} (hx : xs.length = n) (hr : Row w M 0 xs) (ht : w.there M 0 (n * 20)) : HoldsK enc 20 w M 0 xs.toArray := by
  intro j hj
  rw [size_flatK, List.size_toArray] at hj
  have hq : j / 20 < xs.length := by omega
  refine ⟨?_, (ht j (by omega)).2⟩
  show _ = some ((flatK enc 20 xs.toArray)[j]!)
  rw [get_flatK enc 20 xs.toArray j (by rw [List.size_toArray]; exact hj)]
  have e1 : xs.toArray[j / 20]! = xs[j / 20] := by rw [getElem!_pos xs.toArray _ (by simpa using hq)]; simp
  rw [e1]
  have h1 := hr (j / 20) xs[j / 20] (List.getElem?_eq_getElem hq) (j % 20) ((enc xs[j / 20])[j % 20]!) (by
    have hl : j % 20 < (enc xs[j / 20]).length := by rw [enc_length]; omega
    rw [List.getElem?_eq_getElem hl, getElem!_pos (enc xs[j / 20]) _ hl])
  rw [show 0 + j / 20 * 20 + j % 20 = 0 + j from by omega] at h1
  exact h1

theorem row_of_holds {w : World} {M : Nat} {d : Array Nat} (h : HoldsK enc 20 w M 0 d) : Row w M 0 d.toList ∧ w.there M 0 (d.size * 20) := by
  refine ⟨fun i x hx j v hv => ?_, fun j hj => ?_⟩
  · have hi : i < d.size := by
      have := (List.getElem?_eq_some_iff.1 hx).1
      simpa using this
    have hxe : d[i]! = x := by
      rw [getElem!_pos d _ hi]
      rw [Array.getElem?_toList, Array.getElem?_eq_getElem hi] at hx
      exact Option.some.inj hx
    have hj : j < 20 := by
      have := (List.getElem?_eq_some_iff.1 hv).1
      rwa [enc_length] at this
    have h1 := HoldsK.cell h (i := i) (c := j) hi hj
    rw [hxe] at h1
    rw [show 0 + i * 20 + j = 0 + i * 20 + j from rfl]
    rw [h1.1]
    have hl : j < (enc x).length := by rw [enc_length]; exact hj
    rw [getElem!_pos (enc x) _ hl]
    rw [List.getElem?_eq_getElem hl] at hv
    exact hv
  · have h1 := h j (by rw [size_flatK]; exact hj)
    exact ⟨by rw [h1.1]; rfl, h1.2⟩

theorem but_sortWorld (w : World) (M n : Nat) (d : Array Nat) (os : Array Obj) : But M w (sortWorldK enc 20 w M 0 n d os) where
  os := rfl
  tape := rfl
  output := rfl
  size := by unfold sortWorldK; rw [size_grow, size_putRowK]; exact Nat.le_add_right _ _
  oth := fun k hk hne => by
    unfold sortWorldK
    rw [heap_grow_old _ _ (by rw [size_putRowK]; exact hk)]
    show (w.heap.modify M _)[k]? = _
    rw [Array.getElem?_modify, if_neg (fun e => hne e.symm)]

theorem sortFunc_any (M cap n : Nat) (xs : List Nat) (hx : xs.length = n) (hlt : ∀ x ∈ xs, x < top) (w : World) (hM : M < w.heap.size) (hn : n ≤ 65536) (hr : Row w M 0 xs) (ht : w.there M 0 (n * 20)) :
    Calls Try.prog 15 #[.slice (some ⟨M, 0, none⟩) n cap, .func (.func 16) #[] #[]] w fun e w' => e = .returned (.tuple #[]) ∧ ∃ ys, ys.Perm xs ∧ ys.Pairwise (· ≤ ·) ∧ Row w' M 0 ys ∧ w'.there M 0 (n * 20) ∧ But M w w' := by
  have eg : ∀ args w, (callFunc 16 args).run Try.prog w = .ok (.enter 16 args) w := enters_of Try.func16 (by kernel_rfl) rfl
  have hsz : xs.toArray.size = n := by rw [List.size_toArray, hx]
  have hH := holds_of_row hx hr ht
  have hcmp : CmpLays Try.prog 16 #[] enc 20 cf M 0 xs.toArray.size w := fun m os dk hdk x y => compare_any x y _
  have hcon := AnyQ.slices_SortFunc Try.sortID 20 Try.isAgg26 Try.sizeOf26 enc enc_length enc_one cf swo_cf 16 #[] M 0 cap xs.toArray w eg hcmp hH hM (by rw [hsz]; omega)
  rw [hsz] at hcon
  change Calls Try.prog 15 _ _ _ at hcon
  refine hcon.mono ?_
  rintro e w' ⟨rfl, d', m, os, hp, hs, rfl⟩
  have hd : d'.size = n := hp.1.trans hsz
  have hperm : d'.toList.Perm xs := by
    have h3 := hp.2.2
    rw [Array.extract_eq_self_of_le (by omega), Array.extract_eq_self_of_le (by omega)] at h3
    simpa using h3
  have hh := row_of_holds (holdsK_sortWorldK_c enc 20 w M 0 xs.toArray d' m os hH hM (by rw [hd, hsz]))
  rw [hd] at hh
  refine ⟨rfl, d'.toList, hperm, ?_, hh.1, hh.2, but_sortWorld w M m d' os⟩
  rw [List.pairwise_iff_getElem]
  intro i j hi hj hij
  have h1 := hs i j (Nat.zero_le _) hij (by simpa [hd] using hj)
  rw [ltOf_cf] at h1
  have hi' : i < d'.size := by simpa using hi
  have hj' : j < d'.size := by simpa using hj
  rw [getElem!_pos d' i hi', getElem!_pos d' j hj'] at h1
  have m1 := hlt _ (hperm.mem_iff.1 (List.getElem_mem hi))
  have m2 := hlt _ (hperm.mem_iff.1 (List.getElem_mem hj))
  simp only [Array.getElem_toList] at m1 m2 ⊢
  rw [Nat.mod_eq_of_lt m1, Nat.mod_eq_of_lt m2] at h1
  have := of_decide_eq_false h1
  omega
end Go.Proofs.Qxb6626435a
