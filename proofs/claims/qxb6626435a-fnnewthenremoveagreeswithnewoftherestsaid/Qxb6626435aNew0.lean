import Derived.Test.Qxb6626435aNew
namespace Go.Proofs.Qxb6626435a
open Go.RowKit Go.Sort
set_option linter.unusedVariables false

theorem sortFunc_none (ao : Option Addr) (cap : Nat) (w : World) : Calls Try.prog 15 #[.slice ao 0 cap, .func (.func 16) #[] #[]] w fun e w' => e = .returned (.tuple #[]) ∧ w = w' := by
  have hcon := AnyF.slices_SortFunc_none Try.sortID ao cap (.func (.func 16) #[] #[]) w
  change Calls Try.prog 15 _ _ _ at hcon
  exact hcon.mono fun e w' ⟨h1, h2⟩ => ⟨h1, h2.symm⟩
theorem clone_none (b off c : Nat) (w : World) :
    Calls Try.prog 14 #[.slice (some ⟨b, off, none⟩) 0 c] w fun e w' => ∃ am cm, e = .returned (.slice am 0 cm) ∧ RowKit.Below w.heap.size w w' := by
  obtain ⟨i0, hi, hz0, hz1, hz2⟩ := info_parts info26
  have hcon := AnyE.slices_Clone Try.cloneID i0 (.agg (enc 0).toArray) 20 20 hi hz0 hz1 hz2 (by show (enc 0).toArray.size = 20; rw [List.size_toArray, enc_length]) (by omega) Try.sizeOf26 b off 0 c [] w
    rfl (Nat.zero_le _) (Nat.zero_le _) (fun j u hj => by simp at hj) (fun u hu => by simp at hu)
  change Calls Try.prog 14 _ _ _ at hcon
  refine hcon.mono ?_
  rintro e w' ⟨v', rfl, hown, hne, hb⟩
  obtain ⟨_, h | ⟨g, cap, cur, rfl, hg, hh, hcap, _, hcs, htk⟩⟩ := hown
  · exact absurd h.1 hne
  · exact ⟨_, _, rfl, hb⟩

/-- AN EMPTY RING IN MEMORY -/
structure Ring0 (B R H I cm : Nat) (am : Option Addr) (w : World) : Prop where
  ring : w.heap[R]? = some (.cells #[.slice am 0 cm, .slice (some ⟨H, 0, none⟩) 0 0, .slice (some ⟨I, 0, none⟩) 2 2, .int .u64 64] 46 (0, 0))
  idx : w.rowIs I 21 2 (fun _ => .int .i32 0)
  b1 : B ≤ H
  b3 : H < R
  b4 : R < I

set_option maxHeartbeats 1000000 in
set_option maxRecDepth 100000 in
theorem new_tail (am : Option Addr) (cm : Nat) (w0 w : World) (hb : RowKit.Below w0.heap.size w0 w) : ∀ w', Ri ((w.alloc (.cells (madeCells #[.int .u64 0] 0) 41)).alloc (.cells #[.slice am 0 cm, .slice (some ⟨w.heap.size, 0, none⟩) 0 0, .slice none 0 0, .int .u64 0] 46)) (w.heap.size + 1) (2 ^ Lib.bitLen 0) (64 - Lib.bitLen 0) (.slice am 0 cm) (.slice (some ⟨w.heap.size, 0, none⟩) 0 0) (fun t => .int .i32 (below [] (64 - Lib.bitLen 0) t : Nat)) w' →
    Ring0 w0.heap.size (w.heap.size + 1) w.heap.size (w.heap.size + 2) cm am w' ∧ RowKit.Below w0.heap.size w0 w' := by
  intro w' h
  have e0 : Lib.bitLen 0 = 0 := by decide +kernel
  have hs := hb.size
  refine ⟨⟨?_, ?_, hs, by omega, by omega⟩, ?_⟩
  · have := h.ring
    simp only [World.size_alloc, e0] at this
    exact this
  · have := h.row
    simp only [World.size_alloc, e0] at this
    exact this.congr fun i hi => rfl
  · have hal : RowKit.Below w0.heap.size w0 ((w.alloc (.cells (madeCells #[.int .u64 0] 0) 41)).alloc (.cells #[.slice am 0 cm, .slice (some ⟨w.heap.size, 0, none⟩) 0 0, .slice none 0 0, .int .u64 0] 46)) := (hb.alloc hs _).alloc (by simp; omega) _
    exact hal.trans (h.below (by omega))

set_option maxHeartbeats 1000000 in
set_option maxRecDepth 100000 in
theorem new_none (a : Option (Nat × Nat)) (c : Nat) (w : World) :
    Calls Try.prog 7 #[.slice (a.map fun p => ⟨p.1, p.2, none⟩) 0 c] w fun e w' => ∃ R H I cm am, e = .returned (.pointer (some ⟨R, 0, none⟩)) ∧ Ring0 w.heap.size R H I cm am w' ∧ RowKit.Below w.heap.size w w' := by
  have hcl : Calls Try.prog 14 #[.slice (a.map fun p => ⟨p.1, p.2, none⟩) 0 c] w fun e w' => ∃ am cm, e = .returned (.slice am 0 cm) ∧ RowKit.Below w.heap.size w w' := by
    cases a with
    | none => exact (clone_nil c 0 w).mono fun e w' ⟨h1, h2⟩ => ⟨_, _, h1, h2 ▸ Below.refl _ _⟩
    | some p => exact clone_none p.1 p.2 c w
  generalize (a.map fun p => (⟨p.1, p.2, none⟩ : Addr)) = ao at *
  have hmk : ∀ W : World, (Instr.makeSlice 40 (.int .i64 0) (.int .i64 0)).run Try.prog W = .ok (.slice (some ⟨W.heap.size, 0, none⟩) 0 0) (W.alloc (.cells (madeCells #[.int .u64 0] 0) 41)) := make40 0 (by omega)
  go_enter Try.func7, Try.ntmps7
  go_wp2_with fail
  refine hcl.mono ?_
  rintro e w1 ⟨am, cm, rfl, hb⟩
  clear hcl
  go_wp2_with fail
  refine (sortFunc_none am cm w1).mono ?_
  rintro e w2 ⟨rfl, rfl⟩
  have HT := new_tail am cm w w1 hb
  have hre := reindex_any (w1.heap.size + 1) w1.heap.size 0 cm 0 am (.slice none 0 0) (.int .u64 0) [] ((w1.alloc (.cells (madeCells #[.int .u64 0] 0) 41)).alloc (.cells #[.slice am 0 cm, .slice (some ⟨w1.heap.size, 0, none⟩) 0 0, .slice none 0 0, .int .u64 0] 46)) (by omega) rfl (fun h hh => by cases hh) List.Pairwise.nil (by have := heap_alloc_new (w1.alloc (.cells (madeCells #[.int .u64 0] 0) 41)) (.cells #[.slice am 0 cm, .slice (some ⟨w1.heap.size, 0, none⟩) 0 0, .slice none 0 0, .int .u64 0] 46); simpa using this) (by omega) (fun i hi => by omega)
  go_wp2
  refine wp_loop_rounds 1 ?_
  rw [rounds_succ]
  go_wp2_with fail
  refine hre.mono ?_
  rintro e w' ⟨rfl, hri⟩
  obtain ⟨h1, h2⟩ := HT w' hri
  clear HT hre hri
  go_wp2
  go_ret
  exact ⟨_, _, _, cm, am, rfl, h1, h2⟩
end Go.Proofs.Qxb6626435a
