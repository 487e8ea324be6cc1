import Derived.Test.Qxb6626435aRemove
import Derived.Test.Qxb6626435aSame
import Derived.Test.Qxb6626435aBytesB
import Derived.Great.BuildSlice
import Derived.ArgAppend
namespace Go.Proofs.Qxb6626435a
open Go.RowKit Go.Sort
set_option linter.unusedVariables false

theorem fill_one (y : Nat) : Instr.fill (fun i => some (i * 20, 20)) ((Array.range (1 * 20)).map ((Value.agg (enc 0).toArray).cells[· % (Value.agg (enc 0).toArray).cells.size]!)) [(0, .agg (enc y).toArray)] = some (enc y).toArray := by
  kernel_rfl
theorem one24 (y : Nat) (w : World) : (Instr.buildSlice 24 1 #[(0, .agg (enc y).toArray)]).run Try.prog w = .ok (.slice (some ⟨w.heap.size, 0, none⟩) 1 1) (w.alloc (.cells (enc y).toArray 26)) := by
  obtain ⟨i, hi, hz, hs, hb⟩ := info_parts info26
  exact run_buildSlice w 24 26 1 _ _ i (.agg (enc 0).toArray) Try.underlying24 hi hz (by rw [hs]; decide) (by rw [hs]; decide) (by rw [hs]; exact fill_one y)
theorem one22 (y : Nat) (w : World) : (Instr.buildSlice 22 1 #[(0, .agg (enc y).toArray)]).run Try.prog w = .ok (.slice (some ⟨w.heap.size, 0, none⟩) 1 1) (w.alloc (.cells (enc y).toArray 25)) := by
  obtain ⟨i, hi, hz, hs, hb⟩ := info_parts info25
  exact run_buildSlice w 22 25 1 _ _ i (.agg (enc 0).toArray) Try.underlying22 hi hz (by rw [hs]; decide) (by rw [hs]; decide) (by rw [hs]; exact fill_one y)
theorem room24 (n : Nat) (hn : n ≤ 65536) (w : World) :
    (Instr.makeSlice 24 (.int .i64 0) (.int .i64 (n : Int))).run Try.prog w = .ok (.slice (some ⟨w.heap.size, 0, none⟩) 0 n) (w.alloc (.cells (madeCells (enc 0).toArray (n * 20)) 26)) := by
  obtain ⟨i, hi, hz, hs, hb⟩ := info_parts info26
  have hr := run_make (P := Try.prog) w 24 26 i (.agg (enc 0).toArray) Try.underlying24 hi hz .i64 .i64 0 (n : Int) (by omega) (by omega) (by rw [hb]; omega) (by omega)
  simp only [Int.toNat_natCast, Int.toNat_zero, hs] at hr
  exact hr
theorem room22 (n : Nat) (hn : n ≤ 65536) (w : World) :
    (Instr.makeSlice 22 (.int .i64 0) (.int .i64 (n : Int))).run Try.prog w = .ok (.slice (some ⟨w.heap.size, 0, none⟩) 0 n) (w.alloc (.cells (madeCells (enc 0).toArray (n * 20)) 25)) := by
  obtain ⟨i, hi, hz, hs, hb⟩ := info_parts info25
  have hr := run_make (P := Try.prog) w 22 25 i (.agg (enc 0).toArray) Try.underlying22 hi hz .i64 .i64 0 (n : Int) (by omega) (by omega) (by rw [hb]; omega) (by omega)
  simp only [Int.toNat_natCast, Int.toNat_zero, hs] at hr
  exact hr

/-- 'append' of the one identifier in the newest block, where there is room -/
theorem app_one (t e ty : TypeId) (i0 : TypeInfo) (ht : Try.prog.underlying t = some (.slice e)) (hi : Try.prog.info? e = some i0) (hs : i0.size = 20) (w : World) (P k n y : Nat) (te : TypeId) (hk : k < n) (hP : P < w.heap.size) (hth : w.there P 0 (n * 20)) :
    (Builtin.append_ #[t, t] ty #[.slice (some ⟨P, 0, none⟩) k n, .slice (some ⟨w.heap.size, 0, none⟩) 1 1]).run Try.prog (w.alloc (.cells (enc y).toArray te)) = .ok (.slice (some ⟨P, 0, none⟩) (k + 1) n) ((w.alloc (.cells (enc y).toArray te)).setCells P (k * 20) (enc y)) := by
  have hth' : (w.alloc (.cells (enc y).toArray te)).there P 0 (n * 20) := there_block hth (((Below.refl w.heap.size w).alloc (Nat.le_refl _) _).block P hP)
  have h := run_append_room_cells (P := Try.prog) (w.alloc (.cells (enc y).toArray te)) t ty e i0 ht hi P 0 k n ⟨w.heap.size, 0, none⟩ 1 1 (enc y) (by rw [enc_length, hs]) (fun j u hu => by
      rw [Addr.add_lit]
      exact range_new y w te j u hu) (enc_one y) (by omega)
    (fun j hj => by
      rw [enc_length] at hj
      have := (hth' (k * 20 + j) (by omega)).1
      rwa [hs, Nat.zero_add, ← Nat.zero_add (k * 20 + j)])
    (fun j hj => by
      rw [enc_length] at hj
      have := (hth' (k * 20 + j) (by omega)).2
      rwa [hs, Nat.zero_add, ← Nat.zero_add (k * 20 + j)])
  rw [hs, Nat.zero_add] at h
  exact h

theorem Row.push {w : World} {b n : Nat} {ds : List Nat} (h : Row w b 0 ds) (ht : w.there b 0 (n * 20)) (y : Nat) (hk : ds.length < n) : Row (w.setCells b (ds.length * 20) (enc y)) b 0 (ds ++ [y]) := fun i x hx => by
  by_cases hi : i < ds.length
  · rw [List.getElem?_append_left hi] at hx
    refine World.rangeAt_setCells_apart (h i x hx) _ _ _ (Or.inr (Or.inl ?_))
    rw [enc_length]; omega
  · have hl := (List.getElem?_eq_some_iff.1 hx).1
    rw [List.length_append, List.length_singleton] at hl
    obtain rfl : i = ds.length := by omega
    rw [List.getElem?_append_right (Nat.le_refl _), Nat.sub_self] at hx
    cases hx
    rw [Nat.zero_add]
    refine World.rangeAt_setCells_same w b _ (enc y) (fun t htl => ?_)
    rw [enc_length] at htl
    have := ht (ds.length * 20 + t) (by omega)
    rwa [Nat.zero_add] at this

/-- the two growing rows 'rest' (P) and 'restB' (Q) -/
structure Ap (W : World) (n P Q : Nat) (ds : List Nat) (wr : World) : Prop where
  bel : RowKit.Below W.heap.size W wr
  hP : W.heap.size ≤ P
  hQ : W.heap.size ≤ Q
  ne : P ≠ Q
  rP : Row wr P 0 ds
  rQ : Row wr Q 0 ds
  tP : wr.there P 0 (n * 20)
  tQ : wr.there Q 0 (n * 20)
  lP : P < wr.heap.size
  lQ : Q < wr.heap.size
theorem Ap.grew {W wr w' : World} {n P Q : Nat} {ds : List Nat} (h : Ap W n P Q ds wr) (hg : RowKit.Below wr.heap.size wr w') : Ap W n P Q ds w' where
  bel := h.bel.trans (hg.mono h.bel.size)
  hP := h.hP
  hQ := h.hQ
  ne := h.ne
  rP := h.rP.below hg h.lP
  rQ := h.rQ.below hg h.lQ
  tP := there_block h.tP (hg.block _ h.lP)
  tQ := there_block h.tQ (hg.block _ h.lQ)
  lP := Nat.lt_of_lt_of_le h.lP hg.size
  lQ := Nat.lt_of_lt_of_le h.lQ hg.size
theorem size_set (w : World) (b o : Nat) (vs : List Value) : w.heap.size ≤ (w.setCells b o vs).heap.size := (below_setCells (Below.refl 0 w) b o vs (Nat.zero_le _)).size
theorem Ap.step {W wr : World} {n P Q : Nat} {ds : List Nat} (h : Ap W n P Q ds wr) (y : Nat) (hk : ds.length < n) :
    Ap W n P Q (ds ++ [y]) ((((wr.alloc (.cells (enc y).toArray 26)).setCells P (ds.length * 20) (enc y)).alloc (.cells (enc y).toArray 25)).setCells Q (ds.length * 20) (enc y)) := by
  have h1 := h.grew ((Below.refl wr.heap.size wr).alloc (Nat.le_refl _) (.cells (enc y).toArray 26))
  have hb2 := below_setCells h1.bel P (ds.length * 20) (enc y) h1.hP
  have s2 := size_set (wr.alloc (.cells (enc y).toArray 26)) P (ds.length * 20) (enc y)
  generalize hw2 : (wr.alloc (.cells (enc y).toArray 26)).setCells P (ds.length * 20) (enc y) = w2 at *
  have r2P : Row w2 P 0 (ds ++ [y]) := by rw [← hw2]; exact h1.rP.push h1.tP y hk
  have r2Q : Row w2 Q 0 ds := by rw [← hw2]; exact h1.rQ.other _ _ _ (Ne.symm h1.ne)
  have t2P : w2.there P 0 (n * 20) := by rw [← hw2]; exact World.there_setCells h1.tP _ _ _
  have t2Q : w2.there Q 0 (n * 20) := by rw [← hw2]; exact World.there_setCells h1.tQ _ _ _
  have l2P := Nat.lt_of_lt_of_le h1.lP s2
  have l2Q := Nat.lt_of_lt_of_le h1.lQ s2
  have hal := (Below.refl w2.heap.size w2).alloc (Nat.le_refl _) (.cells (enc y).toArray 25)
  have hb3 := hb2.trans (hal.mono hb2.size)
  have s3 := size_set (w2.alloc (.cells (enc y).toArray 25)) Q (ds.length * 20) (enc y)
  refine ⟨below_setCells hb3 _ _ _ h1.hQ, h1.hP, h1.hQ, h1.ne, ?_, ?_, ?_, ?_, ?_, ?_⟩
  · exact (r2P.below hal l2P).other _ _ _ h1.ne
  · exact (r2Q.below hal l2Q).push (there_block t2Q (hal.block _ l2Q)) y hk
  · exact World.there_setCells (there_block t2P (hal.block _ l2P)) _ _ _
  · exact World.there_setCells (there_block t2Q (hal.block _ l2Q)) _ _ _
  · exact Nat.lt_of_lt_of_le (Nat.lt_of_lt_of_le l2P hal.size) s3
  · exact Nat.lt_of_lt_of_le (Nat.lt_of_lt_of_le l2Q hal.size) s3
theorem Ap.made (W : World) (n : Nat) : Ap W n W.heap.size (W.heap.size + 1) [] ((W.alloc (.cells (madeCells (enc 0).toArray (n * 20)) 26)).alloc (.cells (madeCells (enc 0).toArray (n * 20)) 25)) where
  bel := ((Below.refl _ _).alloc (Nat.le_refl _) _).alloc (by simp) _
  hP := Nat.le_refl _
  hQ := Nat.le_succ _
  ne := by omega
  rP := fun i x hx => by simp at hx
  rQ := fun i x hx => by simp at hx
  tP := there_block (made_there W _ _ 26) (((Below.refl _ _).alloc (Nat.le_refl _) _).block _ (by simp))
  tQ := by have := made_there (W.alloc (.cells (madeCells (enc 0).toArray (n * 20)) 26)) (enc 0).toArray (n * 20) 25; simpa using this
  lP := by simp; omega
  lQ := by simp

theorem sortG (ao : Option Addr) (c : Nat) (xs : List Nat) (hn : xs.length ≤ 65536) (hlt : ∀ x ∈ xs, x < top) (w : World) (hr : 0 < xs.length → ∃ b off, ao = some ⟨b, off, none⟩ ∧ b < w.heap.size ∧ Row w b off xs) :
    Calls Try.prog 6 #[.slice ao xs.length c] w fun e w' => ∃ S ys, e = .returned (.slice (some ⟨S, 0, none⟩) xs.length xs.length) ∧ ys.Perm xs ∧ ys.Pairwise (· ≤ ·) ∧ (0 < xs.length → Row w' S 0 ys ∧ S < w'.heap.size) ∧ Below w.heap.size w w' := by
  by_cases hp : 0 < xs.length
  · obtain ⟨b, off, rfl, hb, hrow⟩ := hr hp
    refine (sort_some b off c xs xs.length rfl hp hn hlt w hb hrow).mono ?_
    rintro e w' ⟨S, ys, rfl, h1, h2, h3, h4, h5, h6⟩
    exact ⟨S, ys, rfl, h4, h5, fun _ => ⟨h3, h2⟩, h6⟩
  · obtain rfl : xs = [] := List.length_eq_zero_iff.1 (by omega)
    refine (sort_none ao c w).mono ?_
    rintro e w' ⟨S, rfl, h6⟩
    exact ⟨S, [], rfl, List.Perm.refl _, List.Pairwise.nil, fun h => absurd h (Nat.lt_irrefl 0), h6⟩

/-- zzSameRing answers true at two rings of one list -/
theorem same_G {B R H I cm ch nh B' R' H' I' cm' ch' nh' : Nat} {am am' : Option Addr} {ys : List Nat} {w : World} (h : RG B ys R H I am cm ch nh w) (h' : RG B' ys R' H' I' am' cm' ch' nh' w) (hn : ys.length ≤ 65536) (hlt : ∀ y ∈ ys, y < top) :
    Calls Try.prog 11 #[.pointer (some ⟨R, 0, none⟩), .pointer (some ⟨R', 0, none⟩)] w fun e w' => e = .returned (.bool true) ∧ Grew w w' := by
  have hp := pow_small _ (bitLen_small ys.length hn)
  exact same_core ys.length R H I cm ch R' H' I' cm' ch' (2 ^ Lib.bitLen ys.length) (64 - Lib.bitLen ys.length) am am' ys (below (ys.map (pre · 8)) (64 - Lib.bitLen ys.length)) w hn rfl hlt hp.2 h.ring h'.ring
    (fun h0 => by obtain ⟨M, e, _, _, h3, h4⟩ := h.mem h0; exact ⟨M, e, h3, there_lt h4 (by omega)⟩)
    (fun h0 => by obtain ⟨M, e, _, _, h3, h4⟩ := h'.mem h0; exact ⟨M, e, h3, there_lt h4 (by omega)⟩) h.cells h'.cells h.idx h'.idx

theorem erase_in (xs : List Nat) (i x : Nat) (hi : i < xs.length) (h : x ∈ xs.take i) : (xs.take (i + 1)).erase x = (xs.take i).erase x ++ [xs[i]] := by
  rw [List.take_succ_eq_append_getElem hi, List.erase_append_left _ h]
theorem erase_out (xs : List Nat) (i x : Nat) (hi : i < xs.length) (h : x ∉ xs.take i) (hne : xs[i] ≠ x) : (xs.take (i + 1)).erase x = (xs.take i).erase x ++ [xs[i]] := by
  rw [List.take_succ_eq_append_getElem hi, List.erase_append_right _ h, List.erase_of_not_mem h, List.erase_of_not_mem (by simpa using fun e => hne e.symm)]
theorem erase_hit (xs : List Nat) (i x : Nat) (hi : i < xs.length) (h : x ∉ xs.take i) (he : xs[i] = x) : (xs.take (i + 1)).erase x = (xs.take i).erase x := by
  rw [List.take_succ_eq_append_getElem hi, List.erase_append_right _ h, List.erase_of_not_mem h, he]; simp
theorem mem_next (xs : List Nat) (i x : Nat) (hi : i < xs.length) : x ∈ xs.take (i + 1) ↔ x ∈ xs.take i ∨ xs[i] = x := by
  rw [List.take_succ_eq_append_getElem hi, List.mem_append, List.mem_singleton]
  constructor
  · rintro (h | h)
    · exact Or.inl h
    · exact Or.inr h.symm
  · rintro (h | h)
    · exact Or.inl h
    · exact Or.inr h.symm
end Go.Proofs.Qxb6626435a
