import Derived.Test.Qxb6626435aClone
import Derived.Test.Qxb6626435aReindex
import Derived.Deep.WholeRow
namespace Go.Proofs.Qxb6626435a
open Go.RowKit Go.Sort
set_option linter.unusedVariables false

theorem info41 : (Try.prog.info? 41).map (fun i => (i.zero, i.size, i.bytes)) = some (some (.int .u64 0), 1, 8) := by kernel_rfl
theorem make40 (n : Nat) (hn : n ≤ 65536) (w : World) :
    (Instr.makeSlice 40 (.int .i64 (n : Int)) (.int .i64 (n : Int))).run Try.prog w = .ok (.slice (some ⟨w.heap.size, 0, none⟩) n n) (w.alloc (.cells (madeCells #[.int .u64 0] n) 41)) :=
  run_make_row' 40 41 (.int .u64 0) 8 Try.underlying40 info41 rfl .i64 .i64 n (by omega) (by omega) w
theorem sz26 (x : Nat) : (Try.prog.info? 26).map (·.size) = some (enc x).length := by rw [enc_length]; kernel_rfl
theorem sz26' (x : Nat) : (Try.prog.info? 26).map (·.size) = some (enc x).toArray.size := by rw [List.size_toArray, enc_length]; kernel_rfl
theorem th20 {w : World} {b o : Nat} (x : Nat) (h : w.there b o 20) : w.there b o (enc x).toArray.size := by rw [List.size_toArray, enc_length]; exact h

theorem store_new (x : Nat) (w : World) : (storeCells ⟨w.heap.size, 0, none⟩ (enc x) 0).run Try.prog (w.alloc (.cells #[.int .u8 0, .int .u8 0, .int .u8 0, .int .u8 0, .int .u8 0, .int .u8 0, .int .u8 0, .int .u8 0, .int .u8 0, .int .u8 0, .int .u8 0, .int .u8 0, .int .u8 0, .int .u8 0, .int .u8 0, .int .u8 0, .int .u8 0, .int .u8 0, .int .u8 0, .int .u8 0] 26)) = .ok () (w.alloc (.cells (enc x).toArray 26)) := by
  have h := run_storeCells_new (P := Try.prog) w 26 #[.int .u8 0, .int .u8 0, .int .u8 0, .int .u8 0, .int .u8 0, .int .u8 0, .int .u8 0, .int .u8 0, .int .u8 0, .int .u8 0, .int .u8 0, .int .u8 0, .int .u8 0, .int .u8 0, .int .u8 0, .int .u8 0, .int .u8 0, .int .u8 0, .int .u8 0, .int .u8 0] (enc x).toArray (sz26' x) (by show 20 = (enc x).toArray.size; rw [List.size_toArray, enc_length]) (all_oneCell_toArray (enc_one x))
  simpa using h
theorem range_new (x : Nat) (w : World) (t : TypeId) : (w.alloc (.cells (enc x).toArray t)).rangeAt w.heap.size 0 (enc x) := fun j v hv => by
  rw [cell_of_row _ _ _ _ _ _ (heap_alloc_new w _), Nat.zero_add, List.getElem?_toArray]; exact hv

/-- the loop of the heads: the first k are told -/
structure Hd (w : World) (n : Nat) (ys : List Nat) (k : Nat) (wr : World) : Prop where
  bel : RowKit.Below w.heap.size w wr
  row : ∃ f, wr.rowIs w.heap.size 41 n f ∧ ∀ t (ht : t < ys.length), t < k → f t = .int .u64 (pre ys[t] 8 : Nat)

/-- A RING IN MEMORY, all of it in blocks from B on: sorted members ys, their heads, the index by slices, the shift -/
structure RingAt (B : Nat) (ys : List Nat) (R M H I cm : Nat) (w : World) : Prop where
  ring : w.heap[R]? = some (.cells #[.slice (some ⟨M, 0, none⟩) ys.length cm, .slice (some ⟨H, 0, none⟩) ys.length ys.length, .slice (some ⟨I, 0, none⟩) (2 ^ Lib.bitLen ys.length + 1) (2 ^ Lib.bitLen ys.length + 1), .int .u64 ((64 - Lib.bitLen ys.length : Nat) : Int)] 46 (0, 0))
  mem : Row w M 0 ys
  thM : w.there M 0 (ys.length * 20)
  heads : w.rowIs H 41 ys.length (fun i => .int .u64 (pre (ys.getD i 0) 8 : Nat))
  idx : w.rowIs I 21 (2 ^ Lib.bitLen ys.length + 1) (fun t => .int .i32 (below (ys.map (pre · 8)) (64 - Lib.bitLen ys.length) t : Nat))
  b1 : B ≤ M
  b2 : M < H
  b3 : H < R
  b4 : R < I
  c1 : ys.length ≤ cm
  c2 : cm ≤ maxLen

theorem heads_sorted (ys : List Nat) (h : ys.Pairwise (· ≤ ·)) : (ys.map (pre · 8)).Pairwise (· ≤ ·) := by
  rw [List.pairwise_map, List.pairwise_iff_getElem]
  intro i j hi hj hij
  exact Nat.div_le_div_right (List.pairwise_iff_getElem.1 h i j hi hj hij)
theorem heads_lt (ys : List Nat) (h : ∀ y ∈ ys, y < top) : ∀ p ∈ ys.map (pre · 8), p < 18446744073709551616 := by
  intro p hp
  obtain ⟨y, hy, rfl⟩ := List.mem_map.1 hp
  have := pre_lt y 8 (h y hy) (by omega)
  have h3 : (256 : Nat) ^ 8 = 18446744073709551616 := by decide +kernel
  omega

theorem Hd.start (w : World) (n : Nat) (ys : List Nat) : Hd w n ys 0 (w.alloc (.cells (madeCells #[.int .u64 0] n) 41)) :=
  ⟨(Below.refl _ _).alloc (Nat.le_refl _) _, _, World.rowIs_made w (.int .u64 0) n 41, fun t _ h => by omega⟩
theorem Hd.grew {w wr w3 : World} {n k : Nat} {ys : List Nat} (h : Hd w n ys k wr) (hg : RowKit.Below wr.heap.size wr w3) : Hd w n ys k w3 := by
  obtain ⟨f, h1, h2⟩ := h.row
  exact ⟨h.bel.trans (hg.mono h.bel.size), f, h1.of_block (hg.block _ h1.lt), h2⟩
theorem Hd.step {w wr w3 : World} {n k x : Nat} {ys : List Nat} (h : Hd w n ys k wr) (hk : k < ys.length) (hkn : k < n) (hg : Grew (wr.alloc (.cells (enc x).toArray 26)) w3) : Hd w n ys (k + 1) (w3.setCell ⟨w.heap.size, k, none⟩ (.int .u64 (pre ys[k] 8 : Nat))) := by
  have hb : RowKit.Below wr.heap.size wr w3 := ((Below.refl _ _).alloc (Nat.le_refl _) _).trans (hg.below.mono (by simp))
  have h3 := h.grew hb
  obtain ⟨f, h1, h2⟩ := h3.row
  refine ⟨h3.bel.setCell (Nat.le_refl _) _, _, h1.set k _, fun t ht htk => ?_⟩
  by_cases e : t = k
  · subst e; show (if t = t then _ else _) = _; rw [if_pos rfl]
  · show (if t = k then _ else _) = _; rw [if_neg e]; exact h2 t ht (by omega)
theorem Hd.done {w wr : World} {n : Nat} {ys : List Nat} (h : Hd w n ys n wr) (hl : ys.length = n) : wr.rowIs w.heap.size 41 n (fun i => .int .u64 (pre (ys.getD i 0) 8 : Nat)) := by
  obtain ⟨f, h1, h2⟩ := h.row
  refine h1.congr fun i hi => ?_
  rw [h2 i (by omega) hi, List.getD_eq_getElem?_getD, List.getElem?_eq_getElem (by omega)]; rfl
theorem Hd.at {w wr w3 : World} {n k x : Nat} {ys : List Nat} (h : Hd w n ys k wr) (hkn : k < n) (hg : Grew (wr.alloc (.cells (enc x).toArray 26)) w3) : (∃ v, w3.cell? ⟨w.heap.size, k, none⟩ = some v) ∧ w3.frozen? ⟨w.heap.size, k, none⟩ = false := by
  have hb : RowKit.Below wr.heap.size wr w3 := ((Below.refl _ _).alloc (Nat.le_refl _) _).trans (hg.below.mono (by simp))
  obtain ⟨f, h1, h2⟩ := (h.grew hb).row
  exact ⟨⟨_, h1.cell hkn⟩, h1.frozen k⟩

set_option maxHeartbeats 1000000 in
set_option maxRecDepth 100000 in
theorem new_some (b off c n : Nat) (xs : List Nat) (hx : xs.length = n) (hn0 : 0 < n) (hn : n ≤ 65536) (hlt : ∀ x ∈ xs, x < top) (w : World) (hr : Row w b off xs) :
    Calls Try.prog 7 #[.slice (some ⟨b, off, none⟩) n c] w fun e w' => ∃ R M H I cm ys, e = .returned (.pointer (some ⟨R, 0, none⟩)) ∧ ys.length = n ∧ ys.Perm xs ∧ ys.Pairwise (· ≤ ·) ∧ RingAt w.heap.size ys R M H I cm w' ∧ RowKit.Below w.heap.size w w' := by
  go_enter Try.func7, Try.ntmps7
  go_wp2_with fail
  refine (clone_any b off c n xs hx hn0 hn w hr).mono ?_
  rintro e w1 ⟨M, cm, rfl, hc1, hc2, hM0, hM1, hrM, htM, hb1⟩
  have HC1 : Hid (n ≤ cm) := hc1
  have HC2 : Hid (cm ≤ maxLen) := hc2
  clear hc1 hc2
  go_wp2_with fail
  refine (sortFunc_any M cm n xs hx hlt w1 hM1 hn hrM htM).mono ?_
  rintro e w2 ⟨rfl, ys, hp, hs, hrY, htY, hbut⟩
  have hmk := make40 n hn
  have HSRT : Hid (ys.Pairwise (· ≤ ·)) := hs
  have hM2 : M < w2.heap.size := Nat.lt_of_lt_of_le hM1 hbut.size
  go_wp2
  go_loopw [17] (fun i wr => ∃ k : Nat, k ≤ n ∧ i = .int .i64 k ∧ Hd w2 n ys k wr) (fun i _ => n - (intOf i).toNat)
  case atStart => exact ⟨0, by omega, rfl, Hd.start w2 n ys⟩
  case round =>
    clear hmk
    obtain ⟨k, hk, rfl, hI⟩ := hrel
    have hyl : ys.length = n := by rw [hp.length_eq, hx]
    by_cases hkn : k < n
    · have hky : k < ys.length := by omega
      have HLD : Hid (wr.rangeAt M (k * 20) (enc ys[k])) := by have := (hrY.below hI.bel hM2).at k hky; rwa [Nat.zero_add] at this
      have hxt : ys[k] < top := hlt _ (hp.mem_iff.1 (List.getElem_mem hky))
      have HN : Hid (∀ w3, Grew (wr.alloc (.cells (enc ys[k]).toArray 26)) w3 → Hd w2 n ys (k + 1) (w3.setCell ⟨w2.heap.size, k, none⟩ (.int .u64 (pre ys[k] 8 : Nat)))) := fun w3 hg => hI.step hky hkn hg
      have HC : Hid (∀ w3, Grew (wr.alloc (.cells (enc ys[k]).toArray 26)) w3 → (∃ v, w3.cell? ⟨w2.heap.size, k, none⟩ = some v) ∧ w3.frozen? ⟨w2.heap.size, k, none⟩ = false) := fun w3 hg => hI.at hkn hg
      generalize ys[k] = x at *
      have hst := store_new x wr
      go_wp2_with (first | ((with_reducible refine wpList_load_mid ?_ 26 (.tmp 20) ?_ M (k * 20) ?_ (enc x) _ HLD.out Try.underlying26 ?_ (sz26 x) ?_); rfl; rfl; rfl; rfl) | ((with_reducible refine wpList_load_mid ?_ 26 (.tmp 6) ?_ wr.heap.size 0 ?_ (enc x) _ (range_new x wr 26) Try.underlying26 ?_ (sz26 x) ?_); rfl; rfl; rfl; rfl))
      refine (head_any x hxt _).mono ?_
      rintro e w3 ⟨rfl, hg3⟩
      obtain ⟨⟨v, hv⟩, hfz⟩ := HC.out w3 hg3
      have HN2 := HN.out w3 hg3
      clear HN HC HLD hst
      go_wp2
      go_roundw
      case rel => exact ⟨k + 1, by omega, by go_num, HN2⟩
      case measure => simp [intOf]; omega
    · obtain rfl : k = n := by omega
      have hK := hI.done hyl
      have hMw : M < wr.heap.size := Nat.lt_of_lt_of_le hM2 hI.bel.size
      have hHw : w2.heap.size < wr.heap.size := hK.lt
      have hre := reindex_any wr.heap.size w2.heap.size k cm k (some ⟨M, 0, none⟩) (.slice none 0 0) (.int .u64 0) (ys.map (pre · 8)) (wr.alloc (.cells #[.slice (some ⟨M, 0, none⟩) k cm, .slice (some ⟨w2.heap.size, 0, none⟩) k k, .slice none 0 0, .int .u64 0] 46)) hn (by rw [List.length_map, hyl]) (heads_lt ys (fun y hy => hlt y (hp.mem_iff.1 hy))) (heads_sorted ys hs) (heap_alloc_new wr _) (by omega) (fun i hi => by
        rw [World.cell?_alloc_lt _ _ _ hHw, hK.cell hi, List.getElem_map]
        rw [List.getD_eq_getElem?_getD, List.getElem?_eq_getElem (by omega)]; rfl)
      have HF : Hid (∀ w', Ri (wr.alloc (.cells #[.slice (some ⟨M, 0, none⟩) k cm, .slice (some ⟨w2.heap.size, 0, none⟩) k k, .slice none 0 0, .int .u64 0] 46)) wr.heap.size (2 ^ Lib.bitLen k) (64 - Lib.bitLen k) (.slice (some ⟨M, 0, none⟩) k cm) (.slice (some ⟨w2.heap.size, 0, none⟩) k k) (fun t => .int .i32 (below (ys.map (pre · 8)) (64 - Lib.bitLen k) t : Nat)) w' →
          RingAt w.heap.size ys wr.heap.size M w2.heap.size (wr.heap.size + 1) cm w' ∧ RowKit.Below w.heap.size w w') := by
        intro w' h
        have hal : RowKit.Below wr.heap.size wr (wr.alloc (.cells #[.slice (some ⟨M, 0, none⟩) k cm, .slice (some ⟨w2.heap.size, 0, none⟩) k k, .slice none 0 0, .int .u64 0] 46)) := (Below.refl _ _).alloc (Nat.le_refl _) _
        have hblk : ∀ q, q < wr.heap.size → w'.heap[q]? = wr.heap[q]? := fun q hq => (h.oth q (by simp; omega) (by omega)).trans (hal.block q hq)
        have hw12 : RowKit.Below w.heap.size w w2 := hb1.trans (hbut.below hM0 hb1.size)
        have hw2r : RowKit.Below w.heap.size w wr := hw12.trans (hI.bel.mono hw12.size)
        refine ⟨⟨?_, ?_, ?_, ?_, ?_, hM0, hM2, hHw, by omega, by rw [hyl]; exact HC1.out, HC2.out⟩, ?_⟩
        · have := h.ring
          simp only [World.size_alloc] at this
          rw [hyl]; exact this
        · exact (hrY.below hI.bel hM2).block (hblk M hMw)
        · rw [hyl]; exact there_block (there_block htY (hI.bel.block M hM2)) (hblk M hMw)
        · rw [hyl]; exact hK.of_block (hblk _ hHw)
        · have := h.row
          simp only [World.size_alloc] at this
          rw [hyl]; exact this
        · exact ⟨h.os.trans (hal.os.trans hw2r.os), h.tape.trans (hal.tape.trans hw2r.tape), h.output.trans (hal.output.trans hw2r.output), Nat.le_trans hw2r.size (Nat.le_of_lt (by have := h.row.lt; simp only [World.size_alloc] at this; omega)), fun q hq => (hblk q (Nat.lt_of_lt_of_le hq hw2r.size)).trans (hw2r.block q hq)⟩
      have HRE := hre
      clear hK hrY htY hbut hb1 hrM htM hs hI hM0 hM1 hM2 hMw hHw hre
      go_wp2_with fail
      refine HRE.mono ?_
      rintro e w' ⟨rfl, hri⟩
      obtain ⟨h1, h2⟩ := HF.out w' hri
      clear HF HRE hri
      go_wp2
      go_ret
      exact ⟨_, M, _, _, cm, ys, rfl, hyl, hp, HSRT.out, h1, h2⟩
end Go.Proofs.Qxb6626435a
