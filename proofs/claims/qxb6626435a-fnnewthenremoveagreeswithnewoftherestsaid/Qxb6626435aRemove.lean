import Derived.Test.Qxb6626435aRem2
namespace Go.Proofs.Qxb6626435a
open Go.RowKit Go.Sort
set_option linter.unusedVariables false

set_option maxHeartbeats 1000000 in
set_option maxRecDepth 100000 in
theorem remove_G {B R H I cm ch nh : Nat} {am : Option Addr} {ys : List Nat} {w : World} (x : Nat) (h : RG B ys R H I am cm ch nh w) (hx : x < top) (hn : ys.length ≤ 65536) (hlt : ∀ y ∈ ys, y < top) (hys : ys.Pairwise (· ≤ ·)) :
    Calls Try.prog 10 #[.pointer (some ⟨R, 0, none⟩), .agg (enc x).toArray] w fun e w' => e = .returned (.tuple #[]) ∧ ∃ zs I', zs.Perm (ys.erase x) ∧ zs.Pairwise (· ≤ ·) ∧ RG B zs R H I' am cm ch nh w' ∧ RowKit.Below B w w' := by
  have hRs : R < w.heap.size := (Array.getElem?_eq_some_iff.1 h.ring).1
  have hBs : B ≤ w.heap.size := by have := h.b1; have := h.b3; omega
  have hal : RowKit.Below w.heap.size w (w.alloc (.cells (enc x).toArray 26)) := (Below.refl _ _).alloc (Nat.le_refl _) _
  have hsr := search_G x (h.below hal) hx hn hlt hys
  go_enter Try.func10, Try.ntmps10
  go_wp2_with (first | ((with_reducible refine wpList_load_mid ?_ 26 (.tmp 3) ?_ w.heap.size 0 ?_ (enc x) _ (range_new x w 26) Try.underlying26 ?_ (sz26 x) ?_); rfl; rfl; rfl; rfl))
  refine hsr.mono ?_
  rintro e w1 ⟨i, bb, rfl, hg, hF, hi⟩
  have hg1 : Grew w w1 := ((Grew.refl w).alloc _).trans hg
  cases bb with
  | false =>
    have hxn := hF.2 rfl
    go_wp2
    go_end0
    refine ⟨rfl, ys, I, ?_, hys, h.below hg1.below, hg1.below.mono hBs⟩
    rw [List.erase_of_not_mem hxn]
  | true =>
    obtain ⟨hiy, hxi⟩ := hF.1 rfl
    have h1 := h.below hg1.below
    have hB1 : RowKit.Below B w w1 := hg1.below.mono hBs
    obtain ⟨M, rfl, bM, bMH, hrow, hth⟩ := h1.mem (by omega)
    obtain ⟨g, hgr, hgv⟩ := h1.heads (by omega)
    obtain ⟨hc1, hc2⟩ := h1.c1 (by omega)
    have bHR := h1.b3
    have bRI := h1.b4
    have bBH := h1.b1
    have hnh := h1.hnh
    have hch := h1.hch
    have hR1 := h1.ring
    have hI1 := h1.idx
    obtain ⟨n, hnl⟩ : ∃ n, n = ys.length := ⟨_, rfl⟩
    rw [← hnl] at hR1 hth hc1 hi hnh hch hn hI1 hiy
    have HNL : Hid (ys.length = n) := hnl.symm
    clear hnl
    have hRw1 : R < w1.heap.size := (Array.getElem?_eq_some_iff.1 hR1).1
    have hMw1 : M < w1.heap.size := there_lt hth (by omega)
    have c0 : w1.cell? ⟨R, 0, none⟩ = some (.slice (some ⟨M, 0, none⟩) n cm) := by rw [cell_of_row _ _ _ _ _ _ hR1]; rfl
    have hdel : Calls Try.prog 26 #[.slice (some ⟨M, 0, none⟩) n cm, .int .i64 (i : Int), .int .i64 ((i : Int) + 1)] w1 _ := del_id_j M cm n i (i + 1) rfl ys HNL.out hiy hc1 hc2 hn w1 hrow hth
    have wi : IntKind.i64.wrap ((i : Int) + 1) = (i : Int) + 1 := by rw [IntKind.wrap_i64]; omega
    have HFL : Hid (Fnd ys x i true) := hF
    clear hF hsr
    go_wp2_with fail
    refine hdel.mono ?_
    rintro e w2 ⟨rfl, hw2⟩
    have hoth2 : ∀ k, k ≠ M → w2.heap[k]? = w1.heap[k]? := fun k hk => by
      rw [hw2, setCells_block _ _ _ _ _ hk, setCells_block _ _ _ _ _ hk]; rfl
    have hrow2 : Row w2 M 0 (ys.eraseIdx i) := by
      have := del_row w1.drew M i ys (by rw [HNL.out]; exact hiy) hrow (by rw [HNL.out]; exact hth)
      rw [HNL.out] at this
      rw [hw2]; exact this
    have hth2 : w2.there M 0 (n * 20) := by
      rw [hw2]; exact World.there_setCells (World.there_setCells (w := w1.drew) hth _ _ _) _ _ _
    have hB2 : RowKit.Below B w w2 := by
      rw [hw2]; exact below_setCells (below_setCells hB1.drew _ _ _ bM) _ _ _ bM
    have hR2 := (hoth2 R (by omega)).trans hR1
    have hw2s : w1.heap.size ≤ w2.heap.size := by
      rw [hw2]; exact (below_setCells (below_setCells (Below.refl 0 w1.drew) M (i * 20) _ (Nat.zero_le _)) M _ _ (Nat.zero_le _)).size
    clear hw2 hdel c0
    have hRw2 : R < w2.heap.size := by omega
    have c0 : w2.cell? ⟨R, 0, none⟩ = some (.slice (some ⟨M, 0, none⟩) n cm) := by rw [cell_of_row _ _ _ _ _ _ hR2]; rfl
    have f0 : w2.frozen? ⟨R, 0, none⟩ = false := frozen_of_row _ _ _ _ _ hR2
    have c1 : w2.cell? ⟨R, 1, none⟩ = some (.slice (some ⟨H, 0, none⟩) n ch) := by rw [cell_of_row _ _ _ _ _ _ hR2]; rfl
    obtain ⟨w3, hw3⟩ : ∃ w3, w3 = w2.setCell ⟨R, 0, none⟩ (.slice (some ⟨M, 0, none⟩) (n - 1) cm) := ⟨_, rfl⟩
    have hoth3 : ∀ k, k ≠ R → w3.heap[k]? = w2.heap[k]? := fun k hk => by rw [hw3]; exact Below.heap_setCell _ _ _ _ hk
    have hR3 := heap_setCell_same w2 R 0 _ 46 (.slice (some ⟨M, 0, none⟩) (n - 1) cm) hR2
    rw [← hw3] at hR3
    have hB3 : RowKit.Below B w w3 := by rw [hw3]; exact hB2.setCell (p := ⟨R, 0, none⟩) (by show B ≤ R; omega) _
    have hw3s : w2.heap.size ≤ w3.heap.size := by rw [hw3]; simp
    have hgr3 : w3.rowIs H 41 nh g := hgr.of_block ((hoth3 H (by omega)).trans (hoth2 H (by omega)))
    have hdel2 : Calls Try.prog 27 #[.slice (some ⟨H, 0, none⟩) n ch, .int .i64 (i : Int), .int .i64 ((i : Int) + 1)] w3 _ := del_u64_j H ch n nh i (i + 1) rfl g (fun t ht => by rw [hgv t (by rw [HNL.out]; exact ht)]; rfl) hiy hch hnh hn w3 hgr3
    rw [hw3] at hdel2
    go_wp2_with fail
    refine hdel2.mono ?_
    rw [← hw3]
    clear hdel2 hw3 c0 c1 f0
    rintro e w4 ⟨rfl, hw4⟩
    have hoth4 : ∀ k, k ≠ H → w4.heap[k]? = w3.heap[k]? := fun k hk => by
      rw [hw4, setCells_block _ _ _ _ _ hk, setCells_block _ _ _ _ _ hk]; rfl
    have hH4 : ∃ g', w4.rowIs H 41 nh g' ∧ ∀ t (ht : t < (ys.eraseIdx i).length), g' t = .int .u64 (pre (ys.eraseIdx i)[t] 8 : Nat) := by
      have := del_heads w3.drew H nh i g ys (by rw [HNL.out]; exact hiy) hgr3 hgv
      rw [HNL.out] at this
      rw [hw4]; exact this
    have hB4 : RowKit.Below B w w4 := by
      rw [hw4]; exact below_setCells (below_setCells hB3.drew _ _ _ bBH) _ _ _ bBH
    have hw4s : w3.heap.size ≤ w4.heap.size := by
      rw [hw4]; exact (below_setCells (below_setCells (Below.refl 0 w3.drew) H i _ (Nat.zero_le _)) H _ _ (Nat.zero_le _)).size
    have hR4 := (hoth4 R (by omega)).trans hR3
    clear hw4
    have f1 : w4.frozen? ⟨R, 1, none⟩ = false := frozen_of_row _ _ _ _ _ hR4
    have c1 : w4.cell? ⟨R, 1, none⟩ = some (.slice (some ⟨H, 0, none⟩) n ch) := by rw [cell_of_row _ _ _ _ _ _ hR4]; rfl
    obtain ⟨w5, hw5⟩ : ∃ w5, w5 = w4.setCell ⟨R, 1, none⟩ (.slice (some ⟨H, 0, none⟩) (n - 1) ch) := ⟨_, rfl⟩
    have hoth5 : ∀ k, k ≠ R → w5.heap[k]? = w4.heap[k]? := fun k hk => by rw [hw5]; exact Below.heap_setCell _ _ _ _ hk
    have hR5 := heap_setCell_same w4 R 1 _ 46 (.slice (some ⟨H, 0, none⟩) (n - 1) ch) hR4
    rw [← hw5] at hR5
    have hB5 : RowKit.Below B w w5 := by rw [hw5]; exact hB4.setCell (p := ⟨R, 1, none⟩) (by show B ≤ R; omega) _
    have hk5 : ∀ k, k ≠ M → k ≠ H → k ≠ R → w5.heap[k]? = w1.heap[k]? := fun k k1 k2 k3 => (hoth5 k k3).trans ((hoth4 k k2).trans ((hoth3 k k3).trans (hoth2 k k1)))
    have hM5 : w5.heap[M]? = w2.heap[M]? := (hoth5 M (by omega)).trans ((hoth4 M (by omega)).trans (hoth3 M (by omega)))
    have hbx : Hid (w5.rangeAt w.heap.size 0 (enc x)) := fun j v hv => by
      rw [World.cell?_of_block (w := w.alloc (.cells (enc x).toArray 26)) ((hk5 w.heap.size (by have := h.b1; have := h.b3; omega) (by omega) (by omega)).trans (hg.below.block _ (by simp)))]
      exact range_new x w 26 j v hv
    obtain ⟨g', hg5, hgv5⟩ := hH4
    have hcnt := count_G B R H I M cm ch nh n i x ys w5 HNL.out hiy (HFL.out.1 rfl).2 hn hlt hys hR5 (hrow2.block hM5) (there_block hth2 hM5) ⟨g', hg5.of_block (hoth5 H (by omega)), hgv5⟩ (hI1.of_block (hk5 I (by omega) (by omega) (by omega))) bM bMH bHR bRI hnh hch hc1 hc2
    rw [hw5] at hbx
    rw [hw5] at hcnt
    go_wp2_with (first | ((with_reducible refine wpList_load_mid ?_ 26 (.tmp 3) ?_ w.heap.size 0 ?_ (enc x) _ hbx.out Try.underlying26 ?_ (sz26 x) ?_); rfl; rfl; rfl; rfl))
    refine hcnt.mono ?_
    rw [← hw5]
    rintro e w6 ⟨rfl, I', hRG, hB6⟩
    clear hcnt hbx hw5
    go_wp2
    go_end0
    exact ⟨rfl, ys.eraseIdx i, I', erase_perm ys i x (HFL.out.1 rfl).1 (HFL.out.1 rfl).2, erase_sorted ys i hys, hRG, hB5.trans hB6⟩
end Go.Proofs.Qxb6626435a
