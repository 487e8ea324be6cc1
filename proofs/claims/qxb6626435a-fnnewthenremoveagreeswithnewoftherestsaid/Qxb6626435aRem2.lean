import Derived.Test.Qxb6626435aRem
namespace Go.Proofs.Qxb6626435a
open Go.RowKit Go.Sort
set_option linter.unusedVariables false

theorem pre_lt64 (x : Nat) (hx : x < top) : pre x 8 < 18446744073709551616 :=
  heads_lt [x] (fun y hy => by rw [List.mem_singleton.1 hy]; exact hx) _ (List.mem_map.2 ⟨x, List.mem_singleton.2 rfl, rfl⟩)

theorem RG.cells {B R H I cm ch nh : Nat} {am : Option Addr} {ys : List Nat} {w : World} (h : RG B ys R H I am cm ch nh w) : ∀ i (hi : i < ys.length), w.cell? ⟨H, i, none⟩ = some (.int .u64 (pre ys[i] 8 : Nat)) := fun i hi => by
  obtain ⟨g, h1, h2⟩ := h.heads (by omega)
  have := h.hnh
  rw [h1.cell (by omega), h2 i hi]

theorem search_G {B R H I cm ch nh : Nat} {am : Option Addr} {ys : List Nat} {w : World} (x : Nat) (h : RG B ys R H I am cm ch nh w) (hx : x < top) (hn : ys.length ≤ 65536) (hlt : ∀ y ∈ ys, y < top) (hys : ys.Pairwise (· ≤ ·)) :
    Calls Try.prog 25 #[.pointer (some ⟨R, 0, none⟩), .agg (enc x).toArray] w fun e w' => ∃ (i : Nat) (bb : Bool), e = .returned (.tuple #[.int .i64 i, .bool bb]) ∧ Grew w w' ∧ Fnd ys x i bb ∧ i ≤ ys.length := by
  have hb := bitLen_small ys.length hn
  have hp := pow_small _ hb
  exact search_core x ys.length R H I cm ch (2 ^ Lib.bitLen ys.length) (64 - Lib.bitLen ys.length) am ys w hx hn rfl hlt hys (by omega) hp.2 _ rfl (slice_lt _ _ _ (pre_lt64 x hx) (by omega)) h.hch h.ring
    (fun h0 => by obtain ⟨M, e, _, _, h3, h4⟩ := h.mem h0; exact ⟨M, e, h3, there_lt h4 (by omega)⟩) h.cells h.idx

theorem count_G (B R H I M cm ch nh n i x : Nat) (ys : List Nat) (w : World) (hyl : ys.length = n) (hi : i < n) (hxi : ys[i]'(by omega) = x) (hn : n ≤ 65536) (hlt : ∀ y ∈ ys, y < top) (hys : ys.Pairwise (· ≤ ·))
    (hR : w.heap[R]? = some (.cells #[.slice (some ⟨M, 0, none⟩) (n - 1) cm, .slice (some ⟨H, 0, none⟩) (n - 1) ch, .slice (some ⟨I, 0, none⟩) (2 ^ Lib.bitLen n + 1) (2 ^ Lib.bitLen n + 1), .int .u64 ((64 - Lib.bitLen n : Nat) : Int)] 46 (0, 0)))
    (hM : Row w M 0 (ys.eraseIdx i)) (hth : w.there M 0 (n * 20)) (hH : ∃ g', w.rowIs H 41 nh g' ∧ ∀ t (ht : t < (ys.eraseIdx i).length), g' t = .int .u64 (pre (ys.eraseIdx i)[t] 8 : Nat))
    (hI : w.rowIs I 21 (2 ^ Lib.bitLen n + 1) (fun t => .int .i32 (below (ys.map (pre · 8)) (64 - Lib.bitLen n) t : Nat))) (b1 : B ≤ M) (b2 : M < H) (b3 : H < R) (b4 : R < I) (hnh : n ≤ nh) (hch : n ≤ ch) (hcm : n ≤ cm) (hcm2 : cm ≤ maxLen) :
    Calls Try.prog 28 #[.pointer (some ⟨R, 0, none⟩), .agg (enc x).toArray, .int .i32 (-1)] w fun e w' => e = .returned (.tuple #[]) ∧ ∃ I', RG B (ys.eraseIdx i) R H I' (some ⟨M, 0, none⟩) cm ch nh w' ∧ RowKit.Below B w w' := by
  have hx : x < top := by rw [← hxi]; exact hlt _ (List.getElem_mem _)
  have hzl : (ys.eraseIdx i).length = n - 1 := by rw [List.length_eraseIdx, if_pos (by omega), hyl]
  have hbl := bitLen_small n hn
  have hbl' := bitLen_small (n - 1) (by omega)
  have hp := pow_small _ hbl
  have hRs : R < w.heap.size := (Array.getElem?_eq_some_iff.1 hR).1
  obtain ⟨g', hg', hgv⟩ := hH
  have hml : i < (ys.map (pre · 8)).length := by rw [List.length_map]; omega
  have hpi : (ys.map (pre · 8))[i] = pre x 8 := by rw [List.getElem_map, hxi]
  have hth' : w.there M 0 ((n - 1) * 20) := fun j hj => hth j (by omega)
  have hMs : M < w.heap.size := there_lt hth (by omega)
  by_cases hb : Lib.bitLen (n - 1) = Lib.bitLen n
  · refine (count_loop x R (n - 1) cm ch (2 ^ Lib.bitLen n) I (64 - Lib.bitLen n) _ _ (below (ys.map (pre · 8)) (64 - Lib.bitLen n)) w hx (by omega) hp.2 (by omega) (by omega) (pre x 8 / 2 ^ (64 - Lib.bitLen n)) rfl (slice_lt _ _ _ (pre_lt64 x hx) (by omega))
      (fun t => by have := below_le (ys.map (pre · 8)) (64 - Lib.bitLen n) t; rw [List.length_map] at this; omega)
      (fun t ht => below_one _ _ t i hml (by rw [hpi]; exact ht)) hR hI).mono ?_
    rintro e w' ⟨rfl, hC⟩
    refine ⟨rfl, I, ⟨?_, fun _ => ⟨M, rfl, b1, b2, ?_, ?_⟩, fun _ => ⟨g', ?_, hgv⟩, by omega, by omega, ?_, by omega, b3, b4, fun _ => ⟨by omega, hcm2⟩⟩, ⟨hC.os, hC.tape, hC.output, hC.size, fun k hk => hC.oth k (by omega) (by omega)⟩⟩
    · rw [hzl, hb, hC.oth R hRs (by omega)]; exact hR
    · exact hM.block (hC.oth M hMs (by omega))
    · rw [hzl]; exact there_block hth' (hC.oth M hMs (by omega))
    · exact hg'.of_block (hC.oth H hg'.lt (by omega))
    · rw [hzl, hb]
      refine hC.row.congr fun t _ => ?_
      rw [map_erase, below_erase _ _ _ _ hml, hpi]
  · refine count_re x R (n - 1) cm ch (64 - Lib.bitLen (n - 1)) (64 - Lib.bitLen n) _ _ _ w (by omega) (by omega) (by omega) hR _ (fun wz hg => ?_)
    have hzs := hg.below
    refine (reindex_any R H (n - 1) cm ch (some ⟨M, 0, none⟩) _ _ ((ys.eraseIdx i).map (pre · 8)) wz (by omega) (by rw [List.length_map, hzl]) (heads_lt _ (fun y hy => hlt y (List.mem_of_mem_eraseIdx hy))) (heads_sorted _ (erase_sorted _ _ hys)) ((hzs.block R hRs).trans hR) (by omega) (fun t ht => ?_)).mono ?_
    · rw [(hg'.of_block (hzs.block H hg'.lt)).cell (by omega), hgv t (by omega), List.getElem_map]
    · rintro e w' ⟨rfl, hC⟩
      have hRz : R < wz.heap.size := Nat.lt_of_lt_of_le hRs hzs.size
      have hoth : ∀ k, k < w.heap.size → k ≠ R → w'.heap[k]? = w.heap[k]? := fun k hk hne => (hC.oth k (Nat.lt_of_lt_of_le hk hzs.size) hne).trans (hzs.block k hk)
      refine ⟨rfl, wz.heap.size, ⟨?_, fun _ => ⟨M, rfl, b1, b2, ?_, ?_⟩, fun _ => ⟨g', ?_, hgv⟩, by omega, by omega, ?_, by omega, b3, hRz, fun _ => ⟨by omega, hcm2⟩⟩, ⟨hC.os.trans hzs.os, hC.tape.trans hzs.tape, hC.output.trans hzs.output, Nat.le_trans hzs.size (Nat.le_of_lt hC.row.lt), fun k hk => hoth k (by omega) (by omega)⟩⟩
      · rw [hzl]; exact hC.ring
      · exact hM.block (hoth M hMs (by omega))
      · rw [hzl]; exact there_block hth' (hoth M hMs (by omega))
      · exact hg'.of_block (hoth H hg'.lt (by omega))
      · rw [hzl]; exact hC.row
end Go.Proofs.Qxb6626435a
