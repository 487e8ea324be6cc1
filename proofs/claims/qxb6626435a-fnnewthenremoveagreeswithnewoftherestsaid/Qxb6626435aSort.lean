import Derived.Test.Qxb6626435aCompare
import Derived.Test.Qxb6626435aMerge
import Derived.Test.Qxb6626435aQuiet
namespace Go.Proofs.Qxb6626435a
open Go.RowKit Go.Sort
set_option linter.unusedVariables false

theorem info25 : (Try.prog.info? 25).map (fun i => (i.zero, i.size, i.bytes)) = some (some (.agg (enc 0).toArray), 20, 20) := by kernel_rfl

theorem make22 (n : Nat) (hn : n ≤ 65536) (w : World) :
    (Instr.makeSlice 22 (.int .i64 (n : Int)) (.int .i64 (n : Int))).run Try.prog w = .ok (.slice (some ⟨w.heap.size, 0, none⟩) n n) (w.alloc (.cells (madeCells (enc 0).toArray (n * 20)) 25)) := by
  obtain ⟨i, hi, hz, hs, hb⟩ := info_parts info25
  have hr := run_make (P := Try.prog) w 22 25 i (.agg (enc 0).toArray) Try.underlying22 hi hz .i64 .i64 (n : Int) (n : Int) (by omega) (by omega) (by rw [hb]; omega) (by omega)
  simp only [Int.toNat_natCast, hs] at hr
  exact hr

theorem sz25 (x : Nat) : (Try.prog.info? 25).map (·.size) = some (enc x).length := by rw [enc_length]; kernel_rfl
theorem sz25' (x : Nat) : (Try.prog.info? 25).map (·.size) = some (enc x).toArray.size := by rw [List.size_toArray, enc_length]; kernel_rfl
theorem th25 {w : World} {b o : Nat} (x : Nat) (h : w.there b o 20) : w.there b o (enc x).toArray.size := by rw [List.size_toArray, enc_length]; exact h

/-- WHAT zzSort KNOWS OF THE WORLD: two rows of n identifiers of its own, S holding ss, D holding ds -/
structure Two (w : World) (n S D : Nat) (ss ds : List Nat) (wr : World) : Prop where
  bel : Below w.heap.size w wr
  hS : w.heap.size ≤ S
  hD : w.heap.size ≤ D
  ne : S ≠ D
  rS : Row wr S 0 ss
  rD : Row wr D 0 ds
  tS : wr.there S 0 (n * 20)
  tD : wr.there D 0 (n * 20)
  lS : ss.length = n
  lD : ds.length = n

namespace Two
variable {w wr : World} {n S D : Nat} {ss ds : List Nat}
theorem swap (h : Two w n S D ss ds wr) : Two w n D S ds ss wr := ⟨h.bel, h.hD, h.hS, h.ne.symm, h.rD, h.rS, h.tD, h.tS, h.lD, h.lS⟩
theorem setD (h : Two w n S D ss ds wr) (i y : Nat) (hi : i < n) : Two w n S D ss (ds.set i y) (wr.setCells D (i * 20) (enc y)) where
  bel := below_setCells h.bel _ _ _ h.hD
  hS := h.hS
  hD := h.hD
  ne := h.ne
  rS := h.rS.other _ _ _ h.ne
  rD := h.rD.set (by rw [h.lD]; exact h.tD) i y (by rw [h.lD]; exact hi)
  tS := World.there_setCells h.tS _ _ _
  tD := World.there_setCells h.tD _ _ _
  lS := h.lS
  lD := by rw [List.length_set]; exact h.lD
theorem setS (h : Two w n S D ss ds wr) (i y : Nat) (hi : i < n) : Two w n S D (ss.set i y) ds (wr.setCells S (i * 20) (enc y)) := (h.swap.setD i y hi).swap
theorem grew (h : Two w n S D ss ds wr) (hn : 0 < n) {w1 : World} (hg : Grew wr w1) : Two w n S D ss ds w1 where
  bel := h.bel.trans (hg.below.mono h.bel.size)
  hS := h.hS
  hD := h.hD
  ne := h.ne
  rS := h.rS.below hg.below (there_lt h.tS (by omega))
  rD := h.rD.below hg.below (there_lt h.tD (by omega))
  tS := there_block h.tS (hg.below.block _ (there_lt h.tS (by omega)))
  tD := there_block h.tD (hg.below.block _ (there_lt h.tD (by omega)))
  lS := h.lS
  lD := h.lD
theorem made (w : World) (n : Nat) (hn : 0 < n) : Two w n w.heap.size (w.heap.size + 1) (List.replicate n 0) (List.replicate n 0) ((w.alloc (.cells (madeCells (enc 0).toArray (n * 20)) 25)).alloc (.cells (madeCells (enc 0).toArray (n * 20)) 25)) where
  bel := ((Below.refl _ _).alloc (Nat.le_refl _) _).alloc (by simp) _
  hS := Nat.le_refl _
  hD := by omega
  ne := by omega
  rS := (made_row w n 25).block (Below.heap_alloc _ _ _ (by simp))
  rD := by simpa using made_row (w.alloc (.cells (madeCells (enc 0).toArray (n * 20)) 25)) n 25
  tS := there_block (made_there w _ _ 25) (Below.heap_alloc _ _ _ (by simp))
  tD := by simpa using made_there (w.alloc (.cells (madeCells (enc 0).toArray (n * 20)) 25)) (enc 0).toArray (n * 20) 25
  lS := by simp
  lD := by simp
end Two

theorem min_to (a b r : Int) (hr : r = min a b) (w : World) : Calls Try.prog 12 #[.int .i64 a, .int .i64 b] w fun e w' => e = .returned (.int .i64 r) ∧ w = w' := by
  subst hr
  exact (min_any a b w).mono fun e w' ⟨h1, h2⟩ => ⟨h1, h2.symm⟩

theorem Two.rangeS {w wr : World} {n S D : Nat} {ss ds : List Nat} (h : Two w n S D ss ds wr) (hn : 0 < n) (i : Nat) (hi : i < ss.length) : ∀ w', (∃ p : GrownBy, w' = grow (wr.drewN p.n) p.os) → w'.rangeAt S (i * 20) (enc ss[i]) := by
  rintro w' ⟨p, rfl⟩
  have := (h.grew hn (w1 := grow (wr.drewN p.n) p.os) ⟨p.n, p.os, rfl⟩).rS.at i hi
  rwa [Nat.zero_add] at this
theorem Two.rangeS0 {w wr : World} {n S D : Nat} {ss ds : List Nat} (h : Two w n S D ss ds wr) (i : Nat) (hi : i < ss.length) : wr.rangeAt S (i * 20) (enc ss[i]) := by
  have := h.rS.at i hi
  rwa [Nat.zero_add] at this

set_option maxHeartbeats 1000000 in
set_option maxRecDepth 100000 in
theorem sort_some (b off c : Nat) (ss0 : List Nat) (n : Nat) (hx : ss0.length = n) (hn0 : 0 < n) (hn : n ≤ 65536) (hlt : ∀ x ∈ ss0, x < top) (w : World) (hb : b < w.heap.size) (hr : Row w b off ss0) :
    Calls Try.prog 6 #[.slice (some ⟨b, off, none⟩) n c] w fun e w' => ∃ S ys, e = .returned (.slice (some ⟨S, 0, none⟩) n n) ∧ w.heap.size ≤ S ∧ S < w'.heap.size ∧ Row w' S 0 ys ∧ ys.Perm ss0 ∧ ys.Pairwise (· ≤ ·) ∧ Below w.heap.size w w' := by
  have hmk := make22 n hn
  go_enter Try.func6, Try.ntmps6
  go_wp2
  have hT := Two.made w n hn0
  go_loopw [6] (fun i wr => ∃ (j : Nat) (ss : List Nat), j ≤ n ∧ i = .int .i64 j ∧ Two w n w.heap.size (w.heap.size + 1) ss (List.replicate n 0) wr ∧ Hid (ss.take j = ss0.take j)) (fun i _ => n - (intOf i).toNat)
  case atStart => exact ⟨0, _, by omega, rfl, hT, rfl⟩
  case round =>
    clear hT hmk
    obtain ⟨j, ss, hj, rfl, hT, he⟩ := hrel
    by_cases hlt2 : j < n
    · have hjx : j < ss0.length := by omega
      have HLD : Hid (wr.rangeAt b (off + j * 20) (enc ss0[j])) := (hr.below hT.bel hb).at j hjx
      have HST : Hid (wr.there w.heap.size (j * 20) 20) := there_at hT.tS j hlt2
      have HT : Hid (Two w n w.heap.size (w.heap.size + 1) (ss.set j ss0[j]) (List.replicate n 0) (wr.setCells w.heap.size (j * 20) (enc ss0[j]))) := hT.setS j _ hlt2
      have HE : Hid ((ss.set j ss0[j]).take (j + 1) = ss0.take (j + 1)) := copy_step ss ss0 j (by rw [hT.lS]; exact hlt2) hjx he.out
      clear hT he
      generalize ss0[j] = x at *
      go_wp2_with (first | ((with_reducible refine wpList_load_mid ?_ 25 (.tmp 29) ?_ b (off + j * 20) ?_ (enc x) _ HLD.out Try.underlying25 ?_ (sz25 x) ?_); rfl; rfl; rfl; rfl) | ((with_reducible refine wpList_store_mid ?_ 25 (.tmp 31) (.tmp 30) ?_ w.heap.size (j * 20) (enc x).toArray ?_ ?_ (th25 x HST.out) (sz25' x) (all_oneCell_toArray (enc_one x)) ?_); rfl; rfl; rfl; rfl))
      go_roundw
      case rel => exact ⟨j + 1, _, by omega, by go_num, HT.out, HE⟩
      case measure => simp [intOf]; omega
    · obtain rfl : j = n := by omega
      have hss : ss0 = ss := (copy_done ss ss0 j hT.lS hx he.out).symm
      subst hss
      clear hr hb he hlt2
      go_wp2
      go_loopw [4, 5, 7] (fun vs vd wd wr => ∃ (S D W : Nat) (ss ds : List Nat), vs = .slice (some ⟨S, 0, none⟩) j j ∧ vd = .slice (some ⟨D, 0, none⟩) j j ∧ wd = .int .i64 W ∧ 1 ≤ W ∧ W ≤ 131072 ∧ Two w j S D ss ds wr ∧ Hid (ss.Perm ss0) ∧ Hid (Runs W ss)) (fun _ _ wd _ => j - (intOf wd).toNat)
      case atStart => exact ⟨_, _, 1, _, _, rfl, rfl, rfl, by omega, by omega, hT, List.Perm.refl _, runs_one _⟩
      case round =>
        clear hT
        obtain ⟨S, D, W, ss, ds, rfl, rfl, rfl, hW1, hW2, hT, hP, hR⟩ := hrel
        have HTOP : Hid (∀ x ∈ ss, x < top) := fun x hx' => hlt x (hP.out.mem_iff.1 hx')
        by_cases hWj : W < j
        · go_wp2
          go_loopw [8] (fun vl wr => ∃ (lo m : Nat) (ds : List Nat), vl = .int .i64 lo ∧ lo ≤ 262144 ∧ Hid (lo = m * (2 * W)) ∧ Two w j S D ss ds wr ∧ Hid (Lv ss ds W m)) (fun vl _ => j - (intOf vl).toNat)
          case atStart => exact ⟨0, 0, ds, rfl, by omega, (Nat.zero_mul _).symm, hT, Lv.start ss ds W (by rw [hT.lD, hT.lS])⟩
          case round =>
            clear hT
            obtain ⟨lo, m, ds, rfl, hlo, hlm, hT, hL⟩ := hrel
            by_cases hlj : lo < j
            · obtain ⟨mid, hm1, hm2, hm3⟩ : ∃ mid : Nat, mid ≤ lo + W ∧ mid ≤ j ∧ (lo + W ≤ mid ∨ j ≤ mid) := ⟨min (lo + W) j, by omega, by omega, by omega⟩
              obtain ⟨hi, hh1, hh2, hh3⟩ : ∃ hi : Nat, hi ≤ lo + 2 * W ∧ hi ≤ j ∧ (lo + 2 * W ≤ hi ∨ j ≤ hi) := ⟨min (lo + 2 * W) j, by omega, by omega, by omega⟩
              have HMID : Hid (mid = min (lo + W) ss.length) := by show _ = _; rw [hT.lS]; omega
              have HHI : Hid (hi = min (lo + 2 * W) ss.length) := by show _ = _; rw [hT.lS]; omega
              have HSL : Hid ((seg ss lo mid).Pairwise (· ≤ ·)) := run_left W m lo mid ss hR.out hlm.out HMID.out
              have HSR : Hid ((seg ss mid hi).Pairwise (· ≤ ·)) := run_right W m lo mid hi ss hR.out hlm.out HMID.out HHI.out
              have HMG : Hid (Mg ss ds ds lo mid hi lo mid lo) := Mg.start ss ds lo mid hi (by omega) (by omega) (by rw [hT.lD, hT.lS])
              have HSS : Hid (ss.length = j) := hT.lS
              go_wp2_with fail
              refine (min_to _ _ (mid : Int) (by omega) _).mono ?_
              rintro e w' ⟨rfl, rfl⟩
              go_wp2_with fail
              refine (min_to _ _ (hi : Int) (by omega) _).mono ?_
              rintro e w' ⟨rfl, rfl⟩
              go_wp2
              go_loopw [11, 12, 13] (fun vi vj vk wr => ∃ (i q k : Nat) (es : List Nat), vi = .int .i64 i ∧ vj = .int .i64 q ∧ vk = .int .i64 k ∧ lo ≤ i ∧ i ≤ mid ∧ mid ≤ q ∧ q ≤ hi ∧ k + mid ≤ i + q ∧ i + q ≤ k + mid ∧ Two w j S D ss es wr ∧ Hid (Mg ss ds es lo mid hi i q k)) (fun _ _ vk _ => hi - (intOf vk).toNat)
              case atStart => exact ⟨lo, mid, lo, ds, rfl, rfl, rfl, by omega, by omega, by omega, by omega, by omega, by omega, hT, HMG⟩
              case round =>
                clear hT HMG
                obtain ⟨i, q, k, es, rfl, rfl, rfl, hi0, hi1, hq0, hq1, hk0, hk1, hT, hM⟩ := hrel
                by_cases hkh : k < hi
                · by_cases hiM : i < mid
                  · by_cases hqH : q < hi
                    · -- both runs have something left: the call decides
                      have hvi : i < ss.length := by rw [hT.lS]; omega
                      have hvq : q < ss.length := by rw [hT.lS]; omega
                      have hS1 : Hid (∀ w', (∃ p : GrownBy, w' = grow (wr.drewN p.n) p.os) → w'.rangeAt S (q * 20) (enc ss[q])) := hT.rangeS (by omega) q hvq
                      have hS2 : Hid (∀ w', (∃ p : GrownBy, w' = grow (wr.drewN p.n) p.os) → w'.rangeAt S (i * 20) (enc ss[i])) := hT.rangeS (by omega) i hvi
                      have hless : Hid (∀ n os, Calls Try.prog 13 #[.agg (enc ss[q]).toArray, .agg (enc ss[i]).toArray] (grow (wr.drewN n) os) fun e w' => e = .returned (.bool (decide (ss[q] < ss[i]))) ∧ ∃ q os', w' = grow ((grow (wr.drewN n) os).drewN q) os') := fun n os => less_any _ _ (HTOP.out _ (List.getElem_mem hvq)) (HTOP.out _ (List.getElem_mem hvi)) _
                      have d1 : decide ((i : Int) < (mid : Int)) = true := by simp; omega
                      have d2 : decide ((hi : Int) ≤ (q : Int)) = false := by simp; omega
                      have q1 : (0 : Int) ≤ (q : Int) := by omega
                      have q2 : (q : Int) < (j : Int) := by omega
                      have q3 : IntKind.i64.wrap (q : Int) = (q : Int) := by rw [IntKind.wrap_i64]; omega
                      have p1 : (0 : Int) ≤ (i : Int) := by omega
                      have p2 : (i : Int) < (j : Int) := by omega
                      have p3 : IntKind.i64.wrap (i : Int) = (i : Int) := by rw [IntKind.wrap_i64]; omega
                      by_cases hlq : ss[q] < ss[i]
                      · have dl : decide (ss[q] < ss[i]) = true := by simpa using hlq
                        have HLE : ∀ (hi0 : i < ss.length), i < mid → ss[q] ≤ ss[i] := fun _ _ => Nat.le_of_lt hlq
                        rw [dl] at hless
                        clear dl hlq
                        go_wp2
                        refine wp_region_quiet_grown mixed (by kernel_rfl) ?_
                        repeat (first | ((with_reducible refine quiet_load_mid ?_ 25 (.tmp 71) ?_ S (q * 20) ?_ (enc ss[q]) _ hS1.out Try.underlying25 ?_ (sz25 _) ?_); (focus go_simp); rfl; rfl; rfl) | ((with_reducible refine quiet_load_mid ?_ 25 (.tmp 75) ?_ S (i * 20) ?_ (enc ss[i]) _ hS2.out Try.underlying25 ?_ (sz25 _) ?_); (focus go_simp); rfl; rfl; rfl) | quiet_step ((go_at_call 13; refine Calls.grown_of (hless.out _ _))))
                        refine wpQuiet_nil ?_
                        intro _ hw'
                        obtain ⟨⟨nq, osq⟩, hw''⟩ := hw'
                        subst hw''
                        clear hS1 hS2 hless
                        have hTW := hT.grew (by omega) (w1 := grow (wr.drewN nq) osq) ⟨_, _, rfl⟩
                        have hv : q < ss.length := by rw [hT.lS]; omega
                        have HR : Hid ((grow (wr.drewN nq) osq).rangeAt S (q * 20) (enc ss[q])) := hTW.rangeS0 q hv
                        have HTH : Hid ((grow (wr.drewN nq) osq).there D (k * 20) 20) := there_at hTW.tD k (by omega)
                        have HT2 : Hid (Two w j S D ss (es.set k ss[q]) ((grow (wr.drewN nq) osq).setCells D (k * 20) (enc ss[q]))) := hTW.setD k _ (by omega)
                        have HM2 : Hid (Mg ss ds (es.set k ss[q]) lo mid hi i (q + 1) (k + 1)) := hM.out.takeJ (by omega) (by rw [hT.lS]; omega) hqH HSR.out HLE
                        clear hTW hT hM
                        generalize ss[q] = x at *
                        go_wp2_with (first | ((with_reducible refine wpList_load_mid ?_ 25 (.tmp 94) ?_ S (q * 20) ?_ (enc x) _ HR.out Try.underlying25 ?_ (sz25 x) ?_); rfl; rfl; rfl; rfl) | ((with_reducible refine wpList_store_mid ?_ 25 (.tmp 96) (.tmp 95) ?_ D (k * 20) (enc x).toArray ?_ ?_ (th25 x HTH.out) (sz25' x) (all_oneCell_toArray (enc_one x)) ?_); rfl; rfl; rfl; rfl))
                        go_roundw
                        case rel => exact ⟨i, q + 1, k + 1, _, rfl, by go_num, by go_num, by omega, by omega, by omega, by omega, by omega, by omega, HT2.out, HM2⟩
                        case measure => simp [intOf]; omega
                      · have dl : decide (ss[q] < ss[i]) = false := by simpa using hlq
                        have HLE : ∀ (hj : q < ss.length), q < hi → ss[i] ≤ ss[q] := fun _ _ => Nat.le_of_not_lt hlq
                        rw [dl] at hless
                        clear dl hlq
                        go_wp2
                        refine wp_region_quiet_grown mixed (by kernel_rfl) ?_
                        repeat (first | ((with_reducible refine quiet_load_mid ?_ 25 (.tmp 71) ?_ S (q * 20) ?_ (enc ss[q]) _ hS1.out Try.underlying25 ?_ (sz25 _) ?_); (focus go_simp); rfl; rfl; rfl) | ((with_reducible refine quiet_load_mid ?_ 25 (.tmp 75) ?_ S (i * 20) ?_ (enc ss[i]) _ hS2.out Try.underlying25 ?_ (sz25 _) ?_); (focus go_simp); rfl; rfl; rfl) | quiet_step ((go_at_call 13; refine Calls.grown_of (hless.out _ _))))
                        refine wpQuiet_nil ?_
                        intro _ hw'
                        obtain ⟨⟨nq, osq⟩, hw''⟩ := hw'
                        subst hw''
                        clear hS1 hS2 hless
                        have hTW := hT.grew (by omega) (w1 := grow (wr.drewN nq) osq) ⟨_, _, rfl⟩
                        have hv : i < ss.length := by rw [hT.lS]; omega
                        have HR : Hid ((grow (wr.drewN nq) osq).rangeAt S (i * 20) (enc ss[i])) := hTW.rangeS0 i hv
                        have HTH : Hid ((grow (wr.drewN nq) osq).there D (k * 20) 20) := there_at hTW.tD k (by omega)
                        have HT2 : Hid (Two w j S D ss (es.set k ss[i]) ((grow (wr.drewN nq) osq).setCells D (k * 20) (enc ss[i]))) := hTW.setD k _ (by omega)
                        have HM2 : Hid (Mg ss ds (es.set k ss[i]) lo mid hi (i + 1) q (k + 1)) := hM.out.takeI (by omega) (by rw [hT.lS]; omega) hiM HSL.out HLE
                        clear hTW hT hM
                        generalize ss[i] = x at *
                        go_wp2_with (first | ((with_reducible refine wpList_load_mid ?_ 25 (.tmp 85) ?_ S (i * 20) ?_ (enc x) _ HR.out Try.underlying25 ?_ (sz25 x) ?_); rfl; rfl; rfl; rfl) | ((with_reducible refine wpList_store_mid ?_ 25 (.tmp 87) (.tmp 86) ?_ D (k * 20) (enc x).toArray ?_ ?_ (th25 x HTH.out) (sz25' x) (all_oneCell_toArray (enc_one x)) ?_); rfl; rfl; rfl; rfl))
                        go_roundw
                        case rel => exact ⟨i + 1, q, k + 1, _, by go_num, rfl, by go_num, by omega, by omega, by omega, by omega, by omega, by omega, HT2.out, HM2⟩
                        case measure => simp [intOf]; omega
                    · have d1 : decide ((i : Int) < (mid : Int)) = true := by simp; omega
                      have d2 : decide ((hi : Int) ≤ (q : Int)) = true := by simp; omega
                      have hvi : i < ss.length := by rw [hT.lS]; omega
                      have HLE : ∀ (hj : q < ss.length), q < hi → ss[i] ≤ ss[q] := fun _ h => absurd h hqH
                      go_wp2
                      go_quiet (fail)
                      have hTW := hT.grew (by omega) ((Grew.refl _).drewN nq)
                      have hv : i < ss.length := by rw [hT.lS]; omega
                      have HR : Hid ((wr.drewN nq).rangeAt S (i * 20) (enc ss[i])) := hTW.rangeS0 i hv
                      have HTH : Hid ((wr.drewN nq).there D (k * 20) 20) := there_at hTW.tD k (by omega)
                      have HT2 : Hid (Two w j S D ss (es.set k ss[i]) ((wr.drewN nq).setCells D (k * 20) (enc ss[i]))) := hTW.setD k _ (by omega)
                      have HM2 : Hid (Mg ss ds (es.set k ss[i]) lo mid hi (i + 1) q (k + 1)) := hM.out.takeI (by omega) (by rw [hT.lS]; omega) hiM HSL.out HLE
                      clear hTW hT hM
                      generalize ss[i] = x at *
                      go_wp2_with (first | ((with_reducible refine wpList_load_mid ?_ 25 (.tmp 85) ?_ S (i * 20) ?_ (enc x) _ HR.out Try.underlying25 ?_ (sz25 x) ?_); rfl; rfl; rfl; rfl) | ((with_reducible refine wpList_store_mid ?_ 25 (.tmp 87) (.tmp 86) ?_ D (k * 20) (enc x).toArray ?_ ?_ (th25 x HTH.out) (sz25' x) (all_oneCell_toArray (enc_one x)) ?_); rfl; rfl; rfl; rfl))
                      go_roundw
                      case rel => exact ⟨i + 1, q, k + 1, _, by go_num, rfl, by go_num, by omega, by omega, by omega, by omega, by omega, by omega, HT2.out, HM2⟩
                      case measure => simp [intOf]; omega
                  · have d1 : decide ((i : Int) < (mid : Int)) = false := by simp; omega
                    have hqH : q < hi := by omega
                    have hvq : q < ss.length := by rw [hT.lS]; omega
                    have HLE : ∀ (hi0 : i < ss.length), i < mid → ss[q] ≤ ss[i] := fun _ h => absurd h hiM
                    go_wp2
                    go_quiet (fail)
                    have hTW := hT.grew (by omega) ((Grew.refl _).drewN nq)
                    have hv : q < ss.length := by rw [hT.lS]; omega
                    have HR : Hid ((wr.drewN nq).rangeAt S (q * 20) (enc ss[q])) := hTW.rangeS0 q hv
                    have HTH : Hid ((wr.drewN nq).there D (k * 20) 20) := there_at hTW.tD k (by omega)
                    have HT2 : Hid (Two w j S D ss (es.set k ss[q]) ((wr.drewN nq).setCells D (k * 20) (enc ss[q]))) := hTW.setD k _ (by omega)
                    have HM2 : Hid (Mg ss ds (es.set k ss[q]) lo mid hi i (q + 1) (k + 1)) := hM.out.takeJ (by omega) (by rw [hT.lS]; omega) hqH HSR.out HLE
                    clear hTW hT hM
                    generalize ss[q] = x at *
                    go_wp2_with (first | ((with_reducible refine wpList_load_mid ?_ 25 (.tmp 94) ?_ S (q * 20) ?_ (enc x) _ HR.out Try.underlying25 ?_ (sz25 x) ?_); rfl; rfl; rfl; rfl) | ((with_reducible refine wpList_store_mid ?_ 25 (.tmp 96) (.tmp 95) ?_ D (k * 20) (enc x).toArray ?_ ?_ (th25 x HTH.out) (sz25' x) (all_oneCell_toArray (enc_one x)) ?_); rfl; rfl; rfl; rfl))
                    go_roundw
                    case rel => exact ⟨i, q + 1, k + 1, _, rfl, by go_num, by go_num, by omega, by omega, by omega, by omega, by omega, by omega, HT2.out, HM2⟩
                    case measure => simp [intOf]; omega
                · have HL2 : Hid (Lv ss es W (m + 1)) := hL.out.next_of hlm.out HMID.out HHI.out (by rw [hT.lS]; exact hlj) hM.out (by omega) (by omega) (by omega)
                  have HLO : Hid (lo + 2 * W = (m + 1) * (2 * W)) := by show _ = _; rw [Nat.add_mul, Nat.one_mul, ← hlm.out]
                  go_wp2
                  go_roundw
                  case rel => exact ⟨lo + 2 * W, m + 1, es, by go_num, by omega, HLO, hT, HL2⟩
                  case measure => simp [intOf]; omega
            · have HD : Hid (ds.Perm ss ∧ Runs (2 * W) ds) := hL.out.done (by rw [hT.lS, ← hlm.out]; omega)
              go_wp2
              go_roundw
              case rel => exact ⟨D, S, W * 2, ds, ss, rfl, rfl, by go_num, by omega, by omega, hT.swap, HD.out.1.trans hP.out, by rw [Nat.mul_comm W 2]; exact HD.out.2⟩
              case measure => simp [intOf]; omega
        · have HS : Hid (ss.Pairwise (· ≤ ·)) := runs_all W ss (by rw [hT.lS]; omega) hR.out
          go_wp2
          go_ret
          exact ⟨S, ss, rfl, hT.hS, there_lt hT.tS (by omega), hT.rS, hP.out, HS.out, hT.bel⟩
end Go.Proofs.Qxb6626435a
