import Derived.Test.Qxb6626435aRingIsG
namespace Go.Proofs.Qxb6626435a
open Go.RowKit Go.Sort
set_option linter.unusedVariables false

set_option maxHeartbeats 2000000 in
set_option maxRecDepth 100000 in
theorem same_core (n R H I cm ch R' H' I' cm' ch' m sh : Nat) (am am' : Option Addr) (ys : List Nat) (c : Nat → Nat) (w : World) (hn : n ≤ 65536) (hyl : ys.length = n) (hlt : ∀ y ∈ ys, y < top) (hm : m ≤ 131072)
    (hR : w.heap[R]? = some (.cells #[.slice am n cm, .slice (some ⟨H, 0, none⟩) n ch, .slice (some ⟨I, 0, none⟩) (m + 1) (m + 1), .int .u64 (sh : Nat)] 46 (0, 0)))
    (hR' : w.heap[R']? = some (.cells #[.slice am' n cm', .slice (some ⟨H', 0, none⟩) n ch', .slice (some ⟨I', 0, none⟩) (m + 1) (m + 1), .int .u64 (sh : Nat)] 46 (0, 0)))
    (hM : 0 < n → ∃ M, am = some ⟨M, 0, none⟩ ∧ Row w M 0 ys ∧ M < w.heap.size) (hM' : 0 < n → ∃ M, am' = some ⟨M, 0, none⟩ ∧ Row w M 0 ys ∧ M < w.heap.size)
    (hH : ∀ i (hi : i < ys.length), w.cell? ⟨H, i, none⟩ = some (.int .u64 (pre ys[i] 8 : Nat))) (hH' : ∀ i (hi : i < ys.length), w.cell? ⟨H', i, none⟩ = some (.int .u64 (pre ys[i] 8 : Nat)))
    (hI : w.rowIs I 21 (m + 1) (fun t => .int .i32 (c t : Nat))) (hI' : w.rowIs I' 21 (m + 1) (fun t => .int .i32 (c t : Nat))) :
    Calls Try.prog 11 #[.pointer (some ⟨R, 0, none⟩), .pointer (some ⟨R', 0, none⟩)] w fun e w' => e = .returned (.bool true) ∧ Grew w w' := by
  have hmix := mixed
  go_enter Try.func11, Try.ntmps11
  go_wp2_with (first | (go_at_call 19; first | refine (get0 R _ _ _ _ _ hR).mono ?_ | refine (get0 R' _ _ _ _ _ hR').mono ?_); (rintro e w' ⟨rfl, rfl⟩) | (go_at_call 20; first | refine (get1 R _ _ _ _ _ hR).mono ?_ | refine (get1 R' _ _ _ _ _ hR').mono ?_); (rintro e w' ⟨rfl, rfl⟩) | (go_at_call 21; first | refine (get2 R _ _ _ _ _ hR).mono ?_ | refine (get2 R' _ _ _ _ _ hR').mono ?_); (rintro e w' ⟨rfl, rfl⟩) | (go_at_call 24; first | refine (get3 R _ _ _ _ _ hR).mono ?_ | refine (get3 R' _ _ _ _ _ hR').mono ?_); (rintro e w' ⟨rfl, rfl⟩))
  clear hR hR'
  go_loopw [11] (fun v wr => ∃ k : Nat, k ≤ n ∧ v = .int .i64 k ∧ Grew w wr) (fun v _ => n - (intOf v).toNat)
  case atStart => exact ⟨0, by omega, rfl, Grew.refl _⟩
  case round =>
    obtain ⟨k, hk, rfl, hg⟩ := hrel
    by_cases hkn : k < n
    · obtain ⟨M, rfl, hrow, hMs⟩ := hM (by omega)
      obtain ⟨M', rfl, hrow', hMs'⟩ := hM' (by omega)
      have hky : k < ys.length := by omega
      have h1 : Hid (∀ w', (∃ p : GrownBy, w' = grow (wr.drewN p.n) p.os) → w'.rangeAt M (k * 20) (enc ys[k])) := range_grown hrow hMs hg.below hky
      have h2 : Hid (∀ w', (∃ p : GrownBy, w' = grow (wr.drewN p.n) p.os) → w'.rangeAt M' (k * 20) (enc ys[k])) := range_grown hrow' hMs' hg.below hky
      have hxt := hlt _ (List.getElem_mem hky)
      have heq := equalIn_ids 26 Try.underlying26 ys[k] ys[k] hxt hxt
      rw [decide_eq_true rfl] at heq
      have q1 : (0 : Int) ≤ (k : Int) := by omega
      have q2 : (k : Int) < (n : Int) := by omega
      have q3 : IntKind.i64.wrap (k : Int) = (k : Int) := by rw [IntKind.wrap_i64]; omega
      generalize ys[k] = x at *
      go_wp2
      refine wp_region_quiet_grown hmix (by kernel_rfl) ?_
      repeat (first | ((with_reducible refine quiet_load_mid ?_ 26 (.tmp 58) ?_ M (k * 20) ?_ (enc x) _ h1.out Try.underlying26 ?_ (sz26 _) ?_); (focus go_simp); rfl; rfl; rfl) | ((with_reducible refine quiet_load_mid ?_ 26 (.tmp 62) ?_ M' (k * 20) ?_ (enc x) _ h2.out Try.underlying26 ?_ (sz26 _) ?_); (focus go_simp); rfl; rfl; rfl) | quiet_step (fail))
      refine wpQuiet_nil ?_
      intro _ hw'
      obtain ⟨⟨nq, osq⟩, hw''⟩ := hw'
      subst hw''
      have hgq : Grew w (grow (wr.drewN nq) osq) := hg.trans ⟨_, _, rfl⟩
      clear h1 h2 heq hg
      generalize grow (wr.drewN nq) osq = wq at *
      go_wp2
      go_roundw
      case rel => exact ⟨k + 1, by omega, by go_num, hgq⟩
      case measure => simp [intOf]; omega
    · clear hM hM'
      go_wp2
      go_loopw [12] (fun v wr => ∃ k : Nat, k ≤ n ∧ v = .int .i64 k ∧ Grew w wr) (fun v _ => n - (intOf v).toNat)
      case atStart => exact ⟨0, by omega, rfl, hg⟩
      case round =>
        clear hg hkn hk
        obtain ⟨k, hk, rfl, hg⟩ := hrel
        by_cases hkn : k < n
        · have hky : k < ys.length := by omega
          have c1 : wr.cell? ⟨H, k, none⟩ = some (.int .u64 (pre ys[k] 8 : Nat)) := by
            rw [World.cell?_of_block (w := w) (hg.below.block H (World.block_lt_of_cell? w _ (hH k hky)))]; exact hH k hky
          have c2 : wr.cell? ⟨H', k, none⟩ = some (.int .u64 (pre ys[k] 8 : Nat)) := by
            rw [World.cell?_of_block (w := w) (hg.below.block H' (World.block_lt_of_cell? w _ (hH' k hky)))]; exact hH' k hky
          have q1 : (0 : Int) ≤ (k : Int) := by omega
          have q2 : (k : Int) < (n : Int) := by omega
          have q3 : IntKind.i64.wrap (k : Int) = (k : Int) := by rw [IntKind.wrap_i64]; omega
          have HG : Hid (∀ nq, Grew w (wr.drewN nq)) := fun nq => hg.drewN nq
          clear hH hH' hg
          generalize pre ys[k] 8 = y at *
          go_wp2
          go_quiet (fail)
          have hgq := HG.out nq
          clear HG
          go_wp2
          go_roundw
          case rel => exact ⟨k + 1, by omega, by go_num, hgq⟩
          case measure => simp [intOf]; omega
        · clear hH hH'
          go_wp2
          go_loopw [13] (fun v wr => ∃ k : Nat, k ≤ m + 1 ∧ v = .int .i64 k ∧ Grew w wr) (fun v _ => m + 1 - (intOf v).toNat)
          case atStart => exact ⟨0, by omega, rfl, hg⟩
          case round =>
            clear hg hkn hk
            obtain ⟨k, hk, rfl, hg⟩ := hrel
            by_cases hkn : k < m + 1
            · have c1 := (hI.of_block (hg.below.block I hI.lt)).cell hkn
              have c2 := (hI'.of_block (hg.below.block I' hI'.lt)).cell hkn
              have q1 : (0 : Int) ≤ (k : Int) := by omega
              have q2 : (k : Int) < (m : Int) + 1 := by omega
              have q3 : IntKind.i64.wrap (k : Int) = (k : Int) := by rw [IntKind.wrap_i64]; omega
              have HG : Hid (∀ nq, Grew w (wr.drewN nq)) := fun nq => hg.drewN nq
              clear hI hI' hg
              generalize c k = y at *
              go_wp2
              go_quiet (fail)
              have hgq := HG.out nq
              clear HG
              go_wp2
              go_roundw
              case rel => exact ⟨k + 1, by omega, by go_num, hgq⟩
              case measure => simp [intOf]; omega
            · go_wp2
              go_ret
              exact ⟨rfl, hg⟩
end Go.Proofs.Qxb6626435a
