import Derived.Test.Qxb6626435aRingG
namespace Go.Proofs.Qxb6626435a
open Go.RowKit Go.Sort
set_option linter.unusedVariables false

set_option maxHeartbeats 2000000 in
set_option maxRecDepth 100000 in
theorem ringIs_coreG (n R M H I S cm ch nh cw bl m sh : Nat) (g : Nat → Value) (ys : List Nat) (w : World) (hn0 : 0 < n) (hn : n ≤ 65536) (hyl : ys.length = n) (hlt : ∀ y ∈ ys, y < top)
    (hbl0 : 1 ≤ bl) (hbl : bl ≤ 17) (hsh : sh + bl = 64) (hm1 : 1 ≤ m) (hm : m ≤ 131072) (hpow : wrap64 ((2 : Int) ^ bl) = (m : Int)) (hm2 : m = 2 ^ bl) (hlen : ∀ W, Calls Try.prog 23 #[.int .i64 (n : Int)] W fun e w' => e = .returned (.int .i64 (bl : Int)) ∧ W = w')
    (hR : w.heap[R]? = some (.cells #[.slice (some ⟨M, 0, none⟩) n cm, .slice (some ⟨H, 0, none⟩) n ch, .slice (some ⟨I, 0, none⟩) (m + 1) (m + 1), .int .u64 (sh : Nat)] 46 (0, 0)))
    (hM : Row w M 0 ys) (hM1 : M < w.heap.size) (hnh : n ≤ nh) (hH : w.rowIs H 41 nh g) (hgv : ∀ i (hi : i < ys.length), g i = .int .u64 (pre ys[i] 8 : Nat)) (hI : w.rowIs I 21 (m + 1) (fun t => .int .i32 (below (ys.map (pre · 8)) sh t : Nat))) (hS : Row w S 0 ys) (hS1 : S < w.heap.size) :
    Calls Try.prog 8 #[.pointer (some ⟨R, 0, none⟩), .slice (some ⟨S, 0, none⟩) n cw] w fun e w' => e = .returned (.bool true) ∧ RowKit.Below w.heap.size w w' := by
  have hmix := mixed
  have HM2 : Hid (m = 2 ^ bl) := hm2
  clear hm2
  have hRs : R < w.heap.size := (Array.getElem?_eq_some_iff.1 hR).1
  go_enter Try.func8, Try.ntmps8
  go_wp2_with (first | (go_at_call 19; refine (get0 _ _ _ _ _ _ hR).mono ?_; rintro e w' ⟨rfl, rfl⟩) | (go_at_call 20; refine (get1 _ _ _ _ _ _ hR).mono ?_; rintro e w' ⟨rfl, rfl⟩) | (go_at_call 21; refine (get2 _ _ _ _ _ _ hR).mono ?_; rintro e w' ⟨rfl, rfl⟩))
  go_loopw [9] (fun i wr => ∃ k : Nat, k ≤ n ∧ i = .int .i64 k ∧ Grew w wr) (fun i _ => n - (intOf i).toNat)
  case atStart => exact ⟨0, by omega, rfl, Grew.refl _⟩
  case round =>
    obtain ⟨k, hk, rfl, hg⟩ := hrel
    by_cases hkn : k < n
    · have hky : k < ys.length := by omega
      have hS2 : Hid (∀ w', (∃ p : GrownBy, w' = grow (wr.drewN p.n) p.os) → w'.rangeAt S (k * 20) (enc ys[k])) := range_grown hS hS1 hg.below hky
      have hM2 : Hid (∀ w', (∃ p : GrownBy, w' = grow (wr.drewN p.n) p.os) → w'.rangeAt M (k * 20) (enc ys[k])) := range_grown hM hM1 hg.below hky
      have hxt := hlt _ (List.getElem_mem hky)
      have heq := equalIn_ids 25 Try.underlying25 ys[k] ys[k] hxt hxt
      rw [decide_eq_true rfl] at heq
      have q1 : (0 : Int) ≤ (k : Int) := by omega
      have q2 : (k : Int) < (n : Int) := by omega
      have q3 : IntKind.i64.wrap (k : Int) = (k : Int) := by rw [IntKind.wrap_i64]; omega
      have HRX : Hid (∀ wq, Grew w wq → ∀ w', (∃ p : GrownBy, w' = grow (wq.drewN p.n) p.os) → w'.rangeAt S (k * 20) (enc ys[k])) := fun wq hq => range_grown hS hS1 hq.below hky
      have HHX : Hid (∀ wq, Grew w wq → ∀ n os, (grow (wq.drewN n) os).cell? ⟨H, k, none⟩ = some (.int .u64 (pre ys[k] 8 : Nat))) := fun wq hq n os => by
        have h1 := (hH.of_block (hq.below.block H hH.lt)).cell (Nat.lt_of_lt_of_le hkn hnh)
        rw [hgv k hky] at h1
        exact cell_grown (Nat.lt_of_lt_of_le hH.lt hq.below.size) h1 n os
      clear hgv
      generalize ys[k] = x at *
      go_wp2
      refine wp_region_quiet_grown hmix (by kernel_rfl) ?_
      repeat (first | ((with_reducible refine quiet_load_mid ?_ 26 (.tmp 41) ?_ M (k * 20) ?_ (enc x) _ hM2.out Try.underlying26 ?_ (sz26 _) ?_); (focus go_simp); rfl; rfl; rfl) | ((with_reducible refine quiet_load_mid ?_ 25 (.tmp 45) ?_ S (k * 20) ?_ (enc x) _ hS2.out Try.underlying25 ?_ (sz25 _) ?_); (focus go_simp); rfl; rfl; rfl) | quiet_step (fail))
      refine wpQuiet_nil ?_
      intro _ hw'
      obtain ⟨⟨nq, osq⟩, hw''⟩ := hw'
      subst hw''
      have hgq : Grew w (grow (wr.drewN nq) osq) := hg.trans ⟨_, _, rfl⟩
      clear hM2 hS2 heq hg
      generalize grow (wr.drewN nq) osq = wq at *
      have hS3 : Hid (∀ w', (∃ p : GrownBy, w' = grow (wq.drewN p.n) p.os) → w'.rangeAt S (k * 20) (enc x)) := HRX.out wq hgq
      have hH3 : ∀ n os, (grow (wq.drewN n) os).cell? ⟨H, k, none⟩ = some (.int .u64 (pre x 8 : Nat)) := HHX.out wq hgq
      have hcall : Hid (∀ n os, Calls Try.prog 22 #[.agg (enc x).toArray] (grow (wq.drewN n) os) fun e w' => e = .returned (.int .u64 (pre x 8 : Nat)) ∧ ∃ q os', w' = grow ((grow (wq.drewN n) os).drewN q) os') := fun n os => zzHead_grew x hxt _
      clear HRX HHX
      generalize pre x 8 = p at *
      go_wp2
      refine wp_region_quiet_grown hmix (by kernel_rfl) ?_
      repeat (first | ((with_reducible refine quiet_load_mid ?_ 25 (.tmp 54) ?_ S (k * 20) ?_ (enc x) _ hS3.out Try.underlying25 ?_ (sz25 _) ?_); (focus go_simp); rfl; rfl; rfl) | quiet_step ((go_at_call 22; refine Calls.grown_of (hcall.out _ _))))
      refine wpQuiet_nil ?_
      intro _ hw'
      obtain ⟨⟨nq2, osq2⟩, hw''⟩ := hw'
      subst hw''
      have hgr : Grew w (grow (wq.drewN nq2) osq2) := hgq.trans ⟨_, _, rfl⟩
      clear hS3 hH3 hcall hgq
      generalize grow (wq.drewN nq2) osq2 = wz at *
      go_wp2
      go_roundw
      case rel => exact ⟨k + 1, by omega, by go_num, hgr⟩
      case measure => simp [intOf]; omega
    · obtain rfl : k = n := by omega
      have hRr : wr.heap[R]? = some (.cells #[.slice (some ⟨M, 0, none⟩) k cm, .slice (some ⟨H, 0, none⟩) k ch, .slice (some ⟨I, 0, none⟩) (m + 1) (m + 1), .int .u64 (sh : Nat)] 46 (0, 0)) := (hg.below.block R hRs).trans hR
      have hmk := make53 m hm
      have hsub : (64 : Int) - (bl : Int) = (sh : Int) := by omega
      have HSH : Hid (sh + bl = 64) := hsh
      clear hsh
      have hbd : decide ((0 : Int) < (bl : Int)) = true := by simp; omega
      have hbd2 : decide (0 < bl) = true := by simp; omega
      have hbd3 : 0 < bl := by omega
      go_wp2_with (first | (go_at_call 23; refine (hlen _).mono ?_; rintro e w' ⟨rfl, rfl⟩) | (go_at_call 24; refine (get3 _ _ _ _ _ _ hRr).mono ?_; rintro e w' ⟨rfl, rfl⟩))
      have hC := Cn.start hg m (ys.map (pre · 8)) sh
      have HPOW : Hid (wrap64 ((2 : Int) ^ bl) = (m : Int)) := hpow
      clear hmk hlen hRr hR hM hM1 hpow
      obtain ⟨C, hCe⟩ : ∃ C, C = wr.heap.size := ⟨_, rfl⟩
      rw [← hCe] at hC
      rw [← hCe]
      clear hCe
      go_loopw [13] (fun i wq => ∃ j : Nat, j ≤ k ∧ i = .int .i64 j ∧ Cn w C m (ys.map (pre · 8)) sh j wq) (fun i _ => k - (intOf i).toNat)
      case atStart => exact ⟨0, by omega, rfl, hC⟩
      case round =>
        clear hC hg
        obtain ⟨j, hj, rfl, hC⟩ := hrel
        by_cases hjk : j < k
        · have hjy : j < ys.length := by omega
          have hjm : j < (ys.map (pre · 8)).length := by rw [List.length_map]; exact hjy
          have HLD : Hid (wr.rangeAt S (j * 20) (enc ys[j])) := by have := (hS.below hC.bel hS1).at j hjy; rwa [Nat.zero_add] at this
          have hxt := hlt _ (List.getElem_mem hjy)
          have hpl : pre ys[j] 8 < 18446744073709551616 := heads_lt ys hlt _ (List.mem_map.2 ⟨_, List.getElem_mem hjy, rfl⟩)
          have hql := slice_lt (pre ys[j] 8) bl sh hpl HSH.out
          rw [← HM2.out] at hql
          have hdv := div_form (pre ys[j] 8) sh (by have := HSH.out; omega)
          have hdv2 : ((pre ys[j] 8 : Nat) : Int) / 2 ^ sh = ((pre ys[j] 8 / 2 ^ sh : Nat) : Int) := by push_cast; rfl
          have hqe : (ys.map (pre · 8))[j] / 2 ^ sh = pre ys[j] 8 / 2 ^ sh := by rw [List.getElem_map]
          have hcl := cntOf_le ((ys.map (pre · 8)).take j) sh (pre ys[j] 8 / 2 ^ sh)
          rw [List.length_take] at hcl
          have HN : Hid (∀ w3, Grew wr w3 → Cn w C m (ys.map (pre · 8)) sh (j + 1) (w3.setCell ⟨C, pre ys[j] 8 / 2 ^ sh, none⟩ (.int .i64 ((cntOf ((ys.map (pre · 8)).take j) sh (pre ys[j] 8 / 2 ^ sh) : Nat) + 1)))) := fun w3 h3 => (hC.grew h3).step hjm hqe
          have HC : Hid (∀ w3, Grew wr w3 → w3.cell? ⟨C, pre ys[j] 8 / 2 ^ sh, none⟩ = some (.int .i64 (cntOf ((ys.map (pre · 8)).take j) sh (pre ys[j] 8 / 2 ^ sh) : Nat)) ∧ w3.frozen? ⟨C, pre ys[j] 8 / 2 ^ sh, none⟩ = false) := fun w3 h3 => ⟨(hC.grew h3).row.cell hql, (hC.grew h3).row.frozen _⟩
          have hhd := zzHead_grew ys[j] hxt
          clear hqe hgv
          generalize cntOf ((ys.map (pre · 8)).take j) sh (pre ys[j] 8 / 2 ^ sh) = cn at *
          generalize pre ys[j] 8 / 2 ^ sh = q at *
          generalize pre ys[j] 8 = p at *
          generalize ys[j] = x at *
          go_wp2_with (first | ((with_reducible refine wpList_load_mid ?_ 25 (.tmp 86) ?_ S (j * 20) ?_ (enc x) _ HLD.out Try.underlying25 ?_ (sz25 x) ?_); rfl; rfl; rfl; rfl))
          refine (hhd _).mono ?_
          rintro e w3 ⟨rfl, hg3⟩
          obtain ⟨hv, hfz⟩ := HC.out w3 hg3
          have HN2 := HN.out w3 hg3
          clear HN HC HLD hhd
          go_wp2
          go_roundw
          case rel => exact ⟨j + 1, by omega, by go_num, HN2⟩
          case measure => simp [intOf]; omega
        · obtain rfl : j = k := by omega
          have htake : (ys.map (pre · 8)).take j = ys.map (pre · 8) := List.take_of_length_le (by rw [List.length_map]; omega)
          have hrowC := hC.row
          rw [htake] at hrowC
          have hrowI := hI.of_block (hC.bel.block I hI.lt)
          have hbel := hC.bel
          have hpow := HPOW.out
          clear htake hC hS hS1 hH hI hgv
          have HB0 := below_zero (ys.map (pre · 8)) sh
          have HB1 := below_succ (ys.map (pre · 8)) sh
          have HBL := below_le (ys.map (pre · 8)) sh
          rw [List.length_map] at HBL
          generalize ys.map (pre · 8) = hs at *
          go_wp2
          go_loopw [14, 15] (fun v i wq => ∃ s b : Nat, s ≤ m + 1 ∧ i = .int .i64 s ∧ v = .int .i64 b ∧ b ≤ 65536 ∧ Hid (b = below hs sh (min s m)) ∧ wq = wr) (fun _ i _ => m + 1 - (intOf i).toNat)
          case atStart => exact ⟨0, 0, by omega, rfl, rfl, by omega, by rw [Nat.zero_min]; exact HB0.symm, rfl⟩
          case round =>
            obtain ⟨s, b, hs1, rfl, rfl, hb1, hb2, rfl⟩ := hrel
            by_cases hsm : s < m + 1
            · have cI := hrowI.cell hsm
              have hbs : below hs sh s = b := by rw [hb2.out, Nat.min_eq_left (by omega)]
              rw [hbs] at cI
              by_cases hsm2 : s < m
              · have cC := hrowC.cell hsm2
                have HN : Hid (b + cntOf hs sh s = below hs sh (min (s + 1) m)) := by show _ = _; rw [Nat.min_eq_left (by omega), HB1, hbs]
                have hle := HBL (s + 1)
                rw [HB1, hbs] at hle
                clear HB0 HB1 HBL hbs hb2
                generalize cntOf hs sh s = cn at *
                go_wp2
                go_roundw
                case rel => exact ⟨s + 1, b + cn, by omega, by go_num, by go_num, by omega, HN, True.intro⟩
                case measure => simp [intOf]; omega
              · have HN : Hid (b = below hs sh (min (s + 1) m)) := by show _ = _; rw [hb2.out]; congr 1; omega
                clear HB0 HB1 HBL hbs hb2
                go_wp2
                go_roundw
                case rel => exact ⟨s + 1, b, by omega, by go_num, rfl, by omega, HN, True.intro⟩
                case measure => simp [intOf]; omega
            · clear HB0 HB1 HBL
              go_wp2
              go_ret
              exact ⟨rfl, hbel⟩

set_option maxHeartbeats 1000000 in
set_option maxRecDepth 100000 in
theorem ringIs_noneG (R H I cm ch cw : Nat) (am as' : Option Addr) (w : World) (hR : w.heap[R]? = some (.cells #[.slice am 0 cm, .slice (some ⟨H, 0, none⟩) 0 ch, .slice (some ⟨I, 0, none⟩) 2 2, .int .u64 64] 46 (0, 0))) (hidx : w.rowIs I 21 2 (fun _ => .int .i32 0)) :
    Calls Try.prog 8 #[.pointer (some ⟨R, 0, none⟩), .slice as' 0 cw] w fun e w' => e = .returned (.bool true) ∧ RowKit.Below w.heap.size w w' := by
  have hbl : ∀ W, Calls Try.prog 23 #[.int .i64 0] W fun e w' => e = .returned (.int .i64 0) ∧ W = w' := fun W => by
    have h := zzBitLen_any 0 (by omega) W
    rw [bit0] at h
    exact h
  have hmk : ∀ W : World, (Instr.makeSlice 53 (.int .i64 1) (.int .i64 1)).run Try.prog W = .ok (.slice (some ⟨W.heap.size, 0, none⟩) 1 1) (W.alloc (.cells (madeCells #[.int .i64 0] 1) 3)) := make53 1 (by omega)
  have hIr := hidx.alloc (.cells (madeCells #[.int .i64 0] 1) 3)
  have hCr := World.rowIs_made w (.int .i64 0) 1 3
  clear hidx
  go_enter Try.func8, Try.ntmps8
  go_wp2_with (first | (go_at_call 19; refine (get0 _ _ _ _ _ _ hR).mono ?_; rintro e w' ⟨rfl, rfl⟩) | (go_at_call 20; refine (get1 _ _ _ _ _ _ hR).mono ?_; rintro e w' ⟨rfl, rfl⟩) | (go_at_call 21; refine (get2 _ _ _ _ _ _ hR).mono ?_; rintro e w' ⟨rfl, rfl⟩))
  refine wp_loop_rounds 1 ?_
  rw [rounds_succ]
  go_wp2_with (first | (go_at_call 23; refine (hbl _).mono ?_; rintro e w' ⟨rfl, rfl⟩) | (go_at_call 24; refine (get3 _ _ _ _ _ _ hR).mono ?_; rintro e w' ⟨rfl, rfl⟩))
  go_loop [14, 15] (fun v i => ∃ s : Nat, s ≤ 2 ∧ i = .int .i64 s ∧ v = .int .i64 0) (fun _ i => 2 - (intOf i).toNat)
  case atStart => exact ⟨0, by omega, rfl, rfl⟩
  case round =>
    obtain ⟨s, hs, rfl, rfl⟩ := hrel
    have h3 : s = 0 ∨ s = 1 ∨ s = 2 := by omega
    rcases h3 with rfl | rfl | rfl
    · have cI := hIr.cell (i := 0) (by omega)
      have cC := hCr.cell (i := 0) (by omega)
      go_wp2
      go_round
      case rel => exact ⟨1, by omega, rfl, rfl⟩
      case measure => simp [intOf]
    · have cI := hIr.cell (i := 1) (by omega)
      go_wp2
      go_round
      case rel => exact ⟨2, by omega, rfl, rfl⟩
      case measure => simp [intOf]
    · go_wp2
      go_ret
      exact ⟨rfl, (Below.refl _ _).alloc (Nat.le_refl _) _⟩

/-- zzRingIs answers true at a ring of the sorted list -/
theorem ringIs_G (B R H I S cm ch nh cw : Nat) (am : Option Addr) (ys : List Nat) (w : World) (hn : ys.length ≤ 65536) (hlt : ∀ y ∈ ys, y < top) (hr : RG B ys R H I am cm ch nh w) (as' : Option Addr) (hS : 0 < ys.length → as' = some ⟨S, 0, none⟩ ∧ Row w S 0 ys ∧ S < w.heap.size) :
    Calls Try.prog 8 #[.pointer (some ⟨R, 0, none⟩), .slice as' ys.length cw] w fun e w' => e = .returned (.bool true) ∧ RowKit.Below w.heap.size w w' := by
  by_cases hp : 0 < ys.length
  · obtain ⟨rfl, hS0, hS1⟩ := hS hp
    obtain ⟨M, rfl, _, _, hM, hth⟩ := hr.mem hp
    obtain ⟨g, hg, hgv⟩ := hr.heads hp
    have hb := bitLen_small ys.length hn
    have hpw := pow_small _ hb
    exact ringIs_coreG ys.length R M H I S cm ch nh cw (Lib.bitLen ys.length) (2 ^ Lib.bitLen ys.length) (64 - Lib.bitLen ys.length) g ys w hp hn rfl hlt (bitLen_pos _ hp hn) hb (by omega) hpw.1 hpw.2 (wrap_pow _ hb) rfl (zzBitLen_any _ hn)
      hr.ring hM (there_lt hth (by omega)) hr.hnh hg hgv hr.idx hS0 hS1
  · obtain rfl : ys = [] := List.length_eq_zero_iff.1 (by omega)
    have e : 2 ^ Lib.bitLen ([] : List Nat).length + 1 = 2 := by rw [List.length_nil, bit0]
    refine ringIs_noneG R H I cm ch cw am as' w ?_ ?_
    · have := hr.ring
      simpa [bit0] using this
    · have := hr.idx
      rw [e] at this
      exact this.congr fun i _ => rfl
end Go.Proofs.Qxb6626435a
