import Derived.Test.Qxb6626435aSearch
namespace Go.Proofs.Qxb6626435a
open Go.RowKit Go.Sort
set_option linter.unusedVariables false

/-- what 'search' answers: found at i, or in no place -/
def Fnd (ys : List Nat) (x i : Nat) (bb : Bool) : Prop := (bb = true → ∃ h : i < ys.length, ys[i] = x) ∧ (bb = false → x ∉ ys)
theorem fnd_no (ys : List Nat) (x i : Nat) (h1 : ∀ t (ht : t < ys.length), t < i → ys[t] < x) (h2 : ∀ t (ht : t < ys.length), i ≤ t → x < ys[t]) : Fnd ys x i false := by
  constructor
  · intro h
    exact absurd h (by decide)
  · intro _ hm
    obtain ⟨t, ht, e⟩ := List.getElem_of_mem hm
    by_cases h : t < i
    · have := h1 t ht h; omega
    · have := h2 t ht (by omega); omega
theorem lo_ys (ys hs : List Nat) (x p i : Nat) (hP : ys.map (pre · 8) = hs) (hp : pre x 8 = p) (h : Lo hs p i) : Lo ys x i := by
  subst hP; subst hp
  intro t ht h2
  have := h t (by rw [List.length_map]; exact ht) h2
  rw [List.getElem_map] at this
  exact below_of_pre _ _ this
theorem fnd_up (ys hs : List Nat) (x p i : Nat) (hP : ys.map (pre · 8) = hs) (hp : pre x 8 = p) (hsr : hs.Pairwise (· ≤ ·)) (h1 : Lo ys x i) (h2 : Up hs p i) (h3 : ∀ (h : i < hs.length), hs[i] ≠ p) : Fnd ys x i false := by
  refine fnd_no ys x i h1 fun t ht hit => ?_
  subst hP; subst hp
  have hl : i < (ys.map (pre · 8)).length := by rw [List.length_map]; omega
  have e1 := h2 i hl (Nat.le_refl _)
  have e2 := h3 hl
  rw [List.getElem_map] at e1 e2
  have hle : pre ys[i] 8 ≤ pre ys[t] 8 := by
    by_cases e : i = t
    · subst e; exact Nat.le_refl _
    · have := List.pairwise_iff_getElem.1 hsr i t hl (by rw [List.length_map]; exact ht) (by omega)
      rwa [List.getElem_map, List.getElem_map] at this
  exact below_of_pre _ _ (by omega)
theorem fnd_gt (ys : List Nat) (x i : Nat) (hs : ys.Pairwise (· ≤ ·)) (h1 : Lo ys x i) (hi : i < ys.length) (h : x < ys[i]) : Fnd ys x i false := by
  refine fnd_no ys x i h1 fun t ht hit => ?_
  by_cases e : i = t
  · subst e; exact h
  · have := List.pairwise_iff_getElem.1 hs i t hi ht (by omega)
    omega
theorem fnd_eq (ys : List Nat) (x i : Nat) (hi : i < ys.length) (h : ys[i] = x) : Fnd ys x i true :=
  ⟨fun _ => ⟨hi, h⟩, fun h => absurd h (by decide)⟩
theorem box_grown {w wr : World} (x : Nat) (h : Grew (w.alloc (.cells (enc x).toArray 26)) wr) : ∀ w', (∃ p : GrownBy, w' = grow (wr.drewN p.n) p.os) → w'.rangeAt w.heap.size 0 (enc x) := by
  rintro w' ⟨p, rfl⟩
  have h2 : Grew (w.alloc (.cells (enc x).toArray 26)) (grow (wr.drewN p.n) p.os) := h.trans ⟨_, _, rfl⟩
  intro j v hv
  rw [World.cell?_of_block (w := w.alloc (.cells (enc x).toArray 26)) (h2.below.block w.heap.size (by simp))]
  exact range_new x w 26 j v hv

theorem cf_lt (x y : Nat) (hx : x < top) (hy : y < top) (h : x < y) : cf x y = -1 := by
  unfold cf sgn; rw [Nat.mod_eq_of_lt hx, Nat.mod_eq_of_lt hy, if_pos (by omega)]
theorem cf_gt (x y : Nat) (hx : x < top) (hy : y < top) (h : y < x) : cf x y = 1 := by
  unfold cf sgn; rw [Nat.mod_eq_of_lt hx, Nat.mod_eq_of_lt hy, if_neg (by omega), if_pos (by omega)]
theorem cf_eq (x : Nat) : cf x x = 0 := by
  unfold cf sgn; rw [if_neg (by omega), if_neg (by omega)]

set_option maxHeartbeats 2000000 in
set_option maxRecDepth 100000 in
theorem search_core (x n R H I cm ch m sh : Nat) (am : Option Addr) (ys : List Nat) (w : World) (hx : x < top) (hn : n ≤ 65536) (hyl : ys.length = n) (hlt : ∀ y ∈ ys, y < top) (hys : ys.Pairwise (· ≤ ·))
    (hle : sh ≤ 64) (hm : m ≤ 131072) (s0 : Nat) (hse : pre x 8 / 2 ^ sh = s0) (hs0 : s0 < m) (hch : n ≤ ch)
    (hR : w.heap[R]? = some (.cells #[.slice am n cm, .slice (some ⟨H, 0, none⟩) n ch, .slice (some ⟨I, 0, none⟩) (m + 1) (m + 1), .int .u64 (sh : Nat)] 46 (0, 0)))
    (hM : 0 < n → ∃ M, am = some ⟨M, 0, none⟩ ∧ Row w M 0 ys ∧ M < w.heap.size) (hH : ∀ i (hi : i < ys.length), w.cell? ⟨H, i, none⟩ = some (.int .u64 (pre ys[i] 8 : Nat))) (hI : w.rowIs I 21 (m + 1) (fun t => .int .i32 (below (ys.map (pre · 8)) sh t : Nat))) :
    Calls Try.prog 25 #[.pointer (some ⟨R, 0, none⟩), .agg (enc x).toArray] w fun e w' => ∃ (i : Nat) (bb : Bool), e = .returned (.tuple #[.int .i64 i, .bool bb]) ∧ Grew w w' ∧ Fnd ys x i bb ∧ i ≤ n := by
  have hmix := mixed
  have HSE : Hid (pre x 8 / 2 ^ sh = s0) := hse
  have HYS : Hid (ys.Pairwise (· ≤ ·)) := hys
  have hRs : R < w.heap.size := (Array.getElem?_eq_some_iff.1 hR).1
  have hsr := heads_sorted ys hys
  have hi1 := below_mono (ys.map (pre · 8)) sh s0 hsr
  have hi2 := below_le (ys.map (pre · 8)) sh (s0 + 1)
  rw [List.length_map] at hi2
  have HLO : Hid (Lo (ys.map (pre · 8)) (pre x 8) (below (ys.map (pre · 8)) sh s0)) := by show Lo _ _ _; rw [← hse]; exact lo_below _ _ _ hsr
  have HUP : Hid (Up (ys.map (pre · 8)) (pre x 8) (below (ys.map (pre · 8)) sh (s0 + 1))) := by show Up _ _ _; rw [← hse]; exact up_below _ _ _ hsr
  have hdv := div_form (pre x 8) sh hle
  have hdv2 : ((pre x 8 : Nat) : Int) / 2 ^ sh = ((pre x 8 / 2 ^ sh : Nat) : Int) := by push_cast; rfl
  rw [hse] at hdv hdv2
  have hhead := head_any x hx
  clear hse hys
  go_enter Try.func25, Try.ntmps25
  go_wp2_with (first | ((with_reducible refine wpList_load_mid ?_ 26 (.tmp 3) ?_ w.heap.size 0 ?_ (enc x) _ (range_new x w 26) Try.underlying26 ?_ (sz26 x) ?_); rfl; rfl; rfl; rfl))
  refine (hhead _).mono ?_
  rintro e w1 ⟨rfl, hg1⟩
  have hgB : Grew (w.alloc (.cells (enc x).toArray 26)) w1 := hg1
  have hg : Grew w w1 := ((Grew.refl w).alloc _).trans hg1
  clear hg1 hhead
  have hR1 := (hg.below.block R hRs).trans hR
  have c0 : w1.cell? ⟨R, 0, none⟩ = some (.slice am n cm) := by rw [cell_of_row _ _ _ _ _ _ hR1]; rfl
  have c1 : w1.cell? ⟨R, 1, none⟩ = some (.slice (some ⟨H, 0, none⟩) n ch) := by rw [cell_of_row _ _ _ _ _ _ hR1]; rfl
  have c2 : w1.cell? ⟨R, 2, none⟩ = some (.slice (some ⟨I, 0, none⟩) (m + 1) (m + 1)) := by rw [cell_of_row _ _ _ _ _ _ hR1]; rfl
  have c3 : w1.cell? ⟨R, 3, none⟩ = some (.int .u64 (sh : Nat)) := by rw [cell_of_row _ _ _ _ _ _ hR1]; rfl
  have hI1 := hI.of_block (hg.below.block I hI.lt)
  have ci := hI1.cell (i := s0) (by omega)
  have cj := hI1.cell (i := s0 + 1) (by omega)
  clear hI hI1 hR1
  generalize HP : ys.map (pre · 8) = hs at *
  generalize HI0 : below hs sh s0 = i0 at *
  generalize HI1 : below hs sh (s0 + 1) = hi at *
  clear HI0 HI1
  have ws : IntKind.u64.wrap ((s0 : Int) + 1) = (s0 : Int) + 1 := by rw [IntKind.wrap_u64]; omega
  have v1 : IntKind.i64.wrap (i0 : Int) = (i0 : Int) := by rw [IntKind.wrap_i64]; omega
  have v2 : IntKind.i64.wrap (hi : Int) = (hi : Int) := by rw [IntKind.wrap_i64]; omega
  have v3 : IntKind.i64.wrap ((hi : Int) - (i0 : Int)) = (hi : Int) - (i0 : Int) := by rw [IntKind.wrap_i64]; omega
  have b1 : (0 : Int) ≤ (s0 : Int) := by omega
  have b2 : (s0 : Int) < (m : Int) + 1 := by omega
  have b3 : (0 : Int) ≤ (s0 : Int) + 1 := by omega
  have b4 : (s0 : Int) + 1 < (m : Int) + 1 := by omega
  go_wp2
  go_quiet (fail)
  obtain ⟨wz, hwz⟩ : ∃ wz, wz = w1.drewN nq := ⟨_, rfl⟩
  have hgz : Grew w wz := by rw [hwz]; exact hg.drewN nq
  have hgBz : Grew (w.alloc (.cells (enc x).toArray 26)) wz := by rw [hwz]; exact hgB.drewN nq
  have HRz : Hid (wz.heap[R]? = some (.cells #[.slice am n cm, .slice (some ⟨H, 0, none⟩) n ch, .slice (some ⟨I, 0, none⟩) (m + 1) (m + 1), .int .u64 (sh : Nat)] 46 (0, 0))) := (hgz.below.block R hRs).trans hR
  rw [← hwz]
  clear hwz hg hgB c0 c1 c2 c3 ci cj hdv hdv2 ws b1 b2 b3 b4
  have c1 : wz.cell? ⟨R, 1, none⟩ = some (.slice (some ⟨H, 0, none⟩) n ch) := by rw [cell_of_row _ _ _ _ _ _ HRz.out]; rfl
  have hHl : ∀ (wq : World), Grew w wq → ∀ i (hi : i < hs.length), wq.cell? ⟨H, i, none⟩ = some (.int .u64 (hs[i] : Nat)) := fun wq hq i hi => by
    subst HP
    rw [List.length_map] at hi
    have h1 := hH i hi
    rw [World.cell?_of_block (w := w) (hq.below.block H (World.block_lt_of_cell? w _ h1)), h1, List.getElem_map]
  have HHL : Hid (∀ (wq : World), Grew w wq → ∀ i (hi : i < hs.length), wq.cell? ⟨H, i, none⟩ = some (.int .u64 (hs[i] : Nat))) := hHl
  have hhl : hs.length = n := by rw [← HP, List.length_map, hyl]
  have HSR : Hid (hs.Pairwise (· ≤ ·)) := hsr
  have HPP : Hid (ys.map (pre · 8) = hs) := HP
  clear hHl hH HP hsr
  by_cases h8 : i0 + 8 < hi
  case' pos =>
    have hnc : ¬ ch = i0 := by omega
    have hbs := bsearch H i0 (hi - i0) (ch - i0) (pre x 8) ((hs.drop i0).take (hi - i0)) wz (by rw [List.length_take, List.length_drop]; omega) (by omega) ((HSR.out.drop).take) (fun t ht => by
      rw [List.length_take, List.length_drop] at ht
      rw [HHL.out wz hgz (i0 + t) (by omega), List.getElem_take, List.getElem_drop])
    have HSEG : Hid (∀ j, j ≤ hi - i0 → Lo ((hs.drop i0).take (hi - i0)) (pre x 8) j → Lo hs (pre x 8) (i0 + j)) := fun j hj hL => lo_seg hs _ i0 hi j HLO.out hL hj
    generalize HPX0 : pre x 8 = p at *
    have HPX : Hid (pre x 8 = p) := HPX0
    clear HPX0
    go_wp2_with (go_at_call 35; refine hbs.mono ?_; rintro e w' ⟨j, bb, rfl, hj, hLj, rfl⟩)
    obtain ⟨i1, hi1e⟩ : ∃ i1, i1 = i0 + j := ⟨_, rfl⟩
    have hi1b : i1 ≤ hi := by omega
    have HLO1 : Hid (Lo hs p i1) := by show Lo _ _ _; rw [hi1e]; exact HSEG.out j hj hLj
    have hi1n : (i0 : Int) + (j : Int) = (i1 : Int) := by omega
    rw [hi1n]
    clear hLj hbs hi1e hi1n HSEG
  case' neg =>
    generalize HPX0 : pre x 8 = p at *
    have HPX : Hid (pre x 8 = p) := HPX0
    clear HPX0
    have d8 : decide ((8 : Int) < (hi : Int) - (i0 : Int)) = false := by simp; omega
    clear h8
    go_wp2
    clear d8
    obtain ⟨i1, hi1e⟩ : ∃ i1, i1 = i0 := ⟨_, rfl⟩
    have hi1b : i1 ≤ hi := by omega
    have HLO1 : Hid (Lo hs p i1) := by show Lo _ _ _; rw [hi1e]; exact HLO.out
    rw [← hi1e]
    clear hi1e
  all_goals
    clear HLO v1 v2 v3
    go_loopw [8] (fun v wr => ∃ i : Nat, i ≤ hi ∧ v = .int .i64 i ∧ wr = wz ∧ Hid (Lo hs p i)) (fun v _ => hi - (intOf v).toNat)
    case atStart => exact ⟨i1, hi1b, rfl, rfl, HLO1⟩
    case round =>
      clear HLO1 hi1b
      obtain ⟨i, hii, rfl, rfl, hLo⟩ := hrel
      have h3 : (i < hi ∧ ∃ h : i < hs.length, hs[i] < p) ∨ (i < hi ∧ ∃ h : i < hs.length, p ≤ hs[i]) ∨ i = hi := by
        by_cases hih : i < hi
        · have hil : i < hs.length := by omega
          by_cases hlp : hs[i] < p
          · exact Or.inl ⟨hih, hil, hlp⟩
          · exact Or.inr (Or.inl ⟨hih, hil, by omega⟩)
        · exact Or.inr (Or.inr (by omega))
      rcases h3 with ⟨hih, hil, hlp⟩ | ⟨hih, hil, hlp⟩ | hih
      case inl =>
        have hcl := HHL.out wr hgz i hil
        have HN : Hid (Lo hs p (i + 1)) := Lo.up HSR.out i hil hlp
        generalize hs[i] = y at *
        go_wp2
        go_roundw
        case rel => exact ⟨i + 1, by omega, by go_num, True.intro, HN⟩
        case measure => simp [intOf]; omega
      case' inr.inl =>
        have hcl := HHL.out wr hgz i hil
        have HU : Hid (Up hs p i) := up_here hs p i HSR.out hil hlp
        generalize hs[i] = y at *
        have dlp : decide (y < p) = false := by simp; omega
        have dlp2 : decide ((y : Int) < (p : Int)) = false := by simp; omega
        clear hlp
        go_wp2
        clear dlp dlp2
      case' inr.inr =>
        have HU : Hid (Up hs p i) := by rw [hih]; exact HUP
        have hnl : ¬ ((i : Int) < (hi : Int)) := by omega
        clear hih
        go_wp2
      all_goals
        have HLY : Hid (Lo ys x i) := lo_ys ys hs x p i HPP.out HPX.out hLo.out
        have hin0 : i ≤ n := by omega
        clear hLo c1 hii
        try clear hih
        try clear hlp
        try clear hcl
        try clear hnl
        try clear h8
        go_loopw [8] (fun v wq => ∃ k : Nat, k ≤ n ∧ v = .int .i64 k ∧ Grew w wq ∧ Grew (w.alloc (.cells (enc x).toArray 26)) wq ∧ Hid (Lo ys x k) ∧ Hid (Up hs p k)) (fun v _ => n - (intOf v).toNat)
        case atStart => exact ⟨i, hin0, rfl, hgz, hgBz, HLY, HU⟩
        case round =>
          clear HLY HU hgz hgBz HRz
          obtain ⟨k, hk, rfl, hg, hgB, hLk, hUk⟩ := hrel
          have hRr := (hg.below.block R hRs).trans hR
          have c0 : wr.cell? ⟨R, 0, none⟩ = some (.slice am n cm) := by rw [cell_of_row _ _ _ _ _ _ hRr]; rfl
          have c1 : wr.cell? ⟨R, 1, none⟩ = some (.slice (some ⟨H, 0, none⟩) n ch) := by rw [cell_of_row _ _ _ _ _ _ hRr]; rfl
          have hRsr : R < wr.heap.size := Nat.lt_of_lt_of_le hRs hg.below.size
          have c0g : ∀ q os, (grow (wr.drewN q) os).cell? ⟨R, 0, none⟩ = some (.slice am n cm) := fun q os => cell_grown hRsr c0 q os
          clear hRr
          by_cases hkn : k < n
          · have hkl : k < hs.length := by omega
            have hky : k < ys.length := by omega
            have hcl := HHL.out wr hg k hkl
            by_cases hyp : hs[k] = p
            · rw [hyp] at hcl
              obtain ⟨M, rfl, hrow, hMs⟩ := hM (by omega)
              have hyt : ys[k] < top := hlt _ (List.getElem_mem hky)
              have HML : Hid (∀ w', (∃ p : GrownBy, w' = grow (wr.drewN p.n) p.os) → w'.rangeAt M (k * 20) (enc ys[k])) := range_grown hrow hMs hg.below hky
              have HBX : Hid (∀ w', (∃ p : GrownBy, w' = grow (wr.drewN p.n) p.os) → w'.rangeAt w.heap.size 0 (enc x)) := box_grown x hgB
              have hcmp : Hid (∀ q os, Calls Try.prog 16 #[.agg (enc ys[k]).toArray, .agg (enc x).toArray] (grow (wr.drewN q) os) fun e w' => e = .returned (.int .i64 (cf ys[k] x)) ∧ ∃ q' os', w' = grow ((grow (wr.drewN q) os).drewN q') os') := fun q os => compare_any _ _ _
              have q1 : (0 : Int) ≤ (k : Int) := by omega
              have q2 : (k : Int) < (n : Int) := by omega
              have q3 : IntKind.i64.wrap (k : Int) = (k : Int) := by rw [IntKind.wrap_i64]; omega
              rcases Nat.lt_trichotomy ys[k] x with hlt3 | heq3 | hgt3
              · rw [cf_lt _ _ hyt hx hlt3] at hcmp
                have HLN : Hid (Lo ys x (k + 1)) := Lo.up HYS.out k hky hlt3
                have HUN : Hid (Up hs p (k + 1)) := fun t ht h => hUk.out t ht (by omega)
                generalize ys[k] = y at *
                go_wp2
                refine wp_region_quiet_grown hmix (by kernel_rfl) ?_
                repeat (first | ((with_reducible refine quiet_load_mid ?_ 26 (.tmp 95) ?_ M (k * 20) ?_ (enc y) _ HML.out Try.underlying26 ?_ (sz26 _) ?_); (focus go_simp); rfl; rfl; rfl) | ((with_reducible refine quiet_load_mid ?_ 26 (.tmp 3) ?_ w.heap.size 0 ?_ (enc x) _ HBX.out Try.underlying26 ?_ (sz26 _) ?_); (focus go_simp); rfl; rfl; rfl) | quiet_step ((go_at_call 16; refine Calls.grown_of (hcmp.out _ _))))
                refine wpQuiet_nil ?_
                intro _ hw'
                obtain ⟨⟨nq2, osq2⟩, hw''⟩ := hw'
                subst hw''
                have hgr : Grew w (grow (wr.drewN nq2) osq2) := hg.trans ⟨_, _, rfl⟩
                have hgrB : Grew (w.alloc (.cells (enc x).toArray 26)) (grow (wr.drewN nq2) osq2) := hgB.trans ⟨_, _, rfl⟩
                clear HML HBX hcmp c0g hg hgB
                generalize grow (wr.drewN nq2) osq2 = wk at *
                go_wp2
                go_roundw
                case rel => exact ⟨k + 1, by omega, by go_num, hgr, hgrB, HLN, HUN⟩
                case measure => simp [intOf]; omega
              · rw [show cf ys[k] x = 0 from by rw [heq3]; exact cf_eq x] at hcmp
                have HF : Hid (Fnd ys x k true) := fnd_eq ys x k hky heq3
                clear heq3
                generalize ys[k] = y at *
                go_wp2
                refine wp_region_quiet_grown hmix (by kernel_rfl) ?_
                repeat (first | ((with_reducible refine quiet_load_mid ?_ 26 (.tmp 95) ?_ M (k * 20) ?_ (enc y) _ HML.out Try.underlying26 ?_ (sz26 _) ?_); (focus go_simp); rfl; rfl; rfl) | ((with_reducible refine quiet_load_mid ?_ 26 (.tmp 3) ?_ w.heap.size 0 ?_ (enc x) _ HBX.out Try.underlying26 ?_ (sz26 _) ?_); (focus go_simp); rfl; rfl; rfl) | quiet_step ((go_at_call 16; refine Calls.grown_of (hcmp.out _ _))))
                refine wpQuiet_nil ?_
                intro _ hw'
                obtain ⟨⟨nq2, osq2⟩, hw''⟩ := hw'
                subst hw''
                have hgr : Grew w (grow (wr.drewN nq2) osq2) := hg.trans ⟨_, _, rfl⟩
                have hgrB : Grew (w.alloc (.cells (enc x).toArray 26)) (grow (wr.drewN nq2) osq2) := hgB.trans ⟨_, _, rfl⟩
                clear HML HBX hcmp c0g hg hgB
                generalize grow (wr.drewN nq2) osq2 = wk at *
                go_wp2
                go_ret2
                exact ⟨k, true, rfl, hgr, HF.out, hk⟩
              · rw [cf_gt _ _ hyt hx hgt3] at hcmp
                have HF : Hid (Fnd ys x k false) := fnd_gt ys x k HYS.out hLk.out hky hgt3
                generalize ys[k] = y at *
                go_wp2
                refine wp_region_quiet_grown hmix (by kernel_rfl) ?_
                repeat (first | ((with_reducible refine quiet_load_mid ?_ 26 (.tmp 95) ?_ M (k * 20) ?_ (enc y) _ HML.out Try.underlying26 ?_ (sz26 _) ?_); (focus go_simp); rfl; rfl; rfl) | ((with_reducible refine quiet_load_mid ?_ 26 (.tmp 3) ?_ w.heap.size 0 ?_ (enc x) _ HBX.out Try.underlying26 ?_ (sz26 _) ?_); (focus go_simp); rfl; rfl; rfl) | quiet_step ((go_at_call 16; refine Calls.grown_of (hcmp.out _ _))))
                refine wpQuiet_nil ?_
                intro _ hw'
                obtain ⟨⟨nq2, osq2⟩, hw''⟩ := hw'
                subst hw''
                have hgr : Grew w (grow (wr.drewN nq2) osq2) := hg.trans ⟨_, _, rfl⟩
                have hgrB : Grew (w.alloc (.cells (enc x).toArray 26)) (grow (wr.drewN nq2) osq2) := hgB.trans ⟨_, _, rfl⟩
                clear HML HBX hcmp c0g hg hgB
                generalize grow (wr.drewN nq2) osq2 = wk at *
                go_wp2
                go_ret2
                exact ⟨k, false, rfl, hgr, HF.out, hk⟩
            · have HF : Hid (Fnd ys x k false) := fnd_up ys hs x p k HPP.out HPX.out HSR.out hLk.out hUk.out (fun _ => hyp)
              generalize hs[k] = y at *
              go_wp2
              go_ret2
              exact ⟨k, false, rfl, hg, HF.out, hk⟩
          · have HF : Hid (Fnd ys x k false) := fnd_up ys hs x p k HPP.out HPX.out HSR.out hLk.out hUk.out (fun h => by omega)
            go_wp2
            go_ret2
            exact ⟨k, false, rfl, hg, HF.out, hk⟩
end Go.Proofs.Qxb6626435a
