import Derived.Test.Qxb6626501aFmtRv
import Derived.Test.Qxb6626501aFmtMd
import Derived.Test.Qxb6626501aFmtR
import Derived.Test.Qxb6626501aFmtV
namespace Go.Proofs.Qxb6626501aFmt
open Go.RowKit Go.Extern.Stop Go.Stop Go.Extern
set_option linter.unusedVariables false
set_option linter.unusedSimpArgs false

set_option maxHeartbeats 8000000 in
set_option maxRecDepth 100000 in
theorem law3 (F : Interp) (w : World) (hF : F.answers w.tape) (id : List UInt8) (hid : id.length = 32) (d : CapD) (v : Vals) (d2 : CapD) (v2 : Vals) (hf : Fits w d v) (hf2 : Fits w d2 v2) :
    Calls Tryf.prog 3 #[.agg (enc8 id).toArray, .agg (cellsC d v).toArray, .agg (cellsC d2 v2).toArray] w fun e w' => e = .returned (.bool true) ∧ w.Extends w' := by
  have hmix := mixedF
  obtain ⟨W0, hW0⟩ : ∃ W, W = ((w.alloc (.cells (enc8 id).toArray 22)).alloc (.cells (cellsC d v).toArray 28)).alloc (.cells (cellsC d2 v2).toArray 28) := ⟨_, rfl⟩
  have X0 : w.Extends W0 := hW0 ▸ (((World.Extends.refl w).alloc _).alloc _).alloc _
  have r22_0 : W0.rangeAt w.heap.size 0 (enc8 id) := hW0 ▸ World.rangeAt_alloc (World.rangeAt_alloc (new_range w _ _) _) _
  have r28_0 : W0.rangeAt (w.heap.size + 1) 0 (cellsC d v) := by
    have := World.rangeAt_alloc (new_range (w.alloc (.cells (enc8 id).toArray 22)) (cellsC d v) 28) (.cells (cellsC d2 v2).toArray 28)
    rw [hW0]
    simpa using this
  have r28'_0 : W0.rangeAt (w.heap.size + 2) 0 (cellsC d2 v2) := by
    have := new_range ((w.alloc (.cells (enc8 id).toArray 22)).alloc (.cells (cellsC d v).toArray 28)) (cellsC d2 v2) 28
    rw [hW0]
    simpa using this
  have hm0 := (hf.ext X0).means
  have hm0' := (hf2.ext X0).means
  have hi22 : (Tryf.prog.info? 22).map (·.size) = some (enc8 id).length := by rw [enc8_len, hid]; exact i22
  have hi28 : (Tryf.prog.info? 28).map (·.size) = some (cellsC d v).length := by rw [cellsC_len hm0]; exact i28
  have hi28' : (Tryf.prog.info? 28).map (·.size) = some (cellsC d2 v2).length := by rw [cellsC_len hm0']; exact i28
  obtain ⟨x96, x97, c98_0, c99_0, x100, x101, x102, x103, x104, x105, x106, x107⟩ := cap_cells hm0 r28_0
  clear x96 x97 x100 x101 x102 x103 x104 x105 x106 x107
  obtain ⟨x96, x97, e98_0, e99_0, x100, x101, x102, x103, x104, x105, x106, x107⟩ := cap_cells hm0' r28'_0
  clear x96 x97 x100 x101 x102 x103 x104 x105 x106 x107
  simp only [Nat.zero_add, Vals.v98, Vals.v99] at c98_0 c99_0 e98_0 e99_0
  have b5 := bytes5 id hid d v d2 v2 W0 (hf.ext X0) (hf2.ext X0)
  replace hW0 := hW0.symm
  have HM : Hid (Means W0 d v ∧ Means W0 d2 v2) := ⟨hm0, hm0'⟩
  have HFT : Hid (Fits w d v ∧ Fits w d2 v2) := ⟨hf, hf2⟩
  have bn1 := hf.docs.big
  have bn2 := hf.schemas.big
  have bn3 := hf2.docs.big
  have bn4 := hf2.schemas.big
  clear hm0 hm0' hf hf2
  go_enter Tryf.func3, Tryf.ntmps3
  go_wp2_with (first | ((with_reducible refine wpList_load_mid ?_ 22 (.tmp 3) ?_ w.heap.size 0 ?_ (enc8 id) _ r22_0 Tryf.underlying22 ?_ hi22 ?_); rfl; rfl; rfl; rfl) | ((with_reducible refine wpList_load_mid ?_ 28 (.tmp 4) ?_ (w.heap.size + 1) 0 ?_ (cellsC d v) _ r28_0 Tryf.underlying28 ?_ hi28 ?_); rfl; rfl; rfl; rfl) | ((with_reducible refine wpList_load_mid ?_ 28 (.tmp 5) ?_ (w.heap.size + 2) 0 ?_ (cellsC d2 v2) _ r28'_0 Tryf.underlying28 ?_ hi28' ?_); rfl; rfl; rfl; rfl))
  clear hW0
  refine b5.mono ?_
  rintro e W1 ⟨⟨r, rfl, hr⟩, X1⟩
  clear b5
  cases r
  case false =>
    go_wp2
    go_ret
    exact ⟨rfl, X0.trans X1⟩
  obtain ⟨⟨_, hsd, hss⟩, _, hsd2, hss2⟩ := hr rfl
  have HSH : Hid ((ShortO d.lim.docs ∧ ShortO d.lim.schemas) ∧ ShortO d2.lim.docs ∧ ShortO d2.lim.schemas) := ⟨⟨shortO_of hsd, shortO_of hss⟩, shortO_of hsd2, shortO_of hss2⟩
  clear hr hsd hss hsd2 hss2
  have c98_1 := X1.cell_of c98_0
  have c99_1 := X1.cell_of c99_0
  have e98_1 := X1.cell_of e98_0
  have e99_1 := X1.cell_of e99_0
  by_cases hb0 : 4096 < v.n98
  case pos =>
    go_wp2
    go_ret
    exact ⟨rfl, X0.trans X1⟩
  by_cases hb1 : 4096 < v.n99
  case pos =>
    go_wp2
    go_ret
    exact ⟨rfl, X0.trans X1⟩
  by_cases hb2 : 4096 < v2.n98
  case pos =>
    go_wp2
    go_ret
    exact ⟨rfl, X0.trans X1⟩
  by_cases hb3 : 4096 < v2.n99
  case pos =>
    go_wp2
    go_ret
    exact ⟨rfl, X0.trans X1⟩
  have r28_1 := range_ext X1 r28_0
  have r28'_1 := range_ext X1 r28'_0
  have hcl1 : ∀ w1, W1.Extends w1 → Calls Tryf.prog 6 #[.int .i64 0, .agg (cellsC d v).toArray] w1 fun e w'' => e = .returned (.int .i64 (capB 0 d : Nat)) ∧ W1.Extends w'' := fun w1 h1 =>
    (capBytes_exact 0 (by omega) d v w1 (HFT.out.1.ext ((X0.trans X1).trans h1))).mono fun e w'' ⟨h2, h3⟩ => ⟨h2, h1.trans h3⟩
  have hcl2 : ∀ w1, W1.Extends w1 → Calls Tryf.prog 6 #[.int .i64 (capB 0 d : Nat), .agg (cellsC d2 v2).toArray] w1 fun e w'' => e = .returned (.int .i64 (capB (capB 0 d) d2 : Nat)) ∧ W1.Extends w'' := fun w1 h1 =>
    (capBytes_exact (capB 0 d) (capB_le (by omega) d) d2 v2 w1 (HFT.out.2.ext ((X0.trans X1).trans h1))).mono fun e w'' ⟨h2, h3⟩ => ⟨h2, h1.trans h3⟩
  have hcb := capB_le (capB_le (t := 0) (by omega) d) d2
  generalize capB (capB 0 d) d2 = tt at *
  generalize capB 0 d = t0 at *
  go_wp2
  refine region_tail' (m := 4) (pre := ?preq) (C := fun w' => W1.Extends w') hmix (by kernel_rfl) (by kernel_rfl) (by kernel_rfl) (by decide) ?hpq (by kernel_rfl) (by kernel_rfl) (ext_drewN W1 1) ?_
  case hpq =>
    simp only [List.take_succ_cons, List.take_zero]
    exact rfl
  apply Exists.intro
  refine ⟨?w1, ?_⟩
  case w1 =>
    refine gq_load 28 (.tmp 4) (w.heap.size + 1) 0 (cellsC d v) _ Tryf.underlying28 rfl hi28 (fun w1 h1 => range_ext h1 r28_1) rfl rfl rfl ?_
    refine gq_call 6 _ _ hcl1 rfl ?_ ?_
    · intro w1
      simp only [Act.put, List.setIfInBounds_toArray, List.set_cons_succ, List.set_cons_zero]
      go_simp
    refine gq_load 28 (.tmp 5) (w.heap.size + 2) 0 (cellsC d2 v2) _ Tryf.underlying28 rfl hi28' (fun w1 h1 => range_ext h1 r28'_1) rfl rfl rfl ?_
    refine gq_call 6 _ _ hcl2 rfl ?_ ?_
    · intro w1
      simp only [Act.put, List.setIfInBounds_toArray, List.set_cons_succ, List.set_cons_zero]
      go_simp
    exact wpQuiet_nil rfl
  intro W2 X2
  have Z2 := X1.trans X2
  simp only [Act.put, List.setIfInBounds_toArray, List.set_cons_succ, List.set_cons_zero]
  simp only [List.drop_succ_cons, List.drop_zero]
  clear hcl1 hcl2 r28_1 r28'_1 c98_1 c99_1 e98_1 e99_1
  by_cases hlim : 1048576 < tt
  case pos =>
    go_wp2
    go_ret
    exact ⟨rfl, X0.trans Z2⟩
  have c98_2 := Z2.cell_of c98_0
  go_wp2_with fail
  refine (sorted_any _ d.lim.docs W2 (HM.out.1.ext Z2).docs HSH.out.1.1).mono ?_
  rintro e W3 ⟨⟨s1, rfl, hs1⟩, X3⟩
  have Z3 := Z2.trans X3
  cases s1
  case false =>
    go_wp2
    go_ret
    exact ⟨rfl, X0.trans Z3⟩
  have HA1 : Hid (AscO d.lim.docs) := hs1 rfl
  have c99_3 := Z3.cell_of c99_0
  clear hs1 c98_2
  go_wp2_with fail
  refine (sorted_any _ d.lim.schemas W3 (HM.out.1.ext Z3).schemas HSH.out.1.2).mono ?_
  rintro e W4 ⟨⟨s2, rfl, hs2⟩, X4⟩
  have Z4 := Z3.trans X4
  cases s2
  case false =>
    go_wp2
    go_ret
    exact ⟨rfl, X0.trans Z4⟩
  have HA2 : Hid (AscO d.lim.schemas) := hs2 rfl
  have r22_4 := range_ext Z4 r22_0
  have r28_4 := range_ext Z4 r28_0
  clear hs2 c99_3 X1 X2 X3 X4 Z2 Z3 hcb hlim hb0 hb1 hb2 hb3 bn1 bn2 bn3 bn4
  have hmS := HM.out.2
  have lis := hmS.lis
  have lsub := hmS.lsub
  have lkey := hmS.lkey
  clear hmS
  have htl : (tokC id d v).length = 143 := by unfold tokC; simp [enc8_len, hid, z3_len, cellsC_len HM.out.1]
  have hz48 : z48.size = (tokC id d v).length := by rw [htl, z48_len]
  have hi48 : (Tryf.prog.info? 48).map (·.size) = some (tokC id d v).length := by rw [htl]; exact i48
  have lC : ∀ u, (cellsC d2 u).length = 108 := fun u => lenC _ _ lis lsub lkey
  have lR : ∀ u, (cellsC (revC d2) u).length = 108 := fun u => lenC _ _ lis lsub lkey
  have hzC : (cellsC d0 v0).toArray.size = (cellsC d2 v2).length := by rw [lC, d0_len]
  have hiC : (Tryf.prog.info? 46).map (·.size) = some (cellsC d2 v2).length := by rw [lC]; exact i46
  have hzR : ∀ u, (cellsC d0 v0).toArray.size = (cellsC (revC d2) u).length := fun u => by rw [lR, d0_len]
  have hiR : ∀ u, (Tryf.prog.info? 46).map (·.size) = some (cellsC (revC d2) u).length := fun u => by rw [lR]; exact i46
  have hiR28 : ∀ u, (Tryf.prog.info? 28).map (·.size) = some (cellsC (revC d2) u).length := fun u => by rw [lR]; exact i28
  have hk98 : 98 < (cellsC d2 v2).length := by rw [lC]; decide
  have hk99 : ∀ a n k, 99 < (cellsC d2 (vDoc v2 a n k)).length := fun a n k => by rw [lC]; decide
  clear htl lC lR
  go_wp2_with (first
    | ((with_reducible refine wpList_load_mid ?_ 22 (.tmp 3) ?_ w.heap.size 0 ?_ (enc8 id) _ r22_4 Tryf.underlying22 ?_ hi22 ?_); rfl; rfl; rfl; rfl)
    | ((with_reducible refine wpList_load_mid ?_ 28 (.tmp 4) ?_ (w.heap.size + 1) 0 ?_ (cellsC d v) _ r28_4 Tryf.underlying28 ?_ hi28 ?_); rfl; rfl; rfl; rfl)
    | (go_at_call 8; with_reducible refine (token_any id hid d v W4 (HM.out.1.ext Z4)).mono ?_; rintro e W5 ⟨rfl, X5⟩; have Z5 := Z4.trans X5; clear r22_4 r28_4)
    | ((with_reducible refine var_law 48 7 (.tmp 60) z48 (tokC id d v) zero48 hz48 hi48 (tokC_one id d v) ?_ ?_ ?_ ?_ ?_ ?_ ?_ ?_); rfl; rfl; rfl; (simp [Act.put]); rfl; rfl; rfl; (intro W6 X6 S6 K6; clear S6; have Z6 := Z5.trans X6; have r28'_6 := range_ext Z6 r28'_0))
    | ((with_reducible refine wpList_load_mid ?_ 28 (.tmp 5) ?_ (w.heap.size + 2) 0 ?_ (cellsC d2 v2) _ r28'_6 Tryf.underlying28 ?_ hi28' ?_); rfl; rfl; rfl; rfl)
    | (go_at_call 9; with_reducible refine (toCap_any d2 v2 W6 (HM.out.2.ext Z6)).mono ?_; rintro e W7 ⟨rfl, X7⟩; have Z7 := Z6.trans X7; clear r28'_6)
    | ((with_reducible refine var_law 46 8 (.tmp 62) (cellsC d0 v0).toArray (cellsC d2 v2) zero46 hzC hiC (cellsC_one _ _) ?_ ?_ ?_ ?_ ?_ ?_ ?_ ?_); rfl; rfl; rfl; (simp [Act.put]); rfl; rfl; rfl; (intro W8 X8 S8 K8; clear S8; have Z8 := Z7.trans X8)))
  have okC : LimOk d.lim d2.lim := ⟨HSH.out.1.1, HSH.out.1.2, HSH.out.2.1, HSH.out.2.2, HA1.out, HA2.out⟩
  have okR : LimOk d.lim (revC d2).lim := ⟨HSH.out.1.1, HSH.out.1.2, shortO_rev HSH.out.2.1, shortO_rev HSH.out.2.2, HA1.out, HA2.out⟩
  have hF8 : F.answers W8.tape := by rw [(X0.trans Z8).tape]; exact hF
  have tk8 : TokAt W8 W5.heap.size 0 id d := tok_of_cells hid (HM.out.1.ext Z8) (K6.ext (X7.trans X8)).1
  have cp8 : CapAt W8 W7.heap.size 0 d2 := cap_of_cells (HM.out.2.ext Z8) K8.1
  have z1 := zz_any F W8 hF8 W5.heap.size 0 W7.heap.size 0 id d d2 tk8 cp8 okC
  obtain ⟨R, hR⟩ : ∃ R, R = reason id d d2 := ⟨_, rfl⟩
  rw [← hR] at z1
  obtain ⟨b, hbb⟩ : ∃ b, b = decide (¬ R.size = 0) := ⟨_, rfl⟩
  rw [← hbb] at z1
  have HR : Hid (R = reason id d d2 ∧ b = decide (¬ R.size = 0)) := ⟨hR, hbb⟩
  clear hR hbb
  refine z1.mono ?_
  rintro e W9 ⟨rfl, X9⟩
  have Z9 := Z8.trans X9
  have r28'_9 := range_ext Z9 r28'_0
  clear z1 cp8
  go_wp2_with (first
    | ((with_reducible refine wpList_load_mid ?_ 28 (.tmp 5) ?_ (w.heap.size + 2) 0 ?_ (cellsC d2 v2) _ r28'_9 Tryf.underlying28 ?_ hi28' ?_); rfl; rfl; rfl; rfl)
    | ((with_reducible refine var_law 28 11 (.tmp 67) (cellsC d0 v0).toArray (cellsC d2 v2) zero28 hzC hi28' (cellsC_one _ _) ?_ ?_ ?_ ?_ ?_ ?_ ?_ ?_); rfl; rfl; rfl; (simp [Act.put]); rfl; rfl; rfl; (intro W10 X10 S10 K10; have Z10 := Z9.trans X10; have e98_10 := Z10.cell_of e98_0; have HS10 : Hid (W10.heap.size = W9.heap.size + 1) := S10; clear S10 r28'_9))
    | (go_at_call 11; with_reducible refine (reversed_any v2.a98 v2.n98 v2.k98 d2.lim.docs W10 (HM.out.2.ext Z10).docs HSH.out.2.1).mono ?_; rintro e W11 ⟨⟨a', n', k', rfl, hrv⟩, X11⟩; have K11 := K10.ext X11; have Y11 := X10.trans X11; clear e98_10)
    | ((with_reducible refine cell_law 23 (.tmp 71) (.tmp 70) W9.heap.size 98 (cellsC d2 v2) (.slice a' n' k') W9 K11 Y11 (Nat.le_refl _) hk98 i23 rfl ?_ ?_ ?_ ?_ ?_); rfl; rfl; rfl; rfl; (intro W12 X12 S12 K12 O12; have K12' : Blk W12 W9.heap.size (cellsC d2 (vDoc v2 a' n' k')) := Eq.mp (congrArg (Blk W12 W9.heap.size) (set98r d2 v2 a' n' k' lis lsub lkey)) K12; have hrv12 := hrv.keep (by have := HS10.out; omega) O12; have HS12 : Hid (W12.heap.size = W11.heap.size ∧ W10.heap.size ≤ W11.heap.size) := ⟨S12, X11.size⟩; have Z12 := Z9.trans X12; have e99_12 := Z12.cell_of e99_0; clear S12 O12 K12))
    | (go_at_call 11; with_reducible refine (reversed_any v2.a99 v2.n99 v2.k99 d2.lim.schemas W12 (HM.out.2.ext Z12).schemas HSH.out.2.2).mono ?_; rintro e W13 ⟨⟨b', m', l', rfl, hsv⟩, X13⟩; have K13 := K12'.ext X13; have Y13 := X12.trans X13; have hrv13 := hrv12.ext X13; clear e99_12)
    | ((with_reducible refine cell_law 23 (.tmp 75) (.tmp 74) W9.heap.size 99 (cellsC d2 (vDoc v2 a' n' k')) (.slice b' m' l') W9 K13 Y13 (Nat.le_refl _) (hk99 a' n' k') i23 rfl ?_ ?_ ?_ ?_ ?_); rfl; rfl; rfl; rfl; (intro W14 X14 S14 K14 O14; have K14' : Blk W14 W9.heap.size (cellsC (revC d2) (vBoth v2 a' n' k' b' m' l')) := Eq.mp (congrArg (Blk W14 W9.heap.size) (set99r d2 v2 a' n' k' b' m' l' lis lsub lkey)) K14; have hrv14 := hrv13.keep (by have := HS10.out; omega) O14; have hsv14 := hsv.keep (by have := HS10.out; have := HS12.out; omega) O14; have Z14 := Z9.trans X14; have K14r := K14'.1; have hmR : Means W14 (revC d2) (vBoth v2 a' n' k' b' m' l') := (fun q => ⟨hrv14.strs, hsv14.strs, q.fromTs, q.toTs, q.fromSeq, q.toSeq, q.notBefore, q.expires, q.proof, q.lis, q.lsub, q.lkey⟩) (HM.out.2.ext Z14); clear S14 O14 K14))
    | ((with_reducible refine wpList_load_mid ?_ 28 (.tmp 11) ?_ W9.heap.size 0 ?_ (cellsC (revC d2) (vBoth v2 a' n' k' b' m' l')) _ K14r Tryf.underlying28 ?_ (hiR28 (vBoth v2 a' n' k' b' m' l')) ?_); rfl; rfl; rfl; rfl)
    | (go_at_call 9; with_reducible refine (toCap_any (revC d2) (vBoth v2 a' n' k' b' m' l') W14 hmR).mono ?_; rintro e W15 ⟨rfl, X15⟩; have Z15 := Z14.trans X15)
    | ((with_reducible refine var_law 46 12 (.tmp 77) (cellsC d0 v0).toArray (cellsC (revC d2) (vBoth v2 a' n' k' b' m' l')) zero46 (hzR _) (hiR _) (cellsC_one _ _) ?_ ?_ ?_ ?_ ?_ ?_ ?_ ?_); rfl; rfl; rfl; (simp [Act.put]); rfl; rfl; rfl; (intro W16 X16 S16 K16; clear S16; have Z16 := Z15.trans X16)))
  have hF16 : F.answers W16.tape := by rw [(X0.trans Z16).tape]; exact hF
  have Y16 : W8.Extends W16 := X9.trans (X14.trans (X15.trans X16))
  have cp16 : CapAt W16 W15.heap.size 0 (revC d2) := cap_of_cells (hmR.ext (X15.trans X16)) K16.1
  have z2 := zz_any F W16 hF16 W5.heap.size 0 W15.heap.size 0 id d (revC d2) (tk8.ext Y16) cp16 okR
  rw [reason_rev, ← HR.out.1, ← HR.out.2] at z2
  refine z2.mono ?_
  rintro e W17 ⟨rfl, X17⟩
  have Z17 := Z16.trans X17
  have hmd := model_any id hid d v d2 v2 W17 (HM.out.1.ext Z17) (HM.out.2.ext Z17) HSH.out.1.1 HSH.out.1.2 HSH.out.2.1 HSH.out.2.2
  rw [← HR.out.1] at hmd
  have r22_17 := range_ext Z17 r22_0
  have r28_17 := range_ext Z17 r28_0
  have r28'_17 := range_ext Z17 r28'_0
  have Y17 := X0.trans Z17
  clear z2 cp16 Y16 K16 K6 K8 K10 K11 K12' K13 K14' K14r hmR hrv hrv12 hrv13 hrv14 hsv hsv14 tk8 okC okR hzR hiR hiR28 hk99 hzC hiC hk98 hz48 hi48 Z4 Z5 Z6 Z7 Z8 Z9 Z10 Z12 Z14 Z15 Z16 X5 X6 X7 X8 X9 X10 X11 X12 X13 X14 X15 X16 X17 Y11 Y13 c98_0 c99_0 e98_0 e99_0
  have hbb := HR.out.2
  clear HR
  by_cases hz : R.size = 0
  case pos =>
    rw [decide_eq_false (by simpa using hz)] at hbb
    obtain rfl := size_zero hz
    clear hz
    subst hbb
    go_wp2_with (first | ((with_reducible refine wpList_load_mid ?_ 22 (.tmp 3) ?_ w.heap.size 0 ?_ (enc8 id) _ r22_17 Tryf.underlying22 ?_ hi22 ?_); rfl; rfl; rfl; rfl) | ((with_reducible refine wpList_load_mid ?_ 28 (.tmp 4) ?_ (w.heap.size + 1) 0 ?_ (cellsC d v) _ r28_17 Tryf.underlying28 ?_ hi28 ?_); rfl; rfl; rfl; rfl) | ((with_reducible refine wpList_load_mid ?_ 28 (.tmp 5) ?_ (w.heap.size + 2) 0 ?_ (cellsC d2 v2) _ r28'_17 Tryf.underlying28 ?_ hi28' ?_); rfl; rfl; rfl; rfl) | (go_at_call 12; refine hmd.mono ?_; rintro e W18 ⟨rfl, X18⟩))
    go_ret
    exact ⟨rfl, Y17.trans X18⟩
  case neg =>
    have hb := ne_empty hz
    rw [decide_eq_true hz] at hbb
    clear hz
    subst hbb
    go_wp2_with (first | ((with_reducible refine wpList_load_mid ?_ 22 (.tmp 3) ?_ w.heap.size 0 ?_ (enc8 id) _ r22_17 Tryf.underlying22 ?_ hi22 ?_); rfl; rfl; rfl; rfl) | ((with_reducible refine wpList_load_mid ?_ 28 (.tmp 4) ?_ (w.heap.size + 1) 0 ?_ (cellsC d v) _ r28_17 Tryf.underlying28 ?_ hi28 ?_); rfl; rfl; rfl; rfl) | ((with_reducible refine wpList_load_mid ?_ 28 (.tmp 5) ?_ (w.heap.size + 2) 0 ?_ (cellsC d2 v2) _ r28'_17 Tryf.underlying28 ?_ hi28' ?_); rfl; rfl; rfl; rfl) | (go_at_call 12; refine hmd.mono ?_; rintro e W18 ⟨rfl, X18⟩))
    go_ret
    exact ⟨rfl, Y17.trans X18⟩
end Go.Proofs.Qxb6626501aFmt
