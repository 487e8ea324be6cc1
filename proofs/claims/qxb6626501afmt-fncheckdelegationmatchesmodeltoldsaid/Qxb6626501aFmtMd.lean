import Derived.Test.Qxb6626501aFmtK
namespace Go.Proofs.Qxb6626501aFmt
open Go.RowKit Go.Extern.Stop Go.Stop Go.Extern
set_option linter.unusedVariables false

abbrev nWa3 : ByteArray := ⟨#[119, 105, 100, 101, 110, 101, 100, 58, 97, 99, 116, 105, 111, 110]⟩
theorem wa3_eq : wid ++ nAc = nWa3 := by decide
theorem size_zero3 {R : ByteArray} (hz : R.size = 0) : R = ⟨#[]⟩ := size_zero hz

set_option maxHeartbeats 4000000 in
set_option maxRecDepth 20000 in
theorem model_any (id : List UInt8) (hid : id.length = 32) (d : CapD) (v : Vals) (d2 : CapD) (v2 : Vals) (w : World) (hm : Means w d v) (hm2 : Means w d2 v2)
    (s1 : ShortO d.lim.docs) (s2 : ShortO d.lim.schemas) (s3 : ShortO d2.lim.docs) (s4 : ShortO d2.lim.schemas) :
    Calls Tryf.prog 12 #[.agg (enc8 id).toArray, .agg (cellsC d v).toArray, .agg (cellsC d2 v2).toArray] w fun e w' => e = .returned (.string (reason id d d2)) ∧ w.Extends w' := by
  have hmix := mixedF
  obtain ⟨W, hW⟩ : ∃ W, W = ((w.alloc (.cells (enc8 id).toArray 22)).alloc (.cells (cellsC d v).toArray 28)).alloc (.cells (cellsC d2 v2).toArray 28) := ⟨_, rfl⟩
  have hX : w.Extends W := hW ▸ (((World.Extends.refl w).alloc _).alloc _).alloc _
  have rid : W.rangeAt w.heap.size 0 (enc8 id) := hW ▸ World.rangeAt_alloc (World.rangeAt_alloc (new_range w _ _) _) _
  have hr : W.rangeAt (w.heap.size + 1) 0 (cellsC d v) := by
    have := World.rangeAt_alloc (new_range (w.alloc (.cells (enc8 id).toArray 22)) (cellsC d v) 28) (.cells (cellsC d2 v2).toArray 28)
    rw [hW]
    simpa using this
  have hr2 : W.rangeAt (w.heap.size + 2) 0 (cellsC d2 v2) := by
    have := new_range ((w.alloc (.cells (enc8 id).toArray 22)).alloc (.cells (cellsC d v).toArray 28)) (cellsC d2 v2) 28
    rw [hW]
    simpa using this
  obtain ⟨RR, hRR⟩ : ∃ RR, RR = reason id d d2 := ⟨_, rfl⟩
  rw [← hRR]
  unfold reason at hRR
  have HM : Hid (Means W d v ∧ Means W d2 v2) := ⟨hm.ext hX, hm2.ext hX⟩
  have hi22 : (Tryf.prog.info? 22).map (·.size) = some (enc8 id).length := by rw [enc8_len, hid]; exact i22
  have hi28 : (Tryf.prog.info? 28).map (·.size) = some (cellsC d v).length := by rw [cellsC_len hm]; exact i28
  have hi28' : (Tryf.prog.info? 28).map (·.size) = some (cellsC d2 v2).length := by rw [cellsC_len hm2]; exact i28
  obtain ⟨p96, p97, p98, p99, p100, p101, p102, p103, p104, p105, p106, p107⟩ := cap_cells HM.out.1 hr
  obtain ⟨q96, q97, q98, q99, q100, q101, q102, q103, q104, q105, q106, q107⟩ := cap_cells HM.out.2 hr2
  simp only [Nat.zero_add] at p97 p98 p99 p100 p101 p102 p103 p104 p105 q97 q98 q99 q100 q101 q102 q103 q104 q105
  clear p96 p106 p107 q96 q106 q107
  have D1 : ∀ w1, W.Extends w1 → Calls Tryf.prog 20 #[.string nNb, v.v104, v2.v104] w1 fun e w' => e = .returned (.string (lowR nNb d.lim.notBefore d2.lim.notBefore)) ∧ w1.Extends w' := fun w1 h =>
    (zzLower_any nNb (by decide) _ _ _ _ _ (HM.out.1.notBefore.ext h) (HM.out.2.notBefore.ext h)).mono fun e w' ⟨h1, q, h2⟩ => ⟨h1, h2 ▸ ext_drewN _ _⟩
  have D2 : ∀ w1, W.Extends w1 → Calls Tryf.prog 21 #[.string nEx, v.v105, v2.v105] w1 fun e w' => e = .returned (.string (uppR nEx d.lim.expires d2.lim.expires)) ∧ w1.Extends w' := fun w1 h =>
    (zzUpper_any nEx (by decide) _ _ _ _ _ (HM.out.1.expires.ext h) (HM.out.2.expires.ext h)).mono fun e w' ⟨h1, q, h2⟩ => ⟨h1, h2 ▸ ext_drewN _ _⟩
  have D3 : ∀ w1, W.Extends w1 → Calls Tryf.prog 22 #[.string nDo, v.v98, v2.v98] w1 fun e w' => e = .returned (.string (subR nDo d.lim.docs d2.lim.docs)) ∧ w1.Extends w' := fun w1 h =>
    (zzSubset_any nDo (by decide) _ _ _ _ _ (HM.out.1.docs.ext h) (HM.out.2.docs.ext h) s1 s3).mono fun e w' ⟨h1, q, h2⟩ => ⟨h1, h2 ▸ ext_drewN _ _⟩
  have D4 : ∀ w1, W.Extends w1 → Calls Tryf.prog 22 #[.string nSc, v.v99, v2.v99] w1 fun e w' => e = .returned (.string (subR nSc d.lim.schemas d2.lim.schemas)) ∧ w1.Extends w' := fun w1 h =>
    (zzSubset_any nSc (by decide) _ _ _ _ _ (HM.out.1.schemas.ext h) (HM.out.2.schemas.ext h) s2 s4).mono fun e w' ⟨h1, q, h2⟩ => ⟨h1, h2 ▸ ext_drewN _ _⟩
  have D5 : ∀ w1, W.Extends w1 → Calls Tryf.prog 20 #[.string nFt, v.v100, v2.v100] w1 fun e w' => e = .returned (.string (lowR nFt d.lim.fromTs d2.lim.fromTs)) ∧ w1.Extends w' := fun w1 h =>
    (zzLower_any nFt (by decide) _ _ _ _ _ (HM.out.1.fromTs.ext h) (HM.out.2.fromTs.ext h)).mono fun e w' ⟨h1, q, h2⟩ => ⟨h1, h2 ▸ ext_drewN _ _⟩
  have D6 : ∀ w1, W.Extends w1 → Calls Tryf.prog 21 #[.string nTt, v.v101, v2.v101] w1 fun e w' => e = .returned (.string (uppR nTt d.lim.toTs d2.lim.toTs)) ∧ w1.Extends w' := fun w1 h =>
    (zzUpper_any nTt (by decide) _ _ _ _ _ (HM.out.1.toTs.ext h) (HM.out.2.toTs.ext h)).mono fun e w' ⟨h1, q, h2⟩ => ⟨h1, h2 ▸ ext_drewN _ _⟩
  have D7 : ∀ w1, W.Extends w1 → Calls Tryf.prog 20 #[.string nFs, v.v102, v2.v102] w1 fun e w' => e = .returned (.string (lowR nFs d.lim.fromSeq d2.lim.fromSeq)) ∧ w1.Extends w' := fun w1 h =>
    (zzLower_any nFs (by decide) _ _ _ _ _ (HM.out.1.fromSeq.ext h) (HM.out.2.fromSeq.ext h)).mono fun e w' ⟨h1, q, h2⟩ => ⟨h1, h2 ▸ ext_drewN _ _⟩
  have D8 : ∀ w1, W.Extends w1 → Calls Tryf.prog 21 #[.string nTs, v.v103, v2.v103] w1 fun e w' => e = .returned (.string (uppR nTs d.lim.toSeq d2.lim.toSeq)) ∧ w1.Extends w' := fun w1 h =>
    (zzUpper_any nTs (by decide) _ _ _ _ _ (HM.out.1.toSeq.ext h) (HM.out.2.toSeq.ext h)).mono fun e w' ⟨h1, q, h2⟩ => ⟨h1, h2 ▸ ext_drewN _ _⟩
  replace hW := hW.symm
  by_cases hl : LinkedD id d d2
  case neg =>
    have hc := linked_no id hid d v d2 v2 W HM.out.1 HM.out.2 hl
    rw [if_neg hl] at hRR
    subst hRR
    clear D1 D2 D3 D4 D5 D6 D7 D8 hm hm2 hl
    go_enter Tryf.func12, Tryf.ntmps12
    go_wp2_with (first | ((with_reducible refine wpList_load_mid ?_ 22 (.tmp 3) ?_ w.heap.size 0 ?_ (enc8 id) _ rid Tryf.underlying22 ?_ hi22 ?_); rfl; rfl; rfl; rfl) | ((with_reducible refine wpList_load_mid ?_ 28 (.tmp 4) ?_ (w.heap.size + 1) 0 ?_ (cellsC d v) _ hr Tryf.underlying28 ?_ hi28 ?_); rfl; rfl; rfl; rfl) | ((with_reducible refine wpList_load_mid ?_ 28 (.tmp 5) ?_ (w.heap.size + 2) 0 ?_ (cellsC d2 v2) _ hr2 Tryf.underlying28 ?_ hi28' ?_); rfl; rfl; rfl; rfl) | (go_at_call 19; refine hc.mono ?_; rintro e W1 ⟨rfl, X1⟩))
    go_ret
    exact ⟨rfl, hX.trans X1⟩
  have hc := linked_yes id hid d v d2 v2 W HM.out.1 HM.out.2 hl
  rw [if_pos hl] at hRR
  by_cases ha : d2.lim.action = d.lim.action
  case neg =>
    rw [if_neg ha, wa3_eq] at hRR
    subst hRR
    have hb := str_ne ha
    clear D1 D2 D3 D4 D5 D6 D7 D8 hm hm2 hl
    go_enter Tryf.func12, Tryf.ntmps12
    go_wp2_with (first | ((with_reducible refine wpList_load_mid ?_ 22 (.tmp 3) ?_ w.heap.size 0 ?_ (enc8 id) _ rid Tryf.underlying22 ?_ hi22 ?_); rfl; rfl; rfl; rfl) | ((with_reducible refine wpList_load_mid ?_ 28 (.tmp 4) ?_ (w.heap.size + 1) 0 ?_ (cellsC d v) _ hr Tryf.underlying28 ?_ hi28 ?_); rfl; rfl; rfl; rfl) | ((with_reducible refine wpList_load_mid ?_ 28 (.tmp 5) ?_ (w.heap.size + 2) 0 ?_ (cellsC d2 v2) _ hr2 Tryf.underlying28 ?_ hi28' ?_); rfl; rfl; rfl; rfl) | (go_at_call 19; refine hc.mono ?_; rintro e W1 ⟨rfl, X1⟩; have p97_1 := X1.cell_of p97; have q97_1 := X1.cell_of q97))
    go_ret
    exact ⟨rfl, hX.trans X1⟩
  rw [if_pos ha] at hRR
  rw [ha] at q97
  unfold attL at hRR
  have HF : Hid (RR = firstR [lowR nNb d.lim.notBefore d2.lim.notBefore, uppR nEx d.lim.expires d2.lim.expires, subR nDo d.lim.docs d2.lim.docs, subR nSc d.lim.schemas d2.lim.schemas, lowR nFt d.lim.fromTs d2.lim.fromTs, uppR nTt d.lim.toTs d2.lim.toTs, lowR nFs d.lim.fromSeq d2.lim.fromSeq, uppR nTs d.lim.toSeq d2.lim.toSeq]) := hRR
  generalize lowR nNb d.lim.notBefore d2.lim.notBefore = R1 at D1 HF
  generalize uppR nEx d.lim.expires d2.lim.expires = R2 at D2 HF
  generalize subR nDo d.lim.docs d2.lim.docs = R3 at D3 HF
  generalize subR nSc d.lim.schemas d2.lim.schemas = R4 at D4 HF
  generalize lowR nFt d.lim.fromTs d2.lim.fromTs = R5 at D5 HF
  generalize uppR nTt d.lim.toTs d2.lim.toTs = R6 at D6 HF
  generalize lowR nFs d.lim.fromSeq d2.lim.fromSeq = R7 at D7 HF
  generalize uppR nTs d.lim.toSeq d2.lim.toSeq = R8 at D8 HF
  clear hRR hm hm2 hl ha s1 s2 s3 s4
  go_enter Tryf.func12, Tryf.ntmps12
  go_wp2_with (first | ((with_reducible refine wpList_load_mid ?_ 22 (.tmp 3) ?_ w.heap.size 0 ?_ (enc8 id) _ rid Tryf.underlying22 ?_ hi22 ?_); rfl; rfl; rfl; rfl) | ((with_reducible refine wpList_load_mid ?_ 28 (.tmp 4) ?_ (w.heap.size + 1) 0 ?_ (cellsC d v) _ hr Tryf.underlying28 ?_ hi28 ?_); rfl; rfl; rfl; rfl) | ((with_reducible refine wpList_load_mid ?_ 28 (.tmp 5) ?_ (w.heap.size + 2) 0 ?_ (cellsC d2 v2) _ hr2 Tryf.underlying28 ?_ hi28' ?_); rfl; rfl; rfl; rfl))
  refine hc.mono ?_
  rintro e W0 ⟨rfl, Y0⟩
  have p97_1 := Y0.cell_of p97
  have q97_1 := Y0.cell_of q97
  have pc1 := Y0.cell_of p104
  have qc1 := Y0.cell_of q104
  go_wp2_with fail
  refine (D1 _ Y0).mono ?_
  rintro e W1 ⟨rfl, X1⟩
  have Y1 := Y0.trans X1
  clear pc1 qc1
  have HG1 : RR = if R1.size = 0 then firstR [R2, R3, R4, R5, R6, R7, R8] else R1 := HF.out
  clear HF D1
  by_cases hz1 : R1.size = 0
  case neg =>
    rw [if_neg hz1] at HG1
    have hb := ne_empty hz1
    clear hz1
    subst HG1
    go_wp2
    go_ret
    exact ⟨rfl, hX.trans Y1⟩
  rw [if_pos hz1] at HG1
  have HF : Hid (RR = firstR [R2, R3, R4, R5, R6, R7, R8]) := HG1
  clear HG1
  obtain rfl := size_zero hz1
  clear hz1
  have pc2 := Y1.cell_of p105
  have qc2 := Y1.cell_of q105
  go_wp2_with fail
  refine (D2 _ Y1).mono ?_
  rintro e W2 ⟨rfl, X2⟩
  have Y2 := Y1.trans X2
  clear pc2 qc2
  have HG2 : RR = if R2.size = 0 then firstR [R3, R4, R5, R6, R7, R8] else R2 := HF.out
  clear HF D2
  by_cases hz2 : R2.size = 0
  case neg =>
    rw [if_neg hz2] at HG2
    have hb := ne_empty hz2
    clear hz2
    subst HG2
    go_wp2
    go_ret
    exact ⟨rfl, hX.trans Y2⟩
  rw [if_pos hz2] at HG2
  have HF : Hid (RR = firstR [R3, R4, R5, R6, R7, R8]) := HG2
  clear HG2
  obtain rfl := size_zero hz2
  clear hz2
  have pc3 := Y2.cell_of p98
  have qc3 := Y2.cell_of q98
  go_wp2_with fail
  refine (D3 _ Y2).mono ?_
  rintro e W3 ⟨rfl, X3⟩
  have Y3 := Y2.trans X3
  clear pc3 qc3
  have HG3 : RR = if R3.size = 0 then firstR [R4, R5, R6, R7, R8] else R3 := HF.out
  clear HF D3
  by_cases hz3 : R3.size = 0
  case neg =>
    rw [if_neg hz3] at HG3
    have hb := ne_empty hz3
    clear hz3
    subst HG3
    go_wp2
    go_ret
    exact ⟨rfl, hX.trans Y3⟩
  rw [if_pos hz3] at HG3
  have HF : Hid (RR = firstR [R4, R5, R6, R7, R8]) := HG3
  clear HG3
  obtain rfl := size_zero hz3
  clear hz3
  have pc4 := Y3.cell_of p99
  have qc4 := Y3.cell_of q99
  go_wp2_with fail
  refine (D4 _ Y3).mono ?_
  rintro e W4 ⟨rfl, X4⟩
  have Y4 := Y3.trans X4
  clear pc4 qc4
  have HG4 : RR = if R4.size = 0 then firstR [R5, R6, R7, R8] else R4 := HF.out
  clear HF D4
  by_cases hz4 : R4.size = 0
  case neg =>
    rw [if_neg hz4] at HG4
    have hb := ne_empty hz4
    clear hz4
    subst HG4
    go_wp2
    go_ret
    exact ⟨rfl, hX.trans Y4⟩
  rw [if_pos hz4] at HG4
  have HF : Hid (RR = firstR [R5, R6, R7, R8]) := HG4
  clear HG4
  obtain rfl := size_zero hz4
  clear hz4
  have pc5 := Y4.cell_of p100
  have qc5 := Y4.cell_of q100
  go_wp2_with fail
  refine (D5 _ Y4).mono ?_
  rintro e W5 ⟨rfl, X5⟩
  have Y5 := Y4.trans X5
  clear pc5 qc5
  have HG5 : RR = if R5.size = 0 then firstR [R6, R7, R8] else R5 := HF.out
  clear HF D5
  by_cases hz5 : R5.size = 0
  case neg =>
    rw [if_neg hz5] at HG5
    have hb := ne_empty hz5
    clear hz5
    subst HG5
    go_wp2
    go_ret
    exact ⟨rfl, hX.trans Y5⟩
  rw [if_pos hz5] at HG5
  have HF : Hid (RR = firstR [R6, R7, R8]) := HG5
  clear HG5
  obtain rfl := size_zero hz5
  clear hz5
  have pc6 := Y5.cell_of p101
  have qc6 := Y5.cell_of q101
  go_wp2_with fail
  refine (D6 _ Y5).mono ?_
  rintro e W6 ⟨rfl, X6⟩
  have Y6 := Y5.trans X6
  clear pc6 qc6
  have HG6 : RR = if R6.size = 0 then firstR [R7, R8] else R6 := HF.out
  clear HF D6
  by_cases hz6 : R6.size = 0
  case neg =>
    rw [if_neg hz6] at HG6
    have hb := ne_empty hz6
    clear hz6
    subst HG6
    go_wp2
    go_ret
    exact ⟨rfl, hX.trans Y6⟩
  rw [if_pos hz6] at HG6
  have HF : Hid (RR = firstR [R7, R8]) := HG6
  clear HG6
  obtain rfl := size_zero hz6
  clear hz6
  have pc7 := Y6.cell_of p102
  have qc7 := Y6.cell_of q102
  go_wp2_with fail
  refine (D7 _ Y6).mono ?_
  rintro e W7 ⟨rfl, X7⟩
  have Y7 := Y6.trans X7
  clear pc7 qc7
  have HG7 : RR = if R7.size = 0 then firstR [R8] else R7 := HF.out
  clear HF D7
  by_cases hz7 : R7.size = 0
  case neg =>
    rw [if_neg hz7] at HG7
    have hb := ne_empty hz7
    clear hz7
    subst HG7
    go_wp2
    go_ret
    exact ⟨rfl, hX.trans Y7⟩
  rw [if_pos hz7] at HG7
  have HF : Hid (RR = firstR [R8]) := HG7
  clear HG7
  obtain rfl := size_zero hz7
  clear hz7
  have pc8 := Y7.cell_of p103
  have qc8 := Y7.cell_of q103
  go_wp2_with fail
  refine (D8 _ Y7).mono ?_
  rintro e W8 ⟨rfl, X8⟩
  have Y8 := Y7.trans X8
  clear pc8 qc8
  have HG : RR = R8 := by
    have := HF.out
    by_cases hz : R8.size = 0
    · rw [this, size_zero hz]; rfl
    · rw [this]; simp only [firstR]; rw [if_neg hz]
  clear HF
  subst HG
  go_wp2
  go_ret
  exact ⟨rfl, hX.trans Y8⟩
end Go.Proofs.Qxb6626501aFmt
