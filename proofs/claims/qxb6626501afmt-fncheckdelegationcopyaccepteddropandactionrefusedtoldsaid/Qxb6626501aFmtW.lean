import Derived.Test.Qxb6626501aFmtV
namespace Go.Proofs.Qxb6626501aFmt
open Go.RowKit Go.Extern.Stop Go.Stop Go.Extern
set_option linter.unusedVariables false
set_option linter.unusedSimpArgs false

theorem zz_at (F : Interp) (w : World) (hF : F.answers w.tape) (tb cb : Nat) (id : List UInt8) (p c : CapD) (ht : TokAt w tb 0 id p) (hc : CapAt w cb 0 c) (hok : LimOk p.lim c.lim) (R : ByteArray) (b : Bool) (hR : reason id p c = R) (hb : decide (¬ R.size = 0) = b) :
    Calls Tryf.prog 10 #[.pointer (some ⟨tb, 0, none⟩), .pointer (some ⟨cb, 0, none⟩)] w fun e w' => e = .returned (.tuple #[.bool b, .string R]) ∧ w.Extends w' := by
  have := zz_any F w hF tb 0 cb 0 id p c ht hc hok
  rw [hR, hb] at this
  exact this
abbrev nWa : ByteArray := ⟨#[119, 105, 100, 101, 110, 101, 100, 58, 97, 99, 116, 105, 111, 110]⟩
abbrev drpL : ByteArray := ⟨#[100, 114, 111, 112, 112, 101, 100, 58]⟩
theorem fc_size (l : Lim) : (fcR l).size ≤ 14 := by
  unfold fcR
  repeat' split
  all_goals decide
theorem wa_eq : wid ++ nAc = nWa := by decide
theorem plus_ne (a : ByteArray) : ¬ a ++ plus = a := by
  intro h
  have h1 := congrArg ByteArray.size h
  rw [ByteArray.size_append] at h1
  have h2 : plus.size = 1 := rfl
  omega

set_option maxHeartbeats 8000000 in
set_option maxRecDepth 100000 in
theorem law4 (F : Interp) (w : World) (hF : F.answers w.tape) (id : List UInt8) (hid : id.length = 32) (d : CapD) (v : Vals) (hf : Fits w d v) :
    Calls Tryf.prog 4 #[.agg (enc8 id).toArray, .agg (cellsC d v).toArray] w fun e w' => e = .returned (.bool true) ∧ w.Extends w' := by
  obtain ⟨W0, hW0⟩ : ∃ W, W = (w.alloc (.cells (enc8 id).toArray 22)).alloc (.cells (cellsC d v).toArray 28) := ⟨_, rfl⟩
  have X0 : w.Extends W0 := hW0 ▸ ((World.Extends.refl w).alloc _).alloc _
  have r22_0 : W0.rangeAt w.heap.size 0 (enc8 id) := hW0 ▸ World.rangeAt_alloc (new_range w _ _) _
  have r28_0 : W0.rangeAt (w.heap.size + 1) 0 (cellsC d v) := by
    have := new_range (w.alloc (.cells (enc8 id).toArray 22)) (cellsC d v) 28
    rw [hW0]
    simpa using this
  have hm0 := (hf.ext X0).means
  have hi22 : (Tryf.prog.info? 22).map (·.size) = some (enc8 id).length := by rw [enc8_len, hid]; exact i22
  have hi28 : (Tryf.prog.info? 28).map (·.size) = some (cellsC d v).length := by rw [cellsC_len hm0]; exact i28
  obtain ⟨c96_0, c97_0, c98_0, c99_0, c100_0, c101_0, c102_0, c103_0, c104_0, c105_0, c106_0, c107_0⟩ := cap_cells hm0 r28_0
  simp only [Nat.zero_add, Vals.v98, Vals.v99, Vals.v100, Vals.v101, Vals.v102, Vals.v103, Vals.v104, Vals.v105] at c96_0 c97_0 c98_0 c99_0 c100_0 c101_0 c102_0 c103_0 c104_0 c105_0 c106_0
  clear c107_0
  have b13 := bytes13 id hid d v W0 (hf.ext X0)
  replace hW0 := hW0.symm
  have HM : Hid (Means W0 d v) := hm0
  have HFT : Hid (Fits w d v) := hf
  clear hm0 hf
  go_enter Tryf.func4, Tryf.ntmps4
  go_wp2_with (first | ((with_reducible refine wpList_load_mid ?_ 22 (.tmp 2) ?_ w.heap.size 0 ?_ (enc8 id) _ r22_0 Tryf.underlying22 ?_ hi22 ?_); rfl; rfl; rfl; rfl) | ((with_reducible refine wpList_load_mid ?_ 28 (.tmp 3) ?_ (w.heap.size + 1) 0 ?_ (cellsC d v) _ r28_0 Tryf.underlying28 ?_ hi28 ?_); rfl; rfl; rfl; rfl))
  clear hW0
  refine b13.mono ?_
  rintro e W1 ⟨⟨r, rfl, hr⟩, X1⟩
  clear b13
  cases r
  case false =>
    go_wp2
    go_ret
    exact ⟨rfl, X0.trans X1⟩
  obtain ⟨hact, hsd, hss⟩ := hr rfl
  have HSH : Hid (Short (d.lim.docs.getD []) ∧ Short (d.lim.schemas.getD [])) := ⟨hsd, hss⟩
  clear hr hsd hss
  have r28_1 := range_ext X1 r28_0
  go_wp2_with (first | ((with_reducible refine wpList_load_mid ?_ 28 (.tmp 3) ?_ (w.heap.size + 1) 0 ?_ (cellsC d v) _ r28_1 Tryf.underlying28 ?_ hi28 ?_); rfl; rfl; rfl; rfl))
  refine (capBytes_any 0 (by omega) d v W1 (HFT.out.ext (X0.trans X1))).mono ?_
  rintro e W2 ⟨⟨r1, hr1, rfl⟩, X2⟩
  have Z2 := X1.trans X2
  clear r28_1
  by_cases hlim : 1048576 < r1
  case pos =>
    go_wp2
    go_ret
    exact ⟨rfl, X0.trans Z2⟩
  have c98_2 := Z2.cell_of c98_0
  go_wp2_with fail
  refine (sorted_any _ d.lim.docs W2 (HM.out.ext Z2).docs (shortO_of HSH.out.1)).mono ?_
  rintro e W3 ⟨⟨s1, rfl, hs1⟩, X3⟩
  have Z3 := Z2.trans X3
  cases s1
  case false =>
    go_wp2
    go_ret
    exact ⟨rfl, X0.trans Z3⟩
  have HA1 : Hid (AscO d.lim.docs) := hs1 rfl
  have c99_3 := Z3.cell_of c99_0
  clear hs1 c98_2
  go_wp2_with fail
  refine (sorted_any _ d.lim.schemas W3 (HM.out.ext Z3).schemas (shortO_of HSH.out.2)).mono ?_
  rintro e W4 ⟨⟨s2, rfl, hs2⟩, X4⟩
  have Z4 := Z3.trans X4
  cases s2
  case false =>
    go_wp2
    go_ret
    exact ⟨rfl, X0.trans Z4⟩
  have HA2 : Hid (AscO d.lim.schemas) := hs2 rfl
  have r22_4 := range_ext Z4 r22_0
  have r28_4 := range_ext Z4 r28_0
  clear hs2 c99_3 X1 X2 X3 X4 Z2 Z3
  go_wp2_with (first | ((with_reducible refine wpList_load_mid ?_ 22 (.tmp 2) ?_ w.heap.size 0 ?_ (enc8 id) _ r22_4 Tryf.underlying22 ?_ hi22 ?_); rfl; rfl; rfl; rfl) | ((with_reducible refine wpList_load_mid ?_ 28 (.tmp 3) ?_ (w.heap.size + 1) 0 ?_ (cellsC d v) _ r28_4 Tryf.underlying28 ?_ hi28 ?_); rfl; rfl; rfl; rfl))
  refine (token_any id hid d v W4 (HM.out.ext Z4)).mono ?_
  rintro e W5 ⟨rfl, X5⟩
  have Z5 := Z4.trans X5
  clear r22_4 r28_4 X5 Z4 hr1 hlim
  have hsub := HM.out.lsub
  have hkey := HM.out.lkey
  have rk_0 : W0.rangeAt (w.heap.size + 1) 64 (enc8 d.key) := by have := (cap_of_cells HM.out r28_0).rkey; simpa using this
  have rs_0 : W0.rangeAt (w.heap.size + 1) 32 (enc8 d.sub) := by have := (cap_of_cells HM.out r28_0).rsub; simpa using this
  have hik : (Tryf.prog.info? 22).map (·.size) = some (enc8 d.key).length := by rw [enc8_len, hkey]; exact i22
  have his : (Tryf.prog.info? 22).map (·.size) = some (enc8 d.sub).length := by rw [enc8_len, hsub]; exact i22
  have htl : (tokC id d v).length = 143 := by unfold tokC; simp [enc8_len, hid, z3_len, cellsC_len HM.out]
  have hz48 : z48.size = (tokC id d v).length := by rw [htl, z48_len]
  have hi48 : (Tryf.prog.info? 48).map (·.size) = some (tokC id d v).length := by rw [htl]; exact i48
  have hz32 : (enc8 z32).toArray.size = (enc8 id).length := by simp [enc8_len, hid, z32_len]
  have hi32 : (Tryf.prog.info? 32).map (·.size) = some (enc8 id).length := by rw [enc8_len, hid]; exact i32
  have lL : ∀ P a, (cellsC (bareC id d a) (vLink v.isd P)).length = 108 := fun P a => lenC _ _ hkey hsub z32_len
  have lF : ∀ u, (cellsC (fullC id d) u).length = 108 := fun u => lenC _ _ hkey hsub z32_len
  have hzL : ∀ P, (cellsC d0 v0).toArray.size = (cellsC (bareC id d d.lim.action) (vLink v.isd P)).length := fun P => by rw [lL, d0_len]
  have hiL : ∀ P, (Tryf.prog.info? 46).map (·.size) = some (cellsC (bareC id d d.lim.action) (vLink v.isd P)).length := fun P => by rw [lL]; exact i46
  have hzF : ∀ P, (cellsC d0 v0).toArray.size = (cellsC (fullC id d) (vFull v P)).length := fun P => by rw [lF, d0_len]
  have hiF : ∀ P, (Tryf.prog.info? 46).map (·.size) = some (cellsC (fullC id d) (vFull v P)).length := fun P => by rw [lF]; exact i46
  have hk98 : ∀ P, 98 + [v.v98, v.v99, v.v100, v.v101, v.v102, v.v103].length ≤ (cellsC (bareC id d d.lim.action) (vLink v.isd P)).length := fun P => by rw [lL]; simp
  have hk1 : ∀ P : Nat, 104 < (cellsC (fullC id d) ⟨v.a98, v.n98, v.k98, v.a99, v.n99, v.k99, v.p100, v.p101, v.p102, v.p103, none, none, v.isd, some ⟨P, 0, none⟩⟩).length := fun P => by rw [lF]; decide
  have hk2 : ∀ P : Nat, 105 < (cellsC (fullC id d) ⟨v.a98, v.n98, v.k98, v.a99, v.n99, v.k99, v.p100, v.p101, v.p102, v.p103, v.p104, none, v.isd, some ⟨P, 0, none⟩⟩).length := fun P => by rw [lF]; decide
  have hk3 : ∀ P, 107 < (cellsC (fullC id d) (vFull v P)).length := fun P => by rw [lF]; decide
  have hk4 : ∀ P, 97 < (cellsC (bareC id d d.lim.action) (vLink v.isd P)).length := fun P => by rw [lL]; decide
  have i43' : (Tryf.prog.info? 43).map (·.size) = some [v.v98, v.v99, v.v100, v.v101, v.v102, v.v103].length := i43
  have one6 : ∀ u ∈ [v.v98, v.v99, v.v100, v.v101, v.v102, v.v103], u.oneCell' = true := by
    intro u hu
    simp only [List.mem_cons, List.not_mem_nil, or_false] at hu
    rcases hu with rfl | rfl | rfl | rfl | rfl | rfl <;> rfl
  have HLL : Hid (∀ P a, (cellsC (bareC id d a) (vLink v.isd P)).length = 108) := lL
  have HLF : Hid (∀ u, (cellsC (fullC id d) u).length = 108) := lF
  clear htl lL lF
  go_wp2_with (first
    | ((with_reducible refine var_law 48 5 (.tmp 41) z48 (tokC id d v) zero48 hz48 hi48 (tokC_one id d v) ?_ ?_ ?_ ?_ ?_ ?_ ?_ ?_); rfl; rfl; rfl; (simp [Act.put]); rfl; rfl; rfl; (intro W6 X6 S6 K6; clear S6; have Z6 := Z5.trans X6; have r22_6 := range_ext Z6 r22_0))
    | ((with_reducible refine wpList_load_mid ?_ 22 (.tmp 2) ?_ w.heap.size 0 ?_ (enc8 id) _ r22_6 Tryf.underlying22 ?_ hi22 ?_); rfl; rfl; rfl; rfl)
    | ((with_reducible refine var_law 32 6 (.tmp 42) (enc8 z32).toArray (enc8 id) zero32 hz32 hi32 (enc8_one id) ?_ ?_ ?_ ?_ ?_ ?_ ?_ ?_); rfl; rfl; rfl; (simp [Act.put]); rfl; rfl; rfl; (intro W7 X7 S7 K7; clear S7; have Z7 := Z6.trans X7; have c97_7 := Z7.cell_of c97_0; have c106_7 := Z7.cell_of c106_0; have rk_7 := range_ext Z7 rk_0; have rs_7 := range_ext Z7 rs_0))
    | ((with_reducible refine wpList_load_mid ?_ 22 (.tmp 43) ?_ (w.heap.size + 1) 64 ?_ (enc8 d.key) _ rk_7 Tryf.underlying22 ?_ hik ?_); rfl; rfl; rfl; rfl)
    | ((with_reducible refine wpList_load_mid ?_ 22 (.tmp 45) ?_ (w.heap.size + 1) 32 ?_ (enc8 d.sub) _ rs_7 Tryf.underlying22 ?_ his ?_); rfl; rfl; rfl; rfl)
    | ((with_reducible refine build_law 46 _ _ (built46l id d v.isd W6.heap.size hsub hkey) #[(0, .tmp 44), (1, .tmp 46), (3, .tmp 48), (7, .tmp 50), (8, .tmp 6)] ?_ ?_ ?_ ?_); rfl; rfl; rfl)
    | ((with_reducible refine var_law 46 7 (.tmp 51) (cellsC d0 v0).toArray (cellsC (bareC id d d.lim.action) (vLink v.isd W6.heap.size)) zero46 (hzL W6.heap.size) (hiL W6.heap.size) (cellsC_one _ _) ?_ ?_ ?_ ?_ ?_ ?_ ?_ ?_); rfl; rfl; rfl; (simp [Act.put]); rfl; rfl; rfl; (intro W8 X8 S8 K8; clear S8; have Z8 := Z7.trans X8; have K8r := K8.1; clear c97_7 c106_7 rk_7 rs_7))
    | ((with_reducible refine wpList_load_mid ?_ 46 (.tmp 7) ?_ W7.heap.size 0 ?_ (cellsC (bareC id d d.lim.action) (vLink v.isd W6.heap.size)) _ K8r Tryf.underlying46 ?_ (hiL W6.heap.size) ?_); rfl; rfl; rfl; rfl)
    | ((with_reducible refine var_law 46 8 (.tmp 52) (cellsC d0 v0).toArray (cellsC (bareC id d d.lim.action) (vLink v.isd W6.heap.size)) zero46 (hzL W6.heap.size) (hiL W6.heap.size) (cellsC_one _ _) ?_ ?_ ?_ ?_ ?_ ?_ ?_ ?_); rfl; rfl; rfl; (simp [Act.put]); rfl; rfl; rfl; (intro W9 X9 S9 K9; clear S9; have Z9 := Z8.trans X9; have c98_9 := Z9.cell_of c98_0; have c99_9 := Z9.cell_of c99_0; have c100_9 := Z9.cell_of c100_0; have c101_9 := Z9.cell_of c101_0; have c102_9 := Z9.cell_of c102_0; have c103_9 := Z9.cell_of c103_0))
    | ((with_reducible refine build_law 43 _ _ (built43 v) #[(0, .tmp 54), (1, .tmp 56), (2, .tmp 58), (3, .tmp 60), (4, .tmp 62), (5, .tmp 64)] ?_ ?_ ?_ ?_); rfl; rfl; rfl)
    | ((with_reducible refine part_law 43 (.tmp 66) (.tmp 65) W8.heap.size 98 (cellsC (bareC id d d.lim.action) (vLink v.isd W6.heap.size)) [v.v98, v.v99, v.v100, v.v101, v.v102, v.v103] W8 K9 X9 (Nat.le_refl _) (hk98 W6.heap.size) i43' one6 ?_ ?_ ?_ ?_ ?_); rfl; rfl; rfl; rfl; (intro W10 X10 S10 K10 O10; clear S10 O10 c98_9 c99_9 c100_9 c101_9 c102_9 c103_9; have K10' : Blk W10 W8.heap.size (cellsC (fullC id d) ⟨v.a98, v.n98, v.k98, v.a99, v.n99, v.k99, v.p100, v.p101, v.p102, v.p103, none, none, v.isd, some ⟨W6.heap.size, 0, none⟩⟩) := Eq.mp (congrArg (Blk W10 W8.heap.size) (set98 id d v W6.heap.size hsub hkey)) K10; have c104_10 := (Z8.trans X10).cell_of c104_0))
    | ((with_reducible refine cell_law 24 (.tmp 69) (.tmp 68) W8.heap.size 104 (cellsC (fullC id d) ⟨v.a98, v.n98, v.k98, v.a99, v.n99, v.k99, v.p100, v.p101, v.p102, v.p103, none, none, v.isd, some ⟨W6.heap.size, 0, none⟩⟩) v.v104 W8 K10' X10 (Nat.le_refl _) (hk1 W6.heap.size) i24 rfl ?_ ?_ ?_ ?_ ?_); rfl; rfl; rfl; rfl; (intro W11 X11 S11 K11 O11; clear S11 O11 c104_10; have K11' : Blk W11 W8.heap.size (cellsC (fullC id d) ⟨v.a98, v.n98, v.k98, v.a99, v.n99, v.k99, v.p100, v.p101, v.p102, v.p103, v.p104, none, v.isd, some ⟨W6.heap.size, 0, none⟩⟩) := Eq.mp (congrArg (Blk W11 W8.heap.size) (set104 id d v W6.heap.size hsub hkey)) K11; have c105_11 := (Z8.trans X11).cell_of c105_0))
    | ((with_reducible refine cell_law 24 (.tmp 72) (.tmp 71) W8.heap.size 105 (cellsC (fullC id d) ⟨v.a98, v.n98, v.k98, v.a99, v.n99, v.k99, v.p100, v.p101, v.p102, v.p103, v.p104, none, v.isd, some ⟨W6.heap.size, 0, none⟩⟩) v.v105 W8 K11' X11 (Nat.le_refl _) (hk2 W6.heap.size) i24 rfl ?_ ?_ ?_ ?_ ?_); rfl; rfl; rfl; rfl; (intro W12 X12 S12 K12 O12; clear S12 O12 c105_11; have K12' : Blk W12 W8.heap.size (cellsC (fullC id d) (vFull v W6.heap.size)) := Eq.mp (congrArg (Blk W12 W8.heap.size) (set105 id d v W6.heap.size hsub hkey)) K12; have K12r := K12'.1))
    | ((with_reducible refine wpList_load_mid ?_ 46 (.tmp 8) ?_ W8.heap.size 0 ?_ (cellsC (fullC id d) (vFull v W6.heap.size)) _ K12r Tryf.underlying46 ?_ (hiF W6.heap.size) ?_); rfl; rfl; rfl; rfl)
    | ((with_reducible refine var_law 46 9 (.tmp 73) (cellsC d0 v0).toArray (cellsC (fullC id d) (vFull v W6.heap.size)) zero46 (hzF W6.heap.size) (hiF W6.heap.size) (cellsC_one _ _) ?_ ?_ ?_ ?_ ?_ ?_ ?_ ?_); rfl; rfl; rfl; (simp [Act.put]); rfl; rfl; rfl; (intro W13 X13 S13 K13; clear S13))
    | ((with_reducible refine cell_law 44 (.tmp 74) (.const (.pointer none)) W12.heap.size 107 (cellsC (fullC id d) (vFull v W6.heap.size)) (.pointer none) W12 K13 X13 (Nat.le_refl _) (hk3 W6.heap.size) i44 rfl ?_ ?_ ?_ ?_ ?_); rfl; rfl; rfl; rfl; (intro W14 X14 S14 K14 O14; clear S14 O14; have K14' : Blk W14 W12.heap.size (cellsC (unlC id d) (vUnl v)) := Eq.mp (congrArg (Blk W14 W12.heap.size) (set107 id d v W6.heap.size hsub hkey)) K14; have K8_14 := K8.ext (X12.trans X14); have K8_14r := K8_14.1; have Z14 := (Z8.trans X12).trans X14))
    | ((with_reducible refine wpList_load_mid ?_ 46 (.tmp 7) ?_ W7.heap.size 0 ?_ (cellsC (bareC id d d.lim.action) (vLink v.isd W6.heap.size)) _ K8_14r Tryf.underlying46 ?_ (hiL W6.heap.size) ?_); rfl; rfl; rfl; rfl)
    | ((with_reducible refine var_law 46 10 (.tmp 75) (cellsC d0 v0).toArray (cellsC (bareC id d d.lim.action) (vLink v.isd W6.heap.size)) zero46 (hzL W6.heap.size) (hiL W6.heap.size) (cellsC_one _ _) ?_ ?_ ?_ ?_ ?_ ?_ ?_ ?_); rfl; rfl; rfl; (simp [Act.put]); rfl; rfl; rfl; (intro W15 X15 S15 K15; clear S15; have c97_15 := (Z14.trans X15).cell_of c97_0))
    | ((with_reducible refine cell_law 9 (.tmp 79) (.tmp 78) W14.heap.size 97 (cellsC (bareC id d d.lim.action) (vLink v.isd W6.heap.size)) (.string (d.lim.action ++ plus)) W14 K15 X15 (Nat.le_refl _) (hk4 W6.heap.size) i9 rfl ?_ ?_ ?_ ?_ ?_); rfl; rfl; rfl; rfl; (intro W16 X16 S16 K16 O16; clear S16 O16 c97_15; have K16' : Blk W16 W14.heap.size (cellsC (bareC id d (d.lim.action ++ plus)) (vLink v.isd W6.heap.size)) := Eq.mp (congrArg (Blk W16 W14.heap.size) (set97 id d v.isd W6.heap.size (d.lim.action ++ plus) hsub hkey)) K16; have K8_16 := K8_14.ext X16; have K8_16r := K8_16.1))
    | ((with_reducible refine wpList_load_mid ?_ 46 (.tmp 7) ?_ W7.heap.size 0 ?_ (cellsC (bareC id d d.lim.action) (vLink v.isd W6.heap.size)) _ K8_16r Tryf.underlying46 ?_ (hiL W6.heap.size) ?_); rfl; rfl; rfl; rfl)
    | ((with_reducible refine var_law 46 11 (.tmp 80) (cellsC d0 v0).toArray (cellsC (bareC id d d.lim.action) (vLink v.isd W6.heap.size)) zero46 (hzL W6.heap.size) (hiL W6.heap.size) (cellsC_one _ _) ?_ ?_ ?_ ?_ ?_ ?_ ?_ ?_); rfl; rfl; rfl; (simp [Act.put]); rfl; rfl; rfl; (intro W17 X17 S17 K17; clear S17)))
  have C8 : W8.Extends W17 := ((X12.trans X14).trans X16).trans X17
  have Z17 : W0.Extends W17 := (Z14.trans X16).trans X17
  have hm17 := HM.out.ext Z17
  have hP := (K7.ext (X8.trans C8)).1
  have tk : TokAt W17 W5.heap.size 0 id d := tok_of_cells hid hm17 (K6.ext (X7.trans (X8.trans C8))).1
  have capF : CapAt W17 W8.heap.size 0 (fullC id d) := cap_of_cells (means_full hm17 id W6.heap.size hid hP) (K12'.ext ((X14.trans X16).trans X17)).1
  have capU : CapAt W17 W12.heap.size 0 (unlC id d) := cap_of_cells (means_unl hm17 id) (K14'.ext (X16.trans X17)).1
  have capO : CapAt W17 W14.heap.size 0 (bareC id d (d.lim.action ++ plus)) := cap_of_cells (means_link hm17 id v.isd W6.heap.size _ hid hP) (K16'.ext X17).1
  have capB : CapAt W17 W16.heap.size 0 (bareC id d d.lim.action) := cap_of_cells (means_link hm17 id v.isd W6.heap.size _ hid hP) K17.1
  have sd := shortO_of HSH.out.1
  have ss := shortO_of HSH.out.2
  have okF : LimOk d.lim d.lim := ⟨sd, ss, sd, ss, HA1.out, HA2.out⟩
  have okO : LimOk d.lim (bareL (d.lim.action ++ plus)) := ⟨sd, ss, True.intro, True.intro, HA1.out, HA2.out⟩
  have okB : LimOk d.lim (bareL d.lim.action) := ⟨sd, ss, True.intro, True.intro, HA1.out, HA2.out⟩
  have hF17 : F.answers W17.tape := by rw [(X0.trans Z17).tape]; exact hF
  have Y17 : w.Extends W17 := X0.trans Z17
  have c96_17 := Z17.cell_of c96_0
  have r28_17 := range_ext Z17 r28_0
  clear C8 K6 K7 K8 K8r K8_14 K8_14r K8_16 K8_16r K9 K10 K10' K11 K11' K12 K12' K12r K13 K14 K14' K15 K16 K16' K17 X6 X7 X8 X9 X10 X11 X12 X13 X14 X15 X16 X17 Z5 Z6 Z7 Z8 Z9 Z14 hzL hiL hzF hiF hk98 hk1 hk2 hk3 hk4 i43' one6 HLL HLF rk_0 rs_0 hz48 hi48 hz32 hi32 hik his sd ss hP c97_0 c98_0 c99_0 c100_0 c101_0 c102_0 c103_0 c104_0 c105_0 c106_0 r22_6
  cases hany : d.any
  case true =>
    rw [hany] at c96_17
    refine (zz_at F W17 hF17 W5.heap.size W8.heap.size id d _ tk capF okF nBr true (r_any id d _ hany) (by decide)).mono ?_
    rintro e V1 ⟨rfl, U1⟩
    have T1 : W17.Extends V1 := U1
    go_wp2_with fail
    refine (zz_at F V1 (by rw [T1.tape]; exact hF17) W5.heap.size W16.heap.size id d _ (tk.ext T1) (capB.ext T1) okB nBr true (r_any id d _ hany) (by decide)).mono ?_
    rintro e V2 ⟨rfl, U2⟩
    have T2 : W17.Extends V2 := T1.trans U2
    go_wp2_with fail
    refine (zz_at F V2 (by rw [T2.tape]; exact hF17) W5.heap.size W14.heap.size id d _ (tk.ext T2) (capO.ext T2) okO nBr true (r_any id d _ hany) (by decide)).mono ?_
    rintro e V3 ⟨rfl, U3⟩
    have T3 : W17.Extends V3 := T2.trans U3
    go_wp2_with fail
    refine (zz_at F V3 (by rw [T3.tape]; exact hF17) W5.heap.size W12.heap.size id d _ (tk.ext T3) (capU.ext T3) okF nBr true (r_any id d _ hany) (by decide)).mono ?_
    rintro e V4 ⟨rfl, U4⟩
    have T4 : W17.Extends V4 := T3.trans U4
    have c96_v := T4.cell_of c96_17
    go_wp2
    go_ret
    exact ⟨rfl, Y17.trans T4⟩
  rw [hany] at c96_17
  by_cases hfc : (fcR d.lim).size = 0
  case pos =>
    refine (zz_at F W17 hF17 W5.heap.size W8.heap.size id d _ tk capF okF ⟨#[]⟩ false (r_full id d hany) (by decide)).mono ?_
    rintro e V1 ⟨rfl, U1⟩
    have T1 : W17.Extends V1 := U1
    go_wp2_with fail
    refine (zz_at F V1 (by rw [T1.tape]; exact hF17) W5.heap.size W16.heap.size id d _ (tk.ext T1) (capB.ext T1) okB ⟨#[]⟩ false (by rw [r_bare id d hany, if_pos hfc]) (by decide)).mono ?_
    rintro e V2 ⟨rfl, U2⟩
    have T2 : W17.Extends V2 := T1.trans U2
    go_wp2_with fail
    refine (zz_at F V2 (by rw [T2.tape]; exact hF17) W5.heap.size W14.heap.size id d _ (tk.ext T2) (capO.ext T2) okO nWa true (by rw [r_other id d _ hany (plus_ne _), wa_eq]) (by decide)).mono ?_
    rintro e V3 ⟨rfl, U3⟩
    have T3 : W17.Extends V3 := T2.trans U3
    go_wp2_with fail
    refine (zz_at F V3 (by rw [T3.tape]; exact hF17) W5.heap.size W12.heap.size id d _ (tk.ext T3) (capU.ext T3) okF nBr true (r_unl id d) (by decide)).mono ?_
    rintro e V4 ⟨rfl, U4⟩
    have T4 : W17.Extends V4 := T3.trans U4
    have c96_v := T4.cell_of c96_17
    have r28_v := range_ext T4 r28_17
    have hfcl := firstClaim_any d v _ (hm17.ext T4)
    rw [size_zero hfc] at hfcl
    clear hfc tk capF capU capO capB okF okO okB
    go_wp2_with (first | ((with_reducible refine wpList_load_mid ?_ 28 (.tmp 3) ?_ (w.heap.size + 1) 0 ?_ (cellsC d v) _ r28_v Tryf.underlying28 ?_ hi28 ?_); rfl; rfl; rfl; rfl) | (go_at_call 14; refine hfcl.mono ?_; rintro e V5 ⟨rfl, U5⟩))
    go_ret
    exact ⟨rfl, (Y17.trans T4).trans U5⟩
  case neg =>
    refine (zz_at F W17 hF17 W5.heap.size W8.heap.size id d _ tk capF okF ⟨#[]⟩ false (r_full id d hany) (by decide)).mono ?_
    rintro e V1 ⟨rfl, U1⟩
    have T1 : W17.Extends V1 := U1
    go_wp2_with fail
    refine (zz_at F V1 (by rw [T1.tape]; exact hF17) W5.heap.size W16.heap.size id d _ (tk.ext T1) (capB.ext T1) okB (drpL ++ fcR d.lim) true (by rw [r_bare id d hany, if_neg hfc]; rfl) (decide_eq_true (drp_size _))).mono ?_
    rintro e V2 ⟨rfl, U2⟩
    have T2 : W17.Extends V2 := T1.trans U2
    go_wp2_with fail
    refine (zz_at F V2 (by rw [T2.tape]; exact hF17) W5.heap.size W14.heap.size id d _ (tk.ext T2) (capO.ext T2) okO nWa true (by rw [r_other id d _ hany (plus_ne _), wa_eq]) (by decide)).mono ?_
    rintro e V3 ⟨rfl, U3⟩
    have T3 : W17.Extends V3 := T2.trans U3
    go_wp2_with fail
    refine (zz_at F V3 (by rw [T3.tape]; exact hF17) W5.heap.size W12.heap.size id d _ (tk.ext T3) (capU.ext T3) okF nBr true (r_unl id d) (by decide)).mono ?_
    rintro e V4 ⟨rfl, U4⟩
    have T4 : W17.Extends V4 := T3.trans U4
    have c96_v := T4.cell_of c96_17
    have r28_v := range_ext T4 r28_17
    have hfcl := firstClaim_any d v _ (hm17.ext T4)
    have hb1 := ne_empty hfc
    have hb2 : ((drpL ++ fcR d.lim).toList == ([] : List UInt8)) = false := ne_empty (drp_size (fcR d.lim))
    have hbs : (fcR d.lim).size ≤ 14 := fc_size _
    generalize fcR d.lim = fc at *
    clear hfc tk capF capU capO capB okF okO okB
    go_wp2_with (first | ((with_reducible refine wpList_load_mid ?_ 28 (.tmp 3) ?_ (w.heap.size + 1) 0 ?_ (cellsC d v) _ r28_v Tryf.underlying28 ?_ hi28 ?_); rfl; rfl; rfl; rfl) | (go_at_call 14; refine hfcl.mono ?_; rintro e V5 ⟨rfl, U5⟩))
    go_ret
    exact ⟨rfl, (Y17.trans T4).trans U5⟩
end Go.Proofs.Qxb6626501aFmt
