import Derived.Test.Qxb6626501aFmtPx
import Derived.Test.Qxb6626501aFmtU
namespace Go.Proofs.Qxb6626501aFmt
open Go.RowKit Go.Extern.Stop Go.Stop Go.Extern
set_option linter.unusedVariables false
set_option linter.unusedSimpArgs false

abbrev LinkedD (id : List UInt8) (p c : CapD) : Prop := Linked id p.key p.sub c.iss c.sub p.any c.proof

set_option maxHeartbeats 1000000 in
theorem lk_none (id : List UInt8) (hid : id.length = 32) (d : CapD) (v : Vals) (d2 : CapD) (v2 : Vals) (w : World) (hm : Means w d v) (hm2 : Means w d2 v2) (hp : d2.proof = none) :
    Calls Tryf.prog 19 #[.agg (enc8 id).toArray, .agg (cellsC d v).toArray, .agg (cellsC d2 v2).toArray] w fun e w' => e = .returned (.bool false) ∧ w.Extends w' := by
  have hmix := mixedF
  obtain ⟨W, hW⟩ : ∃ W, W = ((w.alloc (.cells (enc8 id).toArray 22)).alloc (.cells (cellsC d v).toArray 28)).alloc (.cells (cellsC d2 v2).toArray 28) := ⟨_, rfl⟩
  have hX : w.Extends W := hW ▸ (((World.Extends.refl w).alloc _).alloc _).alloc _
  have rid : W.rangeAt w.heap.size 0 (enc8 id) := hW ▸ World.rangeAt_alloc (World.rangeAt_alloc (new_range w _ _) _) _
  have hr : W.rangeAt (w.heap.size + 1) 0 (cellsC d v) := by
    have := World.rangeAt_alloc (new_range (w.alloc (.cells (enc8 id).toArray 22)) (cellsC d v) 28) (.cells (cellsC d2 v2).toArray 28)
    rw [hW]
    simpa using this
  have hr2 : W.rangeAt (w.heap.size + 2) 0 (cellsC d2 v2) := by
    have := new_range ((w.alloc (.cells (enc8 id).toArray 22)).alloc (.cells (cellsC d v).toArray 28)) (cellsC d2 v2) 28
    rw [hW]
    simpa using this
  have cp := cap_of_cells (hm.ext hX) hr
  have cc := cap_of_cells (hm2.ext hX) hr2
  have rk : W.rangeAt (w.heap.size + 1) 64 (enc8 d.key) := by have := cp.rkey; simpa using this
  have rs : W.rangeAt (w.heap.size + 1) 32 (enc8 d.sub) := by have := cp.rsub; simpa using this
  have ri2 : W.rangeAt (w.heap.size + 2) 0 (enc8 d2.iss) := cc.ris
  have rs2 : W.rangeAt (w.heap.size + 2) 32 (enc8 d2.sub) := by have := cc.rsub; simpa using this
  have c96 : W.cell? ⟨w.heap.size + 1, 96, none⟩ = some (.bool d.any) := by have := cp.cany; simpa using this
  have c107 : W.cell? ⟨w.heap.size + 2, 107, none⟩ = some v2.v107 := by have := (cap_cells (hm2.ext hX) hr2).2.2.2.2.2.2.2.2.2.2.2; simpa using this
  have l1 := hm.lkey
  have l2 := hm.lsub
  have l3 := hm2.lis
  have l4 := hm2.lsub
  clear cp cc hr hr2
  have hpp := hm2.proof
  rw [hp] at hpp
  have hv : v2.v107 = .pointer none := hpp
  rw [hv] at c107
  clear hv hpp hp
  replace hW := hW.symm
  clear hm hm2
  go_enter Tryf.func19, Tryf.ntmps19
  go_wp2
  refine wp_region_quiet_lit (by kernel_rfl) (by kernel_rfl) ?_
  repeat (first
    | ((with_reducible refine quiet_load8 22 (.tmp 3) w.heap.size (0) id Tryf.underlying22 i22 rid hid ?_ ?_ ?_ ?_); rfl; rfl; rfl; simp only [Act.put, List.setIfInBounds_toArray, List.set_cons_succ, List.set_cons_zero])
    | ((with_reducible refine quiet_load8 22 (.tmp 24) (w.heap.size + 2) (0) d2.iss Tryf.underlying22 i22 ri2 l3 ?_ ?_ ?_ ?_); rfl; rfl; rfl; simp only [Act.put, List.setIfInBounds_toArray, List.set_cons_succ, List.set_cons_zero])
    | ((with_reducible refine quiet_load8 22 (.tmp 26) (w.heap.size + 1) (64) d.key Tryf.underlying22 i22 rk l1 ?_ ?_ ?_ ?_); rfl; rfl; rfl; simp only [Act.put, List.setIfInBounds_toArray, List.set_cons_succ, List.set_cons_zero])
    | ((with_reducible refine quiet_load8 22 (.tmp 31) (w.heap.size + 2) (32) d2.sub Tryf.underlying22 i22 rs2 l4 ?_ ?_ ?_ ?_); rfl; rfl; rfl; simp only [Act.put, List.setIfInBounds_toArray, List.set_cons_succ, List.set_cons_zero])
    | ((with_reducible refine quiet_load8 22 (.tmp 33) (w.heap.size + 1) (32) d.sub Tryf.underlying22 i22 rs l2 ?_ ?_ ?_ ?_); rfl; rfl; rfl; simp only [Act.put, List.setIfInBounds_toArray, List.set_cons_succ, List.set_cons_zero])
    | go_big_quiet_step (fail))
  refine wpQuiet_nil ?_
  intro _ hw'
  obtain ⟨n1, hw''⟩ := hw'
  subst hw''
  go_wp2
  go_ret
  exact ⟨rfl, hX.trans (ext_drewN _ _)⟩

set_option maxHeartbeats 1000000 in
theorem lk_other (id : List UInt8) (hid : id.length = 32) (d : CapD) (v : Vals) (d2 : CapD) (v2 : Vals) (w : World) (hm : Means w d v) (hm2 : Means w d2 v2) (pl : List UInt8) (hp : d2.proof = some pl) (hne : ¬ pl = id) :
    Calls Tryf.prog 19 #[.agg (enc8 id).toArray, .agg (cellsC d v).toArray, .agg (cellsC d2 v2).toArray] w fun e w' => e = .returned (.bool false) ∧ w.Extends w' := by
  have hmix := mixedF
  obtain ⟨W, hW⟩ : ∃ W, W = ((w.alloc (.cells (enc8 id).toArray 22)).alloc (.cells (cellsC d v).toArray 28)).alloc (.cells (cellsC d2 v2).toArray 28) := ⟨_, rfl⟩
  have hX : w.Extends W := hW ▸ (((World.Extends.refl w).alloc _).alloc _).alloc _
  have rid : W.rangeAt w.heap.size 0 (enc8 id) := hW ▸ World.rangeAt_alloc (World.rangeAt_alloc (new_range w _ _) _) _
  have hr : W.rangeAt (w.heap.size + 1) 0 (cellsC d v) := by
    have := World.rangeAt_alloc (new_range (w.alloc (.cells (enc8 id).toArray 22)) (cellsC d v) 28) (.cells (cellsC d2 v2).toArray 28)
    rw [hW]
    simpa using this
  have hr2 : W.rangeAt (w.heap.size + 2) 0 (cellsC d2 v2) := by
    have := new_range ((w.alloc (.cells (enc8 id).toArray 22)).alloc (.cells (cellsC d v).toArray 28)) (cellsC d2 v2) 28
    rw [hW]
    simpa using this
  have cp := cap_of_cells (hm.ext hX) hr
  have cc := cap_of_cells (hm2.ext hX) hr2
  have rk : W.rangeAt (w.heap.size + 1) 64 (enc8 d.key) := by have := cp.rkey; simpa using this
  have rs : W.rangeAt (w.heap.size + 1) 32 (enc8 d.sub) := by have := cp.rsub; simpa using this
  have ri2 : W.rangeAt (w.heap.size + 2) 0 (enc8 d2.iss) := cc.ris
  have rs2 : W.rangeAt (w.heap.size + 2) 32 (enc8 d2.sub) := by have := cc.rsub; simpa using this
  have c96 : W.cell? ⟨w.heap.size + 1, 96, none⟩ = some (.bool d.any) := by have := cp.cany; simpa using this
  have c107 : W.cell? ⟨w.heap.size + 2, 107, none⟩ = some v2.v107 := by have := (cap_cells (hm2.ext hX) hr2).2.2.2.2.2.2.2.2.2.2.2; simpa using this
  have l1 := hm.lkey
  have l2 := hm.lsub
  have l3 := hm2.lis
  have l4 := hm2.lsub
  clear cp cc hr hr2
  have hpp := hm2.proof
  rw [hp] at hpp
  obtain ⟨pb, po, hv, hpr0, hpl⟩ := hpp
  have hpr := range_ext hX hpr0
  rw [hv] at c107
  clear hv hpr0 hp
  have E1 := eq_arr 22 Tryf.underlying22 pl id hpl hid
  rw [decide_eq_false hne] at E1
  replace hW := hW.symm
  clear hm hm2
  go_enter Tryf.func19, Tryf.ntmps19
  go_wp2
  refine wp_region_quiet_lit (by kernel_rfl) (by kernel_rfl) ?_
  repeat (first
    | ((with_reducible refine quiet_load8 22 (.tmp 13) pb (po) pl Tryf.underlying22 i22 hpr hpl ?_ ?_ ?_ ?_); rfl; rfl; rfl; simp only [Act.put, List.setIfInBounds_toArray, List.set_cons_succ, List.set_cons_zero])
    | ((with_reducible refine quiet_load8 22 (.tmp 3) w.heap.size (0) id Tryf.underlying22 i22 rid hid ?_ ?_ ?_ ?_); rfl; rfl; rfl; simp only [Act.put, List.setIfInBounds_toArray, List.set_cons_succ, List.set_cons_zero])
    | ((with_reducible refine quiet_load8 22 (.tmp 24) (w.heap.size + 2) (0) d2.iss Tryf.underlying22 i22 ri2 l3 ?_ ?_ ?_ ?_); rfl; rfl; rfl; simp only [Act.put, List.setIfInBounds_toArray, List.set_cons_succ, List.set_cons_zero])
    | ((with_reducible refine quiet_load8 22 (.tmp 26) (w.heap.size + 1) (64) d.key Tryf.underlying22 i22 rk l1 ?_ ?_ ?_ ?_); rfl; rfl; rfl; simp only [Act.put, List.setIfInBounds_toArray, List.set_cons_succ, List.set_cons_zero])
    | ((with_reducible refine quiet_load8 22 (.tmp 31) (w.heap.size + 2) (32) d2.sub Tryf.underlying22 i22 rs2 l4 ?_ ?_ ?_ ?_); rfl; rfl; rfl; simp only [Act.put, List.setIfInBounds_toArray, List.set_cons_succ, List.set_cons_zero])
    | ((with_reducible refine quiet_load8 22 (.tmp 33) (w.heap.size + 1) (32) d.sub Tryf.underlying22 i22 rs l2 ?_ ?_ ?_ ?_); rfl; rfl; rfl; simp only [Act.put, List.setIfInBounds_toArray, List.set_cons_succ, List.set_cons_zero])
    | go_big_quiet_step (fail))
  refine wpQuiet_nil ?_
  intro _ hw'
  obtain ⟨n1, hw''⟩ := hw'
  subst hw''
  go_wp2
  go_ret
  exact ⟨rfl, hX.trans (ext_drewN _ _)⟩

set_option maxHeartbeats 1000000 in
theorem lk_any (id : List UInt8) (hid : id.length = 32) (d : CapD) (v : Vals) (d2 : CapD) (v2 : Vals) (w : World) (hm : Means w d v) (hm2 : Means w d2 v2) (pl : List UInt8) (hp : d2.proof = some pl) (hne : pl = id) (ha : d.any = true) :
    Calls Tryf.prog 19 #[.agg (enc8 id).toArray, .agg (cellsC d v).toArray, .agg (cellsC d2 v2).toArray] w fun e w' => e = .returned (.bool false) ∧ w.Extends w' := by
  have hmix := mixedF
  obtain ⟨W, hW⟩ : ∃ W, W = ((w.alloc (.cells (enc8 id).toArray 22)).alloc (.cells (cellsC d v).toArray 28)).alloc (.cells (cellsC d2 v2).toArray 28) := ⟨_, rfl⟩
  have hX : w.Extends W := hW ▸ (((World.Extends.refl w).alloc _).alloc _).alloc _
  have rid : W.rangeAt w.heap.size 0 (enc8 id) := hW ▸ World.rangeAt_alloc (World.rangeAt_alloc (new_range w _ _) _) _
  have hr : W.rangeAt (w.heap.size + 1) 0 (cellsC d v) := by
    have := World.rangeAt_alloc (new_range (w.alloc (.cells (enc8 id).toArray 22)) (cellsC d v) 28) (.cells (cellsC d2 v2).toArray 28)
    rw [hW]
    simpa using this
  have hr2 : W.rangeAt (w.heap.size + 2) 0 (cellsC d2 v2) := by
    have := new_range ((w.alloc (.cells (enc8 id).toArray 22)).alloc (.cells (cellsC d v).toArray 28)) (cellsC d2 v2) 28
    rw [hW]
    simpa using this
  have cp := cap_of_cells (hm.ext hX) hr
  have cc := cap_of_cells (hm2.ext hX) hr2
  have rk : W.rangeAt (w.heap.size + 1) 64 (enc8 d.key) := by have := cp.rkey; simpa using this
  have rs : W.rangeAt (w.heap.size + 1) 32 (enc8 d.sub) := by have := cp.rsub; simpa using this
  have ri2 : W.rangeAt (w.heap.size + 2) 0 (enc8 d2.iss) := cc.ris
  have rs2 : W.rangeAt (w.heap.size + 2) 32 (enc8 d2.sub) := by have := cc.rsub; simpa using this
  have c96 : W.cell? ⟨w.heap.size + 1, 96, none⟩ = some (.bool d.any) := by have := cp.cany; simpa using this
  have c107 : W.cell? ⟨w.heap.size + 2, 107, none⟩ = some v2.v107 := by have := (cap_cells (hm2.ext hX) hr2).2.2.2.2.2.2.2.2.2.2.2; simpa using this
  have l1 := hm.lkey
  have l2 := hm.lsub
  have l3 := hm2.lis
  have l4 := hm2.lsub
  clear cp cc hr hr2
  have hpp := hm2.proof
  rw [hp] at hpp
  obtain ⟨pb, po, hv, hpr0, hpl⟩ := hpp
  have hpr := range_ext hX hpr0
  rw [hv] at c107
  clear hv hpr0 hp
  have E1 := eq_arr 22 Tryf.underlying22 pl id hpl hid
  rw [decide_eq_true hne] at E1
  rw [ha] at c96
  clear hne ha
  replace hW := hW.symm
  clear hm hm2
  go_enter Tryf.func19, Tryf.ntmps19
  go_wp2
  refine wp_region_quiet_lit (by kernel_rfl) (by kernel_rfl) ?_
  repeat (first
    | ((with_reducible refine quiet_load8 22 (.tmp 13) pb (po) pl Tryf.underlying22 i22 hpr hpl ?_ ?_ ?_ ?_); rfl; rfl; rfl; simp only [Act.put, List.setIfInBounds_toArray, List.set_cons_succ, List.set_cons_zero])
    | ((with_reducible refine quiet_load8 22 (.tmp 3) w.heap.size (0) id Tryf.underlying22 i22 rid hid ?_ ?_ ?_ ?_); rfl; rfl; rfl; simp only [Act.put, List.setIfInBounds_toArray, List.set_cons_succ, List.set_cons_zero])
    | ((with_reducible refine quiet_load8 22 (.tmp 24) (w.heap.size + 2) (0) d2.iss Tryf.underlying22 i22 ri2 l3 ?_ ?_ ?_ ?_); rfl; rfl; rfl; simp only [Act.put, List.setIfInBounds_toArray, List.set_cons_succ, List.set_cons_zero])
    | ((with_reducible refine quiet_load8 22 (.tmp 26) (w.heap.size + 1) (64) d.key Tryf.underlying22 i22 rk l1 ?_ ?_ ?_ ?_); rfl; rfl; rfl; simp only [Act.put, List.setIfInBounds_toArray, List.set_cons_succ, List.set_cons_zero])
    | ((with_reducible refine quiet_load8 22 (.tmp 31) (w.heap.size + 2) (32) d2.sub Tryf.underlying22 i22 rs2 l4 ?_ ?_ ?_ ?_); rfl; rfl; rfl; simp only [Act.put, List.setIfInBounds_toArray, List.set_cons_succ, List.set_cons_zero])
    | ((with_reducible refine quiet_load8 22 (.tmp 33) (w.heap.size + 1) (32) d.sub Tryf.underlying22 i22 rs l2 ?_ ?_ ?_ ?_); rfl; rfl; rfl; simp only [Act.put, List.setIfInBounds_toArray, List.set_cons_succ, List.set_cons_zero])
    | go_big_quiet_step (fail))
  refine wpQuiet_nil ?_
  intro _ hw'
  obtain ⟨n1, hw''⟩ := hw'
  subst hw''
  go_wp2
  go_ret
  exact ⟨rfl, hX.trans (ext_drewN _ _)⟩

set_option maxHeartbeats 1000000 in
theorem lk_iss (id : List UInt8) (hid : id.length = 32) (d : CapD) (v : Vals) (d2 : CapD) (v2 : Vals) (w : World) (hm : Means w d v) (hm2 : Means w d2 v2) (pl : List UInt8) (hp : d2.proof = some pl) (hne : pl = id) (ha : d.any = false) (hk : ¬ d2.iss = d.key) :
    Calls Tryf.prog 19 #[.agg (enc8 id).toArray, .agg (cellsC d v).toArray, .agg (cellsC d2 v2).toArray] w fun e w' => e = .returned (.bool false) ∧ w.Extends w' := by
  have hmix := mixedF
  obtain ⟨W, hW⟩ : ∃ W, W = ((w.alloc (.cells (enc8 id).toArray 22)).alloc (.cells (cellsC d v).toArray 28)).alloc (.cells (cellsC d2 v2).toArray 28) := ⟨_, rfl⟩
  have hX : w.Extends W := hW ▸ (((World.Extends.refl w).alloc _).alloc _).alloc _
  have rid : W.rangeAt w.heap.size 0 (enc8 id) := hW ▸ World.rangeAt_alloc (World.rangeAt_alloc (new_range w _ _) _) _
  have hr : W.rangeAt (w.heap.size + 1) 0 (cellsC d v) := by
    have := World.rangeAt_alloc (new_range (w.alloc (.cells (enc8 id).toArray 22)) (cellsC d v) 28) (.cells (cellsC d2 v2).toArray 28)
    rw [hW]
    simpa using this
  have hr2 : W.rangeAt (w.heap.size + 2) 0 (cellsC d2 v2) := by
    have := new_range ((w.alloc (.cells (enc8 id).toArray 22)).alloc (.cells (cellsC d v).toArray 28)) (cellsC d2 v2) 28
    rw [hW]
    simpa using this
  have cp := cap_of_cells (hm.ext hX) hr
  have cc := cap_of_cells (hm2.ext hX) hr2
  have rk : W.rangeAt (w.heap.size + 1) 64 (enc8 d.key) := by have := cp.rkey; simpa using this
  have rs : W.rangeAt (w.heap.size + 1) 32 (enc8 d.sub) := by have := cp.rsub; simpa using this
  have ri2 : W.rangeAt (w.heap.size + 2) 0 (enc8 d2.iss) := cc.ris
  have rs2 : W.rangeAt (w.heap.size + 2) 32 (enc8 d2.sub) := by have := cc.rsub; simpa using this
  have c96 : W.cell? ⟨w.heap.size + 1, 96, none⟩ = some (.bool d.any) := by have := cp.cany; simpa using this
  have c107 : W.cell? ⟨w.heap.size + 2, 107, none⟩ = some v2.v107 := by have := (cap_cells (hm2.ext hX) hr2).2.2.2.2.2.2.2.2.2.2.2; simpa using this
  have l1 := hm.lkey
  have l2 := hm.lsub
  have l3 := hm2.lis
  have l4 := hm2.lsub
  clear cp cc hr hr2
  have hpp := hm2.proof
  rw [hp] at hpp
  obtain ⟨pb, po, hv, hpr0, hpl⟩ := hpp
  have hpr := range_ext hX hpr0
  rw [hv] at c107
  clear hv hpr0 hp
  have E1 := eq_arr 22 Tryf.underlying22 pl id hpl hid
  rw [decide_eq_true hne] at E1
  have E2 := eq_arr 22 Tryf.underlying22 d2.iss d.key l3 l1
  rw [decide_eq_false hk] at E2
  rw [ha] at c96
  clear hne ha hk
  replace hW := hW.symm
  clear hm hm2
  go_enter Tryf.func19, Tryf.ntmps19
  go_wp2
  refine wp_region_quiet_lit (by kernel_rfl) (by kernel_rfl) ?_
  repeat (first
    | ((with_reducible refine quiet_load8 22 (.tmp 13) pb (po) pl Tryf.underlying22 i22 hpr hpl ?_ ?_ ?_ ?_); rfl; rfl; rfl; simp only [Act.put, List.setIfInBounds_toArray, List.set_cons_succ, List.set_cons_zero])
    | ((with_reducible refine quiet_load8 22 (.tmp 3) w.heap.size (0) id Tryf.underlying22 i22 rid hid ?_ ?_ ?_ ?_); rfl; rfl; rfl; simp only [Act.put, List.setIfInBounds_toArray, List.set_cons_succ, List.set_cons_zero])
    | ((with_reducible refine quiet_load8 22 (.tmp 24) (w.heap.size + 2) (0) d2.iss Tryf.underlying22 i22 ri2 l3 ?_ ?_ ?_ ?_); rfl; rfl; rfl; simp only [Act.put, List.setIfInBounds_toArray, List.set_cons_succ, List.set_cons_zero])
    | ((with_reducible refine quiet_load8 22 (.tmp 26) (w.heap.size + 1) (64) d.key Tryf.underlying22 i22 rk l1 ?_ ?_ ?_ ?_); rfl; rfl; rfl; simp only [Act.put, List.setIfInBounds_toArray, List.set_cons_succ, List.set_cons_zero])
    | ((with_reducible refine quiet_load8 22 (.tmp 31) (w.heap.size + 2) (32) d2.sub Tryf.underlying22 i22 rs2 l4 ?_ ?_ ?_ ?_); rfl; rfl; rfl; simp only [Act.put, List.setIfInBounds_toArray, List.set_cons_succ, List.set_cons_zero])
    | ((with_reducible refine quiet_load8 22 (.tmp 33) (w.heap.size + 1) (32) d.sub Tryf.underlying22 i22 rs l2 ?_ ?_ ?_ ?_); rfl; rfl; rfl; simp only [Act.put, List.setIfInBounds_toArray, List.set_cons_succ, List.set_cons_zero])
    | go_big_quiet_step (fail))
  refine wpQuiet_nil ?_
  intro _ hw'
  obtain ⟨n1, hw''⟩ := hw'
  subst hw''
  go_wp2
  go_ret
  exact ⟨rfl, hX.trans (ext_drewN _ _)⟩

set_option maxHeartbeats 1000000 in
theorem lk_sub (id : List UInt8) (hid : id.length = 32) (d : CapD) (v : Vals) (d2 : CapD) (v2 : Vals) (w : World) (hm : Means w d v) (hm2 : Means w d2 v2) (pl : List UInt8) (hp : d2.proof = some pl) (hne : pl = id) (ha : d.any = false) (hk : d2.iss = d.key) (hs : ¬ d2.sub = d.sub) :
    Calls Tryf.prog 19 #[.agg (enc8 id).toArray, .agg (cellsC d v).toArray, .agg (cellsC d2 v2).toArray] w fun e w' => e = .returned (.bool false) ∧ w.Extends w' := by
  have hmix := mixedF
  obtain ⟨W, hW⟩ : ∃ W, W = ((w.alloc (.cells (enc8 id).toArray 22)).alloc (.cells (cellsC d v).toArray 28)).alloc (.cells (cellsC d2 v2).toArray 28) := ⟨_, rfl⟩
  have hX : w.Extends W := hW ▸ (((World.Extends.refl w).alloc _).alloc _).alloc _
  have rid : W.rangeAt w.heap.size 0 (enc8 id) := hW ▸ World.rangeAt_alloc (World.rangeAt_alloc (new_range w _ _) _) _
  have hr : W.rangeAt (w.heap.size + 1) 0 (cellsC d v) := by
    have := World.rangeAt_alloc (new_range (w.alloc (.cells (enc8 id).toArray 22)) (cellsC d v) 28) (.cells (cellsC d2 v2).toArray 28)
    rw [hW]
    simpa using this
  have hr2 : W.rangeAt (w.heap.size + 2) 0 (cellsC d2 v2) := by
    have := new_range ((w.alloc (.cells (enc8 id).toArray 22)).alloc (.cells (cellsC d v).toArray 28)) (cellsC d2 v2) 28
    rw [hW]
    simpa using this
  have cp := cap_of_cells (hm.ext hX) hr
  have cc := cap_of_cells (hm2.ext hX) hr2
  have rk : W.rangeAt (w.heap.size + 1) 64 (enc8 d.key) := by have := cp.rkey; simpa using this
  have rs : W.rangeAt (w.heap.size + 1) 32 (enc8 d.sub) := by have := cp.rsub; simpa using this
  have ri2 : W.rangeAt (w.heap.size + 2) 0 (enc8 d2.iss) := cc.ris
  have rs2 : W.rangeAt (w.heap.size + 2) 32 (enc8 d2.sub) := by have := cc.rsub; simpa using this
  have c96 : W.cell? ⟨w.heap.size + 1, 96, none⟩ = some (.bool d.any) := by have := cp.cany; simpa using this
  have c107 : W.cell? ⟨w.heap.size + 2, 107, none⟩ = some v2.v107 := by have := (cap_cells (hm2.ext hX) hr2).2.2.2.2.2.2.2.2.2.2.2; simpa using this
  have l1 := hm.lkey
  have l2 := hm.lsub
  have l3 := hm2.lis
  have l4 := hm2.lsub
  clear cp cc hr hr2
  have hpp := hm2.proof
  rw [hp] at hpp
  obtain ⟨pb, po, hv, hpr0, hpl⟩ := hpp
  have hpr := range_ext hX hpr0
  rw [hv] at c107
  clear hv hpr0 hp
  have E1 := eq_arr 22 Tryf.underlying22 pl id hpl hid
  rw [decide_eq_true hne] at E1
  have E2 := eq_arr 22 Tryf.underlying22 d2.iss d.key l3 l1
  rw [decide_eq_true hk] at E2
  have E3 := eq_arr 22 Tryf.underlying22 d2.sub d.sub l4 l2
  rw [decide_eq_false hs] at E3
  rw [ha] at c96
  clear hne ha hk hs
  replace hW := hW.symm
  clear hm hm2
  go_enter Tryf.func19, Tryf.ntmps19
  go_wp2
  refine wp_region_quiet_lit (by kernel_rfl) (by kernel_rfl) ?_
  repeat (first
    | ((with_reducible refine quiet_load8 22 (.tmp 13) pb (po) pl Tryf.underlying22 i22 hpr hpl ?_ ?_ ?_ ?_); rfl; rfl; rfl; simp only [Act.put, List.setIfInBounds_toArray, List.set_cons_succ, List.set_cons_zero])
    | ((with_reducible refine quiet_load8 22 (.tmp 3) w.heap.size (0) id Tryf.underlying22 i22 rid hid ?_ ?_ ?_ ?_); rfl; rfl; rfl; simp only [Act.put, List.setIfInBounds_toArray, List.set_cons_succ, List.set_cons_zero])
    | ((with_reducible refine quiet_load8 22 (.tmp 24) (w.heap.size + 2) (0) d2.iss Tryf.underlying22 i22 ri2 l3 ?_ ?_ ?_ ?_); rfl; rfl; rfl; simp only [Act.put, List.setIfInBounds_toArray, List.set_cons_succ, List.set_cons_zero])
    | ((with_reducible refine quiet_load8 22 (.tmp 26) (w.heap.size + 1) (64) d.key Tryf.underlying22 i22 rk l1 ?_ ?_ ?_ ?_); rfl; rfl; rfl; simp only [Act.put, List.setIfInBounds_toArray, List.set_cons_succ, List.set_cons_zero])
    | ((with_reducible refine quiet_load8 22 (.tmp 31) (w.heap.size + 2) (32) d2.sub Tryf.underlying22 i22 rs2 l4 ?_ ?_ ?_ ?_); rfl; rfl; rfl; simp only [Act.put, List.setIfInBounds_toArray, List.set_cons_succ, List.set_cons_zero])
    | ((with_reducible refine quiet_load8 22 (.tmp 33) (w.heap.size + 1) (32) d.sub Tryf.underlying22 i22 rs l2 ?_ ?_ ?_ ?_); rfl; rfl; rfl; simp only [Act.put, List.setIfInBounds_toArray, List.set_cons_succ, List.set_cons_zero])
    | go_big_quiet_step (fail))
  refine wpQuiet_nil ?_
  intro _ hw'
  obtain ⟨n1, hw''⟩ := hw'
  subst hw''
  go_wp2
  go_ret
  exact ⟨rfl, hX.trans (ext_drewN _ _)⟩

set_option maxHeartbeats 1000000 in
theorem lk_yes (id : List UInt8) (hid : id.length = 32) (d : CapD) (v : Vals) (d2 : CapD) (v2 : Vals) (w : World) (hm : Means w d v) (hm2 : Means w d2 v2) (pl : List UInt8) (hp : d2.proof = some pl) (hne : pl = id) (ha : d.any = false) (hk : d2.iss = d.key) (hs : d2.sub = d.sub) :
    Calls Tryf.prog 19 #[.agg (enc8 id).toArray, .agg (cellsC d v).toArray, .agg (cellsC d2 v2).toArray] w fun e w' => e = .returned (.bool true) ∧ w.Extends w' := by
  have hmix := mixedF
  obtain ⟨W, hW⟩ : ∃ W, W = ((w.alloc (.cells (enc8 id).toArray 22)).alloc (.cells (cellsC d v).toArray 28)).alloc (.cells (cellsC d2 v2).toArray 28) := ⟨_, rfl⟩
  have hX : w.Extends W := hW ▸ (((World.Extends.refl w).alloc _).alloc _).alloc _
  have rid : W.rangeAt w.heap.size 0 (enc8 id) := hW ▸ World.rangeAt_alloc (World.rangeAt_alloc (new_range w _ _) _) _
  have hr : W.rangeAt (w.heap.size + 1) 0 (cellsC d v) := by
    have := World.rangeAt_alloc (new_range (w.alloc (.cells (enc8 id).toArray 22)) (cellsC d v) 28) (.cells (cellsC d2 v2).toArray 28)
    rw [hW]
    simpa using this
  have hr2 : W.rangeAt (w.heap.size + 2) 0 (cellsC d2 v2) := by
    have := new_range ((w.alloc (.cells (enc8 id).toArray 22)).alloc (.cells (cellsC d v).toArray 28)) (cellsC d2 v2) 28
    rw [hW]
    simpa using this
  have cp := cap_of_cells (hm.ext hX) hr
  have cc := cap_of_cells (hm2.ext hX) hr2
  have rk : W.rangeAt (w.heap.size + 1) 64 (enc8 d.key) := by have := cp.rkey; simpa using this
  have rs : W.rangeAt (w.heap.size + 1) 32 (enc8 d.sub) := by have := cp.rsub; simpa using this
  have ri2 : W.rangeAt (w.heap.size + 2) 0 (enc8 d2.iss) := cc.ris
  have rs2 : W.rangeAt (w.heap.size + 2) 32 (enc8 d2.sub) := by have := cc.rsub; simpa using this
  have c96 : W.cell? ⟨w.heap.size + 1, 96, none⟩ = some (.bool d.any) := by have := cp.cany; simpa using this
  have c107 : W.cell? ⟨w.heap.size + 2, 107, none⟩ = some v2.v107 := by have := (cap_cells (hm2.ext hX) hr2).2.2.2.2.2.2.2.2.2.2.2; simpa using this
  have l1 := hm.lkey
  have l2 := hm.lsub
  have l3 := hm2.lis
  have l4 := hm2.lsub
  clear cp cc hr hr2
  have hpp := hm2.proof
  rw [hp] at hpp
  obtain ⟨pb, po, hv, hpr0, hpl⟩ := hpp
  have hpr := range_ext hX hpr0
  rw [hv] at c107
  clear hv hpr0 hp
  have E1 := eq_arr 22 Tryf.underlying22 pl id hpl hid
  rw [decide_eq_true hne] at E1
  have E2 := eq_arr 22 Tryf.underlying22 d2.iss d.key l3 l1
  rw [decide_eq_true hk] at E2
  have E3 := eq_arr 22 Tryf.underlying22 d2.sub d.sub l4 l2
  rw [decide_eq_true hs] at E3
  rw [ha] at c96
  clear hne ha hk hs
  replace hW := hW.symm
  clear hm hm2
  go_enter Tryf.func19, Tryf.ntmps19
  go_wp2
  refine wp_region_quiet_lit (by kernel_rfl) (by kernel_rfl) ?_
  repeat (first
    | ((with_reducible refine quiet_load8 22 (.tmp 13) pb (po) pl Tryf.underlying22 i22 hpr hpl ?_ ?_ ?_ ?_); rfl; rfl; rfl; simp only [Act.put, List.setIfInBounds_toArray, List.set_cons_succ, List.set_cons_zero])
    | ((with_reducible refine quiet_load8 22 (.tmp 3) w.heap.size (0) id Tryf.underlying22 i22 rid hid ?_ ?_ ?_ ?_); rfl; rfl; rfl; simp only [Act.put, List.setIfInBounds_toArray, List.set_cons_succ, List.set_cons_zero])
    | ((with_reducible refine quiet_load8 22 (.tmp 24) (w.heap.size + 2) (0) d2.iss Tryf.underlying22 i22 ri2 l3 ?_ ?_ ?_ ?_); rfl; rfl; rfl; simp only [Act.put, List.setIfInBounds_toArray, List.set_cons_succ, List.set_cons_zero])
    | ((with_reducible refine quiet_load8 22 (.tmp 26) (w.heap.size + 1) (64) d.key Tryf.underlying22 i22 rk l1 ?_ ?_ ?_ ?_); rfl; rfl; rfl; simp only [Act.put, List.setIfInBounds_toArray, List.set_cons_succ, List.set_cons_zero])
    | ((with_reducible refine quiet_load8 22 (.tmp 31) (w.heap.size + 2) (32) d2.sub Tryf.underlying22 i22 rs2 l4 ?_ ?_ ?_ ?_); rfl; rfl; rfl; simp only [Act.put, List.setIfInBounds_toArray, List.set_cons_succ, List.set_cons_zero])
    | ((with_reducible refine quiet_load8 22 (.tmp 33) (w.heap.size + 1) (32) d.sub Tryf.underlying22 i22 rs l2 ?_ ?_ ?_ ?_); rfl; rfl; rfl; simp only [Act.put, List.setIfInBounds_toArray, List.set_cons_succ, List.set_cons_zero])
    | go_big_quiet_step (fail))
  refine wpQuiet_nil ?_
  intro _ hw'
  obtain ⟨n1, hw''⟩ := hw'
  subst hw''
  go_wp2
  go_ret
  exact ⟨rfl, hX.trans (ext_drewN _ _)⟩

theorem linked_no (id : List UInt8) (hid : id.length = 32) (d : CapD) (v : Vals) (d2 : CapD) (v2 : Vals) (w : World) (hm : Means w d v) (hm2 : Means w d2 v2) (hl : ¬ LinkedD id d d2) :
    Calls Tryf.prog 19 #[.agg (enc8 id).toArray, .agg (cellsC d v).toArray, .agg (cellsC d2 v2).toArray] w fun e w' => e = .returned (.bool false) ∧ w.Extends w' := by
  cases hp : d2.proof with
  | none => exact lk_none id hid d v d2 v2 w hm hm2 hp
  | some pl =>
    by_cases h1 : pl = id
    · cases ha : d.any with
      | true => exact lk_any id hid d v d2 v2 w hm hm2 pl hp h1 ha
      | false =>
        by_cases h2 : d2.iss = d.key
        · by_cases h3 : d2.sub = d.sub
          · exact absurd ⟨by rw [hp, h1], ha, h2, h3⟩ hl
          · exact lk_sub id hid d v d2 v2 w hm hm2 pl hp h1 ha h2 h3
        · exact lk_iss id hid d v d2 v2 w hm hm2 pl hp h1 ha h2
    · exact lk_other id hid d v d2 v2 w hm hm2 pl hp h1
theorem linked_yes (id : List UInt8) (hid : id.length = 32) (d : CapD) (v : Vals) (d2 : CapD) (v2 : Vals) (w : World) (hm : Means w d v) (hm2 : Means w d2 v2) (hl : LinkedD id d d2) :
    Calls Tryf.prog 19 #[.agg (enc8 id).toArray, .agg (cellsC d v).toArray, .agg (cellsC d2 v2).toArray] w fun e w' => e = .returned (.bool true) ∧ w.Extends w' :=
  lk_yes id hid d v d2 v2 w hm hm2 id hl.1 rfl hl.2.1 hl.2.2.1 hl.2.2.2
end Go.Proofs.Qxb6626501aFmt
