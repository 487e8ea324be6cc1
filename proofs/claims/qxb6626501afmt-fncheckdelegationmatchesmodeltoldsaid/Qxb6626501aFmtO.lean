import Derived.Test.Qxb6626501aFmtN
namespace Go.Proofs.Qxb6626501aFmt
open Go.RowKit Go.Extern.Stop Go.Stop Go.Extern
set_option linter.unusedVariables false

/-- the cells of an envelope's message, not set -/
noncomputable def z3 : List Value := ((Tryf.prog.built 38 []).getD #[]).toList.drop 32
theorem z3_len : z3.length = 3 := by kernel_rfl
noncomputable def tokC (id : List UInt8) (d : CapD) (v : Vals) : List Value := enc8 id ++ (z3 ++ cellsC d v)
theorem z3_one : ∀ v ∈ z3, v.oneCell' = true := by
  have : z3.all (·.oneCell') = true := by kernel_rfl
  exact fun v hv => List.all_eq_true.1 this v hv
theorem tokC_one (id : List UInt8) (d : CapD) (v : Vals) : ∀ u ∈ tokC id d v, u.oneCell' = true := by
  intro u hu
  simp only [tokC, List.mem_append] at hu
  rcases hu with h | h | h
  · exact enc8_one _ u h
  · exact z3_one u h
  · exact cellsC_one d v u h
theorem built38 (l : List UInt8) (h : l.length = 32) : Tryf.prog.built 38 [(0, .agg (enc8 l).toArray)] = some (enc8 l ++ z3).toArray := by
  obtain ⟨f, rfl⟩ := ofFn32 l h
  kernel_rfl
theorem built48 (l : List UInt8) (h : l.length = 32) (d : CapD) (v : Vals) (h1 : d.iss.length = 32) (h2 : d.sub.length = 32) (h3 : d.key.length = 32) : Tryf.prog.built 48 [(0, .agg (enc8 l ++ z3).toArray), (1, .agg (cellsC d v).toArray)] = some (tokC l d v).toArray := by
  obtain ⟨l1, l2, l3, an, lim, pr⟩ := d
  obtain ⟨f, rfl⟩ := ofFn32 l h
  obtain ⟨f1, e1⟩ := ofFn32 l1 h1
  obtain ⟨f2, e2⟩ := ofFn32 l2 h2
  obtain ⟨f3, e3⟩ := ofFn32 l3 h3
  subst e1 e2 e3
  kernel_rfl
noncomputable def z48 : Array Value := (tokC z32 d0 v0).toArray
theorem zero48 (w : World) : (zeroValue 48).run Tryf.prog w = .ok (.agg z48) w := by kernel_rfl
theorem z48_len : z48.size = 143 := by kernel_rfl

theorem tok_of_cells {w : World} {b o : Nat} {id : List UInt8} {d : CapD} {v : Vals} (hl : id.length = 32) (hm : Means w d v) (h : w.rangeAt b o (tokC id d v)) : TokAt w b o id d := by
  unfold tokC at h
  obtain ⟨h1, h2⟩ := range_app h
  rw [enc8_len, hl] at h2
  have h3 := (range_app h2).2
  rw [z3_len] at h3
  exact ⟨h1, hl, cap_of_cells hm h3⟩

section
variable {ops : Array Oper} {C : World → Prop} {Q : Act → Prop} {op : Oper} {rest : List Oper} {a : Act}
theorem gq_load (ty : TypeId) (x : Operand) (b o : Nat) (cs : List Value) (d : TypeDesc) (hu : Tryf.prog.underlying ty = some d) (hd : d.isRow = true) (hi : (Tryf.prog.info? ty).map (·.size) = some cs.length)
    (h : ∀ w, C w → w.rangeAt b o cs) (hw : op.guard = none) (ho : op.op = .load ty x) (hx : a.eval x = .pointer (some ⟨b, o, none⟩))
    (hk : wpQuiet Tryf.prog ops C Q rest (a.put op.dst (.agg cs.toArray))) : wpQuiet Tryf.prog ops C Q (op :: rest) a := by
  unfold wpQuiet
  rw [if_pos (by unfold Region.wanted; rw [hw])]
  refine ⟨.agg cs.toArray, fun w' hw' => ?_, hk⟩
  unfold Oper.quietAt execOp
  simp only [ho, hx]
  have := run_loadAt_mid w' b o ty cs d (h w' hw') hu hd hi
  simp only [Sem.run_bind, this, Result.andThen_ok]
  exact ⟨rfl, rfl⟩
theorem gq_build (t : TypeId) (cells : Array Value) (pv : List (Nat × Value)) (hb : Tryf.prog.built t pv = some cells) (parts : Array (Nat × Operand)) (hw : op.guard = none) (ho : op.op = .build t parts)
    (he : parts.toList.map (fun (i, x) => (i, a.eval x)) = pv)
    (hk : wpQuiet Tryf.prog ops C Q rest (a.put op.dst (.agg cells))) : wpQuiet Tryf.prog ops C Q (op :: rest) a := by
  unfold wpQuiet
  rw [if_pos (by unfold Region.wanted; rw [hw])]
  refine ⟨.agg cells, fun w' hw' => ?_, hk⟩
  have e : (parts.map fun (i, x) => (i, a.eval x)).toList = pv := by rw [Array.toList_map]; exact he
  unfold Oper.quietAt execOp
  simp only [ho]
  have := run_build (P := Tryf.prog) w' t (parts.map fun (i, x) => (i, a.eval x)) cells (by rw [e]; exact hb)
  simp only [Sem.run_bind, this, Result.andThen_ok]
  exact ⟨rfl, rfl⟩
theorem gq_call (f : FuncId) (args : Array Value) (v : Value) (hc : ∀ w, C w → Calls Tryf.prog f args w fun e w'' => e = .returned v ∧ C w'') (hw : op.guard = none)
    (he : ∀ w, (execOp a.eval op).run Tryf.prog w = .ok (.enter f args) w)
    (hk : wpQuiet Tryf.prog ops C Q rest (a.put op.dst v)) : wpQuiet Tryf.prog ops C Q (op :: rest) a := by
  unfold wpQuiet
  rw [if_pos (by unfold Region.wanted; rw [hw])]
  refine ⟨v, fun w' hw' => ?_, hk⟩
  unfold Oper.quietAt
  rw [he w']
  exact ⟨rfl, hc w' hw'⟩
end

set_option maxHeartbeats 1000000 in
set_option maxRecDepth 100000 in
theorem token_any (id : List UInt8) (hid : id.length = 32) (d : CapD) (v : Vals) (w : World) (hm : Means w d v) :
    Calls Tryf.prog 8 #[.agg (enc8 id).toArray, .agg (cellsC d v).toArray] w fun e w' => e = .returned (.agg (tokC id d v).toArray) ∧ w.Extends w' := by
  have hmix := mixedF
  have hz := zero48
  obtain ⟨W, hW⟩ : ∃ W, W = ((w.alloc (.cells (enc8 id).toArray 22)).alloc (.cells (cellsC d v).toArray 28)).alloc (.cells z48 48) := ⟨_, rfl⟩
  have hx1 : w.Extends W := hW ▸ (((World.Extends.refl w).alloc _).alloc _).alloc _
  have hsz0 : ((w.alloc (.cells (enc8 id).toArray 22)).alloc (.cells (cellsC d v).toArray 28)).heap.size = w.heap.size + 2 := by simp
  have hr0 : W.rangeAt w.heap.size 0 (enc8 id) := hW ▸ World.rangeAt_alloc (World.rangeAt_alloc (new_range w _ _) _) _
  have hr1 : W.rangeAt (w.heap.size + 1) 0 (cellsC d v) := by
    have := World.rangeAt_alloc (new_range (w.alloc (.cells (enc8 id).toArray 22)) (cellsC d v) 28) (.cells z48 48)
    rw [hW]
    simpa using this
  have ht : W.there (w.heap.size + 2) 0 143 := by
    have := there_of_new ((w.alloc (.cells (enc8 id).toArray 22)).alloc (.cells (cellsC d v).toArray 28)) z48 48 143 z48_len
    rw [hW]
    rw [hsz0] at this
    exact this
  replace hW := hW.symm
  have hi0 : (Tryf.prog.info? 22).map (·.size) = some (enc8 id).length := by rw [enc8_len, hid]; exact i22
  have hi1 : (Tryf.prog.info? 28).map (·.size) = some (cellsC d v).length := by rw [cellsC_len hm]; exact i28
  have htl : (tokC id d v).length = 143 := by unfold tokC; simp [enc8_len, hid, z3_len, cellsC_len hm]
  have hts : (tokC id d v).toArray.size = 143 := by simp [htl]
  have hi2 : (Tryf.prog.info? 48).map (·.size) = some (tokC id d v).length := by rw [htl]; exact i48
  have hi3 : (Tryf.prog.info? 48).map (·.size) = some (tokC id d v).toArray.size := by rw [List.size_toArray, htl]; exact i48
  have b38 := built38 id hid
  have b48 := built48 id hid d v hm.lis hm.lsub hm.lkey
  have hcall : ∀ w1, W.Extends w1 → Calls Tryf.prog 9 #[.agg (cellsC d v).toArray] w1 fun e w'' => e = .returned (.agg (cellsC d v).toArray) ∧ W.Extends w'' := fun w1 h1 =>
    (toCap_any d v w1 (hm.ext (hx1.trans h1))).mono fun e w'' ⟨h2, h3⟩ => ⟨h2, h1.trans h3⟩
  go_enter Tryf.func8, Tryf.ntmps8
  go_wp2
  refine region_tail' (m := 5) (pre := ?preq) (C := fun w' => W.Extends w') hmix (by kernel_rfl) (by kernel_rfl) (by kernel_rfl) (by decide) ?hpq (by kernel_rfl) (by kernel_rfl) (ext_drewN W 1) ?_
  case hpq =>
    simp only [List.take_succ_cons, List.take_zero]
    exact rfl
  apply Exists.intro
  refine ⟨?w1, ?_⟩
  case w1 =>
    refine gq_load 22 (.tmp 2) w.heap.size 0 (enc8 id) _ Tryf.underlying22 rfl hi0 (fun w1 h1 => range_ext h1 hr0) rfl rfl rfl ?_
    refine gq_build 38 _ _ b38 #[(0, .tmp 5)] rfl rfl rfl ?_
    refine gq_load 28 (.tmp 3) (w.heap.size + 1) 0 (cellsC d v) _ Tryf.underlying28 rfl hi1 (fun w1 h1 => range_ext h1 hr1) rfl rfl rfl ?_
    refine gq_call 9 _ _ hcall rfl ?_ ?_
    · intro w1
      simp only [Act.put, List.setIfInBounds_toArray, List.set_cons_succ, List.set_cons_zero]
      go_simp
    refine gq_build 48 _ _ b48 #[(0, .tmp 6), (1, .tmp 8)] rfl rfl rfl ?_
    exact wpQuiet_nil rfl
  intro w2 hx2
  have ht2 : w2.there (w.heap.size + 2) 0 (tokC id d v).toArray.size := by
    rw [hts]
    intro j hj
    have h1 := ht j hj
    have hlt : w.heap.size + 2 < W.heap.size := by rw [← hW]; simp
    exact ⟨by rw [hx2.cell _ hlt]; exact h1.1, by rw [hx2.frozen _ hlt]; exact h1.2⟩
  simp only [List.drop_succ_cons, List.drop_zero]
  refine wpList_store_mid rfl 48 (.tmp 4) (.tmp 9) rfl (w.heap.size + 2) 0 (tokC id d v).toArray rfl rfl ht2 hi3 (all_oneCell_toArray (tokC_one id d v)) ?_
  have hrange : (w2.setCells (w.heap.size + 2) 0 (tokC id d v)).rangeAt (w.heap.size + 2) 0 (tokC id d v) := World.rangeAt_setCells_same _ _ _ _ (by simpa using ht2)
  have hx3 : w.Extends (w2.setCells (w.heap.size + 2) 0 (tokC id d v)) := ext_setCells (hx1.trans hx2) _ _ _ (by omega)
  go_wp2
  refine bodyPost_ret (results_mid rfl _ _ (w.heap.size + 2) 0 (tokC id d v) _ rfl hrange Tryf.underlying48 rfl hi2) rfl ⟨rfl, hx3⟩
end Go.Proofs.Qxb6626501aFmt
