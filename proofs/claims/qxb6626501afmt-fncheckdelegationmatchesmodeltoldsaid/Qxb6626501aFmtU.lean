import Derived.Test.Qxb6626501aFmtT
namespace Go.Proofs.Qxb6626501aFmt
open Go.RowKit Go.Extern.Stop Go.Stop Go.Extern
set_option linter.unusedVariables false

/-- a block whose cells are known -/
def Blk (w : World) (b : Nat) (cs : List Value) : Prop := w.rangeAt b 0 cs ∧ w.there b 0 cs.length

theorem Blk.lt {w : World} {b : Nat} {cs : List Value} (h : Blk w b cs) (hn : 0 < cs.length) : b < w.heap.size := by
  obtain ⟨u, hu⟩ := Option.isSome_iff_exists.1 (h.2 0 hn).1
  exact World.block_lt_of_cell? w _ hu
theorem Blk.ext {w w' : World} {b : Nat} {cs : List Value} (h : Blk w b cs) (hx : w.Extends w') : Blk w' b cs := by
  refine ⟨range_ext hx h.1, fun j hj => ?_⟩
  have hlt := h.lt (by omega)
  have := h.2 j hj
  exact ⟨by rw [hx.cell _ hlt]; exact this.1, by rw [hx.frozen _ hlt]; exact this.2⟩
theorem Blk.new (w : World) (z : Array Value) (t : TypeId) (cs : List Value) (hz : z.size = cs.length) : Blk ((w.alloc (.cells z t)).setCells w.heap.size 0 cs) w.heap.size cs := by
  have ht := there_of_new w z t cs.length hz
  exact ⟨World.rangeAt_setCells_same _ _ _ _ ht, World.there_setCells ht _ _ _⟩
theorem Blk.set {w : World} {b : Nat} {cs : List Value} (h : Blk w b cs) (k : Nat) (vs : List Value) (hk : k + vs.length ≤ cs.length) : Blk (w.setCells b k vs) b (cs.take k ++ (vs ++ cs.drop (k + vs.length))) := by
  have hth : w.there b k vs.length := fun j hj => by have := h.2 (k + j) (by omega); rwa [Nat.zero_add] at this
  have h1 := World.rangeAt_setCells_same w b k vs hth
  have hlen : (cs.take k ++ (vs ++ cs.drop (k + vs.length))).length = cs.length := by simp; omega
  refine ⟨fun j v hv => ?_, ?_⟩
  · rw [Nat.zero_add]
    by_cases hj : j < k
    · rw [List.getElem?_append_left (by simp; omega), List.getElem?_take, if_pos hj] at hv
      rw [World.cell?_setCells_out b vs k w _ (fun _ _ => .inl hj)]
      have := h.1 j v hv
      rwa [Nat.zero_add] at this
    · rw [List.getElem?_append_right (by simp; omega)] at hv
      have hmin : (cs.take k).length = k := by simp; omega
      rw [hmin] at hv
      by_cases hj2 : j - k < vs.length
      · rw [List.getElem?_append_left hj2] at hv
        have := h1 (j - k) v hv
        rwa [show k + (j - k) = j from by omega] at this
      · rw [List.getElem?_append_right (by omega), List.getElem?_drop] at hv
        rw [World.cell?_setCells_out b vs k w _ (fun _ _ => .inr (by simp; omega))]
        have := h.1 j v (by rw [← hv]; congr 1; omega)
        rwa [Nat.zero_add] at this
  · rw [hlen]; exact World.there_setCells h.2 _ _ _
theorem Blk.other {w : World} {b b' : Nat} {cs : List Value} (h : Blk w b cs) (hne : b ≠ b') (k : Nat) (vs : List Value) : Blk (w.setCells b' k vs) b cs :=
  ⟨World.rangeAt_setCells_apart h.1 b' k vs (.inl hne), World.there_setCells h.2 _ _ _⟩
theorem size_setCells (w : World) (b o : Nat) (vs : List Value) : (w.setCells b o vs).heap.size = w.heap.size := by
  induction vs generalizing w o with
  | nil => rfl
  | cons v r ih => rw [World.setCells, ih]; simp

section
variable {ops : Array Oper} {rest : List Oper} {a : Act} {w : World} {Q : Exit → Act → World → Prop}
/-- a new variable that is given its value -/
theorem var_law {o1 o2 : Oper} (ty : TypeId) (p : Tmp) (y : Operand) (z : Array Value) (cs : List Value) (hz : ∀ w, (zeroValue ty).run Tryf.prog w = .ok (.agg z) w) (hzs : z.size = cs.length) (hi : (Tryf.prog.info? ty).map (·.size) = some cs.length) (h1 : ∀ v ∈ cs, v.oneCell' = true)
    (g1 : o1.guard = none) (e1 : o1.op = .alloc ty) (d1 : o1.dst = some p) (hp : p < a.tmps.size) (g2 : o2.guard = none) (e2 : o2.op = .store ty (.tmp p) y)
    (hy : (a.put (some p) (.pointer (some ⟨w.heap.size, 0, none⟩))).eval y = .agg cs.toArray)
    (h : ∀ W', w.Extends W' → W'.heap.size = w.heap.size + 1 → Blk W' w.heap.size cs → wpList Tryf.prog ops Q rest ((a.put (some p) (.pointer (some ⟨w.heap.size, 0, none⟩))).put o2.dst undef) W') :
    wpList Tryf.prog ops Q (o1 :: o2 :: rest) a w := by
  refine wpList_plain g1 fun K hK => ?_
  have hr : (execOp a.eval o1).run Tryf.prog w = .ok (.value (.pointer (some ⟨w.heap.size, 0, none⟩))) (w.alloc (.cells z ty)) := by
    unfold execOp
    simp only [e1]
    simp [go_sem, hz]
  unfold Oper.wp
  rw [hr, Oper.upon_value, d1]
  refine hK _ _ ?_
  refine wpList_store_mid g2 ty (.tmp p) y e2 w.heap.size 0 cs.toArray ?_ hy ?_ (by rw [List.size_toArray]; exact hi) (all_oneCell_toArray h1) ?_
  · simp [Act.eval, Act.put, hp]
  · rw [List.size_toArray]; exact there_of_new w z ty cs.length hzs
  · refine h _ (ext_setCells ((World.Extends.refl w).alloc _) _ _ _ (Nat.le_refl _)) ?_ (Blk.new w z ty cs hzs)
    rw [size_setCells]; simp

/-- a part of a block is written -/
theorem part_law {o : Oper} (ty : TypeId) (x y : Operand) (b k : Nat) (cs vs : List Value) (w0 : World) (hb : Blk w b cs) (h0 : w0.Extends w) (hb0 : w0.heap.size ≤ b) (hk : k + vs.length ≤ cs.length)
    (hi : (Tryf.prog.info? ty).map (·.size) = some vs.length) (h1 : ∀ v ∈ vs, v.oneCell' = true)
    (g : o.guard = none) (e : o.op = .store ty x y) (hx : a.eval x = .pointer (some ⟨b, k, none⟩)) (hy : a.eval y = .agg vs.toArray)
    (h : ∀ W', w0.Extends W' → W'.heap.size = w.heap.size → Blk W' b (cs.take k ++ (vs ++ cs.drop (k + vs.length))) → (∀ b' cs', b' ≠ b → Blk w b' cs' → Blk W' b' cs') → wpList Tryf.prog ops Q rest (a.put o.dst undef) W') :
    wpList Tryf.prog ops Q (o :: rest) a w := by
  refine wpList_store_mid g ty x y e b k vs.toArray hx hy ?_ (by rw [List.size_toArray]; exact hi) (all_oneCell_toArray h1) ?_
  · rw [List.size_toArray]
    intro j hj
    have := hb.2 (k + j) (by omega)
    rwa [Nat.zero_add] at this
  · exact h _ (ext_setCells h0 _ _ _ hb0) (size_setCells _ _ _ _) (hb.set k vs hk) fun b' cs' hne hb' => hb'.other hne _ _

/-- one cell of a block is written -/
theorem cell_law {o : Oper} (ty : TypeId) (x y : Operand) (b k : Nat) (cs : List Value) (v : Value) (w0 : World) (hb : Blk w b cs) (h0 : w0.Extends w) (hb0 : w0.heap.size ≤ b) (hk : k < cs.length)
    (hi : (Tryf.prog.info? ty).map (·.size) = some 1) (h1 : v.oneCell' = true)
    (g : o.guard = none) (e : o.op = .store ty x y) (hx : a.eval x = .pointer (some ⟨b, k, none⟩)) (hy : a.eval y = v)
    (h : ∀ W', w0.Extends W' → W'.heap.size = w.heap.size → Blk W' b (cs.take k ++ ([v] ++ cs.drop (k + 1))) → (∀ b' cs', b' ≠ b → Blk w b' cs' → Blk W' b' cs') → wpList Tryf.prog ops Q rest (a.put o.dst undef) W') :
    wpList Tryf.prog ops Q (o :: rest) a w := by
  have hth := hb.2 k hk
  rw [Nat.zero_add] at hth
  refine wpList_plain g fun K hK => ?_
  have hr : (execOp a.eval o).run Tryf.prog w = .ok .skip (w.setCells b k [v]) := by
    unfold execOp
    simp only [e, hx, hy]
    obtain ⟨u, hu⟩ := Option.isSome_iff_exists.1 hth.1
    cases hq : Tryf.prog.info? ty with
    | none => simp [hq] at hi
    | some i =>
      have hs : i.size = 1 := by simpa [hq] using hi
      have hvc : v.cells = #[v] := by cases v <;> first | rfl | (simp [Value.oneCell'] at h1)
      have hth' : ∀ j, j < [v].length → (w.cell? ⟨b, k + 0 + j, none⟩).isSome = true := fun j hj => by
        have : j = 0 := by simp at hj; omega
        subst this; exact hth.1
      have hfr : ∀ j, j < [v].length → w.frozen? ⟨b, k + 0 + j, none⟩ = false := fun j hj => by
        have : j = 0 := by simp at hj; omega
        subst this; exact hth.2
      have := run_storeCells_cells (P := Tryf.prog) b k [v] 0 w hth' hfr (fun u hu => by simp at hu; rw [hu]; exact h1)
      simp only [Nat.add_zero] at this
      simp [Instr.storeAt, Instr.sureAddr, storeVar, sizeOf, typeInfo, hq, hs, hvc, this]
  unfold Oper.wp
  rw [hr]
  simp only [Oper.upon]
  exact hK _ _ (h _ (ext_setCells h0 _ _ _ hb0) (size_setCells _ _ _ _) (hb.set k [v] hk) fun b' cs' hne hb' => hb'.other hne _ _)
end
end Go.Proofs.Qxb6626501aFmt
