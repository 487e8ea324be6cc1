import Derived.Test.Qxb6626501aFmtM
import Derived.Laws.Tables
namespace Go.Proofs.Qxb6626501aFmt
open Go.RowKit Go.Extern.Stop Go.Stop Go.Extern
set_option linter.unusedVariables false

/-- the values of a capability's cells that lead elsewhere -/
structure Vals where
  a98 : Option Addr
  n98 : Nat
  k98 : Nat
  a99 : Option Addr
  n99 : Nat
  k99 : Nat
  p100 : Option Addr
  p101 : Option Addr
  p102 : Option Addr
  p103 : Option Addr
  p104 : Option Addr
  p105 : Option Addr
  isd : Int
  p107 : Option Addr
abbrev Vals.v98 (v : Vals) : Value := .slice v.a98 v.n98 v.k98
abbrev Vals.v99 (v : Vals) : Value := .slice v.a99 v.n99 v.k99
abbrev Vals.v100 (v : Vals) : Value := .pointer v.p100
abbrev Vals.v101 (v : Vals) : Value := .pointer v.p101
abbrev Vals.v102 (v : Vals) : Value := .pointer v.p102
abbrev Vals.v103 (v : Vals) : Value := .pointer v.p103
abbrev Vals.v104 (v : Vals) : Value := .pointer v.p104
abbrev Vals.v105 (v : Vals) : Value := .pointer v.p105
abbrev Vals.v107 (v : Vals) : Value := .pointer v.p107

/-- a capability's cells -/
def cellsC (d : CapD) (v : Vals) : List Value :=
  enc8 d.iss ++ (enc8 d.sub ++ (enc8 d.key ++ [.bool d.any, .string d.lim.action, v.v98, v.v99, v.v100, v.v101, v.v102, v.v103, v.v104, v.v105, .int .u64 v.isd, v.v107]))

/-- what they lead to -/
structure Means (w : World) (d : CapD) (v : Vals) : Prop where
  docs : StrsAt w v.v98 d.lim.docs
  schemas : StrsAt w v.v99 d.lim.schemas
  fromTs : PtrAt w v.v100 d.lim.fromTs
  toTs : PtrAt w v.v101 d.lim.toTs
  fromSeq : PtrAt w v.v102 d.lim.fromSeq
  toSeq : PtrAt w v.v103 d.lim.toSeq
  notBefore : PtrAt w v.v104 d.lim.notBefore
  expires : PtrAt w v.v105 d.lim.expires
  proof : PtrB w v.v107 d.proof
  lis : d.iss.length = 32
  lsub : d.sub.length = 32
  lkey : d.key.length = 32

theorem Means.ext {w w' : World} (hx : w.Extends w') {d : CapD} {v : Vals} (h : Means w d v) : Means w' d v :=
  ⟨h.docs.ext hx, h.schemas.ext hx, h.fromTs.ext hx, h.toTs.ext hx, h.fromSeq.ext hx, h.toSeq.ext hx, h.notBefore.ext hx, h.expires.ext hx, h.proof.ext hx, h.lis, h.lsub, h.lkey⟩

theorem range_app {w : World} {b o : Nat} {l m : List Value} (h : w.rangeAt b o (l ++ m)) : w.rangeAt b o l ∧ w.rangeAt b (o + l.length) m := by
  refine ⟨fun j v hv => h j v ?_, fun j v hv => ?_⟩
  · rw [List.getElem?_append_left (List.getElem?_eq_some_iff.1 hv).1]; exact hv
  · have := h (l.length + j) v (by rw [List.getElem?_append_right (by omega)]; simpa using hv)
    rwa [← Nat.add_assoc] at this

theorem cap_of_cells {w : World} {b o : Nat} {d : CapD} {v : Vals} (hm : Means w d v) (h : w.rangeAt b o (cellsC d v)) : CapAt w b o d := by
  unfold cellsC at h
  obtain ⟨h1, h2⟩ := range_app h
  rw [enc8_len, hm.lis] at h2
  obtain ⟨h3, h4⟩ := range_app h2
  rw [enc8_len, hm.lsub] at h4
  obtain ⟨h5, h6⟩ := range_app h4
  rw [enc8_len, hm.lkey] at h6
  have c : ∀ j u, [Value.bool d.any, .string d.lim.action, v.v98, v.v99, v.v100, v.v101, v.v102, v.v103, v.v104, v.v105, .int .u64 v.isd, v.v107][j]? = some u → w.cell? ⟨b, o + (96 + j), none⟩ = some u := fun j u hu => by
    have := h6 j u hu
    rw [show o + 32 + 32 + 32 + j = o + (96 + j) from by omega] at this
    exact this
  exact ⟨h1, h3, h5, c 0 _ rfl, ⟨_, _, _, _, _, _, _, _, c 1 _ rfl, c 2 _ rfl, c 3 _ rfl, c 4 _ rfl, c 5 _ rfl, c 6 _ rfl, c 7 _ rfl, c 8 _ rfl, c 9 _ rfl, hm.docs, hm.schemas, hm.fromTs, hm.toTs, hm.fromSeq, hm.toSeq, hm.notBefore, hm.expires⟩,
    ⟨_, c 11 _ rfl, hm.proof⟩, hm.lis, hm.lsub, hm.lkey⟩

theorem cellsC_len {w : World} {d : CapD} {v : Vals} (hm : Means w d v) : (cellsC d v).length = 108 := by
  simp [cellsC, enc8_len, hm.lis, hm.lsub, hm.lkey]

theorem ofFn32 (l : List UInt8) (h : l.length = 32) : ∃ f : Fin 32 → UInt8, l = List.ofFn f := by
  refine ⟨fun i => l[i.val]'(by have := i.isLt; omega), ?_⟩
  apply List.ext_getElem
  · simp [h]
  · intro i h1 h2; rw [List.getElem_ofFn]

theorem built41 (l : List UInt8) (h : l.length = 32) (b : Bool) : Tryf.prog.built 41 [(0, .agg (enc8 l).toArray), (1, .bool b)] = some (enc8 l ++ [Value.bool b]).toArray := by
  obtain ⟨f, rfl⟩ := ofFn32 l h
  kernel_rfl
theorem built43 (v : Vals) : Tryf.prog.built 43 [(0, v.v98), (1, v.v99), (2, v.v100), (3, v.v101), (4, v.v102), (5, v.v103)] = some #[v.v98, v.v99, v.v100, v.v101, v.v102, v.v103] := by kernel_rfl
theorem built46 (d : CapD) (v : Vals) (h1 : d.iss.length = 32) (h2 : d.sub.length = 32) (h3 : d.key.length = 32) :
    Tryf.prog.built 46 [(0, .agg (enc8 d.iss).toArray), (1, .agg (enc8 d.sub).toArray), (2, .agg (enc8 d.key ++ [Value.bool d.any]).toArray), (3, .string d.lim.action), (4, .agg #[v.v98, v.v99, v.v100, v.v101, v.v102, v.v103]), (5, v.v104), (6, v.v105), (7, .int .u64 v.isd), (8, v.v107)] =
      some (cellsC d v).toArray := by
  obtain ⟨l1, l2, l3, an, lim, pr⟩ := d
  obtain ⟨f1, e1⟩ := ofFn32 l1 h1
  obtain ⟨f2, e2⟩ := ofFn32 l2 h2
  obtain ⟨f3, e3⟩ := ofFn32 l3 h3
  subst e1 e2 e3
  kernel_rfl

theorem build_law {ops : Array Oper} {rest : List Oper} {o : Oper} {a : Act} {w : World} {Q : Exit → Act → World → Prop} (t : TypeId) (cells : Array Value) (pv : List (Nat × Value)) (hb : Tryf.prog.built t pv = some cells) (parts : Array (Nat × Operand)) (hg : o.guard = none) (ho : o.op = .build t parts)
    (he : parts.toList.map (fun (i, x) => (i, a.eval x)) = pv)
    (h : wpList Tryf.prog ops Q rest (a.put o.dst (.agg cells)) w) : wpList Tryf.prog ops Q (o :: rest) a w := by
  have e : (parts.map fun (i, x) => (i, a.eval x)).toList = pv := by rw [Array.toList_map]; exact he
  refine wpList_build hg t parts ho (by rw [e, hb]; rfl) ?_
  rw [e, hb]
  exact h

theorem i46 : (Tryf.prog.info? 46).map (·.size) = some 108 := by kernel_rfl
theorem i28 : (Tryf.prog.info? 28).map (·.size) = some 108 := by kernel_rfl
theorem i48 : (Tryf.prog.info? 48).map (·.size) = some 143 := by kernel_rfl
theorem enc8_one (l : List UInt8) : ∀ v ∈ enc8 l, v.oneCell' = true := by
  intro v hv
  simp only [enc8, List.mem_map] at hv
  obtain ⟨b, _, rfl⟩ := hv
  rfl
theorem cellsC_one (d : CapD) (v : Vals) : ∀ u ∈ cellsC d v, u.oneCell' = true := by
  intro u hu
  simp only [cellsC, List.mem_append] at hu
  rcases hu with h | h | h | h
  · exact enc8_one _ u h
  · exact enc8_one _ u h
  · exact enc8_one _ u h
  · simp only [List.mem_cons, List.not_mem_nil, or_false] at h
    rcases h with rfl | rfl | rfl | rfl | rfl | rfl | rfl | rfl | rfl | rfl | rfl | rfl <;> rfl

/-- a result that lives in a variable -/
theorem results_mid {fn : Func} {p : Tmp} {ty : TypeId} (h : fn.results = #[.cell p ty]) (tmps : Array Value) (w : World) (b o : Nat) (cs : List Value) (d : TypeDesc)
    (hp : tmps.getD p undef = .pointer (some ⟨b, o, none⟩)) (hr : w.rangeAt b o cs)
    (hu : Tryf.prog.underlying ty = some d) (hd : d.isRow = true) (hi : (Tryf.prog.info? ty).map (·.size) = some cs.length) :
    (results fn tmps).run Tryf.prog w = .ok (.agg cs.toArray) w := by
  have hp' : tmps[p]?.getD undef = .pointer (some ⟨b, o, none⟩) := by simpa using hp
  simp [results, h, hp', asAddr, run_loadVar_mid w b o ty cs d hr hu hd hi]

/-- the zero value of a type, as a block -/
theorem there_of_new (w : World) (z : Array Value) (t : TypeId) (n : Nat) (h : z.size = n) : (w.alloc (.cells z t)).there w.heap.size 0 n := h ▸ new_there w z t

def z32 : List UInt8 := List.replicate 32 0
def d0 : CapD := ⟨z32, z32, z32, false, ⟨⟨#[]⟩, none, none, none, none, none, none, none, none⟩, none⟩
def v0 : Vals := ⟨none, 0, 0, none, 0, 0, none, none, none, none, none, none, 0, none⟩
theorem zero46 (w : World) : (zeroValue 46).run Tryf.prog w = .ok (.agg (cellsC d0 v0).toArray) w := by kernel_rfl
theorem d0_len : (cellsC d0 v0).toArray.size = 108 := by kernel_rfl

/-- a one-cell value of the box -/
theorem cap_cells {w : World} {b o : Nat} {d : CapD} {v : Vals} (hm : Means w d v) (h : w.rangeAt b o (cellsC d v)) :
    w.cell? ⟨b, o + 96, none⟩ = some (.bool d.any) ∧ w.cell? ⟨b, o + 97, none⟩ = some (.string d.lim.action) ∧ w.cell? ⟨b, o + 98, none⟩ = some v.v98 ∧ w.cell? ⟨b, o + 99, none⟩ = some v.v99 ∧
    w.cell? ⟨b, o + 100, none⟩ = some v.v100 ∧ w.cell? ⟨b, o + 101, none⟩ = some v.v101 ∧ w.cell? ⟨b, o + 102, none⟩ = some v.v102 ∧ w.cell? ⟨b, o + 103, none⟩ = some v.v103 ∧
    w.cell? ⟨b, o + 104, none⟩ = some v.v104 ∧ w.cell? ⟨b, o + 105, none⟩ = some v.v105 ∧ w.cell? ⟨b, o + 106, none⟩ = some (.int .u64 v.isd) ∧ w.cell? ⟨b, o + 107, none⟩ = some v.v107 := by
  unfold cellsC at h
  have h2 := (range_app h).2
  rw [enc8_len, hm.lis] at h2
  have h4 := (range_app h2).2
  rw [enc8_len, hm.lsub] at h4
  have h6 := (range_app h4).2
  rw [enc8_len, hm.lkey] at h6
  have c : ∀ j u, [Value.bool d.any, .string d.lim.action, v.v98, v.v99, v.v100, v.v101, v.v102, v.v103, v.v104, v.v105, .int .u64 v.isd, v.v107][j]? = some u → w.cell? ⟨b, o + (96 + j), none⟩ = some u := fun j u hu => by
    have := h6 j u hu
    rw [show o + 32 + 32 + 32 + j = o + (96 + j) from by omega] at this
    exact this
  exact ⟨c 0 _ rfl, c 1 _ rfl, c 2 _ rfl, c 3 _ rfl, c 4 _ rfl, c 5 _ rfl, c 6 _ rfl, c 7 _ rfl, c 8 _ rfl, c 9 _ rfl, c 10 _ rfl, c 11 _ rfl⟩

set_option maxHeartbeats 1000000 in
set_option maxRecDepth 100000 in
theorem toCap_any (d : CapD) (v : Vals) (w : World) (hm : Means w d v) :
    Calls Tryf.prog 9 #[.agg (cellsC d v).toArray] w fun e w' => e = .returned (.agg (cellsC d v).toArray) ∧ w.Extends w' := by
  have hz := zero46
  obtain ⟨W, hW⟩ : ∃ W, W = (w.alloc (.cells (cellsC d v).toArray 28)).alloc (.cells (cellsC d0 v0).toArray 46) := ⟨_, rfl⟩
  have hx1 : w.Extends W := hW ▸ ((World.Extends.refl w).alloc _).alloc _
  have hr : W.rangeAt w.heap.size 0 (cellsC d v) := hW ▸ World.rangeAt_alloc (new_range w _ _) _
  have ht : W.there (w.heap.size + 1) 0 108 := by
    have := there_of_new (w.alloc (.cells (cellsC d v).toArray 28)) (cellsC d0 v0).toArray 46 108 d0_len
    rw [hW]
    simpa using this
  have hcap := cap_of_cells (hm.ext hx1) hr
  obtain ⟨c96, c97, c98, c99, c100, c101, c102, c103, c104, c105, c106, c107⟩ := cap_cells (hm.ext hx1) hr
  simp only [Nat.zero_add] at c96 c97 c98 c99 c100 c101 c102 c103 c104 c105 c106 c107
  replace hW := hW.symm
  have r0 := hcap.ris
  have r1 : W.rangeAt w.heap.size 32 (enc8 d.sub) := by have := hcap.rsub; simpa using this
  have r2 : W.rangeAt w.heap.size 64 (enc8 d.key) := by have := hcap.rkey; simpa using this
  have l0 : (enc8 d.iss).length = 32 := by rw [enc8_len, hm.lis]
  have l1 : (enc8 d.sub).length = 32 := by rw [enc8_len, hm.lsub]
  have l2 : (enc8 d.key).length = 32 := by rw [enc8_len, hm.lkey]
  have h22_0 : (Tryf.prog.info? 22).map (·.size) = some (enc8 d.iss).length := by rw [l0]; exact i22
  have h22_1 : (Tryf.prog.info? 22).map (·.size) = some (enc8 d.sub).length := by rw [l1]; exact i22
  have h22_2 : (Tryf.prog.info? 22).map (·.size) = some (enc8 d.key).length := by rw [l2]; exact i22
  clear l0 l1 l2
  have b41 := built41 d.key hm.lkey d.any
  have b43 := built43 v
  have b46 := built46 d v hm.lis hm.lsub hm.lkey
  have hsz : (cellsC d v).toArray.size = 108 := by have := cellsC_len hm; simpa using this
  have hth : W.there (w.heap.size + 1) 0 (cellsC d v).toArray.size := by rw [hsz]; exact ht
  have hi : (Tryf.prog.info? 46).map (·.size) = some (cellsC d v).toArray.size := by rw [hsz]; exact i46
  have hrange : (W.setCells (w.heap.size + 1) 0 (cellsC d v)).rangeAt (w.heap.size + 1) 0 (cellsC d v) := World.rangeAt_setCells_same _ _ _ _ (by simpa using hth)
  have hx2 : w.Extends (W.setCells (w.heap.size + 1) 0 (cellsC d v)) := ext_setCells hx1 _ _ _ (by omega)
  have hi' : (Tryf.prog.info? 46).map (·.size) = some (cellsC d v).length := by rw [cellsC_len hm]; exact i46
  go_enter Tryf.func9, Tryf.ntmps9
  go_wp2_with (first
    | ((with_reducible refine wpList_load_mid ?_ 22 (.tmp 3) ?_ w.heap.size 0 ?_ (enc8 d.iss) _ r0 Tryf.underlying22 ?_ h22_0 ?_); rfl; rfl; rfl; rfl)
    | ((with_reducible refine wpList_load_mid ?_ 22 (.tmp 5) ?_ w.heap.size 32 ?_ (enc8 d.sub) _ r1 Tryf.underlying22 ?_ h22_1 ?_); rfl; rfl; rfl; rfl)
    | ((with_reducible refine wpList_load_mid ?_ 22 (.tmp 7) ?_ w.heap.size 64 ?_ (enc8 d.key) _ r2 Tryf.underlying22 ?_ h22_2 ?_); rfl; rfl; rfl; rfl)
    | ((with_reducible refine build_law 41 _ _ b41 #[(0, .tmp 8), (1, .tmp 10)] ?_ ?_ ?_ ?_); rfl; rfl; rfl)
    | ((with_reducible refine build_law 43 _ _ b43 #[(0, .tmp 15), (1, .tmp 17), (2, .tmp 19), (3, .tmp 21), (4, .tmp 23), (5, .tmp 25)] ?_ ?_ ?_ ?_); rfl; rfl; rfl)
    | ((with_reducible refine build_law 46 _ _ b46 #[(0, .tmp 4), (1, .tmp 6), (2, .tmp 11), (3, .tmp 13), (4, .tmp 26), (5, .tmp 28), (6, .tmp 30), (7, .tmp 32), (8, .tmp 34)] ?_ ?_ ?_ ?_); rfl; rfl; rfl)
    | ((with_reducible refine wpList_store_mid ?_ 46 (.tmp 2) (.tmp 35) ?_ (w.heap.size + 1) 0 (cellsC d v).toArray ?_ ?_ hth hi (all_oneCell_toArray (cellsC_one d v)) ?_); rfl; rfl; rfl; rfl))
  refine bodyPost_ret (results_mid rfl _ _ (w.heap.size + 1) 0 (cellsC d v) _ rfl hrange Tryf.underlying46 rfl hi') rfl ⟨rfl, hx2⟩
end Go.Proofs.Qxb6626501aFmt
