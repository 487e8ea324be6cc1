import Derived.Test.Qxb6626501aFmtJ
namespace Go.Proofs.Qxb6626501aFmt
open Go.RowKit Go.Extern.Stop Go.Stop Go.Extern
set_option linter.unusedVariables false

/-- a pointer to an array of bytes -/
def PtrB (w : World) (v : Value) (x : Option (List UInt8)) : Prop := match x with
  | none => v = .pointer none
  | some l => ∃ b o, v = .pointer (some ⟨b, o, none⟩) ∧ w.rangeAt b o (enc8 l) ∧ l.length = 32
theorem range_ext {w w' : World} (hx : w.Extends w') {b o : Nat} {l : List Value} (h : w.rangeAt b o l) : w'.rangeAt b o l := fun j v hv => hx.cell_of (h j v hv)
theorem PtrB.ext {w w' : World} (hx : w.Extends w') {v : Value} {x : Option (List UInt8)} (h : PtrB w v x) : PtrB w' v x := by
  cases x with
  | none => exact h
  | some l => obtain ⟨b, o, e, hr, hl⟩ := h; exact ⟨b, o, e, range_ext hx hr, hl⟩

theorem new_cell (w : World) (z : Array Value) (t : TypeId) (k : Nat) (v : Value) (h : z[k]? = some v) : (w.alloc (.cells z t)).cell? ⟨w.heap.size, k, none⟩ = some v := by
  rw [cell_of_row _ _ _ _ t (0, 0) (heap_alloc_new w _)]
  exact h

/-- what the link's rules look at -/
structure LinkAt (w : World) (tb to cb co : Nat) (id pkey psub cis csub : List UInt8) (any : Bool) (v107 : Value) (proof : Option (List UInt8)) : Prop where
  rid : w.rangeAt tb to (enc8 id)
  rsub : w.rangeAt tb (to + 67) (enc8 psub)
  rkey : w.rangeAt tb (to + 99) (enc8 pkey)
  cany : w.cell? ⟨tb, to + 131, none⟩ = some (.bool any)
  ris : w.rangeAt cb co (enc8 cis)
  rcs : w.rangeAt cb (co + 32) (enc8 csub)
  c107 : w.cell? ⟨cb, co + 107, none⟩ = some v107
  hp : PtrB w v107 proof
  lid : id.length = 32
  lsub : psub.length = 32
  lkey : pkey.length = 32
  lis : cis.length = 32
  lcs : csub.length = 32

/-- a whole array is read, as the walk's equations want it -/
theorem load32 (ty : TypeId) (hu : Tryf.prog.underlying ty = some (.array 32 5)) (hi : (Tryf.prog.info? ty).map (·.size) = some 32) {w : World} {b o : Nat} {l : List UInt8} (h : w.rangeAt b o (enc8 l)) (hl : l.length = 32) (n : Nat) :
    (Instr.loadAt ty (.pointer (some ⟨b, o, none⟩))).run Tryf.prog (w.drewN n) = .ok (.agg (enc8 l).toArray) (w.drewN n) :=
  run_loadAt_mid (w.drewN n) b o ty (enc8 l) _ (fun j v hv => h j v hv) hu rfl (by rw [hi, enc8_len, hl])
theorem i32 : (Tryf.prog.info? 32).map (·.size) = some 32 := by kernel_rfl
theorem i39 : (Tryf.prog.info? 39).map (·.size) = some 32 := by kernel_rfl
theorem i22 : (Tryf.prog.info? 22).map (·.size) = some 32 := by kernel_rfl

/-- a whole array of bytes read inside a region that draws its order and only reads -/
theorem quiet_load8 {ops : Array Oper} {w : World} {Q : Act → Prop} {op : Oper} {rest : List Oper} {a : Act} (ty : TypeId) (x : Operand) (b o : Nat) (l : List UInt8) (hu : Tryf.prog.underlying ty = some (.array 32 5)) (hi : (Tryf.prog.info? ty).map (·.size) = some 32)
    (h : w.rangeAt b o (enc8 l)) (hl : l.length = 32)
    (hw : Region.wanted op (yielded ops a.tmps) = true) (ho : op.op = .load ty x) (hx : a.eval x = .pointer (some ⟨b, o, none⟩))
    (hk : wpQuiet Tryf.prog ops (fun w' => ∃ n, w' = w.drewN n) Q rest (a.put op.dst (.agg (enc8 l).toArray))) : wpQuiet Tryf.prog ops (fun w' => ∃ n, w' = w.drewN n) Q (op :: rest) a := by
  unfold wpQuiet
  rw [if_pos hw]
  refine ⟨.agg (enc8 l).toArray, fun w' hw' => ?_, hk⟩
  obtain ⟨n, rfl⟩ := hw'
  unfold Oper.quietAt execOp
  simp only [ho, hx]
  have := load32 ty hu hi h hl n
  simp only [Sem.run_bind, this, Result.andThen_ok]
  exact ⟨rfl, rfl⟩
set_option maxHeartbeats 1000000 in
theorem link_none (F : Interp) (w : World) (hF : F.answers w.tape) (tb to cb co : Nat) (id pkey psub cis csub : List UInt8) (any : Bool) (v107 : Value) (proof : Option (List UInt8))
    (h : LinkAt w tb to cb co id pkey psub cis csub any v107 proof) (hp : proof = none) :
    Calls Tryf.prog 23 #[.pointer (some ⟨tb, to, none⟩), .pointer (some ⟨cb, co, none⟩)] w fun e w' => (∃ a, e = .returned (.iface 83 (.pointer (some a)))) ∧ w.Extends w' := by
  have hmix := mixedF
  subst hp
  obtain rfl : v107 = .pointer none := h.hp
  have c107 := h.c107
  have cany := h.cany
  go_enter Tryf.func23, Tryf.ntmps23
  go_wp2
  refine wp_region_quiet_lit (by kernel_rfl) (by kernel_rfl) ?_
  repeat (go_big_quiet_step (fail))
  refine wpQuiet_nil ?_
  intro _ hw'
  obtain ⟨n1, hw''⟩ := hw'
  subst hw''
  generalize hW1 : World.drewN w n1 = W1
  have hX1 : w.Extends W1 := hW1 ▸ (World.Extends.refl w).trans (ext_drewN _ _)
  clear hW1
  have c107_1 := hX1.cell_of c107
  have cany_1 := hX1.cell_of cany
  have hF1 : F.answers W1.tape := by rw [hX1.tape]; exact hF
  go_wp2_with (first | ((with_reducible refine wpList_load_mid ?_ 32 (.tmp 32) ?_ tb to ?_ (enc8 id) _ (range_ext hX1 h.rid) Tryf.underlying32 ?_ (by rw [i32, enc8_len, h.lid]) ?_); rfl; rfl; rfl; rfl) | (go_at_call 26; refine (errorf1 F id h.lid W1.heap.size _ (by exact hF1) (by go_simp)).mono ?_; rintro e w' ⟨⟨a, rfl⟩, hx⟩))
  go_ret
  exact ⟨⟨a, rfl⟩, (hX1.alloc _).trans hx⟩

set_option maxHeartbeats 1000000 in
theorem link_other (F : Interp) (w : World) (hF : F.answers w.tape) (tb to cb co : Nat) (id pkey psub cis csub : List UInt8) (any : Bool) (v107 : Value) (proof : Option (List UInt8))
    (h : LinkAt w tb to cb co id pkey psub cis csub any v107 proof) (pl : List UInt8) (hp : proof = some pl) (hne : ¬ pl = id) :
    Calls Tryf.prog 23 #[.pointer (some ⟨tb, to, none⟩), .pointer (some ⟨cb, co, none⟩)] w fun e w' => (∃ a, e = .returned (.iface 83 (.pointer (some a)))) ∧ w.Extends w' := by
  have hmix := mixedF
  subst hp
  obtain ⟨pb, po, rfl, hpr, hpl⟩ := h.hp
  have c107 := h.c107
  have cany := h.cany
  have E1 := eq_arr 32 Tryf.underlying32 pl id hpl h.lid
  rw [decide_eq_false hne] at E1
  go_enter Tryf.func23, Tryf.ntmps23
  go_wp2
  refine wp_region_quiet_lit (by kernel_rfl) (by kernel_rfl) ?_
  repeat (first
    | ((with_reducible refine quiet_load8 32 (.tmp 20) pb (po) pl Tryf.underlying32 i32 hpr hpl ?_ ?_ ?_ ?_); rfl; rfl; rfl; simp only [Act.put, List.setIfInBounds_toArray, List.set_cons_succ, List.set_cons_zero])
    | ((with_reducible refine quiet_load8 32 (.tmp 25) tb (to) id Tryf.underlying32 i32 h.rid h.lid ?_ ?_ ?_ ?_); rfl; rfl; rfl; simp only [Act.put, List.setIfInBounds_toArray, List.set_cons_succ, List.set_cons_zero])
    | go_big_quiet_step (fail))
  refine wpQuiet_nil ?_
  intro _ hw'
  obtain ⟨n1, hw''⟩ := hw'
  subst hw''
  generalize hW1 : World.drewN w n1 = W1
  have hX1 : w.Extends W1 := hW1 ▸ (World.Extends.refl w).trans (ext_drewN _ _)
  clear hW1
  have c107_1 := hX1.cell_of c107
  have cany_1 := hX1.cell_of cany
  have hF1 : F.answers W1.tape := by rw [hX1.tape]; exact hF
  go_wp2_with (first | ((with_reducible refine wpList_load_mid ?_ 32 (.tmp 32) ?_ tb to ?_ (enc8 id) _ (range_ext hX1 h.rid) Tryf.underlying32 ?_ (by rw [i32, enc8_len, h.lid]) ?_); rfl; rfl; rfl; rfl) | (go_at_call 26; refine (errorf1 F id h.lid W1.heap.size _ (by exact hF1) (by go_simp)).mono ?_; rintro e w' ⟨⟨a, rfl⟩, hx⟩))
  go_ret
  exact ⟨⟨a, rfl⟩, (hX1.alloc _).trans hx⟩

set_option maxHeartbeats 1000000 in
theorem link_any (F : Interp) (w : World) (hF : F.answers w.tape) (tb to cb co : Nat) (id pkey psub cis csub : List UInt8) (any : Bool) (v107 : Value) (proof : Option (List UInt8))
    (h : LinkAt w tb to cb co id pkey psub cis csub any v107 proof) (pl : List UInt8) (hp : proof = some pl) (hne : pl = id) (ha : any = true) :
    Calls Tryf.prog 23 #[.pointer (some ⟨tb, to, none⟩), .pointer (some ⟨cb, co, none⟩)] w fun e w' => (∃ a, e = .returned (.iface 83 (.pointer (some a)))) ∧ w.Extends w' := by
  have hmix := mixedF
  subst ha
  subst hp
  obtain ⟨pb, po, rfl, hpr, hpl⟩ := h.hp
  have c107 := h.c107
  have cany := h.cany
  have E1 := eq_arr 32 Tryf.underlying32 pl id hpl h.lid
  rw [decide_eq_true hne] at E1
  clear hne
  go_enter Tryf.func23, Tryf.ntmps23
  go_wp2
  refine wp_region_quiet_lit (by kernel_rfl) (by kernel_rfl) ?_
  repeat (first
    | ((with_reducible refine quiet_load8 32 (.tmp 20) pb (po) pl Tryf.underlying32 i32 hpr hpl ?_ ?_ ?_ ?_); rfl; rfl; rfl; simp only [Act.put, List.setIfInBounds_toArray, List.set_cons_succ, List.set_cons_zero])
    | ((with_reducible refine quiet_load8 32 (.tmp 25) tb (to) id Tryf.underlying32 i32 h.rid h.lid ?_ ?_ ?_ ?_); rfl; rfl; rfl; simp only [Act.put, List.setIfInBounds_toArray, List.set_cons_succ, List.set_cons_zero])
    | go_big_quiet_step (fail))
  refine wpQuiet_nil ?_
  intro _ hw'
  obtain ⟨n1, hw''⟩ := hw'
  subst hw''
  generalize hW1 : World.drewN w n1 = W1
  have hX1 : w.Extends W1 := hW1 ▸ (World.Extends.refl w).trans (ext_drewN _ _)
  clear hW1
  have c107_1 := hX1.cell_of c107
  have cany_1 := hX1.cell_of cany
  have hF1 : F.answers W1.tape := by rw [hX1.tape]; exact hF
  go_wp2_with (go_at_call 27; refine (errNew _ _).mono ?_; rintro e w' ⟨rfl, hx⟩)
  go_ret
  exact ⟨⟨_, rfl⟩, hX1.trans hx⟩

set_option maxHeartbeats 1000000 in
theorem link_ok (F : Interp) (w : World) (hF : F.answers w.tape) (tb to cb co : Nat) (id pkey psub cis csub : List UInt8) (any : Bool) (v107 : Value) (proof : Option (List UInt8))
    (h : LinkAt w tb to cb co id pkey psub cis csub any v107 proof) (pl : List UInt8) (hp : proof = some pl) (hne : pl = id) (ha : any = false) (hk : cis = pkey) (hs : csub = psub) :
    Calls Tryf.prog 23 #[.pointer (some ⟨tb, to, none⟩), .pointer (some ⟨cb, co, none⟩)] w fun e w' => e = .returned .nilIface ∧ w.Extends w' := by
  have hmix := mixedF
  subst ha
  subst hp
  obtain ⟨pb, po, rfl, hpr, hpl⟩ := h.hp
  have c107 := h.c107
  have cany := h.cany
  have E1 := eq_arr 32 Tryf.underlying32 pl id hpl h.lid
  rw [decide_eq_true hne] at E1
  have E2 := eq_arr 39 Tryf.underlying39 cis pkey h.lis h.lkey
  rw [decide_eq_true hk] at E2
  have E3 := eq_arr 39 Tryf.underlying39 csub psub h.lcs h.lsub
  rw [decide_eq_true hs] at E3
  clear hne hk hs
  go_enter Tryf.func23, Tryf.ntmps23
  go_wp2
  refine wp_region_quiet_lit (by kernel_rfl) (by kernel_rfl) ?_
  repeat (first
    | ((with_reducible refine quiet_load8 32 (.tmp 20) pb (po) pl Tryf.underlying32 i32 hpr hpl ?_ ?_ ?_ ?_); rfl; rfl; rfl; simp only [Act.put, List.setIfInBounds_toArray, List.set_cons_succ, List.set_cons_zero])
    | ((with_reducible refine quiet_load8 32 (.tmp 25) tb (to) id Tryf.underlying32 i32 h.rid h.lid ?_ ?_ ?_ ?_); rfl; rfl; rfl; simp only [Act.put, List.setIfInBounds_toArray, List.set_cons_succ, List.set_cons_zero])
    | go_big_quiet_step (fail))
  refine wpQuiet_nil ?_
  intro _ hw'
  obtain ⟨n1, hw''⟩ := hw'
  subst hw''
  generalize hW1 : World.drewN w n1 = W1
  have hX1 : w.Extends W1 := hW1 ▸ (World.Extends.refl w).trans (ext_drewN _ _)
  clear hW1
  have c107_1 := hX1.cell_of c107
  have cany_1 := hX1.cell_of cany
  have hF1 : F.answers W1.tape := by rw [hX1.tape]; exact hF
  go_wp2
  refine wp_region_quiet_lit (by kernel_rfl) (by kernel_rfl) ?_
  repeat (first
    | ((with_reducible refine quiet_load8 39 (.tmp 47) cb (co) cis Tryf.underlying39 i39 (range_ext hX1 h.ris) h.lis ?_ ?_ ?_ ?_); rfl; rfl; rfl; simp only [Act.put, List.setIfInBounds_toArray, List.set_cons_succ, List.set_cons_zero])
    | ((with_reducible refine quiet_load8 39 (.tmp 52) tb (to + 99) pkey Tryf.underlying39 i39 (range_ext hX1 h.rkey) h.lkey ?_ ?_ ?_ ?_); rfl; rfl; rfl; simp only [Act.put, List.setIfInBounds_toArray, List.set_cons_succ, List.set_cons_zero])
    | go_big_quiet_step (fail))
  refine wpQuiet_nil ?_
  intro _ hw'
  obtain ⟨n2, hw''⟩ := hw'
  subst hw''
  generalize hW2 : World.drewN W1 n2 = W2
  have hX2 : w.Extends W2 := hW2 ▸ (hX1).trans (ext_drewN _ _)
  clear hW2
  have c107_2 := hX2.cell_of c107
  have cany_2 := hX2.cell_of cany
  have hF2 : F.answers W2.tape := by rw [hX2.tape]; exact hF
  go_wp2
  refine wp_region_quiet_lit (by kernel_rfl) (by kernel_rfl) ?_
  repeat (first
    | ((with_reducible refine quiet_load8 39 (.tmp 71) cb (co + 32) csub Tryf.underlying39 i39 (range_ext hX2 h.rcs) h.lcs ?_ ?_ ?_ ?_); rfl; rfl; rfl; simp only [Act.put, List.setIfInBounds_toArray, List.set_cons_succ, List.set_cons_zero])
    | ((with_reducible refine quiet_load8 39 (.tmp 75) tb (to + 67) psub Tryf.underlying39 i39 (range_ext hX2 h.rsub) h.lsub ?_ ?_ ?_ ?_); rfl; rfl; rfl; simp only [Act.put, List.setIfInBounds_toArray, List.set_cons_succ, List.set_cons_zero])
    | go_big_quiet_step (fail))
  refine wpQuiet_nil ?_
  intro _ hw'
  obtain ⟨n3, hw''⟩ := hw'
  subst hw''
  generalize hW3 : World.drewN W2 n3 = W3
  have hX3 : w.Extends W3 := hW3 ▸ (hX2).trans (ext_drewN _ _)
  clear hW3
  have c107_3 := hX3.cell_of c107
  have cany_3 := hX3.cell_of cany
  have hF3 : F.answers W3.tape := by rw [hX3.tape]; exact hF
  go_wp2
  go_ret
  exact ⟨rfl, hX3⟩

set_option maxHeartbeats 1000000 in
theorem link_issuer (F : Interp) (w : World) (hF : F.answers w.tape) (tb to cb co : Nat) (id pkey psub cis csub : List UInt8) (any : Bool) (v107 : Value) (proof : Option (List UInt8))
    (h : LinkAt w tb to cb co id pkey psub cis csub any v107 proof) (pl : List UInt8) (hp : proof = some pl) (hne : pl = id) (ha : any = false) (hk : ¬ cis = pkey) :
    Calls Tryf.prog 23 #[.pointer (some ⟨tb, to, none⟩), .pointer (some ⟨cb, co, none⟩)] w fun e w' => (∃ a, e = .returned (.iface 83 (.pointer (some a)))) ∧ w.Extends w' := by
  have hmix := mixedF
  subst ha
  subst hp
  obtain ⟨pb, po, rfl, hpr, hpl⟩ := h.hp
  have c107 := h.c107
  have cany := h.cany
  have E1 := eq_arr 32 Tryf.underlying32 pl id hpl h.lid
  rw [decide_eq_true hne] at E1
  have E2 := eq_arr 39 Tryf.underlying39 cis pkey h.lis h.lkey
  rw [decide_eq_false hk] at E2
  clear hne hk
  go_enter Tryf.func23, Tryf.ntmps23
  go_wp2
  refine wp_region_quiet_lit (by kernel_rfl) (by kernel_rfl) ?_
  repeat (first
    | ((with_reducible refine quiet_load8 32 (.tmp 20) pb (po) pl Tryf.underlying32 i32 hpr hpl ?_ ?_ ?_ ?_); rfl; rfl; rfl; simp only [Act.put, List.setIfInBounds_toArray, List.set_cons_succ, List.set_cons_zero])
    | ((with_reducible refine quiet_load8 32 (.tmp 25) tb (to) id Tryf.underlying32 i32 h.rid h.lid ?_ ?_ ?_ ?_); rfl; rfl; rfl; simp only [Act.put, List.setIfInBounds_toArray, List.set_cons_succ, List.set_cons_zero])
    | go_big_quiet_step (fail))
  refine wpQuiet_nil ?_
  intro _ hw'
  obtain ⟨n1, hw''⟩ := hw'
  subst hw''
  generalize hW1 : World.drewN w n1 = W1
  have hX1 : w.Extends W1 := hW1 ▸ (World.Extends.refl w).trans (ext_drewN _ _)
  clear hW1
  have c107_1 := hX1.cell_of c107
  have cany_1 := hX1.cell_of cany
  have hF1 : F.answers W1.tape := by rw [hX1.tape]; exact hF
  go_wp2
  refine wp_region_quiet_lit (by kernel_rfl) (by kernel_rfl) ?_
  repeat (first
    | ((with_reducible refine quiet_load8 39 (.tmp 47) cb (co) cis Tryf.underlying39 i39 (range_ext hX1 h.ris) h.lis ?_ ?_ ?_ ?_); rfl; rfl; rfl; simp only [Act.put, List.setIfInBounds_toArray, List.set_cons_succ, List.set_cons_zero])
    | ((with_reducible refine quiet_load8 39 (.tmp 52) tb (to + 99) pkey Tryf.underlying39 i39 (range_ext hX1 h.rkey) h.lkey ?_ ?_ ?_ ?_); rfl; rfl; rfl; simp only [Act.put, List.setIfInBounds_toArray, List.set_cons_succ, List.set_cons_zero])
    | go_big_quiet_step (fail))
  refine wpQuiet_nil ?_
  intro _ hw'
  obtain ⟨n2, hw''⟩ := hw'
  subst hw''
  generalize hW2 : World.drewN W1 n2 = W2
  have hX2 : w.Extends W2 := hW2 ▸ (hX1).trans (ext_drewN _ _)
  clear hW2
  have c107_2 := hX2.cell_of c107
  have cany_2 := hX2.cell_of cany
  have hF2 : F.answers W2.tape := by rw [hX2.tape]; exact hF
  go_wp2
  refine region_tail' (m := 11) (pre := ?preq) (C := fun w' => ∃ n, w' = W2.drewN n) hmix (by kernel_rfl) (by kernel_rfl) (by kernel_rfl) (by decide) ?hpq (by kernel_rfl) (by kernel_rfl) ⟨1, rfl⟩ ?_
  case hpq =>
    simp only [List.take_succ_cons, List.take_zero]
    exact rfl
  apply Exists.intro
  refine ⟨?w1, ?_⟩
  case w1 =>
    repeat (first
      | ((with_reducible refine quiet_load8 39 (.tmp 57) cb (co) cis Tryf.underlying39 i39 (range_ext hX2 h.ris) h.lis ?_ ?_ ?_ ?_); rfl; rfl; rfl; simp only [Act.put, List.setIfInBounds_toArray, List.set_cons_succ, List.set_cons_zero])
      | ((with_reducible refine quiet_load8 39 (.tmp 63) tb (to + 99) pkey Tryf.underlying39 i39 (range_ext hX2 h.rkey) h.lkey ?_ ?_ ?_ ?_); rfl; rfl; rfl; simp only [Act.put, List.setIfInBounds_toArray, List.set_cons_succ, List.set_cons_zero])
      | go_big_quiet_step (fail))
    exact wpQuiet_nil rfl
  rintro w' ⟨n, rfl⟩
  simp only [List.drop_succ_cons, List.drop_zero]
  go_wp2_with (go_at_call 26; refine (errorf2 F cis pkey h.lis h.lkey W2.heap.size _ (by exact hF2) (by exact new_cell (World.drewN W2 n) _ _ 0 _ rfl) (by exact new_cell (World.drewN W2 n) _ _ 1 _ rfl)).mono ?_; rintro e w' ⟨⟨a, rfl⟩, hx⟩)
  go_ret
  exact ⟨⟨a, rfl⟩, ((hX2.trans (ext_drewN _ _)).alloc _).trans hx⟩

set_option maxHeartbeats 1000000 in
theorem link_subject (F : Interp) (w : World) (hF : F.answers w.tape) (tb to cb co : Nat) (id pkey psub cis csub : List UInt8) (any : Bool) (v107 : Value) (proof : Option (List UInt8))
    (h : LinkAt w tb to cb co id pkey psub cis csub any v107 proof) (pl : List UInt8) (hp : proof = some pl) (hne : pl = id) (ha : any = false) (hk : cis = pkey) (hs : ¬ csub = psub) :
    Calls Tryf.prog 23 #[.pointer (some ⟨tb, to, none⟩), .pointer (some ⟨cb, co, none⟩)] w fun e w' => (∃ a, e = .returned (.iface 83 (.pointer (some a)))) ∧ w.Extends w' := by
  have hmix := mixedF
  subst ha
  subst hp
  obtain ⟨pb, po, rfl, hpr, hpl⟩ := h.hp
  have c107 := h.c107
  have cany := h.cany
  have E1 := eq_arr 32 Tryf.underlying32 pl id hpl h.lid
  rw [decide_eq_true hne] at E1
  have E2 := eq_arr 39 Tryf.underlying39 cis pkey h.lis h.lkey
  rw [decide_eq_true hk] at E2
  have E3 := eq_arr 39 Tryf.underlying39 csub psub h.lcs h.lsub
  rw [decide_eq_false hs] at E3
  clear hne hk hs
  go_enter Tryf.func23, Tryf.ntmps23
  go_wp2
  refine wp_region_quiet_lit (by kernel_rfl) (by kernel_rfl) ?_
  repeat (first
    | ((with_reducible refine quiet_load8 32 (.tmp 20) pb (po) pl Tryf.underlying32 i32 hpr hpl ?_ ?_ ?_ ?_); rfl; rfl; rfl; simp only [Act.put, List.setIfInBounds_toArray, List.set_cons_succ, List.set_cons_zero])
    | ((with_reducible refine quiet_load8 32 (.tmp 25) tb (to) id Tryf.underlying32 i32 h.rid h.lid ?_ ?_ ?_ ?_); rfl; rfl; rfl; simp only [Act.put, List.setIfInBounds_toArray, List.set_cons_succ, List.set_cons_zero])
    | go_big_quiet_step (fail))
  refine wpQuiet_nil ?_
  intro _ hw'
  obtain ⟨n1, hw''⟩ := hw'
  subst hw''
  generalize hW1 : World.drewN w n1 = W1
  have hX1 : w.Extends W1 := hW1 ▸ (World.Extends.refl w).trans (ext_drewN _ _)
  clear hW1
  have c107_1 := hX1.cell_of c107
  have cany_1 := hX1.cell_of cany
  have hF1 : F.answers W1.tape := by rw [hX1.tape]; exact hF
  go_wp2
  refine wp_region_quiet_lit (by kernel_rfl) (by kernel_rfl) ?_
  repeat (first
    | ((with_reducible refine quiet_load8 39 (.tmp 47) cb (co) cis Tryf.underlying39 i39 (range_ext hX1 h.ris) h.lis ?_ ?_ ?_ ?_); rfl; rfl; rfl; simp only [Act.put, List.setIfInBounds_toArray, List.set_cons_succ, List.set_cons_zero])
    | ((with_reducible refine quiet_load8 39 (.tmp 52) tb (to + 99) pkey Tryf.underlying39 i39 (range_ext hX1 h.rkey) h.lkey ?_ ?_ ?_ ?_); rfl; rfl; rfl; simp only [Act.put, List.setIfInBounds_toArray, List.set_cons_succ, List.set_cons_zero])
    | go_big_quiet_step (fail))
  refine wpQuiet_nil ?_
  intro _ hw'
  obtain ⟨n2, hw''⟩ := hw'
  subst hw''
  generalize hW2 : World.drewN W1 n2 = W2
  have hX2 : w.Extends W2 := hW2 ▸ (hX1).trans (ext_drewN _ _)
  clear hW2
  have c107_2 := hX2.cell_of c107
  have cany_2 := hX2.cell_of cany
  have hF2 : F.answers W2.tape := by rw [hX2.tape]; exact hF
  go_wp2
  refine wp_region_quiet_lit (by kernel_rfl) (by kernel_rfl) ?_
  repeat (first
    | ((with_reducible refine quiet_load8 39 (.tmp 71) cb (co + 32) csub Tryf.underlying39 i39 (range_ext hX2 h.rcs) h.lcs ?_ ?_ ?_ ?_); rfl; rfl; rfl; simp only [Act.put, List.setIfInBounds_toArray, List.set_cons_succ, List.set_cons_zero])
    | ((with_reducible refine quiet_load8 39 (.tmp 75) tb (to + 67) psub Tryf.underlying39 i39 (range_ext hX2 h.rsub) h.lsub ?_ ?_ ?_ ?_); rfl; rfl; rfl; simp only [Act.put, List.setIfInBounds_toArray, List.set_cons_succ, List.set_cons_zero])
    | go_big_quiet_step (fail))
  refine wpQuiet_nil ?_
  intro _ hw'
  obtain ⟨n3, hw''⟩ := hw'
  subst hw''
  generalize hW3 : World.drewN W2 n3 = W3
  have hX3 : w.Extends W3 := hW3 ▸ (hX2).trans (ext_drewN _ _)
  clear hW3
  have c107_3 := hX3.cell_of c107
  have cany_3 := hX3.cell_of cany
  have hF3 : F.answers W3.tape := by rw [hX3.tape]; exact hF
  go_wp2
  refine region_tail' (m := 10) (pre := ?preq) (C := fun w' => ∃ n, w' = W3.drewN n) hmix (by kernel_rfl) (by kernel_rfl) (by kernel_rfl) (by decide) ?hpq (by kernel_rfl) (by kernel_rfl) ⟨1, rfl⟩ ?_
  case hpq =>
    simp only [List.take_succ_cons, List.take_zero]
    exact rfl
  apply Exists.intro
  refine ⟨?w1, ?_⟩
  case w1 =>
    repeat (first
      | ((with_reducible refine quiet_load8 39 (.tmp 80) cb (co + 32) csub Tryf.underlying39 i39 (range_ext hX3 h.rcs) h.lcs ?_ ?_ ?_ ?_); rfl; rfl; rfl; simp only [Act.put, List.setIfInBounds_toArray, List.set_cons_succ, List.set_cons_zero])
      | ((with_reducible refine quiet_load8 39 (.tmp 85) tb (to + 67) psub Tryf.underlying39 i39 (range_ext hX3 h.rsub) h.lsub ?_ ?_ ?_ ?_); rfl; rfl; rfl; simp only [Act.put, List.setIfInBounds_toArray, List.set_cons_succ, List.set_cons_zero])
      | go_big_quiet_step (fail))
    exact wpQuiet_nil rfl
  rintro w' ⟨n, rfl⟩
  simp only [List.drop_succ_cons, List.drop_zero]
  go_wp2_with (go_at_call 26; refine (errorf3 F csub psub h.lcs h.lsub W3.heap.size _ (by exact hF3) (by exact new_cell (World.drewN W3 n) _ _ 0 _ rfl) (by exact new_cell (World.drewN W3 n) _ _ 1 _ rfl)).mono ?_; rintro e w' ⟨⟨a, rfl⟩, hx⟩)
  go_ret
  exact ⟨⟨a, rfl⟩, ((hX3.trans (ext_drewN _ _)).alloc _).trans hx⟩

def Linked (id pkey psub cis csub : List UInt8) (any : Bool) (proof : Option (List UInt8)) : Prop := proof = some id ∧ any = false ∧ cis = pkey ∧ csub = psub
theorem link_yes (F : Interp) (w : World) (hF : F.answers w.tape) (tb to cb co : Nat) (id pkey psub cis csub : List UInt8) (any : Bool) (v107 : Value) (proof : Option (List UInt8))
    (h : LinkAt w tb to cb co id pkey psub cis csub any v107 proof) (hl : Linked id pkey psub cis csub any proof) :
    Calls Tryf.prog 23 #[.pointer (some ⟨tb, to, none⟩), .pointer (some ⟨cb, co, none⟩)] w fun e w' => e = .returned .nilIface ∧ w.Extends w' :=
  link_ok F w hF tb to cb co id pkey psub cis csub any v107 proof h id hl.1 rfl hl.2.1 hl.2.2.1 hl.2.2.2
theorem link_no (F : Interp) (w : World) (hF : F.answers w.tape) (tb to cb co : Nat) (id pkey psub cis csub : List UInt8) (any : Bool) (v107 : Value) (proof : Option (List UInt8))
    (h : LinkAt w tb to cb co id pkey psub cis csub any v107 proof) (hl : ¬ Linked id pkey psub cis csub any proof) :
    Calls Tryf.prog 23 #[.pointer (some ⟨tb, to, none⟩), .pointer (some ⟨cb, co, none⟩)] w fun e w' => (∃ a, e = .returned (.iface 83 (.pointer (some a)))) ∧ w.Extends w' := by
  cases hp : proof with
  | none => exact link_none F w hF tb to cb co id pkey psub cis csub any v107 proof h hp
  | some pl =>
    by_cases h1 : pl = id
    · cases ha : any with
      | true => subst ha; subst hp; exact link_any F w hF tb to cb co id pkey psub cis csub true v107 (some pl) h pl rfl h1 rfl
      | false =>
        subst ha; subst hp
        by_cases h2 : cis = pkey
        · by_cases h3 : csub = psub
          · exact absurd ⟨by rw [h1], rfl, h2, h3⟩ hl
          · exact link_subject F w hF tb to cb co id pkey psub cis csub false v107 (some pl) h pl rfl h1 rfl h2 h3
        · exact link_issuer F w hF tb to cb co id pkey psub cis csub false v107 (some pl) h pl rfl h1 rfl h2
    · exact link_other F w hF tb to cb co id pkey psub cis csub any v107 proof h pl hp h1
end Go.Proofs.Qxb6626501aFmt
