import Derived.Test.Qxb6626435aDelete
namespace Go.Proofs.Qxb6626435a
open Go.RowKit Go.Sort
set_option linter.unusedVariables false

theorem grown_cell (w : World) (o : Obj) {b k : Nat} {v : Value} (h : w.cell? ⟨b, k, none⟩ = some v) : ∀ n os, (grow ((w.alloc o).drewN n) os).cell? ⟨b, k, none⟩ = some v := fun n os => by
  have hb := World.block_lt_of_cell? w _ h
  exact cell_grown (by rw [World.size_alloc]; exact Nat.lt_succ_of_lt hb) (by rw [World.cell?_alloc_lt _ _ _ hb]; exact h) n os

set_option maxHeartbeats 1000000 in
set_option maxRecDepth 100000 in
/-- 'count' where the number of slices turns: the index is made anew -/
theorem count_re (x R n cm ch sh' : Nat) (sh : Nat) (am ah : Option Addr) (vi : Value) (w : World) (hn : n ≤ 65536) (hbl : sh' + Lib.bitLen n = 64) (hne : sh' ≠ sh)
    (hR : w.heap[R]? = some (.cells #[.slice am n cm, .slice ah n ch, vi, .int .u64 (sh : Nat)] 46 (0, 0)))
    (Post : World → Prop) (hre : ∀ wz, Grew w wz → Calls Try.prog 18 #[.pointer (some ⟨R, 0, none⟩)] wz fun e w' => e = .returned (.tuple #[]) ∧ Post w') :
    Calls Try.prog 28 #[.pointer (some ⟨R, 0, none⟩), .agg (enc x).toArray, .int .i32 (-1)] w fun e w' => e = .returned (.tuple #[]) ∧ Post w' := by
  have hmix := mixed
  have c0 := grown_cell w (.cells (enc x).toArray 26) (b := R) (k := 0) (v := .slice am n cm) (by rw [cell_of_row _ _ _ _ _ _ hR]; rfl)
  have c3 := grown_cell w (.cells (enc x).toArray 26) (b := R) (k := 3) (v := .int .u64 (sh : Nat)) (by rw [cell_of_row _ _ _ _ _ _ hR]; rfl)
  have hbs := bitLen_small n hn
  have hcall : ∀ q os, Calls Try.prog 30 #[.int .u64 (n : Int)] (grow ((w.alloc (.cells (enc x).toArray 26)).drewN q) os) fun e w' => e = .returned (.int .i64 (Lib.bitLen n : Nat)) ∧ ∃ q' os', w' = grow ((grow ((w.alloc (.cells (enc x).toArray 26)).drewN q) os).drewN q') os' := fun q os => by
    refine (bitsLen_any n hn _).mono ?_
    rintro e w' ⟨rfl, rfl⟩
    exact ⟨rfl, 0, #[], (grow_empty _).symm⟩
  have hsub : (64 : Int) - ((Lib.bitLen n : Nat) : Int) = (sh' : Int) := by omega
  have hne2 : ¬ ((sh' : Int) = (sh : Int)) := by omega
  have hle : sh' ≤ 64 := by omega
  have w1 : IntKind.u64.wrap (n : Int) = (n : Int) := by rw [IntKind.wrap_u64]; omega
  have w2 : IntKind.u64.wrap ((Lib.bitLen n : Nat) : Int) = ((Lib.bitLen n : Nat) : Int) := by rw [IntKind.wrap_u64]; omega
  have w3 : IntKind.u64.wrap (sh' : Int) = (sh' : Int) := by rw [IntKind.wrap_u64]; omega
  clear hR hbl hne
  generalize Lib.bitLen n = bl at *
  go_enter Try.func28, Try.ntmps28
  go_wp2
  go_quiet_grown (first | (go_at_call 30; refine Calls.grown_of (hcall _ _)))
  go_wp2_with fail
  refine (hre _ (((Grew.refl w).alloc _).trans ⟨_, _, rfl⟩)).mono ?_
  rintro e w' ⟨rfl, hP⟩
  go_wp2
  refine bodyPost_ret (results_none rfl _ _ _) rfl ?_
  exact ⟨rfl, hP⟩

/-- of what was there at w the block I alone has turned: it is a row of m + 1 numbers, f -/
structure Ct (w : World) (I m : Nat) (f : Nat → Value) (wr : World) : Prop where
  oth : ∀ k, k < w.heap.size → k ≠ I → wr.heap[k]? = w.heap[k]?
  os : wr.os = w.os
  tape : wr.tape = w.tape
  output : wr.output = w.output
  size : w.heap.size ≤ wr.heap.size
  row : wr.rowIs I 21 (m + 1) f
theorem Ct.start {w wr : World} {I m : Nat} {f : Nat → Value} (hg : Grew w wr) (h : w.rowIs I 21 (m + 1) f) : Ct w I m f wr :=
  ⟨fun k hk _ => hg.below.block k hk, hg.below.os, hg.below.tape, hg.below.output, hg.below.size, h.of_block (hg.below.block I h.lt)⟩
theorem Ct.set {w wr : World} {I m : Nat} {f : Nat → Value} (h : Ct w I m f wr) (i : Nat) (v : Value) : Ct w I m (fun j => if j = i then v else f j) (wr.setCell ⟨I, i, none⟩ v) :=
  ⟨fun k hk hne => (Below.heap_setCell _ _ _ _ hne).trans (h.oth k hk hne), h.os, h.tape, h.output, by simpa using h.size, h.row.set i v⟩
theorem Ct.congr {w wr : World} {I m : Nat} {f g : Nat → Value} (h : Ct w I m f wr) (e : ∀ t, t < m + 1 → f t = g t) : Ct w I m g wr :=
  ⟨h.oth, h.os, h.tape, h.output, h.size, h.row.congr e⟩

set_option maxHeartbeats 1000000 in
set_option maxRecDepth 100000 in
/-- 'count' where the number of slices stays: one less in each cell behind the head's slice -/
theorem count_loop (x R n cm ch m I sh : Nat) (am ah : Option Addr) (c : Nat → Nat) (w : World) (hx : x < top) (hn : n ≤ 65536) (hm : m ≤ 131072) (hbl : sh + Lib.bitLen n = 64) (hIR : I ≠ R) (s0 : Nat) (hse : pre x 8 / 2 ^ sh = s0) (hs0 : s0 < m)
    (hc : ∀ t, c t ≤ 65536) (hc1 : ∀ t, s0 < t → 1 ≤ c t)
    (hR : w.heap[R]? = some (.cells #[.slice am n cm, .slice ah n ch, .slice (some ⟨I, 0, none⟩) (m + 1) (m + 1), .int .u64 (sh : Nat)] 46 (0, 0)))
    (hI : w.rowIs I 21 (m + 1) (fun t => .int .i32 (c t : Nat))) :
    Calls Try.prog 28 #[.pointer (some ⟨R, 0, none⟩), .agg (enc x).toArray, .int .i32 (-1)] w fun e w' => e = .returned (.tuple #[]) ∧ Ct w I m (fun t => .int .i32 ((if s0 < t then c t - 1 else c t : Nat) : Int)) w' := by
  have hmix := mixed
  have c0 := grown_cell w (.cells (enc x).toArray 26) (b := R) (k := 0) (v := .slice am n cm) (by rw [cell_of_row _ _ _ _ _ _ hR]; rfl)
  have c3 := grown_cell w (.cells (enc x).toArray 26) (b := R) (k := 3) (v := .int .u64 (sh : Nat)) (by rw [cell_of_row _ _ _ _ _ _ hR]; rfl)
  have hbs := bitLen_small n hn
  have hcall : ∀ q os, Calls Try.prog 30 #[.int .u64 (n : Int)] (grow ((w.alloc (.cells (enc x).toArray 26)).drewN q) os) fun e w' => e = .returned (.int .i64 (Lib.bitLen n : Nat)) ∧ ∃ q' os', w' = grow ((grow ((w.alloc (.cells (enc x).toArray 26)).drewN q) os).drewN q') os' := fun q os => by
    refine (bitsLen_any n hn _).mono ?_
    rintro e w' ⟨rfl, rfl⟩
    exact ⟨rfl, 0, #[], (grow_empty _).symm⟩
  have hsub : (64 : Int) - ((Lib.bitLen n : Nat) : Int) = (sh : Int) := by omega
  have hle : sh ≤ 64 := by omega
  have w1 : IntKind.u64.wrap (n : Int) = (n : Int) := by rw [IntKind.wrap_u64]; omega
  have w2 : IntKind.u64.wrap ((Lib.bitLen n : Nat) : Int) = ((Lib.bitLen n : Nat) : Int) := by rw [IntKind.wrap_u64]; omega
  have w3 : IntKind.u64.wrap (sh : Int) = (sh : Int) := by rw [IntKind.wrap_u64]; omega
  have HR := hR
  clear hR hbl
  generalize Lib.bitLen n = bl at *
  go_enter Try.func28, Try.ntmps28
  go_wp2
  go_quiet_grown (first | (go_at_call 30; refine Calls.grown_of (hcall _ _)))
  obtain ⟨W, hW⟩ : ∃ W, W = grow ((w.alloc (.cells (enc x).toArray 26)).drewN nq) osq := ⟨_, rfl⟩
  have hgW : Grew w W := by rw [hW]; exact ((Grew.refl w).alloc _).trans ⟨_, _, rfl⟩
  have hgB : Grew (w.alloc (.cells (enc x).toArray 26)) W := by rw [hW]; exact ⟨_, _, rfl⟩
  have hRs : R < w.heap.size := (Array.getElem?_eq_some_iff.1 HR).1
  have hRW := (hgW.below.block R hRs).trans HR
  have c3W : ∀ q os, (grow (W.drewN q) os).cell? ⟨R, 3, none⟩ = some (.int .u64 (sh : Nat)) := fun q os => cell_grown (Nat.lt_of_lt_of_le hRs hgW.below.size) (by rw [cell_of_row _ _ _ _ _ _ hRW]; rfl) q os
  have hboxW : Hid (∀ w', (∃ p : GrownBy, w' = grow (W.drewN p.n) p.os) → w'.rangeAt w.heap.size 0 (enc x)) := by
    rintro w' ⟨p, rfl⟩
    have h2 : Grew (w.alloc (.cells (enc x).toArray 26)) (grow (W.drewN p.n) p.os) := hgB.trans ⟨_, _, rfl⟩
    intro j v hv
    rw [World.cell?_of_block (w := w.alloc (.cells (enc x).toArray 26)) (h2.below.block w.heap.size (by simp))]
    exact range_new x w 26 j v hv
  have hheadW : Hid (∀ q os, Calls Try.prog 17 #[.agg (enc x).toArray] (grow (W.drewN q) os) fun e w' => e = .returned (.int .u64 (pre x 8 : Nat)) ∧ ∃ q' os', w' = grow ((grow (W.drewN q) os).drewN q') os') := fun q os => head_any x hx _
  rw [← hW]
  clear hW c0 c3 hcall
  have hdv := div_form (pre x 8) sh hle
  have hdv2 : ((pre x 8 : Nat) : Int) / 2 ^ sh = ((pre x 8 / 2 ^ sh : Nat) : Int) := by push_cast; rfl
  rw [hse] at hdv hdv2
  clear hse
  generalize pre x 8 = p at *
  have ws : IntKind.u64.wrap ((s0 : Int) + 1) = (s0 : Int) + 1 := by rw [IntKind.wrap_u64]; omega
  have ws0 : IntKind.u64.wrap (s0 : Int) = (s0 : Int) := by rw [IntKind.wrap_u64]; omega
  go_wp2
  refine wp_region_quiet_grown hmix (by kernel_rfl) ?_
  repeat (first | ((with_reducible refine quiet_load_mid ?_ 26 (.tmp 4) ?_ w.heap.size 0 ?_ (enc x) _ hboxW.out Try.underlying26 ?_ (sz26 _) ?_); (focus go_simp); rfl; rfl; rfl) | quiet_step ((go_at_call 17; refine Calls.grown_of (hheadW.out _ _))))
  refine wpQuiet_nil ?_
  intro _ hw'
  obtain ⟨⟨nq2, osq2⟩, hw''⟩ := hw'
  subst hw''
  have hC0 := Ct.start (hgW.trans ⟨nq2, osq2, rfl⟩) hI
  clear hheadW hboxW c3W
  go_wp2
  generalize grow (W.drewN nq2) osq2 = Wl at *
  clear hgW hgB hRW hI
  have HC1 : Hid (∀ t, s0 < t → 1 ≤ c t) := hc1
  clear hc1 hdv hdv2
  go_loopw [6] (fun v wr => ∃ s : Nat, s0 + 1 ≤ s ∧ s ≤ m + 1 ∧ v = .int .u64 s ∧ Ct w I m (fun t => .int .i32 ((if s0 < t ∧ t < s then c t - 1 else c t : Nat) : Int)) wr) (fun v _ => m + 1 - (intOf v).toNat)
  case atStart =>
    refine ⟨s0 + 1, by omega, by omega, by go_num, hC0.congr fun t _ => ?_⟩
    rw [if_neg (by omega)]
  case round =>
    clear hC0
    obtain ⟨s, hs1, hs2, rfl, hC⟩ := hrel
    have hRr := (hC.oth R hRs (Ne.symm hIR)).trans HR
    have c2 : wr.cell? ⟨R, 2, none⟩ = some (.slice (some ⟨I, 0, none⟩) (m + 1) (m + 1)) := by rw [cell_of_row _ _ _ _ _ _ hRr]; rfl
    have wm : IntKind.u64.wrap ((m : Int) + 1) = (m : Int) + 1 := by rw [IntKind.wrap_u64]; omega
    have wss : IntKind.u64.wrap ((s : Int) + 1) = (s : Int) + 1 := by rw [IntKind.wrap_u64]; omega
    by_cases hsm : s < m + 1
    · have hcl := hC.row.cell hsm
      have hfz := hC.row.frozen s
      rw [if_neg (by omega)] at hcl
      have h1 := HC1.out s (by omega)
      have h2 := hc s
      have wc : IntKind.i32.wrap ((c s : Int) + -1) = ((c s - 1 : Nat) : Int) := by rw [IntKind.wrap_i32]; omega
      have HN : Hid (Ct w I m (fun t => .int .i32 ((if s0 < t ∧ t < s + 1 then c t - 1 else c t : Nat) : Int)) (wr.setCell ⟨I, s, none⟩ (.int .i32 ((c s - 1 : Nat) : Int)))) := by
        refine (hC.set s _).congr fun t _ => ?_
        by_cases e : t = s
        · subst e; rw [if_pos rfl, if_pos (by omega)]
        · rw [if_neg e]
          by_cases h : s0 < t ∧ t < s
          · rw [if_pos h, if_pos (by omega)]
          · rw [if_neg h, if_neg (by omega)]
      clear hC hRr
      generalize c s - 1 = v at *
      generalize c s = u at *
      go_wp2
      go_roundw
      case rel => exact ⟨s + 1, by omega, by omega, by go_num, HN.out⟩
      case measure => simp [intOf]; omega
    · go_wp2
      go_end0
      refine ⟨rfl, hC.congr fun t ht => ?_⟩
      by_cases h : s0 < t
      · rw [if_pos h, if_pos (by omega)]
      · rw [if_neg h, if_neg (by omega)]
end Go.Proofs.Qxb6626435a
