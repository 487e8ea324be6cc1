import Derived.Test.Qxb6626435aBytes
import Derived.Laws.Tables
import Derived.Test.Qxb6626435aSort0
namespace Go.Proofs.Qxb6626435a
open Go.RowKit Go.Sort
set_option linter.unusedVariables false

theorem make24 (n : Nat) (hn : n ≤ 65536) (w : World) :
    (Instr.makeSlice 24 (.int .i64 (n : Int)) (.int .i64 (n : Int))).run Try.prog w = .ok (.slice (some ⟨w.heap.size, 0, none⟩) n n) (w.alloc (.cells (madeCells (enc 0).toArray (n * 20)) 26)) := by
  obtain ⟨i, hi, hz, hs, hb⟩ := info_parts info26
  have hr := run_make (P := Try.prog) w 24 26 i (.agg (enc 0).toArray) Try.underlying24 hi hz .i64 .i64 (n : Int) (n : Int) (by omega) (by omega) (by rw [hb]; omega) (by omega)
  simp only [Int.toNat_natCast, hs] at hr
  exact hr

/-- ONE ROW OF THE LAW's OWN: block A holds es -/
structure One (w : World) (n A : Nat) (es : List Nat) (wr : World) : Prop where
  bel : Below w.heap.size w wr
  hA : w.heap.size ≤ A
  row : Row wr A 0 es
  th : wr.there A 0 (n * 20)
  len : es.length = n

theorem One.made (w : World) (n : Nat) (t : TypeId) : One w n w.heap.size (List.replicate n 0) (w.alloc (.cells (madeCells (enc 0).toArray (n * 20)) t)) where
  bel := (Below.refl _ _).alloc (Nat.le_refl _) _
  hA := Nat.le_refl _
  row := made_row w n t
  th := made_there w _ _ t
  len := List.length_replicate ..
theorem One.set {w wr : World} {n A : Nat} {es : List Nat} (h : One w n A es wr) (i y : Nat) (hi : i < n) : One w n A (es.set i y) (wr.setCells A (i * 20) (enc y)) where
  bel := below_setCells h.bel _ _ _ h.hA
  hA := h.hA
  row := h.row.set (by rw [h.len]; exact h.th) i y (by rw [h.len]; exact hi)
  th := World.there_setCells h.th _ _ _
  len := by rw [List.length_set, h.len]

/-- a ring in blocks from B on stays where those blocks stay -/
theorem RingAt.stay {B R M H I cm : Nat} {ys : List Nat} {w w' : World} (h : RingAt B ys R M H I cm w) (hk : ∀ k, B ≤ k → w'.heap[k]? = w.heap[k]?) : RingAt B ys R M H I cm w' where
  ring := by rw [hk R (by have := h.b1; have := h.b2; have := h.b3; omega)]; exact h.ring
  mem := h.mem.block (hk M h.b1)
  thM := there_block h.thM (hk M h.b1)
  heads := h.heads.of_block (hk H (by have := h.b1; have := h.b2; omega))
  idx := h.idx.of_block (hk I (by have := h.b1; have := h.b2; have := h.b3; have := h.b4; omega))
  b1 := h.b1
  b2 := h.b2
  b3 := h.b3
  b4 := h.b4
  c1 := h.c1
  c2 := h.c2

theorem sorted_one (l1 l2 xs : List Nat) (h1 : l1.Perm xs) (h2 : l2.Perm xs) (s1 : l1.Pairwise (· ≤ ·)) (s2 : l2.Pairwise (· ≤ ·)) : l1 = l2 :=
  List.Perm.eq_of_pairwise (fun a b _ _ h k => Nat.le_antisymm h k) s1 s2 (h1.trans h2.symm)

theorem built26 : (Try.prog.built 26 []).getD #[] = (enc 0).toArray := by kernel_rfl
/-- 'ID{}' -/
theorem build26 {ops : Array Oper} {rest : List Oper} {o : Oper} {a : Act} {w : World} {Q : Exit → Act → World → Prop} (hg : o.guard = none) (ho : o.op = .build 26 #[])
    (h : wpList Try.prog ops Q rest (a.put o.dst (.agg (enc 0).toArray)) w) : wpList Try.prog ops Q (o :: rest) a w := by
  refine wpList_build hg 26 #[] ho (by kernel_rfl) ?_
  have e : (Try.prog.built 26 ((#[] : Array (Nat × Operand)).map fun (i, x) => (i, a.eval x)).toList).getD #[] = (enc 0).toArray := by
    have e0 : ((#[] : Array (Nat × Operand)).map fun (i, x) => (i, a.eval x)).toList = [] := by simp
    rw [e0, built26]
  rw [e]
  exact h
/-- what the law knows while it overwrites its slice A -/
structure Over (w0 : World) (B n A S : Nat) (ys : List Nat) (R M H I cm : Nat) (w : World) : Prop where
  bel : Below w0.heap.size w0 w
  hA : w0.heap.size ≤ A
  ab : A < B
  as' : A ≠ S
  th : w.there A 0 (n * 20)
  ring : RingAt B ys R M H I cm w
  row : Row w S 0 ys
  lt : S < w.heap.size
theorem Over.set {w0 w : World} {B n A S R M H I cm : Nat} {ys : List Nat} (h : Over w0 B n A S ys R M H I cm w) (o : Nat) (vs : List Value) : Over w0 B n A S ys R M H I cm (w.setCells A o vs) where
  bel := below_setCells h.bel _ _ _ h.hA
  hA := h.hA
  ab := h.ab
  as' := h.as'
  th := World.there_setCells h.th _ _ _
  ring := h.ring.stay fun k hk => setCells_block A o vs w k (by have := h.ab; omega)
  row := h.row.other _ _ _ (Ne.symm h.as')
  lt := Nat.lt_of_lt_of_le h.lt (below_setCells (Below.refl 0 w) A o vs (Nat.zero_le _)).size

set_option maxHeartbeats 1000000 in
set_option maxRecDepth 100000 in
theorem lawA_some (b off c : Nat) (xs : List Nat) (n : Nat) (hx : xs.length = n) (hn0 : 0 < n) (hlt : ∀ x ∈ xs, x < top) (w : World) (hb : b < w.heap.size) (hr : Row w b off xs) :
    Calls Try.prog 3 #[.slice (some ⟨b, off, none⟩) n c] w fun e w' => e = .returned (.bool true) ∧ Below w.heap.size w w' := by
  have hnil : ∀ W, (binOp .neq 22 (.slice (some ⟨b, off, none⟩) n c) (.slice none 0 0)).run Try.prog W = .ok (.bool true) W := fun W => run_neq_slice_nil (P := Try.prog) W 22 25 _ n c Try.underlying22
  go_enter Try.func3, Try.ntmps3
  go_wp2_with fail
  refine (bytes_any _ _ _ _).mono ?_
  rintro e w' ⟨⟨bb, rfl⟩, rfl⟩
  cases bb with
  | false =>
    go_wp2
    go_ret
    exact ⟨rfl, Below.refl _ _⟩
  | true =>
  by_cases hn : n ≤ 32768
  case neg =>
    go_wp2
    go_ret
    exact ⟨rfl, Below.refl _ _⟩
  have hmk := make24 n (by omega)
  have HO := One.made w n 26
  go_wp2
  go_loopw [4] (fun i wr => ∃ (j : Nat) (es : List Nat), j ≤ n ∧ i = .int .i64 j ∧ One w n w.heap.size es wr ∧ Hid (es.take j = xs.take j)) (fun i _ => n - (intOf i).toNat)
  case atStart => exact ⟨0, _, by omega, rfl, HO, rfl⟩
  case round =>
    clear HO hmk
    obtain ⟨j, ss, hj, rfl, hT, he⟩ := hrel
    by_cases hlt2 : j < n
    · have hjx : j < xs.length := by omega
      have HLD : Hid (wr.rangeAt b (off + j * 20) (enc xs[j])) := (hr.below hT.bel hb).at j hjx
      have HST : Hid (wr.there w.heap.size (j * 20) 20) := there_at hT.th j hlt2
      have HT : Hid (One w n w.heap.size (ss.set j xs[j]) (wr.setCells w.heap.size (j * 20) (enc xs[j]))) := hT.set j _ hlt2
      have HE : Hid ((ss.set j xs[j]).take (j + 1) = xs.take (j + 1)) := copy_step ss xs j (by rw [hT.len]; exact hlt2) hjx he.out
      clear hT he
      generalize xs[j] = x at *
      go_wp2_with (first | ((with_reducible refine wpList_load_mid ?_ 25 (.tmp 29) ?_ b (off + j * 20) ?_ (enc x) _ HLD.out Try.underlying25 ?_ (sz25 x) ?_); rfl; rfl; rfl; rfl) | ((with_reducible refine wpList_store_mid ?_ 26 (.tmp 31) (.tmp 30) ?_ w.heap.size (j * 20) (enc x).toArray ?_ ?_ (th25 x HST.out) (sz26' x) (all_oneCell_toArray (enc_one x)) ?_); rfl; rfl; rfl; rfl))
      go_roundw
      case rel => exact ⟨j + 1, _, by omega, by go_num, HT.out, HE⟩
      case measure => simp [intOf]; omega
    · obtain rfl : j = n := by omega
      have hss : xs = ss := (copy_done ss xs j hT.len hx he.out).symm
      subst hss
      clear he hlt2
      have hA1 : w.heap.size < wr.heap.size := there_lt hT.th (by omega)
      go_wp2_with fail
      refine (sort_some b off c xs j hx hn0 (by omega) hlt wr (Nat.lt_of_lt_of_le hb hT.bel.size) (hr.below hT.bel hb)).mono ?_
      rintro e w2 ⟨S, ys, rfl, hS0, hS1, hSr, hP1, hs1, hb2⟩
      go_wp2_with fail
      refine (new_some w.heap.size 0 j j xs hx hn0 (by omega) hlt w2 (hT.row.below hb2 hA1)).mono ?_
      rintro e w3 ⟨R, M, H, I, cm, zs, rfl, hzl, hP2, hs2, hRing, hb3⟩
      have hyz : zs = ys := sorted_one _ _ _ hP2 hP1 hs2 hs1
      subst hyz
      have HV : Over w w2.heap.size j w.heap.size S zs R M H I cm w3 := {
        bel := (hT.bel.trans (hb2.mono hT.bel.size)).trans (hb3.mono (Nat.le_trans hT.bel.size hb2.size))
        hA := Nat.le_refl _
        ab := Nat.lt_of_lt_of_le hA1 hb2.size
        as' := by omega
        th := there_block (there_block hT.th (hb2.block _ hA1)) (hb3.block _ (Nat.lt_of_lt_of_le hA1 hb2.size))
        ring := hRing
        row := hSr.below hb3 hS1
        lt := Nat.lt_of_lt_of_le hS1 hb3.size }
      have hlz : ∀ y ∈ zs, y < top := fun y hy => hlt y (hP1.mem_iff.1 hy)
      clear hP1 hP2 hs1 hs2 hSr hRing hb2 hb3 hT hnil
      go_wp2
      go_loopw [7] (fun i wr => ∃ (k : Nat), k ≤ j ∧ i = .int .i64 k ∧ Over w w2.heap.size j w.heap.size S zs R M H I cm wr) (fun i _ => j - (intOf i).toNat)
      case atStart => exact ⟨0, by omega, rfl, HV⟩
      case round =>
        clear HV
        obtain ⟨k, hk, rfl, hV⟩ := hrel
        by_cases hkj : k < j
        · have HST : Hid (wr.there w.heap.size (k * 20) 20) := there_at hV.th k hkj
          have HV := hV.set (k * 20) (enc 0)
          go_wp2_with (first | ((with_reducible refine build26 ?_ ?_ ?_); rfl; rfl) | ((with_reducible refine wpList_store_mid ?_ 26 (.tmp 47) (.tmp 46) ?_ w.heap.size (k * 20) (enc 0).toArray ?_ ?_ (th25 0 HST.out) (sz26' 0) (all_oneCell_toArray (enc_one 0)) ?_); rfl; rfl; rfl; rfl))
          go_roundw
          case rel => exact ⟨k + 1, by omega, by go_num, HV⟩
          case measure => simp [intOf]; omega
        · go_wp2_with fail
          refine (ringIs_some w2.heap.size R M H I S cm j zs j wr hzl hn0 (by omega) hlz hV.ring hV.row hV.lt).mono ?_
          rintro e w4 ⟨rfl, hb4⟩
          go_wp2
          go_ret
          exact ⟨rfl, hV.bel.trans (hb4.mono hV.bel.size)⟩

set_option maxHeartbeats 1000000 in
set_option maxRecDepth 100000 in
theorem lawA_none (a : Option Addr) (c : Nat) (w : World) :
    Calls Try.prog 3 #[.slice a 0 c] w fun e w' => e = .returned (.bool true) ∧ Below w.heap.size w w' := by
  cases a with
  | none =>
    have hnil : ∀ W, (binOp .neq 22 (.slice none 0 c) (.slice none 0 0)).run Try.prog W = .ok (.bool false) W := fun W => run_neq_slice_nil (P := Try.prog) W 22 25 _ 0 c Try.underlying22
    have hnew := new_none none 0
    simp only [Option.map_none] at *
    go_enter Try.func3, Try.ntmps3
    go_wp2_with fail
    refine (bytes_any _ _ _ _).mono ?_
    rintro e w' ⟨⟨bb, rfl⟩, rfl⟩
    cases bb with
    | false =>
      go_wp2
      go_ret
      exact ⟨rfl, Below.refl _ _⟩
    | true =>
    go_wp2_with fail
    refine (sort_none _ _ _).mono ?_
    rintro e w2 ⟨S, rfl, hb2⟩
    go_wp2_with fail
    refine (hnew _).mono ?_
    rintro e w3 ⟨R, H, I, cm, am, rfl, hR, hb3⟩
    go_wp2
    refine wp_loop_rounds 1 ?_
    rw [rounds_succ]
    go_wp2_with fail
    refine (ringIs_none w2.heap.size R H I cm 0 am _ w3 hR).mono ?_
    rintro e w4 ⟨rfl, hb4⟩
    go_wp2
    go_ret
    exact ⟨rfl, (hb2.trans (hb3.mono hb2.size)).trans (hb4.mono (Nat.le_trans hb2.size hb3.size))⟩
  | some p =>
    have hnil : ∀ W, (binOp .neq 22 (.slice (some p) 0 c) (.slice none 0 0)).run Try.prog W = .ok (.bool true) W := fun W => run_neq_slice_nil (P := Try.prog) W 22 25 _ 0 c Try.underlying22
    have hnew := new_none (some (w.heap.size, 0)) 0
    have hmk : ∀ W : World, (Instr.makeSlice 24 (.int .i64 0) (.int .i64 0)).run Try.prog W = .ok (.slice (some ⟨W.heap.size, 0, none⟩) 0 0) (W.alloc (.cells (madeCells (enc 0).toArray (0 * 20)) 26)) := make24 0 (by omega)
    simp only [Option.map_some] at *
    have hbA : Below w.heap.size w (w.alloc (.cells (madeCells (enc 0).toArray (0 * 20)) 26)) := (Below.refl _ _).alloc (Nat.le_refl _) _
    go_enter Try.func3, Try.ntmps3
    go_wp2_with fail
    refine (bytes_any _ _ _ _).mono ?_
    rintro e w' ⟨⟨bb, rfl⟩, rfl⟩
    cases bb with
    | false =>
      go_wp2
      go_ret
      exact ⟨rfl, Below.refl _ _⟩
    | true =>
    go_wp2
    refine wp_loop_rounds 1 ?_
    rw [rounds_succ]
    go_wp2_with fail
    refine (sort_none _ _ _).mono ?_
    rintro e w2 ⟨S, rfl, hb2⟩
    replace hb2 := hbA.trans (hb2.mono hbA.size)
    go_wp2_with fail
    refine (hnew _).mono ?_
    rintro e w3 ⟨R, H, I, cm, am, rfl, hR, hb3⟩
    go_wp2
    refine wp_loop_rounds 1 ?_
    rw [rounds_succ]
    go_wp2_with fail
    refine (ringIs_none w2.heap.size R H I cm 0 am _ w3 hR).mono ?_
    rintro e w4 ⟨rfl, hb4⟩
    go_wp2
    go_ret
    exact ⟨rfl, (hb2.trans (hb3.mono hb2.size)).trans (hb4.mono (Nat.le_trans hb2.size hb3.size))⟩
end Go.Proofs.Qxb6626435a
