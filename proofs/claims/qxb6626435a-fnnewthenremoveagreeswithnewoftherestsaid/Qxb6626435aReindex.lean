import Derived.Test.Qxb6626435aCompare
import Derived.Test.Qxb6626435aShelf
namespace Go.Proofs.Qxb6626435a
open Go.RowKit Go.Sort
set_option linter.unusedVariables false

theorem bitsLen_any (n : Nat) (h : n ≤ 65536) (w : World) : Calls Try.prog 30 #[.int .u64 (n : Int)] w fun e w' => e = .returned (.int .i64 (Lib.bitLen n : Nat)) ∧ w = w' := by
  have hcon := Any.bits_Len Try.bitsLen2 (n : Int) w (by omega) (by omega)
  change Calls Try.prog 30 _ _ _ at hcon
  refine hcon.mono ?_
  rintro e w' ⟨rfl, rfl⟩
  exact ⟨by rw [Int.toNat_natCast], rfl⟩

theorem bitLen_small (n : Nat) (h : n ≤ 65536) : Lib.bitLen n ≤ 17 := Lib.bitLen_le n 17 (by omega) (by omega)

theorem info21 : (Try.prog.info? 21).map (fun i => (i.zero, i.size, i.bytes)) = some (some (.int .i32 0), 1, 4) := by kernel_rfl
theorem make43 (m : Nat) (hm : m ≤ 131072) (w : World) :
    (Instr.makeSlice 43 (.int .i64 ((m : Int) + 1)) (.int .i64 ((m : Int) + 1))).run Try.prog w = .ok (.slice (some ⟨w.heap.size, 0, none⟩) (m + 1) (m + 1)) (w.alloc (.cells (madeCells #[.int .i32 0] (m + 1)) 21)) :=
  run_make_row' 43 21 (.int .i32 0) 4 Try.underlying43 info21 rfl .i64 .i64 (m + 1) (by omega) (by omega) w

theorem div_form (x sh : Nat) (h : sh ≤ 64) : ((x : Int) / 2 ^ min sh 64) = ((x / 2 ^ sh : Nat) : Int) := by
  rw [Nat.min_eq_left h]; push_cast; rfl
theorem firsts_step (hs : List Nat) (sh s i : Nat) (hi : i < hs.length) (h : ∀ t (ht : t < hs.length), t < i → hs[t] / 2 ^ sh < s) (hq : hs[i] / 2 ^ sh < s) : ∀ t (ht : t < hs.length), t < i + 1 → hs[t] / 2 ^ sh < s := by
  intro t ht h2
  by_cases e : t = i
  · subst e; exact hq
  · exact h t ht (by omega)

/-- how many heads lie in the slices below s -/
def below (hs : List Nat) (sh s : Nat) : Nat := (hs.filter fun h => decide (h / 2 ^ sh < s)).length
theorem below_le (hs : List Nat) (sh s : Nat) : below hs sh s ≤ hs.length := List.length_filter_le _ _
/-- of sorted heads: the first i lie below s, the next does not -/
theorem below_eq (hs : List Nat) (sh s i : Nat) (hi : i ≤ hs.length) (hsr : hs.Pairwise (· ≤ ·)) (h1 : ∀ t (ht : t < hs.length), t < i → hs[t] / 2 ^ sh < s) (h2 : ∀ (h : i < hs.length), ¬ hs[i] / 2 ^ sh < s) : below hs sh s = i := by
  unfold below
  have e : hs = hs.take i ++ hs.drop i := (List.take_append_drop i hs).symm
  have e1 : (hs.take i).filter (fun h => decide (h / 2 ^ sh < s)) = hs.take i := by
    rw [List.filter_eq_self]
    intro a ha
    obtain ⟨t, ht, rfl⟩ := List.getElem_of_mem ha
    rw [List.length_take] at ht
    rw [List.getElem_take]
    exact decide_eq_true (h1 t (by omega) (by omega))
  have e2 : (hs.drop i).filter (fun h => decide (h / 2 ^ sh < s)) = [] := by
    rw [List.filter_eq_nil_iff]
    intro a ha
    obtain ⟨t, ht, rfl⟩ := List.getElem_of_mem ha
    rw [List.length_drop] at ht
    rw [List.getElem_drop]
    have hle : hs[i] ≤ hs[i + t] := by
      by_cases h0 : t = 0
      · subst h0; exact Nat.le_refl _
      · exact List.pairwise_iff_getElem.1 hsr i (i + t) (by omega) (by omega) (by omega)
    have := h2 (by omega)
    have hd : hs[i] / 2 ^ sh ≤ hs[i + t] / 2 ^ sh := Nat.div_le_div_right hle
    simp only [decide_eq_true_eq]
    omega
  have e3 : hs.filter (fun h => decide (h / 2 ^ sh < s)) = hs.take i := by
    conv => lhs; rw [e]
    rw [List.filter_append, e1, e2, List.append_nil]
  rw [e3, List.length_take]
  omega

/-- WHAT reindex KNOWS OF THE WORLD: of what was there the ring's own block alone has turned; the index is the first new block -/
structure Ri (w : World) (R m sh : Nat) (vm vh : Value) (f : Nat → Value) (wr : World) : Prop where
  oth : ∀ k, k < w.heap.size → k ≠ R → wr.heap[k]? = w.heap[k]?
  os : wr.os = w.os
  tape : wr.tape = w.tape
  output : wr.output = w.output
  lt : R < w.heap.size
  ring : wr.heap[R]? = some (.cells #[vm, vh, .slice (some ⟨w.heap.size, 0, none⟩) (m + 1) (m + 1), .int .u64 (sh : Nat)] 46 (0, 0))
  row : wr.rowIs w.heap.size 21 (m + 1) f
namespace Ri
variable {w wr : World} {R m sh : Nat} {vm vh : Value} {f g : Nat → Value}
theorem drewN (h : Ri w R m sh vm vh f wr) (n : Nat) : Ri w R m sh vm vh f (wr.drewN n) := by
  have hb : Below wr.heap.size wr (wr.drewN n) := below_drewN (Below.refl _ _) n
  have hR := (Array.getElem?_eq_some_iff.1 h.ring).1
  have hsz := h.row.lt
  exact ⟨fun k hk hne => (hb.block k (by omega)).trans (h.oth k hk hne), hb.os.trans h.os, hb.tape.trans h.tape, hb.output.trans h.output, h.lt, (hb.block R hR).trans h.ring, h.row.of_block (hb.block _ hsz)⟩
theorem set (h : Ri w R m sh vm vh f wr) (i : Nat) (v : Value) : Ri w R m sh vm vh (fun j => if j = i then v else f j) (wr.setCell ⟨w.heap.size, i, none⟩ v) :=
  ⟨fun k hk hne => (Below.heap_setCell _ _ _ _ (by show k ≠ w.heap.size; omega)).trans (h.oth k hk hne), h.os, h.tape, h.output, h.lt, (Below.heap_setCell _ _ _ _ (by have := h.lt; show R ≠ w.heap.size; omega)).trans h.ring, h.row.set i v⟩
theorem congr (h : Ri w R m sh vm vh f wr) (e : ∀ i, i < m + 1 → f i = g i) : Ri w R m sh vm vh g wr := ⟨h.oth, h.os, h.tape, h.output, h.lt, h.ring, h.row.congr e⟩
theorem c1 (h : Ri w R m sh vm vh f wr) : wr.cell? ⟨R, 1, none⟩ = some vh := by rw [cell_of_row _ _ _ _ _ _ h.ring]; rfl
theorem c2 (h : Ri w R m sh vm vh f wr) : wr.cell? ⟨R, 2, none⟩ = some (.slice (some ⟨w.heap.size, 0, none⟩) (m + 1) (m + 1)) := by rw [cell_of_row _ _ _ _ _ _ h.ring]; rfl
theorem c3 (h : Ri w R m sh vm vh f wr) : wr.cell? ⟨R, 3, none⟩ = some (.int .u64 (sh : Nat)) := by rw [cell_of_row _ _ _ _ _ _ h.ring]; rfl
theorem cell (h : Ri w R m sh vm vh f wr) {b o : Nat} {v : Value} (hb : b ≠ R) (hc : w.cell? ⟨b, o, none⟩ = some v) : wr.cell? ⟨b, o, none⟩ = some v := by
  rw [World.cell?_of_block (w := w) (h.oth b (World.block_lt_of_cell? w _ hc) hb)]; exact hc
theorem below (h : Ri w R m sh vm vh f wr) {B : Nat} (hB : B ≤ R) : Below B w wr := ⟨h.os, h.tape, h.output, Nat.le_of_lt h.row.lt, fun k hk => h.oth k (by have := h.lt; omega) (by omega)⟩
theorem start {v2 v3 : Value} (hR : w.heap[R]? = some (.cells #[vm, vh, v2, v3] 46 (0, 0))) (m sh : Nat) :
    Ri w R m sh vm vh (fun _ => .int .i32 0) (((w.setCell ⟨R, 3, none⟩ (.int .u64 (sh : Nat))).setCell ⟨R, 2, none⟩ (.slice (some ⟨w.heap.size, 0, none⟩) (m + 1) (m + 1))).alloc (.cells (madeCells #[.int .i32 0] (m + 1)) 21)) := by
  have hlt := (Array.getElem?_eq_some_iff.1 hR).1
  have e1 := heap_setCell_same w R 3 _ 46 (.int .u64 (sh : Nat)) hR
  have e2 := heap_setCell_same _ R 2 _ 46 (.slice (some ⟨w.heap.size, 0, none⟩) (m + 1) (m + 1)) e1
  refine ⟨fun k hk hne => ?_, rfl, rfl, rfl, hlt, ?_, ?_⟩
  · rw [Below.heap_alloc _ _ _ (by simpa using hk), Below.heap_setCell _ _ _ _ hne, Below.heap_setCell _ _ _ _ hne]
  · rw [Below.heap_alloc _ _ _ (by simpa using hlt), e2]; rfl
  · simpa using World.rowIs_made ((w.setCell ⟨R, 3, none⟩ (.int .u64 (sh : Nat))).setCell ⟨R, 2, none⟩ (.slice (some ⟨w.heap.size, 0, none⟩) (m + 1) (m + 1))) (.int .i32 0) (m + 1) 21
end Ri

set_option maxHeartbeats 1000000 in
set_option maxRecDepth 100000 in
theorem reindex_core (R H n cm ch bl m sh : Nat) (am : Option Addr) (vi vs : Value) (hs : List Nat) (w : World) (hn : n ≤ 65536) (hl : hs.length = n) (hlt : ∀ h ∈ hs, h < 18446744073709551616) (hsr : hs.Pairwise (· ≤ ·))
    (hbl : bl ≤ 17) (hsh : sh + bl = 64) (hm1 : 1 ≤ m) (hm : m ≤ 131072) (hpow : wrap64 ((2 : Int) ^ bl) = (m : Int)) (hlen : ∀ W, Calls Try.prog 30 #[.int .u64 (n : Int)] W fun e w' => e = .returned (.int .i64 (bl : Int)) ∧ W = w')
    (hR : w.heap[R]? = some (.cells #[.slice am n cm, .slice (some ⟨H, 0, none⟩) n ch, vi, vs] 46 (0, 0))) (hHR : H ≠ R) (hH : ∀ i (hi : i < n), w.cell? ⟨H, i, none⟩ = some (.int .u64 (hs[i] : Nat))) :
    Calls Try.prog 18 #[.pointer (some ⟨R, 0, none⟩)] w fun e w' => e = .returned (.tuple #[]) ∧ Ri w R m sh (.slice am n cm) (.slice (some ⟨H, 0, none⟩) n ch) (fun t => .int .i32 (below hs sh t : Nat)) w' := by
  have c0 : w.cell? ⟨R, 0, none⟩ = some (.slice am n cm) := by rw [cell_of_row _ _ _ _ _ _ hR]; rfl
  have c1 : w.cell? ⟨R, 1, none⟩ = some (.slice (some ⟨H, 0, none⟩) n ch) := by rw [cell_of_row _ _ _ _ _ _ hR]; rfl
  have c2 : w.cell? ⟨R, 2, none⟩ = some vi := by rw [cell_of_row _ _ _ _ _ _ hR]; rfl
  have c3 : w.cell? ⟨R, 3, none⟩ = some vs := by rw [cell_of_row _ _ _ _ _ _ hR]; rfl
  have f2 : w.frozen? ⟨R, 2, none⟩ = false := frozen_of_row _ _ _ _ _ hR
  have f3 : w.frozen? ⟨R, 3, none⟩ = false := frozen_of_row _ _ _ _ _ hR
  have hRs : R < w.heap.size := (Array.getElem?_eq_some_iff.1 hR).1
  have hmk := make43 m hm
  have hsub : (64 : Int) - (bl : Int) = (sh : Int) := by omega
  have HSH : Hid (sh + bl = 64) := hsh
  clear hsh
  go_enter Try.func18, Try.ntmps18
  go_wp2_with (go_at_call 30; refine (hlen _).mono ?_; rintro e w' ⟨rfl, rfl⟩)
  have hI := Ri.start hR m sh
  clear c0 c1 c2 c3 f2 f3 hmk hlen hsub hpow
  go_loopw [3, 30] (fun vi vs wr => ∃ (s i : Nat) (f : Nat → Value), vi = .int .i64 i ∧ vs = .int .i64 s ∧ s ≤ m + 1 ∧ i ≤ n ∧ Ri w R m sh (.slice am n cm) (.slice (some ⟨H, 0, none⟩) n ch) f wr ∧ Hid (∀ t (ht : t < hs.length), t < i → hs[t] / 2 ^ sh < s) ∧ Hid (∀ t, t < s → f t = .int .i32 (below hs sh t : Nat))) (fun _ vs _ => m + 1 - (intOf vs).toNat)
  case atStart => exact ⟨0, 0, _, rfl, rfl, by omega, by omega, hI, fun t _ h => by omega, fun t h => by omega⟩
  case round =>
    clear hI
    obtain ⟨s, i, f, rfl, rfl, hs1, hi1, hI, hp, hf⟩ := hrel
    by_cases hsm : s < m + 1
    · have STEP : Hid (∀ i : Nat, (∀ t (ht : t < hs.length), t < i → hs[t] / 2 ^ sh < s) → ∀ t (ht : t < hs.length), t < i → hs[t] / 2 ^ sh < s + 1) := fun i h t ht h2 => Nat.lt_succ_of_lt (h t ht h2)
      have SET : Hid (∀ i : Nat, below hs sh s = i → ∀ t, t < s + 1 → (fun j => if j = s then Value.int .i32 (i : Int) else f j) t = .int .i32 (below hs sh t : Nat)) := by
        intro i h t ht
        by_cases e : t = s
        · subst e; show (if t = t then _ else _) = _; rw [if_pos rfl, h]
        · show (if t = s then _ else _) = _; rw [if_neg e]; exact hf.out t (by omega)
      clear hf
      go_wp2
      go_loopw [3] (fun vi wr => ∃ i : Nat, vi = .int .i64 i ∧ i ≤ n ∧ Ri w R m sh (.slice am n cm) (.slice (some ⟨H, 0, none⟩) n ch) f wr ∧ Hid (∀ t (ht : t < hs.length), t < i → hs[t] / 2 ^ sh < s)) (fun vi _ => n - (intOf vi).toNat)
      case atStart => exact ⟨i, rfl, hi1, hI, hp⟩
      case round =>
        clear hI hp hi1
        obtain ⟨i, rfl, hi1, hI, hp⟩ := hrel
        have c1 := hI.c1
        have c3 := hI.c3
        have hi4 : (i : Int) ≤ 65536 := by omega
        by_cases hin : i < n
        · have hc := hI.cell hHR (hH i hin)
          have hi2 : i < hs.length := by omega
          have hx := hlt _ (List.getElem_mem hi2)
          by_cases hq : hs[i] / 2 ^ sh < s
          · have HN : Hid (∀ t (ht : t < hs.length), t < i + 1 → hs[t] / 2 ^ sh < s) := firsts_step hs sh s i hi2 hp.out hq
            have hd : (hs[i] : Int) / 2 ^ min sh 64 < (s : Int) := by rw [div_form _ _ (by have := HSH.out; omega)]; exact Int.ofNat_lt.2 hq
            clear hq
            generalize hs[i] = x at *
            go_wp2
            go_quiet (fail)
            go_wp2
            go_roundw
            case rel => exact ⟨i + 1, by go_num, by omega, hI.drewN _, HN⟩
            case measure => simp [intOf]; omega
          · have HB : Hid (below hs sh s = i) := below_eq hs sh s i (by omega) hsr hp.out (fun _ => hq)
            have hd : decide ((hs[i] : Int) / 2 ^ min sh 64 < (s : Int)) = false := by rw [div_form _ _ (by have := HSH.out; omega)]; exact decide_eq_false (by omega)
            have c2 := hI.c2
            have cI := hI.row.cell hsm
            have fI := hI.row.frozen s
            clear hq
            generalize hs[i] = x at *
            go_wp2
            go_quiet (fail)
            go_wp2
            go_roundw
            case rel => exact ⟨s + 1, i, _, rfl, by go_num, by omega, by omega, (hI.drewN _).set s _, STEP.out i hp.out, SET.out i HB.out⟩
            case measure => simp [intOf]; omega
        · have hd : decide ((i : Int) < (n : Int)) = false := by simp; omega
          have HB : Hid (below hs sh s = i) := below_eq hs sh s i (by omega) hsr hp.out (fun h => by omega)
          have c2 := hI.c2
          have cI := hI.row.cell hsm
          have fI := hI.row.frozen s
          go_wp2
          go_quiet (fail)
          go_wp2
          go_roundw
          case rel => exact ⟨s + 1, i, _, rfl, by go_num, by omega, by omega, (hI.drewN _).set s _, STEP.out i hp.out, SET.out i HB.out⟩
          case measure => simp [intOf]; omega
    · obtain rfl : s = m + 1 := by omega
      go_wp2
      go_end0
      exact ⟨rfl, hI.congr hf.out⟩

theorem pow_small (bl : Nat) (h : bl ≤ 17) : 1 ≤ 2 ^ bl ∧ 2 ^ bl ≤ 131072 :=
  ⟨Nat.pow_pos (by decide), Nat.le_trans (Nat.pow_le_pow_right (by decide) h) (by decide)⟩
theorem wrap_pow (bl : Nat) (h : bl ≤ 17) : wrap64 ((2 : Int) ^ bl) = ((2 ^ bl : Nat) : Int) := by
  have h2 := pow_small bl h
  have e : ((2 : Int) ^ bl) = ((2 ^ bl : Nat) : Int) := by push_cast; rfl
  rw [e, IntWalk.wrap64_in _ ⟨by omega, by omega⟩]

theorem reindex_any (R H n cm ch : Nat) (am : Option Addr) (vi vs : Value) (hs : List Nat) (w : World) (hn : n ≤ 65536) (hl : hs.length = n) (hlt : ∀ h ∈ hs, h < 18446744073709551616) (hsr : hs.Pairwise (· ≤ ·))
    (hR : w.heap[R]? = some (.cells #[.slice am n cm, .slice (some ⟨H, 0, none⟩) n ch, vi, vs] 46 (0, 0))) (hHR : H ≠ R) (hH : ∀ i (hi : i < n), w.cell? ⟨H, i, none⟩ = some (.int .u64 (hs[i] : Nat))) :
    Calls Try.prog 18 #[.pointer (some ⟨R, 0, none⟩)] w fun e w' => e = .returned (.tuple #[]) ∧ Ri w R (2 ^ Lib.bitLen n) (64 - Lib.bitLen n) (.slice am n cm) (.slice (some ⟨H, 0, none⟩) n ch) (fun t => .int .i32 (below hs (64 - Lib.bitLen n) t : Nat)) w' := by
  have hb := bitLen_small n hn
  have hp := pow_small _ hb
  exact reindex_core R H n cm ch (Lib.bitLen n) (2 ^ Lib.bitLen n) (64 - Lib.bitLen n) am vi vs hs w hn hl hlt hsr hb (by omega) hp.1 hp.2 (wrap_pow _ hb) (bitsLen_any n hn) hR hHR hH
end Go.Proofs.Qxb6626435a
