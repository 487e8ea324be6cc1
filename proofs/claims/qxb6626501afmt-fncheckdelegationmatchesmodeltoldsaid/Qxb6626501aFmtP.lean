import Derived.Test.Qxb6626501aFmtO
namespace Go.Proofs.Qxb6626501aFmt
open Go.RowKit Go.Extern.Stop Go.Stop Go.Extern
set_option linter.unusedVariables false

def maxI : Nat := 9223372036854775807
/-- a slice's elements, nil or not -/
structure Sl (w : World) (a : Option Addr) (n : Nat) (ss : List ByteArray) : Prop where
  len : n = ss.length
  big : n ≤ 9223372036854775807
  cell : ∀ i (hi : i < ss.length), ∃ a0, a = some a0 ∧ w.cell? (a0.add i) = some (.string ss[i])
  size : ∀ i (hi : i < ss.length), ss[i].size ≤ 9223372036854775807
theorem Sl.ext {w w' : World} (hx : w.Extends w') {a : Option Addr} {n : Nat} {ss : List ByteArray} (h : Sl w a n ss) : Sl w' a n ss :=
  ⟨h.len, h.big, fun i hi => by obtain ⟨a0, e, hc⟩ := h.cell i hi; exact ⟨a0, e, hx.cell_of hc⟩, h.size⟩

theorem addLen_any (t n : Nat) (ht : t ≤ 1048577) (hn : n ≤ 9223372036854775807) (w : World) : Calls Tryf.prog 15 #[.int .i64 t, .int .i64 n] w fun e w' => (∃ r : Nat, r ≤ 1048577 ∧ e = .returned (.int .i64 r)) ∧ w = w' := by
  by_cases h1 : 1048576 < t
  · go_enter Tryf.func15, Tryf.ntmps15
    go_wp2
    go_ret
    exact ⟨⟨1048577, by omega, rfl⟩, rfl⟩
  · have hs : IntKind.i64.wrap (1048576 - (t : Int)) = 1048576 - (t : Int) := by rw [IntKind.wrap_i64]; omega
    by_cases h2 : 1048576 - t < n
    · have h2' : 1048576 - (t : Int) < (n : Int) := by omega
      go_enter Tryf.func15, Tryf.ntmps15
      go_wp2
      go_ret
      exact ⟨⟨1048577, by omega, rfl⟩, rfl⟩
    · have h2' : ¬ 1048576 - (t : Int) < (n : Int) := by omega
      have hs2 : IntKind.i64.wrap ((t : Int) + (n : Int)) = (t : Int) + (n : Int) := by rw [IntKind.wrap_i64]; omega
      go_enter Tryf.func15, Tryf.ntmps15
      go_wp2
      go_ret
      exact ⟨⟨t + n, by omega, by push_cast; rfl⟩, rfl⟩

set_option maxHeartbeats 400000 in
theorem listBytes_some (t : Nat) (ht : t ≤ 1048577) (a : Addr) (n k : Nat) (ss : List ByteArray) (w : World) (hS : Sl w (some a) n ss) :
    Calls Tryf.prog 16 #[.int .i64 t, .slice (some a) n k] w fun e w' => (∃ r : Nat, r ≤ 1048577 ∧ e = .returned (.int .i64 r)) ∧ w = w' := by
  have hbig := hS.big
  have HS : Hid (Sl w (some a) n ss) := hS
  clear hS
  by_cases h1 : 65536 < n
  · go_enter Tryf.func16, Tryf.ntmps16
    go_wp2
    go_ret
    exact ⟨⟨1048577, by omega, rfl⟩, rfl⟩
  · have hm : IntKind.i64.wrap (16 * (n : Int)) = 16 * (n : Int) := by rw [IntKind.wrap_i64]; omega
    have hA := addLen_any t (16 * n) ht (by omega)
    rw [show ((16 * n : Nat) : Int) = 16 * (n : Int) from by push_cast; rfl] at hA
    go_enter Tryf.func16, Tryf.ntmps16
    go_wp2_with (go_at_call 15; refine (hA _).mono ?_; rintro e w' ⟨⟨r0, hr0, rfl⟩, rfl⟩)
    clear hA
    go_loopw [0, 5] (fun vt vi wr => ∃ r i : Nat, r ≤ 1048577 ∧ i ≤ n ∧ vt = .int .i64 r ∧ vi = .int .i64 i ∧ wr = w) (fun vt vi _ => n - (intOf vi).toNat)
    case atStart => exact ⟨r0, 0, hr0, by omega, rfl, rfl, rfl⟩
    case round =>
      obtain ⟨r, i, hr, hi, rfl, rfl, rfl⟩ := hrel
      by_cases hin : i < n
      · by_cases hlim : 1048576 < r
        · go_wp2
          go_ret
          exact ⟨⟨r, hr, rfl⟩, rfl⟩
        · have hil : i < ss.length := by have := HS.out.len; omega
          obtain ⟨a0, ha0, hc⟩ := HS.out.cell i hil
          obtain rfl := Option.some.inj ha0
          clear ha0
          have hsz := HS.out.size i hil
          have hB := addLen_any r ss[i].size hr hsz
          generalize ss[i] = y at *
          go_wp2_with (go_at_call 15; refine (hB _).mono ?_; rintro e w' ⟨⟨r1, hr1, rfl⟩, rfl⟩)
          go_roundw
          case rel => exact ⟨r1, i + 1, hr1, by omega, rfl, by go_num, True.intro⟩
          case measure => simp [intOf]; omega
      · go_wp2
        go_ret
        exact ⟨⟨r, hr, rfl⟩, rfl⟩

theorem listBytes_none (t : Nat) (ht : t ≤ 1048577) (k : Nat) (w : World) :
    Calls Tryf.prog 16 #[.int .i64 t, .slice none 0 k] w fun e w' => (∃ r : Nat, r ≤ 1048577 ∧ e = .returned (.int .i64 r)) ∧ w = w' := by
  have hA := addLen_any t 0 ht (by omega)
  go_enter Tryf.func16, Tryf.ntmps16
  go_wp2_with (go_at_call 15; refine (hA _).mono ?_; rintro e w' ⟨⟨r0, hr0, rfl⟩, rfl⟩)
  clear hA
  go_loopw [0, 5] (fun vt vi wr => ∃ r : Nat, r ≤ 1048577 ∧ vt = .int .i64 r ∧ vi = .int .i64 0 ∧ wr = w) (fun vt vi _ => 0)
  case atStart => exact ⟨r0, hr0, rfl, rfl, rfl⟩
  case round =>
    obtain ⟨r, hr, rfl, rfl, rfl⟩ := hrel
    go_wp2
    go_ret
    exact ⟨⟨r, hr, rfl⟩, rfl⟩

theorem listBytes_any (t : Nat) (ht : t ≤ 1048577) (a : Option Addr) (n k : Nat) (ss : List ByteArray) (w : World) (hS : Sl w a n ss) :
    Calls Tryf.prog 16 #[.int .i64 t, .slice a n k] w fun e w' => (∃ r : Nat, r ≤ 1048577 ∧ e = .returned (.int .i64 r)) ∧ w = w' := by
  cases a with
  | some a => exact listBytes_some t ht a n k ss w hS
  | none =>
    have h0 : n = 0 := by
      rcases Nat.eq_zero_or_pos ss.length with h | h
      · rw [hS.len, h]
      · obtain ⟨a0, e, _⟩ := hS.cell 0 h; cases e
    subst h0
    exact listBytes_none t ht k w

/-- a capability's sizes fit an int -/
structure Fits (w : World) (d : CapD) (v : Vals) : Prop where
  means : Means w d v
  act : d.lim.action.size ≤ 9223372036854775807
  docs : Sl w v.a98 v.n98 (d.lim.docs.getD [])
  schemas : Sl w v.a99 v.n99 (d.lim.schemas.getD [])
theorem Fits.ext {w w' : World} (hx : w.Extends w') {d : CapD} {v : Vals} (h : Fits w d v) : Fits w' d v := ⟨h.means.ext hx, h.act, h.docs.ext hx, h.schemas.ext hx⟩

set_option maxHeartbeats 400000 in
theorem capBytes_any (t : Nat) (ht : t ≤ 1048577) (d : CapD) (v : Vals) (w : World) (hf : Fits w d v) :
    Calls Tryf.prog 6 #[.int .i64 t, .agg (cellsC d v).toArray] w fun e w' => (∃ r : Nat, r ≤ 1048577 ∧ e = .returned (.int .i64 r)) ∧ w.Extends w' := by
  obtain ⟨W, hW⟩ : ∃ W, W = w.alloc (.cells (cellsC d v).toArray 28) := ⟨_, rfl⟩
  have hx : w.Extends W := hW ▸ (World.Extends.refl w).alloc _
  have hr : W.rangeAt w.heap.size 0 (cellsC d v) := hW ▸ new_range w _ _
  obtain ⟨c96, c97, c98, c99, c100, c101, c102, c103, c104, c105, c106, c107⟩ := cap_cells (hf.means.ext hx) hr
  simp only [Nat.zero_add] at c97 c98 c99
  clear c96 c100 c101 c102 c103 c104 c105 c106 c107
  have hA := addLen_any t d.lim.action.size ht hf.act
  have hD : ∀ r : Nat, r ≤ 1048577 → Calls Tryf.prog 16 #[.int .i64 r, .slice v.a98 v.n98 v.k98] W fun e w' => (∃ r : Nat, r ≤ 1048577 ∧ e = .returned (.int .i64 r)) ∧ W = w' := fun r h => listBytes_any r h _ _ _ _ W (hf.docs.ext hx)
  have hS : ∀ r : Nat, r ≤ 1048577 → Calls Tryf.prog 16 #[.int .i64 r, .slice v.a99 v.n99 v.k99] W fun e w' => (∃ r : Nat, r ≤ 1048577 ∧ e = .returned (.int .i64 r)) ∧ W = w' := fun r h => listBytes_any r h _ _ _ _ W (hf.schemas.ext hx)
  replace hW := hW.symm
  clear hr hf
  go_enter Tryf.func6, Tryf.ntmps6
  go_wp2_with (first
    | (go_at_call 15; refine (hA _).mono ?_; rintro e w' ⟨⟨r0, hr0, rfl⟩, rfl⟩)
    | (go_at_call 16; with_reducible refine (hD _ hr0).mono ?_; rintro e w' ⟨⟨r1, hr1, rfl⟩, rfl⟩)
    | (go_at_call 16; with_reducible refine (hS _ hr1).mono ?_; rintro e w' ⟨⟨r2, hr2, rfl⟩, rfl⟩))
  all_goals (go_ret; first | exact ⟨⟨r0, hr0, rfl⟩, hx⟩ | exact ⟨⟨r1, hr1, rfl⟩, hx⟩ | exact ⟨⟨r2, hr2, rfl⟩, hx⟩)
end Go.Proofs.Qxb6626501aFmt
