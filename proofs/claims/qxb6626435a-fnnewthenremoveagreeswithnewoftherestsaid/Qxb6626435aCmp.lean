import Derived.Test.Qxb6626435aBE
namespace Go.Proofs.Qxb6626435a
open Go.RowKit Go.Sort
set_option linter.unusedVariables false

def sgn (x y : Int) : Int := if x < y then -1 else if y < x then 1 else 0

set_option maxHeartbeats 400000 in
theorem cmp64_any (x y : Int) (w : World) : Calls Try.prog 32 #[.int .u64 x, .int .u64 y] w fun e w' => e = .returned (.int .i64 (sgn x y)) ∧ w' = w := by
  have HS : Hid (∀ r : Int, ((x < y ∧ r = -1) ∨ (¬ x < y ∧ y < x ∧ r = 1) ∨ (¬ x < y ∧ ¬ y < x ∧ r = 0)) → r = sgn x y) := by
    intro r h; unfold sgn; rcases h with ⟨h, rfl⟩ | ⟨h, h2, rfl⟩ | ⟨h, h2, rfl⟩ <;> simp [*]
  go_enter Try.func32, Try.ntmps32
  go_wp2
  all_goals
    go_ret
    exact ⟨ret_i64 (HS.out _ (by omega)), rfl⟩
set_option maxHeartbeats 400000 in
theorem cmp32_any (x y : Int) (w : World) : Calls Try.prog 33 #[.int .u32 x, .int .u32 y] w fun e w' => e = .returned (.int .i64 (sgn x y)) ∧ w' = w := by
  have HS : Hid (∀ r : Int, ((x < y ∧ r = -1) ∨ (¬ x < y ∧ y < x ∧ r = 1) ∨ (¬ x < y ∧ ¬ y < x ∧ r = 0)) → r = sgn x y) := by
    intro r h; unfold sgn; rcases h with ⟨h, rfl⟩ | ⟨h, h2, rfl⟩ | ⟨h, h2, rfl⟩ <;> simp [*]
  go_enter Try.func33, Try.ntmps33
  go_wp2
  all_goals
    go_ret
    exact ⟨ret_i64 (HS.out _ (by omega)), rfl⟩

theorem pre8 (x : Nat) (hx : x < top) : ((byteAt x 7 : Nat) : Int) + (byteAt x 6 : Nat) * 256 + (byteAt x 5 : Nat) * 65536 + (byteAt x 4 : Nat) * 16777216 + (byteAt x 3 : Nat) * 4294967296 + (byteAt x 2 : Nat) * 1099511627776 + (byteAt x 1 : Nat) * 281474976710656 + (byteAt x 0 : Nat) * 72057594037927936 = (pre x 8 : Nat) := by
  have e0 := pre_zero x hx
  have e1 : pre x 1 = pre x 0 * 256 + byteAt x 0 := pre_succ x 0 (by omega)
  have e2 : pre x 2 = pre x 1 * 256 + byteAt x 1 := pre_succ x 1 (by omega)
  have e3 : pre x 3 = pre x 2 * 256 + byteAt x 2 := pre_succ x 2 (by omega)
  have e4 : pre x 4 = pre x 3 * 256 + byteAt x 3 := pre_succ x 3 (by omega)
  have e5 : pre x 5 = pre x 4 * 256 + byteAt x 4 := pre_succ x 4 (by omega)
  have e6 : pre x 6 = pre x 5 * 256 + byteAt x 5 := pre_succ x 5 (by omega)
  have e7 : pre x 7 = pre x 6 * 256 + byteAt x 6 := pre_succ x 6 (by omega)
  have e8 : pre x 8 = pre x 7 * 256 + byteAt x 7 := pre_succ x 7 (by omega)
  omega
theorem pre16 (x : Nat) : (pre x 8 : Nat) * 18446744073709551616 + (((byteAt x 15 : Nat) : Int) + (byteAt x 14 : Nat) * 256 + (byteAt x 13 : Nat) * 65536 + (byteAt x 12 : Nat) * 16777216 + (byteAt x 11 : Nat) * 4294967296 + (byteAt x 10 : Nat) * 1099511627776 + (byteAt x 9 : Nat) * 281474976710656 + (byteAt x 8 : Nat) * 72057594037927936) = (pre x 16 : Nat) := by
  have e1 : pre x 9 = pre x 8 * 256 + byteAt x 8 := pre_succ x 8 (by omega)
  have e2 : pre x 10 = pre x 9 * 256 + byteAt x 9 := pre_succ x 9 (by omega)
  have e3 : pre x 11 = pre x 10 * 256 + byteAt x 10 := pre_succ x 10 (by omega)
  have e4 : pre x 12 = pre x 11 * 256 + byteAt x 11 := pre_succ x 11 (by omega)
  have e5 : pre x 13 = pre x 12 * 256 + byteAt x 12 := pre_succ x 12 (by omega)
  have e6 : pre x 14 = pre x 13 * 256 + byteAt x 13 := pre_succ x 13 (by omega)
  have e7 : pre x 15 = pre x 14 * 256 + byteAt x 14 := pre_succ x 14 (by omega)
  have e8 : pre x 16 = pre x 15 * 256 + byteAt x 15 := pre_succ x 15 (by omega)
  omega
theorem pre20 (x : Nat) : (pre x 16 : Nat) * 4294967296 + (((byteAt x 19 : Nat) : Int) + (byteAt x 18 : Nat) * 256 + (byteAt x 17 : Nat) * 65536 + (byteAt x 16 : Nat) * 16777216) = x := by
  have e1 : pre x 17 = pre x 16 * 256 + byteAt x 16 := pre_succ x 16 (by omega)
  have e2 : pre x 18 = pre x 17 * 256 + byteAt x 17 := pre_succ x 17 (by omega)
  have e3 : pre x 19 = pre x 18 * 256 + byteAt x 18 := pre_succ x 18 (by omega)
  have e4 : pre x 20 = pre x 19 * 256 + byteAt x 19 := pre_succ x 19 (by omega)
  have e5 := pre_all x
  omega

theorem mixed : Try.prog.follows .mixedOrders = true := by kernel_rfl

set_option maxHeartbeats 1000000 in
theorem head_any (x : Nat) (hx : x < top) (w : World) :
    Calls Try.prog 17 #[.agg (enc x).toArray] w fun e w' => e = .returned (.int .u64 (pre x 8 : Nat)) ∧ Grew w w' := by
  have hmix := mixed
  have hb : ∀ k, k < 20 → ∀ n os, (grow ((w.alloc (.cells (enc x).toArray 26)).drewN n) os).cell? ⟨w.heap.size, k, none⟩ = some (.int .u8 (byteAt x k : Nat)) :=
    fun k hk n os => cell_grown (by simp) (one_cell x k hk w 26) n os
  have hcall : ∀ n os, Calls Try.prog 31 #[.agg #[], .slice (some ⟨w.heap.size, 0, none⟩) 20 20] (grow ((w.alloc (.cells (enc x).toArray 26)).drewN n) os) fun e w' => e = .returned (.int .u64 (pre x 8 : Nat)) ∧ ∃ q os', w' = grow ((grow ((w.alloc (.cells (enc x).toArray 26)).drewN n) os).drewN q) os' := fun n os => by
    refine (be64_any w.heap.size 0 20 20 _ _ _ _ _ _ _ _ _ (by omega) (byteAt_lt x 0) (byteAt_lt x 1) (byteAt_lt x 2) (byteAt_lt x 3) (byteAt_lt x 4) (byteAt_lt x 5) (byteAt_lt x 6) (byteAt_lt x 7) (hb 0 (by omega) n os) (hb 1 (by omega) n os) (hb 2 (by omega) n os) (hb 3 (by omega) n os) (hb 4 (by omega) n os) (hb 5 (by omega) n os) (hb 6 (by omega) n os) (hb 7 (by omega) n os)).mono ?_
    rintro e w' ⟨rfl, hg⟩
    exact ⟨ret_u64 (pre8 x hx), hg⟩
  clear hb
  generalize pre x 8 = p at *
  go_enter Try.func17, Try.ntmps17
  go_wp2
  go_quiet_grown (first | (go_at_call 31; refine Calls.grown_of (hcall _ _)))
  go_wp2
  go_ret
  exact ⟨rfl, ((Grew.refl _).alloc _).trans ⟨_, _, rfl⟩⟩

/-- the box of x lies at block b -/
theorem box_cells (x b : Nat) (t : TypeId) (W : World) (h : W.heap[b]? = some (.cells (enc x).toArray t (0, 0))) (k : Nat) (hk : k < 20) : W.cell? ⟨b, k, none⟩ = some (.int .u8 (byteAt x k : Nat)) := by
  rw [cell_of_row _ _ _ _ t (0, 0) h, List.getElem?_toArray, enc_get x k hk]

def seg0 (x : Nat) : Int := ((byteAt x 7 : Nat) : Int) + (byteAt x 6 : Nat) * 256 + (byteAt x 5 : Nat) * 65536 + (byteAt x 4 : Nat) * 16777216 + (byteAt x 3 : Nat) * 4294967296 + (byteAt x 2 : Nat) * 1099511627776 + (byteAt x 1 : Nat) * 281474976710656 + (byteAt x 0 : Nat) * 72057594037927936
def seg8 (x : Nat) : Int := ((byteAt x 15 : Nat) : Int) + (byteAt x 14 : Nat) * 256 + (byteAt x 13 : Nat) * 65536 + (byteAt x 12 : Nat) * 16777216 + (byteAt x 11 : Nat) * 4294967296 + (byteAt x 10 : Nat) * 1099511627776 + (byteAt x 9 : Nat) * 281474976710656 + (byteAt x 8 : Nat) * 72057594037927936
def seg16 (x : Nat) : Int := ((byteAt x 19 : Nat) : Int) + (byteAt x 18 : Nat) * 256 + (byteAt x 17 : Nat) * 65536 + (byteAt x 16 : Nat) * 16777216
theorem seg8_lt (x : Nat) : 0 ≤ seg8 x ∧ seg8 x < 18446744073709551616 := by
  unfold seg8
  have h0 := byteAt_lt x 8
  have h1 := byteAt_lt x 9
  have h2 := byteAt_lt x 10
  have h3 := byteAt_lt x 11
  have h4 := byteAt_lt x 12
  have h5 := byteAt_lt x 13
  have h6 := byteAt_lt x 14
  have h7 := byteAt_lt x 15
  omega
theorem seg16_lt (x : Nat) : 0 ≤ seg16 x ∧ seg16 x < 4294967296 := by
  unfold seg16
  have h0 := byteAt_lt x 16
  have h1 := byteAt_lt x 17
  have h2 := byteAt_lt x 18
  have h3 := byteAt_lt x 19
  omega
/-- a number by its three parts -/
theorem by_segs (x : Nat) (hx : x < top) : (x : Int) = (seg0 x * 18446744073709551616 + seg8 x) * 4294967296 + seg16 x := by
  have h1 := pre8 x hx
  have h2 := pre16 x
  have h3 := pre20 x
  unfold seg0 seg8 seg16
  rw [h1]
  omega
theorem sgn_segs (x y : Nat) (hx : x < top) (hy : y < top) : sgn x y = if seg0 x = seg0 y then (if seg8 x = seg8 y then sgn (seg16 x) (seg16 y) else sgn (seg8 x) (seg8 y)) else sgn (seg0 x) (seg0 y) := by
  have ex := by_segs x hx
  have ey := by_segs y hy
  have a1 := seg8_lt x
  have a2 := seg8_lt y
  have b1 := seg16_lt x
  have b2 := seg16_lt y
  generalize seg0 x = p at *
  generalize seg0 y = q at *
  generalize seg8 x = r at *
  generalize seg8 y = s at *
  generalize seg16 x = t at *
  generalize seg16 y = u at *
  unfold sgn
  split <;> split <;> (repeat' split) <;> omega
end Go.Proofs.Qxb6626435a
