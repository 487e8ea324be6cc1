import Derived.Test.Qxb6626435aRingIs
namespace Go.Proofs.Qxb6626435a
open Go.RowKit Go.Sort
set_option linter.unusedVariables false

theorem bitLen_pos (n : Nat) (h : 0 < n) (hn : n ≤ 65536) : 1 ≤ Lib.bitLen n := by
  rw [Lib.bitLen_half n (by omega) (by omega)]; omega

theorem ringIs_some (B R M H I S cm cw : Nat) (ys : List Nat) (n : Nat) (w : World) (hyl : ys.length = n) (hn0 : 0 < n) (hn : n ≤ 65536) (hlt : ∀ y ∈ ys, y < top) (hr : RingAt B ys R M H I cm w) (hS : Row w S 0 ys) (hS1 : S < w.heap.size) :
    Calls Try.prog 8 #[.pointer (some ⟨R, 0, none⟩), .slice (some ⟨S, 0, none⟩) n cw] w fun e w' => e = .returned (.bool true) ∧ RowKit.Below w.heap.size w w' := by
  subst hyl
  have hb := bitLen_small ys.length hn
  have hp := pow_small _ hb
  exact ringIs_core ys.length R M H I S cm cw (Lib.bitLen ys.length) (2 ^ Lib.bitLen ys.length) (64 - Lib.bitLen ys.length) ys w hn0 hn rfl hlt (bitLen_pos _ hn0 hn) hb (by omega) hp.1 hp.2 (wrap_pow _ hb) rfl (zzBitLen_any _ hn)
    hr.ring hr.mem (Nat.lt_trans hr.b2 hr.heads.lt) hr.heads hr.idx hS hS1

set_option maxHeartbeats 1000000 in
set_option maxRecDepth 100000 in
theorem ringIs_none (B R H I cm cw : Nat) (am as' : Option Addr) (w : World) (hr : Ring0 B R H I cm am w) :
    Calls Try.prog 8 #[.pointer (some ⟨R, 0, none⟩), .slice as' 0 cw] w fun e w' => e = .returned (.bool true) ∧ RowKit.Below w.heap.size w w' := by
  have hR := hr.ring
  have hbl : ∀ W, Calls Try.prog 23 #[.int .i64 0] W fun e w' => e = .returned (.int .i64 0) ∧ W = w' := fun W => by
    have h := zzBitLen_any 0 (by omega) W
    have e0 : Lib.bitLen 0 = 0 := by decide +kernel
    rw [e0] at h
    exact h
  have hmk : ∀ W : World, (Instr.makeSlice 53 (.int .i64 1) (.int .i64 1)).run Try.prog W = .ok (.slice (some ⟨W.heap.size, 0, none⟩) 1 1) (W.alloc (.cells (madeCells #[.int .i64 0] 1) 3)) := make53 1 (by omega)
  have hIr := hr.idx.alloc (.cells (madeCells #[.int .i64 0] 1) 3)
  have hCr := World.rowIs_made w (.int .i64 0) 1 3
  clear hr
  go_enter Try.func8, Try.ntmps8
  go_wp2_with (first | (go_at_call 19; refine (get0 _ _ _ _ _ _ hR).mono ?_; rintro e w' ⟨rfl, rfl⟩) | (go_at_call 20; refine (get1 _ _ _ _ _ _ hR).mono ?_; rintro e w' ⟨rfl, rfl⟩) | (go_at_call 21; refine (get2 _ _ _ _ _ _ hR).mono ?_; rintro e w' ⟨rfl, rfl⟩))
  refine wp_loop_rounds 1 ?_
  rw [rounds_succ]
  go_wp2_with (first | (go_at_call 23; refine (hbl _).mono ?_; rintro e w' ⟨rfl, rfl⟩) | (go_at_call 24; refine (get3 _ _ _ _ _ _ hR).mono ?_; rintro e w' ⟨rfl, rfl⟩))
  go_loop [14, 15] (fun v i => ∃ s : Nat, s ≤ 2 ∧ i = .int .i64 s ∧ v = .int .i64 0) (fun _ i => 2 - (intOf i).toNat)
  case atStart => exact ⟨0, by omega, rfl, rfl⟩
  case round =>
    obtain ⟨s, hs, rfl, rfl⟩ := hrel
    have h3 : s = 0 ∨ s = 1 ∨ s = 2 := by omega
    rcases h3 with rfl | rfl | rfl
    · have cI := hIr.cell (i := 0) (by omega)
      have cC := hCr.cell (i := 0) (by omega)
      go_wp2
      go_round
      case rel => exact ⟨1, by omega, rfl, rfl⟩
      case measure => simp [intOf]
    · have cI := hIr.cell (i := 1) (by omega)
      go_wp2
      go_round
      case rel => exact ⟨2, by omega, rfl, rfl⟩
      case measure => simp [intOf]
    · go_wp2
      go_ret
      exact ⟨rfl, (Below.refl _ _).alloc (Nat.le_refl _) _⟩
end Go.Proofs.Qxb6626435a
