import Derived.Test.Qxb6626435aRows
import Derived.Test.Qxb6626435aMem
import Derived.WalkKit
import Derived.WalkSpells
import Derived.WalkLawsBesides
import Derived.ProofKit
import Derived.Deep.QuietTactic
import Derived.BigQuiet
import Derived.Lib.EndianBits
import Derived.Laws.BitsAllLaws
namespace Go.Proofs.Qxb6626435a
open Go.RowKit
set_option linter.unusedVariables false
theorem ret_bool {a b : Bool} (h : a = b) : Ending.returned (.bool a) = .returned (.bool b) := by rw [h]

theorem two_cells (x y k : Nat) (hk : k < 20) (w : World) (t : TypeId) :
    ((w.alloc (.cells (enc x).toArray t)).alloc (.cells (enc y).toArray t)).cell? ⟨w.heap.size, k, none⟩ = some (.int .u8 (byteAt x k : Nat)) ∧
    ((w.alloc (.cells (enc x).toArray t)).alloc (.cells (enc y).toArray t)).cell? ⟨w.heap.size + 1, k, none⟩ = some (.int .u8 (byteAt y k : Nat)) := by
  constructor
  · rw [cell_of_row _ _ _ _ t (0, 0) (heap_alloc2_old w _ _), List.getElem?_toArray, enc_get x k hk]
  · rw [cell_of_row _ _ _ _ t (0, 0) (heap_alloc2_new w _ _), List.getElem?_toArray, enc_get y k hk]

set_option maxHeartbeats 400000 in
theorem less_any (x y : Nat) (hx : x < top) (hy : y < top) (w : World) :
    Calls Try.prog 13 #[.agg (enc x).toArray, .agg (enc y).toArray] w fun e w' => e = .returned (.bool (decide (x < y))) ∧ Grew w w' := by
  have hB : Grew w ((w.alloc (.cells (enc x).toArray 25)).alloc (.cells (enc y).toArray 25)) := ((Grew.refl _).alloc _).alloc _
  have h0 : Hid (pre x 0 = pre y 0) := by show pre x 0 = pre y 0; rw [pre_zero x hx, pre_zero y hy]
  have htc := two_cells x y
  go_enter Try.func13, Try.ntmps13
  go_wp2
  go_loopw [5] (fun i wr => ∃ k nq : Nat, k ≤ 20 ∧ i = .int .i64 k ∧ Hid (pre x k = pre y k) ∧ wr = ((w.alloc (.cells (enc x).toArray 25)).alloc (.cells (enc y).toArray 25)).drewN nq) (fun i _ => 20 - (intOf i).toNat)
  case atStart => exact ⟨0, 0, by omega, rfl, h0, rfl⟩
  case round =>
    obtain ⟨k, nq, hk, rfl, he, rfl⟩ := hrel
    by_cases hlt : k < 20
    · obtain ⟨hcx, hcy⟩ := htc k hlt w 25
      clear htc
      have hbx := byteAt_lt x k
      have hby := byteAt_lt y k
      by_cases hne : byteAt x k = byteAt y k
      · have HN : Hid (pre x (k + 1) = pre y (k + 1)) := by show _ = _; rw [pre_succ x k hlt, pre_succ y k hlt, he.out, hne]
        generalize byteAt x k = u at *
        subst hne
        go_wp2
        go_quiet (fail)
        go_wp2
        go_roundw
        case rel => exact ⟨k + 1, _, by omega, by go_num, HN, rfl⟩
        case measure => simp [intOf]; omega
      · have HN : Hid (decide (byteAt x k < byteAt y k) = decide (x < y)) := by show _ = _; rw [decide_eq_decide]; exact parted x y k hlt he.out hne
        generalize byteAt x k = u at *
        generalize byteAt y k = v at *
        have hne2 : ((u : Int) != (v : Int)) = true := by simp; omega
        go_wp2
        go_quiet (fail)
        go_wp2
        go_quiet (fail)
        go_wp2
        go_ret
        exact ⟨ret_bool (by rw [← HN.out, decide_eq_decide]), ((hB.drewN _).drewN _).drewN _⟩
    · obtain rfl : k = 20 := by omega
      have HN : Hid (decide (x < y) = false) := by show _ = _; rw [alike x y he.out]; simp
      go_wp2
      go_ret
      exact ⟨ret_bool HN.out.symm, hB.drewN _⟩

theorem ret_i64 {a b : Int} (h : a = b) : Ending.returned (.int .i64 a) = .returned (.int .i64 b) := by rw [h]
theorem ret_u64 {a b : Int} (h : a = b) : Ending.returned (.int .u64 a) = .returned (.int .u64 b) := by rw [h]

theorem min_any (a b : Int) (w : World) : Calls Try.prog 12 #[.int .i64 a, .int .i64 b] w fun e w' => e = .returned (.int .i64 (min a b)) ∧ w' = w := by
  by_cases h : a < b
  · go_enter Try.func12, Try.ntmps12
    go_wp2
    go_ret
    exact ⟨ret_i64 (by omega), rfl⟩
  · go_enter Try.func12, Try.ntmps12
    go_wp2
    go_ret
    exact ⟨ret_i64 (by omega), rfl⟩

theorem one_cell (x k : Nat) (hk : k < 20) (w : World) (t : TypeId) :
    (w.alloc (.cells (enc x).toArray t)).cell? ⟨w.heap.size, k, none⟩ = some (.int .u8 (byteAt x k : Nat)) := by
  rw [cell_of_row _ _ _ _ t (0, 0) (heap_alloc_new w _), List.getElem?_toArray, enc_get x k hk]

theorem pre_lt (x k : Nat) (hx : x < top) (hk : k ≤ 20) : pre x k < 256 ^ k := by
  unfold pre
  rw [top_eq] at hx
  rw [Nat.div_lt_iff_lt_mul (Nat.pow_pos (by decide)), ← Nat.pow_add, show k + (20 - k) = 20 from by omega]
  exact hx

theorem or_low (p b : Nat) (hp : p * 256 + b < 18446744073709551616) (hb : b < 256) : bits .or .u64 (IntKind.u64.wrap ((p : Int) * 256)) (b : Int) = ((p * 256 + b : Nat) : Int) := by
  have e0 : IntKind.u64.wrap ((p : Int) * 256) = (p : Int) * 256 := u64_wrap_id _ (by omega) (by omega)
  rw [e0, u64_or _ _ (by omega) (by omega) (by omega) (by omega)]
  have e1 : ((p : Int) * 256).toNat = 2 ^ 8 * p := by omega
  have e2 : ((b : Int)).toNat = b := by omega
  rw [e1, e2, ← Nat.two_pow_add_eq_or_of_lt (show b < 2 ^ 8 from hb) p]
  congr 1
  omega

set_option maxHeartbeats 400000 in
theorem zzHead_any (x : Nat) (hx : x < top) (w : World) :
    Calls Try.prog 22 #[.agg (enc x).toArray] w fun e w' => e = .returned (.int .u64 (pre x 8 : Nat)) ∧ w' = w.alloc (.cells (enc x).toArray 25) := by
  have h0 : pre x 0 = 0 := pre_zero x hx
  have H0 : Hid (pre x 0 = 0) := h0
  clear h0
  have htc := one_cell x
  have hpl := fun k => pre_lt x k hx
  have hps := pre_succ x
  go_enter Try.func22, Try.ntmps22
  go_wp2
  go_loop [3, 4] (fun h i => ∃ k p : Nat, k ≤ 8 ∧ i = .int .i64 k ∧ Hid (p = pre x k) ∧ h = .int .u64 p) (fun _ i => 8 - (intOf i).toNat)
  case atStart => exact ⟨0, 0, by omega, rfl, H0.symm, rfl⟩
  case round =>
    obtain ⟨k, p, hk, rfl, hp, rfl⟩ := hrel
    by_cases hlt : k < 8
    · have hc := htc k (by omega) w 25
      have hb := byteAt_lt x k
      have hN : pre x (k + 1) = p * 256 + byteAt x k := by rw [hps k (by omega), ← hp.out]
      have hL : pre x (k + 1) < 18446744073709551616 := by
        have h1 := hpl (k + 1) (by omega)
        have h2 : 256 ^ (k + 1) ≤ 256 ^ 8 := Nat.pow_le_pow_right (by decide) (by omega)
        have h3 : (256 : Nat) ^ 8 = 18446744073709551616 := by decide +kernel
        omega
      have HO : Hid (bits .or .u64 (IntKind.u64.wrap ((p : Int) * 256)) (byteAt x k : Nat) = ((p * 256 + byteAt x k : Nat) : Int)) := or_low p _ (by omega) hb
      have HN : Hid (p * 256 + byteAt x k = pre x (k + 1)) := hN.symm
      clear htc hpl hps hN hL
      go_wp2
      go_round
      case rel => exact ⟨k + 1, p * 256 + byteAt x k, by omega, by go_num, HN, by rw [HO.out]⟩
      case measure => simp [intOf]; omega
    · obtain rfl : k = 8 := by omega
      clear htc hpl hps
      go_wp2
      go_ret
      exact ⟨ret_u64 (by rw [hp.out]), rfl⟩
end Go.Proofs.Qxb6626435a
