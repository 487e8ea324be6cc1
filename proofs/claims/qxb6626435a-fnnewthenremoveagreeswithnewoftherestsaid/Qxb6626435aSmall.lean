import Derived.Test.Qxb6626435aNew0
import Derived.Stop.BytesEq
namespace Go.Proofs.Qxb6626435a
open Go.RowKit Go.Sort
open Extern.Stop (cell)
set_option linter.unusedVariables false

def bs (x : Nat) : List UInt8 := (List.range 20).map fun i => UInt8.ofNat (byteAt x i)
theorem enc_bs (x : Nat) : enc x = (bs x).map cell := by
  unfold enc bs
  rw [List.map_map]
  apply List.map_congr_left
  intro i hi
  show _ = Value.int .u8 ((UInt8.ofNat (byteAt x i)).toNat : Int)
  rw [UInt8.toNat_ofNat_of_lt' (byteAt_lt x i)]
theorem bs_len (x : Nat) : (bs x).length = 20 := by simp [bs]
theorem equalIn_ids (t : TypeId) (ht : Try.prog.underlying t = some (.array 20 5)) (x y : Nat) (hx : x < top) (hy : y < top) (w : World) : (Op.equalIn 10000 t (.agg (enc x).toArray) (.agg (enc y).toArray)).run Try.prog w = .ok (decide (x = y)) w := by
  have h := run_equalIn_bytes w 9998 t 5 20 ht Try.underlying5 Try.sizeOf5 (bs x) (bs y) (bs_len x) (bs_len y)
  rw [← enc_bs, ← enc_bs] at h
  rw [h]
  congr 1
  by_cases e : x = y
  · subst e; simp
  · rw [decide_eq_false e, beq_eq_false_iff_ne]
    intro hb
    exact e (enc_inj x y hx hy (by rw [enc_bs, enc_bs, hb]))

theorem get0 (R : Nat) (a b c d : Value) (w : World) (hR : w.heap[R]? = some (.cells #[a, b, c, d] 46 (0, 0))) : Calls Try.prog 19 #[.pointer (some ⟨R, 0, none⟩)] w fun e w' => e = .returned a ∧ w = w' := by
  have c0 : w.cell? ⟨R, 0, none⟩ = some a := by rw [cell_of_row _ _ _ _ _ _ hR]; rfl
  clear hR
  go_enter Try.func19, Try.ntmps19
  go_wp2
  go_ret
  exact ⟨rfl, rfl⟩
theorem get1 (R : Nat) (a b c d : Value) (w : World) (hR : w.heap[R]? = some (.cells #[a, b, c, d] 46 (0, 0))) : Calls Try.prog 20 #[.pointer (some ⟨R, 0, none⟩)] w fun e w' => e = .returned b ∧ w = w' := by
  have c0 : w.cell? ⟨R, 1, none⟩ = some b := by rw [cell_of_row _ _ _ _ _ _ hR]; rfl
  clear hR
  go_enter Try.func20, Try.ntmps20
  go_wp2
  go_ret
  exact ⟨rfl, rfl⟩
theorem get2 (R : Nat) (a b c d : Value) (w : World) (hR : w.heap[R]? = some (.cells #[a, b, c, d] 46 (0, 0))) : Calls Try.prog 21 #[.pointer (some ⟨R, 0, none⟩)] w fun e w' => e = .returned c ∧ w = w' := by
  have c0 : w.cell? ⟨R, 2, none⟩ = some c := by rw [cell_of_row _ _ _ _ _ _ hR]; rfl
  clear hR
  go_enter Try.func21, Try.ntmps21
  go_wp2
  go_ret
  exact ⟨rfl, rfl⟩
theorem get3 (R : Nat) (a b c d : Value) (w : World) (hR : w.heap[R]? = some (.cells #[a, b, c, d] 46 (0, 0))) : Calls Try.prog 24 #[.pointer (some ⟨R, 0, none⟩)] w fun e w' => e = .returned d ∧ w = w' := by
  have c0 : w.cell? ⟨R, 3, none⟩ = some d := by rw [cell_of_row _ _ _ _ _ _ hR]; rfl
  clear hR
  go_enter Try.func24, Try.ntmps24
  go_wp2
  go_ret
  exact ⟨rfl, rfl⟩

set_option maxHeartbeats 400000 in
theorem zzBitLen_any (n : Nat) (hn : n ≤ 65536) (w : World) : Calls Try.prog 23 #[.int .i64 (n : Int)] w fun e w' => e = .returned (.int .i64 (Lib.bitLen n : Nat)) ∧ w = w' := by
  have hb := bitLen_small n hn
  have hz : Lib.bitLen 0 = 0 := by decide +kernel
  have HZ : Hid (Lib.bitLen 0 = 0) := hz
  clear hz
  go_enter Try.func23, Try.ntmps23
  go_wp2
  go_loop [0, 3] (fun vn vb => ∃ m b : Nat, vn = .int .i64 m ∧ vb = .int .i64 b ∧ m ≤ 65536 ∧ b ≤ 17 ∧ Hid (b + Lib.bitLen m = Lib.bitLen n)) (fun vn _ => (intOf vn).toNat)
  case atStart => exact ⟨n, 0, rfl, rfl, hn, by omega, Nat.zero_add _⟩
  case round =>
    obtain ⟨m, b, rfl, rfl, hm, hb2, he⟩ := hrel
    by_cases h0 : 0 < m
    · have HN : Hid (b + 1 + Lib.bitLen (m / 2) = Lib.bitLen n ∧ b + 1 ≤ 17) := by
        have h1 := Lib.bitLen_half m (by omega) (by omega)
        have h2 := he.out
        exact ⟨by omega, by omega⟩
      go_wp2
      go_round
      case rel => exact ⟨m / 2, b + 1, by go_num, by go_num, by omega, HN.out.2, HN.out.1⟩
      case measure => simp [intOf]; omega
    · obtain rfl : m = 0 := by omega
      go_wp2
      go_ret
      exact ⟨ret_i64 (by have := he.out; rw [HZ.out] at this; omega), rfl⟩
end Go.Proofs.Qxb6626435a
