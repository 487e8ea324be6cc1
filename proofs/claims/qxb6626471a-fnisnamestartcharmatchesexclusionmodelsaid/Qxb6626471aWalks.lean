import Derived.Test.Qxb6626471aRows
import Derived.WalkKit
import Derived.WalkSpells
import Derived.WalkLawsBesides
import Derived.ProofKit
import Derived.Outline
namespace Go.Proofs.Qxb6626471a
open Go.RowKit

theorem ret_bool {a b : Bool} (h : a = b) : Ending.returned (.bool a) = .returned (.bool b) := by rw [h]

/-- the name-start characters, told plainly -/
def nscB (r : Int) : Bool := decide ((65 ≤ r ∧ r ≤ 90) ∨ (97 ≤ r ∧ r ≤ 122) ∨ r = 58 ∨ r = 95 ∨ (192 ≤ r ∧ r ≤ 214) ∨ (216 ≤ r ∧ r ≤ 246) ∨ (248 ≤ r ∧ r ≤ 767) ∨ (880 ≤ r ∧ r ≤ 893) ∨ (895 ≤ r ∧ r ≤ 8191) ∨ (8204 ≤ r ∧ r ≤ 8205) ∨ (8304 ≤ r ∧ r ≤ 8591) ∨ (11264 ≤ r ∧ r ≤ 12271) ∨ (12289 ≤ r ∧ r ≤ 55295) ∨ (63744 ≤ r ∧ r ≤ 64975) ∨ (65008 ≤ r ∧ r ≤ 65533) ∨ (65536 ≤ r ∧ r ≤ 983039))

theorem ix0 (w : World) : (Instr.index 24 (.agg #[.int .i32 192, .int .i32 214, .int .i32 216, .int .i32 246, .int .i32 248, .int .i32 767, .int .i32 880, .int .i32 893, .int .i32 895, .int .i32 8191, .int .i32 8204, .int .i32 8205, .int .i32 8304, .int .i32 8591, .int .i32 11264, .int .i32 12271, .int .i32 12289, .int .i32 55295, .int .i32 63744, .int .i32 64975, .int .i32 65008, .int .i32 65533, .int .i32 65536, .int .i32 983039]) (.int .i64 0)).run Try.prog w = .ok (.agg #[.int .i32 192, .int .i32 214]) w := by kernel_rfl
theorem ix1 (w : World) : (Instr.index 24 (.agg #[.int .i32 192, .int .i32 214, .int .i32 216, .int .i32 246, .int .i32 248, .int .i32 767, .int .i32 880, .int .i32 893, .int .i32 895, .int .i32 8191, .int .i32 8204, .int .i32 8205, .int .i32 8304, .int .i32 8591, .int .i32 11264, .int .i32 12271, .int .i32 12289, .int .i32 55295, .int .i32 63744, .int .i32 64975, .int .i32 65008, .int .i32 65533, .int .i32 65536, .int .i32 983039]) (.int .i64 1)).run Try.prog w = .ok (.agg #[.int .i32 216, .int .i32 246]) w := by kernel_rfl
theorem ix2 (w : World) : (Instr.index 24 (.agg #[.int .i32 192, .int .i32 214, .int .i32 216, .int .i32 246, .int .i32 248, .int .i32 767, .int .i32 880, .int .i32 893, .int .i32 895, .int .i32 8191, .int .i32 8204, .int .i32 8205, .int .i32 8304, .int .i32 8591, .int .i32 11264, .int .i32 12271, .int .i32 12289, .int .i32 55295, .int .i32 63744, .int .i32 64975, .int .i32 65008, .int .i32 65533, .int .i32 65536, .int .i32 983039]) (.int .i64 2)).run Try.prog w = .ok (.agg #[.int .i32 248, .int .i32 767]) w := by kernel_rfl
theorem ix3 (w : World) : (Instr.index 24 (.agg #[.int .i32 192, .int .i32 214, .int .i32 216, .int .i32 246, .int .i32 248, .int .i32 767, .int .i32 880, .int .i32 893, .int .i32 895, .int .i32 8191, .int .i32 8204, .int .i32 8205, .int .i32 8304, .int .i32 8591, .int .i32 11264, .int .i32 12271, .int .i32 12289, .int .i32 55295, .int .i32 63744, .int .i32 64975, .int .i32 65008, .int .i32 65533, .int .i32 65536, .int .i32 983039]) (.int .i64 3)).run Try.prog w = .ok (.agg #[.int .i32 880, .int .i32 893]) w := by kernel_rfl
theorem ix4 (w : World) : (Instr.index 24 (.agg #[.int .i32 192, .int .i32 214, .int .i32 216, .int .i32 246, .int .i32 248, .int .i32 767, .int .i32 880, .int .i32 893, .int .i32 895, .int .i32 8191, .int .i32 8204, .int .i32 8205, .int .i32 8304, .int .i32 8591, .int .i32 11264, .int .i32 12271, .int .i32 12289, .int .i32 55295, .int .i32 63744, .int .i32 64975, .int .i32 65008, .int .i32 65533, .int .i32 65536, .int .i32 983039]) (.int .i64 4)).run Try.prog w = .ok (.agg #[.int .i32 895, .int .i32 8191]) w := by kernel_rfl
theorem ix5 (w : World) : (Instr.index 24 (.agg #[.int .i32 192, .int .i32 214, .int .i32 216, .int .i32 246, .int .i32 248, .int .i32 767, .int .i32 880, .int .i32 893, .int .i32 895, .int .i32 8191, .int .i32 8204, .int .i32 8205, .int .i32 8304, .int .i32 8591, .int .i32 11264, .int .i32 12271, .int .i32 12289, .int .i32 55295, .int .i32 63744, .int .i32 64975, .int .i32 65008, .int .i32 65533, .int .i32 65536, .int .i32 983039]) (.int .i64 5)).run Try.prog w = .ok (.agg #[.int .i32 8204, .int .i32 8205]) w := by kernel_rfl
theorem ix6 (w : World) : (Instr.index 24 (.agg #[.int .i32 192, .int .i32 214, .int .i32 216, .int .i32 246, .int .i32 248, .int .i32 767, .int .i32 880, .int .i32 893, .int .i32 895, .int .i32 8191, .int .i32 8204, .int .i32 8205, .int .i32 8304, .int .i32 8591, .int .i32 11264, .int .i32 12271, .int .i32 12289, .int .i32 55295, .int .i32 63744, .int .i32 64975, .int .i32 65008, .int .i32 65533, .int .i32 65536, .int .i32 983039]) (.int .i64 6)).run Try.prog w = .ok (.agg #[.int .i32 8304, .int .i32 8591]) w := by kernel_rfl
theorem ix7 (w : World) : (Instr.index 24 (.agg #[.int .i32 192, .int .i32 214, .int .i32 216, .int .i32 246, .int .i32 248, .int .i32 767, .int .i32 880, .int .i32 893, .int .i32 895, .int .i32 8191, .int .i32 8204, .int .i32 8205, .int .i32 8304, .int .i32 8591, .int .i32 11264, .int .i32 12271, .int .i32 12289, .int .i32 55295, .int .i32 63744, .int .i32 64975, .int .i32 65008, .int .i32 65533, .int .i32 65536, .int .i32 983039]) (.int .i64 7)).run Try.prog w = .ok (.agg #[.int .i32 11264, .int .i32 12271]) w := by kernel_rfl
theorem ix8 (w : World) : (Instr.index 24 (.agg #[.int .i32 192, .int .i32 214, .int .i32 216, .int .i32 246, .int .i32 248, .int .i32 767, .int .i32 880, .int .i32 893, .int .i32 895, .int .i32 8191, .int .i32 8204, .int .i32 8205, .int .i32 8304, .int .i32 8591, .int .i32 11264, .int .i32 12271, .int .i32 12289, .int .i32 55295, .int .i32 63744, .int .i32 64975, .int .i32 65008, .int .i32 65533, .int .i32 65536, .int .i32 983039]) (.int .i64 8)).run Try.prog w = .ok (.agg #[.int .i32 12289, .int .i32 55295]) w := by kernel_rfl
theorem ix9 (w : World) : (Instr.index 24 (.agg #[.int .i32 192, .int .i32 214, .int .i32 216, .int .i32 246, .int .i32 248, .int .i32 767, .int .i32 880, .int .i32 893, .int .i32 895, .int .i32 8191, .int .i32 8204, .int .i32 8205, .int .i32 8304, .int .i32 8591, .int .i32 11264, .int .i32 12271, .int .i32 12289, .int .i32 55295, .int .i32 63744, .int .i32 64975, .int .i32 65008, .int .i32 65533, .int .i32 65536, .int .i32 983039]) (.int .i64 9)).run Try.prog w = .ok (.agg #[.int .i32 63744, .int .i32 64975]) w := by kernel_rfl
theorem ix10 (w : World) : (Instr.index 24 (.agg #[.int .i32 192, .int .i32 214, .int .i32 216, .int .i32 246, .int .i32 248, .int .i32 767, .int .i32 880, .int .i32 893, .int .i32 895, .int .i32 8191, .int .i32 8204, .int .i32 8205, .int .i32 8304, .int .i32 8591, .int .i32 11264, .int .i32 12271, .int .i32 12289, .int .i32 55295, .int .i32 63744, .int .i32 64975, .int .i32 65008, .int .i32 65533, .int .i32 65536, .int .i32 983039]) (.int .i64 10)).run Try.prog w = .ok (.agg #[.int .i32 65008, .int .i32 65533]) w := by kernel_rfl
theorem ix11 (w : World) : (Instr.index 24 (.agg #[.int .i32 192, .int .i32 214, .int .i32 216, .int .i32 246, .int .i32 248, .int .i32 767, .int .i32 880, .int .i32 893, .int .i32 895, .int .i32 8191, .int .i32 8204, .int .i32 8205, .int .i32 8304, .int .i32 8591, .int .i32 11264, .int .i32 12271, .int .i32 12289, .int .i32 55295, .int .i32 63744, .int .i32 64975, .int .i32 65008, .int .i32 65533, .int .i32 65536, .int .i32 983039]) (.int .i64 11)).run Try.prog w = .ok (.agg #[.int .i32 65536, .int .i32 983039]) w := by kernel_rfl

def spans : List (Int × Int) := [(192, 214), (216, 246), (248, 767), (880, 893), (895, 8191), (8204, 8205), (8304, 8591), (11264, 12271), (12289, 55295), (63744, 64975), (65008, 65533), (65536, 983039)]
/-- r lies in none of the first k spans -/
def noneTo (r : Int) (k : Nat) : Prop := ∀ p ∈ spans.take k, ¬ (p.1 ≤ r ∧ r ≤ p.2)

theorem index_fact (k : Nat) (hk : k < 12) (w : World) :
    (Instr.index 24 (.agg #[.int .i32 192, .int .i32 214, .int .i32 216, .int .i32 246, .int .i32 248, .int .i32 767, .int .i32 880, .int .i32 893, .int .i32 895, .int .i32 8191, .int .i32 8204, .int .i32 8205, .int .i32 8304, .int .i32 8591, .int .i32 11264, .int .i32 12271, .int .i32 12289, .int .i32 55295, .int .i32 63744, .int .i32 64975, .int .i32 65008, .int .i32 65533, .int .i32 65536, .int .i32 983039]) (.int .i64 k)).run Try.prog w = .ok (.agg #[.int .i32 (spans.getD k (0, 0)).1, .int .i32 (spans.getD k (0, 0)).2]) w := by
  have h : k = 0 ∨ k = 1 ∨ k = 2 ∨ k = 3 ∨ k = 4 ∨ k = 5 ∨ k = 6 ∨ k = 7 ∨ k = 8 ∨ k = 9 ∨ k = 10 ∨ k = 11 := by omega
  rcases h with rfl | rfl | rfl | rfl | rfl | rfl | rfl | rfl | rfl | rfl | rfl | rfl
  · exact ix0 w
  · exact ix1 w
  · exact ix2 w
  · exact ix3 w
  · exact ix4 w
  · exact ix5 w
  · exact ix6 w
  · exact ix7 w
  · exact ix8 w
  · exact ix9 w
  · exact ix10 w
  · exact ix11 w

theorem nsc_yes (r : Int) (k : Nat) (lo hi : Int) (hk : k < 12) (h1 : lo ≤ r) (h2 : r ≤ hi) (hlo : (spans.getD k (0, 0)).1 = lo) (hhi : (spans.getD k (0, 0)).2 = hi) : nscB r = true := by
  subst hlo hhi
  unfold nscB
  rw [decide_eq_true_iff]
  have h : k = 0 ∨ k = 1 ∨ k = 2 ∨ k = 3 ∨ k = 4 ∨ k = 5 ∨ k = 6 ∨ k = 7 ∨ k = 8 ∨ k = 9 ∨ k = 10 ∨ k = 11 := by omega
  rcases h with rfl | rfl | rfl | rfl | rfl | rfl | rfl | rfl | rfl | rfl | rfl | rfl
  all_goals (simp [spans] at h1 h2; omega)

theorem noneTo_succ (r : Int) (k : Nat) (lo hi : Int) (hk : k < 12) (hn : noneTo r k) (h : ¬ (lo ≤ r ∧ r ≤ hi)) (hlo : (spans.getD k (0, 0)).1 = lo) (hhi : (spans.getD k (0, 0)).2 = hi) : noneTo r (k + 1) := by
  subst hlo hhi
  intro p hp
  have hl : k < spans.length := hk
  rw [List.take_succ_eq_append_getElem hl, List.mem_append, List.mem_singleton] at hp
  rcases hp with hp | rfl
  · exact hn p hp
  · simpa [List.getD, List.getElem?_eq_getElem hl] using h

theorem nsc_no (r : Int) (k : Nat) (hk : ¬ k < 12) (h : 192 ≤ r) (hn : noneTo r k) : nscB r = false := by
  have e : spans.take k = spans := List.take_of_length_le (by simp [spans]; omega)
  unfold noneTo at hn
  rw [e] at hn
  simp [spans] at hn
  unfold nscB
  rw [decide_eq_false_iff_not]
  omega

set_option maxHeartbeats 400000 in
set_option maxRecDepth 100000 in
theorem nsc_high (r : Int) (w : World) (h : 192 ≤ r) :
    Calls Try.prog 5 #[.int .i32 r] w fun e w' => e = .returned (.bool (nscB r)) ∧ Grown w w' := by
  have e1 : decide (r ≤ 90) = false := by simp; omega
  have e2 : decide (r ≤ 122) = false := by simp; omega
  have e3 : (r == 58) = false := by simp; omega
  have e4 : (r == 95) = false := by simp; omega
  have e5 : decide (r < 192) = false := by simp; omega
  go_enter Try.func5, Try.ntmps5
  go_wp2
  go_loopw [38] (fun i wr => ∃ k : Nat, k ≤ 12 ∧ i = .int .i64 k ∧ noneTo r k ∧ Grown w wr) (fun i _ => 12 - (intOf i).toNat)
  case atStart => exact ⟨0, by omega, rfl, by simp [noneTo], Grown.refl _⟩
  case round =>
    obtain ⟨k, hk, rfl, hn, hg⟩ := hrel
    by_cases hlt : k < 12
    · have hix := fun W => index_fact k hlt W
      generalize hlo : (spans.getD k (0, 0)).1 = lo at *
      generalize hhi : (spans.getD k (0, 0)).2 = hi at *
      have HLO : Hid ((spans.getD k (0, 0)).1 = lo) := hlo
      have HHI : Hid ((spans.getD k (0, 0)).2 = hi) := hhi
      clear hlo hhi
      go_wp2
      · go_ret
        exact ⟨ret_bool (nsc_yes r k lo hi hlt (by assumption) (by assumption) HLO.out HHI.out).symm, hg.alloc _ _⟩
      · exact ⟨⟨k + 1, by omega, by go_num, noneTo_succ r k lo hi hlt hn (by omega) HLO.out HHI.out, hg.alloc _ _⟩, by simp [intOf]; omega⟩
      · exact ⟨⟨k + 1, by omega, by go_num, noneTo_succ r k lo hi hlt hn (by omega) HLO.out HHI.out, hg.alloc _ _⟩, by simp [intOf]; omega⟩
    · have HN : Hid (nscB r = false) := nsc_no r k hlt h hn
      go_wp2
      go_ret
      exact ⟨ret_bool HN.out.symm, hg⟩

set_option maxHeartbeats 400000 in
set_option maxRecDepth 100000 in
theorem nsc_low (r : Int) (w : World) (h : r < 192) :
    Calls Try.prog 5 #[.int .i32 r] w fun e w' => e = .returned (.bool (nscB r)) ∧ Grown w w' := by
  have fin : ∀ b : Bool, (b = true ↔ ((65 ≤ r ∧ r ≤ 90) ∨ (97 ≤ r ∧ r ≤ 122) ∨ r = 58 ∨ r = 95)) → nscB r = b := by
    intro b hb
    unfold nscB
    rw [Bool.eq_iff_iff, decide_eq_true_iff, hb]
    omega
  have FIN : Hid (∀ b : Bool, (b = true ↔ ((65 ≤ r ∧ r ≤ 90) ∨ (97 ≤ r ∧ r ≤ 122) ∨ r = 58 ∨ r = 95)) → nscB r = b) := fin
  clear fin
  go_enter Try.func5, Try.ntmps5
  go_wp2
  all_goals
    go_ret
    refine ⟨ret_bool (FIN.out _ ?_).symm, Grown.refl _⟩
    simp at *
    omega

theorem nsc_any (r : Int) (w : World) :
    Calls Try.prog 5 #[.int .i32 r] w fun e w' => e = .returned (.bool (nscB r)) ∧ Grown w w' := by
  by_cases h : r < 192
  · exact nsc_low r w h
  · exact nsc_high r w (by omega)
end Go.Proofs.Qxb6626471a
