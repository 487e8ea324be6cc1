import Derived.Test.Qxb6626471aWalks
namespace Go.Proofs.Qxb6626471a
open Go.RowKit

def inB (r lo hi : Int) : Bool := decide (lo ≤ r ∧ r ≤ hi)

theorem inB_iff (r lo hi : Int) : inB r lo hi = true ↔ lo ≤ r ∧ r ≤ hi := by simp [inB]
theorem inB_not (r lo hi : Int) : inB r lo hi = false ↔ ¬ (lo ≤ r ∧ r ≤ hi) := by unfold inB; rw [decide_eq_false_iff_not]

set_option maxHeartbeats 400000 in
theorem in_any (r lo hi : Int) (w : World) :
    Calls Try.prog 10 #[.int .i32 r, .int .i32 lo, .int .i32 hi] w fun e w' => e = .returned (.bool (inB r lo hi)) ∧ w' = w := by
  have H1 : Hid (∀ b : Bool, (b = true ↔ (lo ≤ r ∧ r ≤ hi)) → b = inB r lo hi) := by
    intro b hb; rw [Bool.eq_iff_iff, inB_iff, hb]
  go_enter Try.func10, Try.ntmps10
  go_wp2
  all_goals
    go_ret
    refine ⟨ret_bool (H1.out _ ?_), rfl⟩
    simp
    omega

def exB (r : Int) : Bool := decide (r = 215 ∨ r = 247 ∨ (768 ≤ r ∧ r ≤ 879) ∨ r = 894 ∨ (8192 ≤ r ∧ r ≤ 8203) ∨ (8206 ≤ r ∧ r ≤ 8303) ∨ (8592 ≤ r ∧ r ≤ 11263) ∨ (12272 ≤ r ∧ r ≤ 12288) ∨ (55296 ≤ r ∧ r ≤ 63743) ∨ (64976 ≤ r ∧ r ≤ 65007) ∨ r = 65534 ∨ r = 65535)
theorem exB_iff (r : Int) : exB r = true ↔ (r = 215 ∨ r = 247 ∨ (768 ≤ r ∧ r ≤ 879) ∨ r = 894 ∨ (8192 ≤ r ∧ r ≤ 8203) ∨ (8206 ≤ r ∧ r ≤ 8303) ∨ (8592 ≤ r ∧ r ≤ 11263) ∨ (12272 ≤ r ∧ r ≤ 12288) ∨ (55296 ≤ r ∧ r ≤ 63743) ∨ (64976 ≤ r ∧ r ≤ 65007) ∨ r = 65534 ∨ r = 65535) := by
  unfold exB; rw [decide_eq_true_iff]

set_option maxHeartbeats 1000000 in
theorem ex_any (r : Int) (w : World) :
    Calls Try.prog 9 #[.int .i32 r] w fun e w' => e = .returned (.bool (exB r)) ∧ w' = w := by
  have H1 : Hid (∀ b : Bool, (b = true ↔ (r = 215 ∨ r = 247 ∨ (768 ≤ r ∧ r ≤ 879) ∨ r = 894 ∨ (8192 ≤ r ∧ r ≤ 8203) ∨ (8206 ≤ r ∧ r ≤ 8303) ∨ (8592 ≤ r ∧ r ≤ 11263) ∨ (12272 ≤ r ∧ r ≤ 12288) ∨ (55296 ≤ r ∧ r ≤ 63743) ∨ (64976 ≤ r ∧ r ≤ 65007) ∨ r = 65534 ∨ r = 65535)) → b = exB r) := by
    intro b hb; rw [Bool.eq_iff_iff, exB_iff, hb]
  go_enter Try.func9, Try.ntmps9
  go_wp2_with (go_at_call 10; refine (in_any _ _ _ _).mono ?_; rintro e w' ⟨rfl, rfl⟩)
  all_goals
    go_ret
    refine ⟨ret_bool (H1.out _ ?_), rfl⟩
    clear H1
    simp only [inB_iff, inB_not, beq_iff_eq, beq_eq_false_iff_ne, Bool.or_eq_true, true_iff] at *
    omega

/-- the name-start characters, told by what they leave out -/
def byExB (r : Int) : Bool := decide (0 ≤ r ∧ r ≤ 983039 ∧ ((r < 128 ∧ (r = 58 ∨ r = 95 ∨ (65 ≤ r ∧ r ≤ 90) ∨ (97 ≤ r ∧ r ≤ 122))) ∨ (192 ≤ r ∧ exB r = false)))

theorem byEx_nsc (r : Int) : nscB r = byExB r := by
  unfold nscB byExB exB
  rw [Bool.eq_iff_iff, decide_eq_true_iff, decide_eq_true_iff, decide_eq_false_iff_not]
  omega

theorem fold_case (r : Int) (h0 : 0 ≤ r) (h1 : r < 128) : (97 ≤ bits .or .i32 r 32 ∧ bits .or .i32 r 32 ≤ 122) ↔ ((65 ≤ r ∧ r ≤ 90) ∨ (97 ≤ r ∧ r ≤ 122)) := by
  obtain ⟨n, rfl⟩ := Int.eq_ofNat_of_zero_le h0
  have hn : n < 128 := by omega
  clear h0 h1
  revert n
  decide +kernel

set_option maxHeartbeats 1000000 in
theorem byEx_any (r : Int) (w : World) :
    Calls Try.prog 6 #[.int .i32 r] w fun e w' => e = .returned (.bool (byExB r)) ∧ w' = w := by
  have H1 : Hid (∀ b : Bool, (b = true ↔ (0 ≤ r ∧ r ≤ 983039 ∧ ((r < 128 ∧ (r = 58 ∨ r = 95 ∨ (65 ≤ r ∧ r ≤ 90) ∨ (97 ≤ r ∧ r ≤ 122))) ∨ (192 ≤ r ∧ exB r = false)))) → b = byExB r) := by
    intro b hb; unfold byExB; rw [Bool.eq_iff_iff, decide_eq_true_iff, hb]
  have HF : Hid (0 ≤ r → r < 128 → ((97 ≤ bits .or .i32 r 32 ∧ bits .or .i32 r 32 ≤ 122) ↔ ((65 ≤ r ∧ r ≤ 90) ∨ (97 ≤ r ∧ r ≤ 122)))) := fold_case r
  go_enter Try.func6, Try.ntmps6
  go_wp2_with (go_at_call 9; refine (ex_any _ _).mono ?_; rintro e w' ⟨rfl, rfl⟩)
  all_goals
    go_ret
    refine ⟨ret_bool (H1.out _ ?_), rfl⟩
    clear H1
    have hf : (0 ≤ r ∧ r < 128 ∧ ((97 ≤ bits .or .i32 r 32 ∧ bits .or .i32 r 32 ≤ 122) ↔ ((65 ≤ r ∧ r ≤ 90) ∨ (97 ≤ r ∧ r ≤ 122)))) ∨ r < 0 ∨ 128 ≤ r := by
      by_cases hr : 0 ≤ r ∧ r < 128
      · exact Or.inl ⟨hr.1, hr.2, HF.out hr.1 hr.2⟩
      · exact Or.inr (by omega)
    clear HF
    generalize bits .or .i32 r 32 = F at *
    cases hx : exB r <;> simp only [hx, beq_iff_eq, Bool.or_eq_true, decide_eq_true_eq, Bool.not_true, Bool.not_false, Bool.false_eq_true, Bool.true_eq_false, false_iff, true_iff, and_true, and_false, or_false] at * <;> omega

theorem model_any (r : Int) (w : World) :
    Calls Try.prog 3 #[.int .i32 r] w fun e w' => e = .returned (.bool true) ∧ Grown w w' := by
  have H1 : Hid (nscB r = byExB r) := byEx_nsc r
  go_enter Try.func3, Try.ntmps3
  go_wp2_with (first | (go_at_call 5; refine (nsc_any _ _).mono ?_; rintro e w' ⟨rfl, hg⟩) | (go_at_call 6; refine (byEx_any _ _).mono ?_; rintro e w' ⟨rfl, rfl⟩))
  go_ret
  exact ⟨ret_bool (by rw [H1.out]; simp), hg⟩
end Go.Proofs.Qxb6626471a
