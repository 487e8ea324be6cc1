import Derived.Test.Qxb6626471aWalks
namespace Go.Proofs.Qxb6626471a
open Go.RowKit

def firsts : List Int := [58, 65, 95, 97, 192, 216, 248, 880, 895, 8204, 8304, 11264, 12289, 63744, 65008, 65536]
def lasts : List Int := [58, 90, 95, 122, 214, 246, 767, 893, 8191, 8205, 8591, 12271, 55295, 64975, 65533, 983039]
def firstB (x : Int) : Bool := firsts.contains x
def lastB (x : Int) : Bool := lasts.contains x

theorem firstB_iff (x : Int) : firstB x = true ↔ (x = 58 ∨ x = 65 ∨ x = 95 ∨ x = 97 ∨ x = 192 ∨ x = 216 ∨ x = 248 ∨ x = 880 ∨ x = 895 ∨ x = 8204 ∨ x = 8304 ∨ x = 11264 ∨ x = 12289 ∨ x = 63744 ∨ x = 65008 ∨ x = 65536) := by
  simp [firstB, firsts]
theorem lastB_iff (x : Int) : lastB x = true ↔ (x = 58 ∨ x = 90 ∨ x = 95 ∨ x = 122 ∨ x = 214 ∨ x = 246 ∨ x = 767 ∨ x = 893 ∨ x = 8191 ∨ x = 8205 ∨ x = 8591 ∨ x = 12271 ∨ x = 55295 ∨ x = 64975 ∨ x = 65533 ∨ x = 983039) := by
  simp [lastB, lasts]
theorem nscB_iff (r : Int) : nscB r = true ↔ ((65 ≤ r ∧ r ≤ 90) ∨ (97 ≤ r ∧ r ≤ 122) ∨ r = 58 ∨ r = 95 ∨ (192 ≤ r ∧ r ≤ 214) ∨ (216 ≤ r ∧ r ≤ 246) ∨ (248 ≤ r ∧ r ≤ 767) ∨ (880 ≤ r ∧ r ≤ 893) ∨ (895 ≤ r ∧ r ≤ 8191) ∨ (8204 ≤ r ∧ r ≤ 8205) ∨ (8304 ≤ r ∧ r ≤ 8591) ∨ (11264 ≤ r ∧ r ≤ 12271) ∨ (12289 ≤ r ∧ r ≤ 55295) ∨ (63744 ≤ r ∧ r ≤ 64975) ∨ (65008 ≤ r ∧ r ≤ 65533) ∨ (65536 ≤ r ∧ r ≤ 983039)) := by
  unfold nscB; rw [decide_eq_true_iff]

set_option maxHeartbeats 1000000 in
theorem first_any (x : Int) (w : World) :
    Calls Try.prog 7 #[.int .i32 x] w fun e w' => e = .returned (.bool (firstB x)) ∧ w' = w := by
  have H1 : Hid (∀ b : Bool, (b = true ↔ (x = 58 ∨ x = 65 ∨ x = 95 ∨ x = 97 ∨ x = 192 ∨ x = 216 ∨ x = 248 ∨ x = 880 ∨ x = 895 ∨ x = 8204 ∨ x = 8304 ∨ x = 11264 ∨ x = 12289 ∨ x = 63744 ∨ x = 65008 ∨ x = 65536)) → b = firstB x) := by
    intro b hb; rw [Bool.eq_iff_iff, firstB_iff, hb]
  go_enter Try.func7, Try.ntmps7
  go_wp2
  all_goals
    go_ret
    refine ⟨ret_bool (H1.out _ ?_), rfl⟩
    clear H1
    simp only [beq_iff_eq, beq_eq_false_iff_ne, Bool.false_eq_true, false_iff, true_iff] at *
    omega

set_option maxHeartbeats 1000000 in
theorem last_any (x : Int) (w : World) :
    Calls Try.prog 8 #[.int .i32 x] w fun e w' => e = .returned (.bool (lastB x)) ∧ w' = w := by
  have H1 : Hid (∀ b : Bool, (b = true ↔ (x = 58 ∨ x = 90 ∨ x = 95 ∨ x = 122 ∨ x = 214 ∨ x = 246 ∨ x = 767 ∨ x = 893 ∨ x = 8191 ∨ x = 8205 ∨ x = 8591 ∨ x = 12271 ∨ x = 55295 ∨ x = 64975 ∨ x = 65533 ∨ x = 983039)) → b = lastB x) := by
    intro b hb; rw [Bool.eq_iff_iff, lastB_iff, hb]
  go_enter Try.func8, Try.ntmps8
  go_wp2
  all_goals
    go_ret
    refine ⟨ret_bool (H1.out _ ?_), rfl⟩
    clear H1
    simp only [beq_iff_eq, beq_eq_false_iff_ne, Bool.false_eq_true, false_iff, true_iff] at *
    omega

/-! the plain laws: where a run begins, where it ends, elsewhere -/
theorem law_first (r : Int) (h : firstB (r + 1) = true) : nscB r = false ∧ nscB (r + 1) = true := by
  rw [firstB_iff] at h
  refine ⟨?_, by rw [nscB_iff]; omega⟩
  rw [Bool.eq_false_iff, Ne, nscB_iff]; omega
theorem law_last (r : Int) (h : lastB r = true) : nscB r = true ∧ nscB (r + 1) = false := by
  rw [lastB_iff] at h
  refine ⟨by rw [nscB_iff]; omega, ?_⟩
  rw [Bool.eq_false_iff, Ne, nscB_iff]; omega
theorem law_else (r : Int) (h1 : firstB (r + 1) = false) (h2 : lastB r = false) : nscB r = nscB (r + 1) := by
  rw [Bool.eq_false_iff, Ne, firstB_iff] at h1
  rw [Bool.eq_false_iff, Ne, lastB_iff] at h2
  rw [Bool.eq_iff_iff, nscB_iff, nscB_iff]
  omega

set_option maxHeartbeats 1000000 in
theorem ends_max (w : World) :
    Calls Try.prog 4 #[.int .i32 2147483647] w fun e w' => e = .returned (.bool true) ∧ Grown w w' := by
  go_enter Try.func4, Try.ntmps4
  go_wp2
  go_ret
  exact ⟨rfl, Grown.refl _⟩

theorem grown_trans {a b c : World} (h1 : Grown a b) (h2 : Grown b c) : Grown a c :=
  ⟨World.keptBut_trans h1.1 (World.keptBut_mono (fun _ f => f.elim) h2.1), fun x => (h2.2.1 x).trans (h1.2.1 x), Nat.le_trans h1.2.2 h2.2.2⟩

set_option maxHeartbeats 1000000 in
theorem ends_first (r : Int) (w : World) (h0 : -2147483648 ≤ r) (h1 : r < 2147483647) (hne : (r == 2147483647) = false) (hf : firstB (r + 1) = true) (ha : nscB r = false) (hb : nscB (r + 1) = true) :
    Calls Try.prog 4 #[.int .i32 r] w fun e w' => e = .returned (.bool true) ∧ Grown w w' := by
  go_enter Try.func4, Try.ntmps4
  go_wp2_with fail
  refine (nsc_any _ _).mono ?_
  rintro e w1 ⟨rfl, hg1⟩
  go_wp2_with fail
  refine (nsc_any _ _).mono ?_
  rintro e w2 ⟨rfl, hg2⟩
  go_wp2_with (go_at_call 7; refine (first_any _ _).mono ?_; rintro e w' ⟨rfl, rfl⟩)
  go_ret
  exact ⟨rfl, grown_trans hg1 hg2⟩

set_option maxHeartbeats 1000000 in
theorem ends_last (r : Int) (w : World) (h0 : -2147483648 ≤ r) (h1 : r < 2147483647) (hne : (r == 2147483647) = false) (hf : firstB (r + 1) = false) (hl : lastB r = true) (ha : nscB r = true) (hb : nscB (r + 1) = false) :
    Calls Try.prog 4 #[.int .i32 r] w fun e w' => e = .returned (.bool true) ∧ Grown w w' := by
  go_enter Try.func4, Try.ntmps4
  go_wp2_with fail
  refine (nsc_any _ _).mono ?_
  rintro e w1 ⟨rfl, hg1⟩
  go_wp2_with fail
  refine (nsc_any _ _).mono ?_
  rintro e w2 ⟨rfl, hg2⟩
  go_wp2_with (first | (go_at_call 7; refine (first_any _ _).mono ?_; rintro e w' ⟨rfl, rfl⟩) | (go_at_call 8; refine (last_any _ _).mono ?_; rintro e w' ⟨rfl, rfl⟩))
  go_ret
  exact ⟨rfl, grown_trans hg1 hg2⟩

set_option maxHeartbeats 1000000 in
theorem ends_else (r : Int) (b : Bool) (w : World) (h0 : -2147483648 ≤ r) (h1 : r < 2147483647) (hne : (r == 2147483647) = false) (hf : firstB (r + 1) = false) (hl : lastB r = false) (ha : nscB r = b) (hb : nscB (r + 1) = b) :
    Calls Try.prog 4 #[.int .i32 r] w fun e w' => e = .returned (.bool true) ∧ Grown w w' := by
  go_enter Try.func4, Try.ntmps4
  go_wp2_with fail
  refine (nsc_any _ _).mono ?_
  rintro e w1 ⟨rfl, hg1⟩
  go_wp2_with fail
  refine (nsc_any _ _).mono ?_
  rintro e w2 ⟨rfl, hg2⟩
  go_wp2_with (first | (go_at_call 7; refine (first_any _ _).mono ?_; rintro e w' ⟨rfl, rfl⟩) | (go_at_call 8; refine (last_any _ _).mono ?_; rintro e w' ⟨rfl, rfl⟩))
  go_ret
  exact ⟨ret_bool (by simp), grown_trans hg1 hg2⟩

theorem ends_any (r : Int) (w : World) (h0 : -2147483648 ≤ r) (h1 : r ≤ 2147483647) :
    Calls Try.prog 4 #[.int .i32 r] w fun e w' => e = .returned (.bool true) ∧ Grown w w' := by
  by_cases hm : r = 2147483647
  · subst hm; exact ends_max w
  · have hne : (r == 2147483647) = false := by simp; omega
    cases hf : firstB (r + 1)
    · cases hl : lastB r
      · exact ends_else r _ w h0 (by omega) hne hf hl (law_else r hf hl) rfl
      · exact ends_last r w h0 (by omega) hne hf hl (law_last r hl).1 (law_last r hl).2
    · exact ends_first r w h0 (by omega) hne hf (law_first r hf).1 (law_first r hf).2
end Go.Proofs.Qxb6626471a
