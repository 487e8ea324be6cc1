import Derived.Test.Qxb6626435aCompare
namespace Go.Proofs.Qxb6626435a
open Go.RowKit Go.Sort
set_option linter.unusedVariables false

theorem isNaN46 (x : Nat) (w : World) : Calls Try.prog 46 #[.int .u64 (x : Int)] w fun e w' => e = .returned (.bool false) ∧ w = w' := by
  go_enter Try.func46, Try.ntmps46
  go_wp2
  go_ret
  exact ⟨rfl, rfl⟩
theorem isNaN49 (x : Nat) (w : World) : Calls Try.prog 49 #[.int .u64 (x : Int)] w fun e w' => e = .returned (.bool false) ∧ w = w' := by
  go_enter Try.func49, Try.ntmps49
  go_wp2
  go_ret
  exact ⟨rfl, rfl⟩
theorem less64 (x y : Nat) (w : World) : Calls Try.prog 48 #[.int .u64 (x : Int), .int .u64 (y : Int)] w fun e w' => e = .returned (.bool (decide (x < y))) ∧ w = w' := by
  go_enter Try.func48, Try.ntmps48
  go_wp2_with (go_at_call 46; refine (isNaN46 _ _).mono ?_; rintro e w' ⟨rfl, rfl⟩)
  go_ret
  exact ⟨rfl, rfl⟩

/-- hs[t] < p for all t < i -/
def Lo (hs : List Nat) (p i : Nat) : Prop := ∀ t (ht : t < hs.length), t < i → hs[t] < p
theorem Lo.zero (hs : List Nat) (p : Nat) : Lo hs p 0 := fun t _ h => by omega
theorem Lo.up {hs : List Nat} {p : Nat} (hsr : hs.Pairwise (· ≤ ·)) (h : Nat) (hh : h < hs.length) (hlt : hs[h] < p) : Lo hs p (h + 1) := fun t ht h2 => by
  by_cases e : t = h
  · subst e; exact hlt
  · have := List.pairwise_iff_getElem.1 hsr t h ht hh (by omega)
    omega

set_option maxHeartbeats 1000000 in
set_option maxRecDepth 100000 in
theorem bsearch (b off n c p : Nat) (hs : List Nat) (w : World) (hl : hs.length = n) (hn : n ≤ 65536) (hsr : hs.Pairwise (· ≤ ·)) (hc : ∀ t (ht : t < hs.length), w.cell? ⟨b, off + t, none⟩ = some (.int .u64 (hs[t] : Nat))) :
    Calls Try.prog 35 #[.slice (some ⟨b, off, none⟩) n c, .int .u64 (p : Int)] w fun e w' => ∃ (j : Nat) (bb : Bool), e = .returned (.tuple #[.int .i64 j, .bool bb]) ∧ j ≤ n ∧ Lo hs p j ∧ w = w' := by
  have HSR : Hid (hs.Pairwise (· ≤ ·)) := hsr
  clear hsr
  go_enter Try.func35, Try.ntmps35
  go_wp2
  go_loopw [7, 8] (fun vi vj wr => ∃ i j : Nat, i ≤ j ∧ j ≤ n ∧ vi = .int .i64 i ∧ vj = .int .i64 j ∧ Hid (Lo hs p i) ∧ wr = w) (fun vi vj _ => (intOf vj).toNat - (intOf vi).toNat)
  case atStart => exact ⟨0, n, by omega, by omega, rfl, rfl, Lo.zero _ _, rfl⟩
  case round =>
    obtain ⟨i, j, hij, hj, rfl, rfl, hlo, rfl⟩ := hrel
    by_cases hlt : i < j
    · obtain ⟨h, hh1, hh2, hh3⟩ : ∃ h : Nat, i ≤ h ∧ h < j ∧ ((i : Int) + (j : Int)) / 2 = (h : Int) := ⟨(i + j) / 2, by omega, by omega, by omega⟩
      have hhl : h < hs.length := by omega
      have hcl := hc h hhl
      have w1 : IntKind.i64.wrap ((i : Int) + (j : Int)) = (i : Int) + (j : Int) := by rw [IntKind.wrap_i64]; omega
      have w2 : IntKind.u64.wrap ((i : Int) + (j : Int)) = (i : Int) + (j : Int) := by rw [IntKind.wrap_u64]; omega
      have w3 : IntKind.i64.wrap (h : Int) = (h : Int) := by rw [IntKind.wrap_i64]; omega
      have HUP : Hid (hs[h] < p → Lo hs p (h + 1)) := fun hl' => Lo.up HSR.out h hhl hl'
      have hd := less64 hs[h] p
      clear hc
      generalize hs[h] = y at *
      by_cases hyp : y < p
      · rw [decide_eq_true hyp] at hd
        go_wp2_with (go_at_call 48; refine (hd _).mono ?_; rintro e w' ⟨rfl, rfl⟩)
        go_roundw
        case rel => exact ⟨h + 1, j, by omega, by omega, by go_num, rfl, HUP.out hyp, True.intro⟩
        case measure => simp [intOf]; omega
      · rw [decide_eq_false hyp] at hd
        go_wp2_with (go_at_call 48; refine (hd _).mono ?_; rintro e w' ⟨rfl, rfl⟩)
        go_roundw
        case rel => exact ⟨i, h, by omega, by omega, rfl, rfl, hlo, True.intro⟩
        case measure => simp [intOf]; omega
    · by_cases hin : i < n
      · have hcl := hc i (by omega)
        have hz := isNaN49 hs[i]
        clear hc
        generalize hs[i] = y at *
        by_cases hyp : y = p
        · subst hyp
          go_wp2_with (go_at_call 49; refine (hz _).mono ?_; rintro e w' ⟨rfl, rfl⟩)
          go_ret2
          exact ⟨i, _, rfl, by omega, hlo.out, rfl⟩
        · go_wp2_with (go_at_call 49; refine (hz _).mono ?_; rintro e w' ⟨rfl, rfl⟩)
          go_ret2
          exact ⟨i, _, rfl, by omega, hlo.out, rfl⟩
      · go_wp2
        go_ret2
        exact ⟨i, _, rfl, by omega, hlo.out, rfl⟩
end Go.Proofs.Qxb6626435a
