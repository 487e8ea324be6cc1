import Derived.Test.Qxb6626435aRingIs2
namespace Go.Proofs.Qxb6626435a
open Go.RowKit Go.Sort
set_option linter.unusedVariables false

/-- the call returns a bool -/
def IsB (e : Ending) : Prop := ∃ b : Bool, e = .returned (.bool b)

set_option maxHeartbeats 400000 in
set_option maxRecDepth 100000 in
theorem bytes_any (ao : Option Addr) (n c : Nat) (w : World) :
    Calls Try.prog 5 #[.slice ao n c] w fun e w' => IsB e ∧ w = w' := by
  go_enter Try.func5, Try.ntmps5
  by_cases hn : n ≤ 1048576
  · go_wp2
    go_loop [3, 4] (fun z i => ∃ k m : Nat, k ≤ n ∧ i = .int .i64 k ∧ m ≤ 1048576 ∧ z = .int .i64 m) (fun _ i => n - (intOf i).toNat)
    case atStart => exact ⟨0, n, by omega, rfl, by omega, by go_num⟩
    case round =>
      obtain ⟨k, m, hk, rfl, hm, rfl⟩ := hrel
      by_cases hkn : k < n
      · have hkn' : decide ((k:Int) < (n:Int)) = true := by simp; omega
        have w1 : IntKind.i64.wrap ((m:Int) + 20) = (m:Int) + 20 := by rw [IntKind.wrap_i64]; omega
        have w2 : IntKind.i64.wrap ((k:Int) + 1) = (k:Int) + 1 := by rw [IntKind.wrap_i64]; omega
        have HK : Hid (k < n) := hkn
        by_cases hm2 : m + 20 ≤ 1048576
        · have d : decide ((1048576:Int) < (m:Int) + 20) = false := by simp; omega
          have HM : Hid (m + 20 ≤ 1048576) := hm2
          clear hm2 hm hkn hk hn
          go_wp2
          go_round
          case rel => exact ⟨k + 1, m + 20, HK.out, by go_num, HM.out, by go_num⟩
          case measure => have := HK.out; simp [intOf]; omega
        · have d : decide ((1048576:Int) < (m:Int) + 20) = true := by simp; omega
          clear hm2 hm hkn hk hn
          go_wp2
          go_ret
          exact ⟨⟨_, rfl⟩, rfl⟩
      · go_wp2
        go_ret
        exact ⟨⟨_, rfl⟩, rfl⟩
  · go_wp2
    go_ret
    exact ⟨⟨_, rfl⟩, rfl⟩
end Go.Proofs.Qxb6626435a
