import Derived.Test.Qxb6626891aInv
namespace Go.Proofs.Qxb6626891a
open Go.RowKit
set_option linter.unusedVariables false

set_option maxHeartbeats 1000000 in
set_option maxRecDepth 100000 in
theorem fires_else (mc : Int) (ov cp : ByteArray) (cap : Int) (qd fa : ByteArray) (n k : Nat) (w : World) (h1 : ov.size ≤ maxLen) (h2 : cp.size ≤ maxLen) (h4 : qd.size ≤ maxLen) (h5 : fa.size ≤ maxLen) (h : ov.size + cp.size + qd.size + fa.size ≤ 1048576)
    (hn : n ≤ 65536) (hk : k ≤ 65536) (hq : (cp.toList == [113, 117, 101, 117, 101]) = false) :
    Calls Try.prog 3 #[.int .i64 mc, .string ov, .string cp, .int .i64 cap, .string qd, .string fa, .int .i64 (n : Int), .int .i64 (k : Int)] w fun e w' => e = .returned (.bool true) ∧ Gr w w' := by
  have hb := fun W => bytes5_ok mc ov cp cap qd fa (n : Int) (k : Int) W h1 h2 h4 h5 h
  have hmk := make_any n k hn hk
  obtain ⟨i0, hi, hz0, hz1, hz2⟩ := info_parts info3
  unfold maxLen at h1 h2 h4 h5
  go_enter Try.func3, Try.ntmps3
  go_wp2_with (go_at_call 5; refine (hb _).mono ?_; rintro e w' ⟨rfl, rfl⟩)
  have hinv := Inv.made w' #[.int .i64 mc, .string ov, .string cp, .int .i64 cap, .string qd, .string fa] (n + k)
  go_loopw [21] (fun i wr => ∃ j : Nat, j ≤ n ∧ i = .int .i64 j ∧ Inv w' #[.int .i64 mc, .string ov, .string cp, .int .i64 cap, .string qd, .string fa] (n + k) j wr) (fun i _ => n - (intOf i).toNat)
  case atStart => exact ⟨0, by omega, rfl, hinv⟩
  case round =>
    clear hinv
    obtain ⟨j, hj, rfl, hI⟩ := hrel
    by_cases hlt : j < n
    · obtain ⟨v, hv⟩ := hI.there j (by omega)
      have hf := hI.free j
      go_wp2
      go_roundw
      case rel => exact ⟨j + 1, by omega, by go_num, hI.store⟩
      case measure => simp [intOf]; omega
    · obtain rfl : j = n := by omega
      go_wp2
      go_loopw [20, 22] (fun q i wr => ∃ f : Nat, f ≤ k ∧ i = .int .i64 f ∧ q = .slice (some ⟨w'.heap.size + 1, 0, none⟩) (j + f) (j + k) ∧ Inv w' #[.int .i64 mc, .string ov, .string cp, .int .i64 cap, .string qd, .string fa] (j + k) (j + f) wr) (fun _ i _ => k - (intOf i).toNat)
      case atStart => exact ⟨0, by omega, rfl, rfl, hI⟩
      case round =>
        clear hI
        rename_i wr0 _
        obtain ⟨f, hf, rfl, rfl, hI⟩ := hrel
        by_cases hlt : f < k
        · have hp := hI.pol
          go_wp2_with fail
          refine (enq_else _ _ _ _ _ _ _ _ hq).mono ?_
          rintro e w1 ⟨rfl, hg1⟩
          have hI1 := hI.gone hg1
          clear hI hp hg1
          have hI2 := hI1.alloc #[.int .i64 ((j : Int) + (f : Int))] 3
          have HI2 : Hid (Inv w' #[.int .i64 mc, .string ov, .string cp, .int .i64 cap, .string qd, .string fa] (j + k) (j + f) (w1.alloc (.cells #[.int .i64 ((j : Int) + (f : Int))] 3))) := hI2
          clear hI1 hI2
          go_wp2_with (at_builtin; refine wpList_append_arg _ rfl (.tmp 142) (.tmp 146) 29 rfl 3 i0 (.int .i64 0) 1 8 Try.underlying29 hi hz0 hz1 hz2 rfl (by decide) (w'.heap.size + 1) 0 (j + f) (j + k) ((List.range (j + f)).map fun x => .int .i64 ((0 + x : Nat) : Int)) rfl ?c1 ?c2 ⟨w1.heap.size, 0, none⟩ 1 1 [.int .i64 ((j : Int) + (f : Int))] rfl rfl ?c3 ?c4 ?c5 ?c6 ?c7 ?room ?grow)
          case c1 => simp
          case c2 => exact HI2.out.olds (by omega) 0 (j + f) (by omega)
          case c3 => exact oneNew _ _ _
          case c4 => simp [Value.oneCell']
          case c5 => intro _; exact HI2.out.spare _ 0 (by omega) _
          case c6 => unfold maxLen; omega
          case c7 => omega
          case grow => intro hh; omega
          case room =>
            intro _
            have hI3 := HI2.out.put (j + f) (.int .i64 ((j : Int) + (f : Int))) rfl (by simp)
            clear HI2
            go_wp2
            go_roundw
            case rel => exact ⟨f + 1, by omega, by go_num, rfl, hI3⟩
            case measure => simp [intOf]; omega
        · obtain rfl : f = k := by omega
          have HI : Hid (Inv w' #[.int .i64 mc, .string ov, .string cp, .int .i64 cap, .string qd, .string fa] (j + f) (j + f) wr) := hI
          clear hI
          by_cases hz : f ≤ 0
          all_goals
            go_wp2
            go_loop [30] (fun i => ∃ x : Nat, x ≤ j + f ∧ i = .int .i64 x) (fun i => j + f - (intOf i).toNat)
            case atStart => exact ⟨0, by omega, rfl⟩
            case round =>
              obtain ⟨x, hx, rfl⟩ := hrel
              by_cases hxl : x < j + f
              · have hc := HI.out.cell (by omega) x hxl
                go_wp2
                go_round
                case rel => exact ⟨x + 1, by omega, by go_num⟩
                case measure => simp [intOf]; omega
              · go_wp2
                go_ret
                exact ⟨rfl, HI.out.gr⟩
end Go.Proofs.Qxb6626891a
