import Derived.Test.Qxb6626891aInv
namespace Go.Proofs.Qxb6626891a
open Go.RowKit
set_option linter.unusedVariables false

theorem slice_eq {a : Addr} {l l' c c' : Nat} (h : l = l') (k : c = c') : Value.slice (some a) l c = .slice (some a) l' c' := by rw [h, k]

set_option maxHeartbeats 1000000 in
set_option maxRecDepth 100000 in
theorem fires_old (mc : Int) (ov cp : ByteArray) (C : Nat) (qd fa : ByteArray) (n k : Nat) (w : World) (h1 : ov.size ≤ maxLen) (h2 : cp.size ≤ maxLen) (h4 : qd.size ≤ maxLen) (h5 : fa.size ≤ maxLen) (h : ov.size + cp.size + qd.size + fa.size ≤ 1048576)
    (hn : n ≤ 65536) (hk : k ≤ 65536) (hq : (cp.toList == [113, 117, 101, 117, 101]) = true) (hC1 : 1 ≤ C) (hC2 : C ≤ 9223372036854775807) (hd : (qd.toList == [110, 101, 119]) = false) :
    Calls Try.prog 3 #[.int .i64 mc, .string ov, .string cp, .int .i64 (C : Int), .string qd, .string fa, .int .i64 (n : Int), .int .i64 (k : Int)] w fun e w' => e = .returned (.bool true) ∧ Gr w w' := by
  have hb := fun W => bytes5_ok mc ov cp (C : Int) qd fa (n : Int) (k : Int) W h1 h2 h4 h5 h
  have hmk := make_any n k hn hk
  obtain ⟨i0, hi, hz0, hz1, hz2⟩ := info_parts info3
  unfold maxLen at h1 h2 h4 h5
  go_enter Try.func3, Try.ntmps3
  go_wp2_with (go_at_call 5; refine (hb _).mono ?_; rintro e w' ⟨rfl, rfl⟩)
  clear hb
  have hinv := Inv.made w' #[.int .i64 mc, .string ov, .string cp, .int .i64 (C : Int), .string qd, .string fa] (n + k)
  go_loopw [21] (fun i wr => ∃ j : Nat, j ≤ n ∧ i = .int .i64 j ∧ Inv w' #[.int .i64 mc, .string ov, .string cp, .int .i64 (C : Int), .string qd, .string fa] (n + k) j wr) (fun i _ => n - (intOf i).toNat)
  case atStart => exact ⟨0, by omega, rfl, hinv⟩
  case round =>
    clear hinv
    obtain ⟨j, hj, rfl, hI⟩ := hrel
    by_cases hlt : j < n
    · obtain ⟨v, hv⟩ := hI.there j (by omega)
      have hf := hI.free j
      go_wp2
      go_roundw
      case rel => exact ⟨j + 1, by omega, by go_num, hI.store⟩
      case measure => simp [intOf]; omega
    · obtain rfl : j = n := by omega
      clear hmk
      go_wp2
      go_loopw [20, 22] (fun q i wr => ∃ f L o : Nat, f ≤ k ∧ i = .int .i64 f ∧ q = .slice (some ⟨w'.heap.size + 1, o, none⟩) L (j + k - o) ∧ Hid (L = qlen j C f) ∧ o + L ≤ j + f ∧ j + f ≤ o + L ∧ Inv w' #[.int .i64 mc, .string ov, .string cp, .int .i64 (C : Int), .string qd, .string fa] (j + k) (o + L) wr) (fun _ i _ => k - (intOf i).toNat)
      case atStart => exact ⟨0, j, 0, by omega, rfl, by simp, rfl, by omega, by omega, by simpa using hI⟩
      case round =>
        clear hI
        obtain ⟨f, L, o, hf, rfl, rfl, HL, hLf, hLf2, hI⟩ := hrel
        by_cases hlt : f < k
        · by_cases hLC : L < C
          · have hp := hI.pol
            have HS : Hid (L + 1 = qlen j C (f + 1)) := (qlen_few j C f L HL.out hLC).2
            go_wp2_with fail
            refine (enq_old_few _ _ _ _ _ _ _ _ hq hd (by omega) (by omega) (by omega) (by omega)).mono ?_
            rintro e w1 ⟨rfl, hg1⟩
            have hI1 := hI.gone hg1
            clear hI hp hg1
            have HI2 : Hid (Inv w' #[.int .i64 mc, .string ov, .string cp, .int .i64 (C : Int), .string qd, .string fa] (j + k) (o + L) (w1.alloc (.cells #[.int .i64 ((j : Int) + (f : Int))] 3))) := hI1.alloc #[.int .i64 ((j : Int) + (f : Int))] 3
            clear hI1
            go_wp2_with (at_builtin; refine wpList_append_arg _ rfl (.tmp 142) (.tmp 146) 29 rfl 3 i0 (.int .i64 0) 1 8 Try.underlying29 hi hz0 hz1 hz2 rfl (by decide) (w'.heap.size + 1) (o) (L) (j + k - o) ((List.range (L)).map fun x => .int .i64 ((o + x : Nat) : Int)) rfl ?c1F ?c2F ⟨w1.heap.size, 0, none⟩ 1 1 [.int .i64 ((j : Int) + (f : Int))] rfl rfl ?c3F ?c4F ?c5F ?c6F ?c7F ?roomF ?growF)
            case c1F => simp
            case c2F => exact HI2.out.olds (by omega) (o) (L) (by omega)
            case c3F => exact oneNew _ _ _
            case c4F => simp [Value.oneCell']
            case c5F => intro _; exact HI2.out.spare _ 0 (by omega) _
            case c6F => unfold maxLen; omega
            case c7F => omega
            case growF => intro hh; omega
            case roomF =>
              intro _
              have hI3 := HI2.out.put (o + L) (.int .i64 ((j : Int) + (f : Int))) (by omega) (by rw [show ((j : Int) + (f : Int)) = ((o + L : Nat) : Int) from by omega])
              clear HI2
              go_wp2
              go_roundw
              case rel => exact ⟨f + 1, L + 1, o, by omega, by go_num, rfl, HS, by omega, by omega, hI3⟩
              case measure => simp [intOf]; omega
          · have hp := hI.pol
            have HS : Hid (C = qlen j C (f + 1)) := qlen_many j C f L HL.out (by omega)
            go_wp2_with fail
            refine (enq_old_many _ _ _ _ _ _ _ _ hq hd (by omega) (by omega) (by omega) (by omega)).mono ?_
            rintro e w1 ⟨rfl, hg1⟩
            have hI1 := hI.gone hg1
            clear hI hp hg1
            have HI2 : Hid (Inv w' #[.int .i64 mc, .string ov, .string cp, .int .i64 (C : Int), .string qd, .string fa] (j + k) (o + L) (w1.alloc (.cells #[.int .i64 ((j : Int) + (f : Int))] 3))) := hI1.alloc #[.int .i64 ((j : Int) + (f : Int))] 3
            clear hI1
            go_wp2_with (at_builtin; refine wpList_append_arg _ rfl (.tmp 142) (.tmp 146) 29 rfl 3 i0 (.int .i64 0) 1 8 Try.underlying29 hi hz0 hz1 hz2 rfl (by decide) (w'.heap.size + 1) (o + (L - C + 1)) (L - (L - C + 1)) (j + k - o - (L - C + 1)) ((List.range (L - (L - C + 1))).map fun x => .int .i64 ((o + (L - C + 1) + x : Nat) : Int)) rfl ?c1M ?c2M ⟨w1.heap.size, 0, none⟩ 1 1 [.int .i64 ((j : Int) + (f : Int))] rfl rfl ?c3M ?c4M ?c5M ?c6M ?c7M ?roomM ?growM)
            case c1M => simp
            case c2M => exact HI2.out.olds (by omega) (o + (L - C + 1)) (L - (L - C + 1)) (by omega)
            case c3M => exact oneNew _ _ _
            case c4M => simp [Value.oneCell']
            case c5M => intro _; exact HI2.out.spare _ 0 (by omega) _
            case c6M => unfold maxLen; omega
            case c7M => omega
            case growM => intro hh; omega
            case roomM =>
              intro _
              have hI3 := HI2.out.put (o + (L - C + 1) + (L - (L - C + 1))) (.int .i64 ((j : Int) + (f : Int))) (by omega) (by rw [show ((j : Int) + (f : Int)) = ((o + L : Nat) : Int) from by omega])
              clear HI2
              go_wp2
              go_roundw
              case rel => exact ⟨f + 1, C, o + (L - C + 1), by omega, by go_num, slice_eq (by omega) (by omega), HS, by omega, by omega, by rw [show o + (L - C + 1) + C = o + L + 1 from by omega]; exact hI3⟩
              case measure => simp [intOf]; omega
        · obtain rfl : f = k := by omega
          have HI : Hid (Inv w' #[.int .i64 mc, .string ov, .string cp, .int .i64 (C : Int), .string qd, .string fa] (j + f) (o + L) wr) := hI
          clear hI
          by_cases hz : f ≤ 0
          · have hE := qlen_end0 j C f L HL.out hz
            go_wp2
            go_loop [30] (fun i => ∃ x : Nat, x ≤ L ∧ i = .int .i64 x) (fun i => L - (intOf i).toNat)
            case atStart => exact ⟨0, by omega, rfl⟩
            case round =>
              obtain ⟨x, hx, rfl⟩ := hrel
              by_cases hxl : x < L
              · have hc := HI.out.cell (by omega) (o + x) (by omega)
                go_wp2
                go_round
                case rel => exact ⟨x + 1, by omega, by go_num⟩
                case measure => simp [intOf]; omega
              · go_wp2
                go_ret
                exact ⟨rfl, HI.out.gr⟩
          · by_cases hCn : C < j + f
            · have hE := qlen_endC j C f L HL.out hz hCn
              go_wp2
              go_loop [30] (fun i => ∃ x : Nat, x ≤ L ∧ i = .int .i64 x) (fun i => L - (intOf i).toNat)
              case atStart => exact ⟨0, by omega, rfl⟩
              case round =>
                obtain ⟨x, hx, rfl⟩ := hrel
                by_cases hxl : x < L
                · have hc := HI.out.cell (by omega) (o + x) (by omega)
                  go_wp2
                  go_round
                  case rel => exact ⟨x + 1, by omega, by go_num⟩
                  case measure => simp [intOf]; omega
                · go_wp2
                  go_ret
                  exact ⟨rfl, HI.out.gr⟩
            · have hE := qlen_endA j C f L HL.out hz hCn
              go_wp2
              go_loop [30] (fun i => ∃ x : Nat, x ≤ L ∧ i = .int .i64 x) (fun i => L - (intOf i).toNat)
              case atStart => exact ⟨0, by omega, rfl⟩
              case round =>
                obtain ⟨x, hx, rfl⟩ := hrel
                by_cases hxl : x < L
                · have hc := HI.out.cell (by omega) (o + x) (by omega)
                  go_wp2
                  go_round
                  case rel => exact ⟨x + 1, by omega, by go_num⟩
                  case measure => simp [intOf]; omega
                · go_wp2
                  go_ret
                  exact ⟨rfl, HI.out.gr⟩
end Go.Proofs.Qxb6626891a
