import Derived.Test.Qxb6626891aInv
namespace Go.Proofs.Qxb6626891a
open Go.RowKit
set_option linter.unusedVariables false

set_option maxHeartbeats 1000000 in
set_option maxRecDepth 100000 in
theorem fires_new (mc : Int) (ov cp : ByteArray) (C : Nat) (qd fa : ByteArray) (n k : Nat) (w : World) (h1 : ov.size ≤ maxLen) (h2 : cp.size ≤ maxLen) (h4 : qd.size ≤ maxLen) (h5 : fa.size ≤ maxLen) (h : ov.size + cp.size + qd.size + fa.size ≤ 1048576)
    (hn : n ≤ 65536) (hk : k ≤ 65536) (hq : (cp.toList == [113, 117, 101, 117, 101]) = true) (hC1 : 1 ≤ C) (hC2 : C ≤ 9223372036854775807) (hd : (qd.toList == [110, 101, 119]) = true) :
    Calls Try.prog 3 #[.int .i64 mc, .string ov, .string cp, .int .i64 (C : Int), .string qd, .string fa, .int .i64 (n : Int), .int .i64 (k : Int)] w fun e w' => e = .returned (.bool true) ∧ Gr w w' := by
  have hb := fun W => bytes5_ok mc ov cp (C : Int) qd fa (n : Int) (k : Int) W h1 h2 h4 h5 h
  have hmk := make_any n k hn hk
  obtain ⟨i0, hi, hz0, hz1, hz2⟩ := info_parts info3
  unfold maxLen at h1 h2 h4 h5
  go_enter Try.func3, Try.ntmps3
  go_wp2_with (go_at_call 5; refine (hb _).mono ?_; rintro e w' ⟨rfl, rfl⟩)
  clear hb
  have hinv := Inv.made w' #[.int .i64 mc, .string ov, .string cp, .int .i64 (C : Int), .string qd, .string fa] (n + k)
  go_loopw [21] (fun i wr => ∃ j : Nat, j ≤ n ∧ i = .int .i64 j ∧ Inv w' #[.int .i64 mc, .string ov, .string cp, .int .i64 (C : Int), .string qd, .string fa] (n + k) j wr) (fun i _ => n - (intOf i).toNat)
  case atStart => exact ⟨0, by omega, rfl, hinv⟩
  case round =>
    clear hinv
    obtain ⟨j, hj, rfl, hI⟩ := hrel
    by_cases hlt : j < n
    · obtain ⟨v, hv⟩ := hI.there j (by omega)
      have hf := hI.free j
      go_wp2
      go_roundw
      case rel => exact ⟨j + 1, by omega, by go_num, hI.store⟩
      case measure => simp [intOf]; omega
    · obtain rfl : j = n := by omega
      clear hmk
      go_wp2
      go_loopw [20, 22] (fun q i wr => ∃ f L : Nat, f ≤ k ∧ i = .int .i64 f ∧ q = .slice (some ⟨w'.heap.size + 1, 0, none⟩) L (j + k) ∧ Hid (L = qlen j C f) ∧ L ≤ j + f ∧ Inv w' #[.int .i64 mc, .string ov, .string cp, .int .i64 (C : Int), .string qd, .string fa] (j + k) L wr) (fun _ i _ => k - (intOf i).toNat)
      case atStart => exact ⟨0, j, by omega, rfl, rfl, rfl, by omega, hI⟩
      case round =>
        clear hI
        obtain ⟨f, L, hf, rfl, rfl, HL, hLf, hI⟩ := hrel
        by_cases hlt : f < k
        · by_cases hLC : L < C
          · have hp := hI.pol
            have hLe : L ≤ j + f ∧ j + f ≤ L := by have := (qlen_few j C f L HL.out hLC).1; omega
            have HS : Hid (L + 1 = qlen j C (f + 1)) := (qlen_few j C f L HL.out hLC).2
            go_wp2_with fail
            refine (enq_new_few _ _ _ _ _ _ _ _ hq hd (by omega)).mono ?_
            rintro e w1 ⟨rfl, hg1⟩
            have hI1 := hI.gone hg1
            clear hI hp hg1
            have HI2 : Hid (Inv w' #[.int .i64 mc, .string ov, .string cp, .int .i64 (C : Int), .string qd, .string fa] (j + k) (L) (w1.alloc (.cells #[.int .i64 ((j : Int) + (f : Int))] 3))) := hI1.alloc #[.int .i64 ((j : Int) + (f : Int))] 3
            clear hI1
            go_wp2_with (at_builtin; refine wpList_append_arg _ rfl (.tmp 142) (.tmp 146) 29 rfl 3 i0 (.int .i64 0) 1 8 Try.underlying29 hi hz0 hz1 hz2 rfl (by decide) (w'.heap.size + 1) (0) (L) (j + k) ((List.range (L)).map fun x => .int .i64 ((0 + x : Nat) : Int)) rfl ?c1 ?c2 ⟨w1.heap.size, 0, none⟩ 1 1 [.int .i64 ((j : Int) + (f : Int))] rfl rfl ?c3 ?c4 ?c5 ?c6 ?c7 ?room ?grow)
            case c1 => simp
            case c2 => exact HI2.out.olds (by omega) (0) (L) (by omega)
            case c3 => exact oneNew _ _ _
            case c4 => simp [Value.oneCell']
            case c5 => intro _; exact HI2.out.spare _ 0 (by omega) _
            case c6 => unfold maxLen; omega
            case c7 => omega
            case grow => intro hh; omega
            case room =>
              intro _
              have hI3 := HI2.out.put (L) (.int .i64 ((j : Int) + (f : Int))) (by omega) (by rw [show ((j : Int) + (f : Int)) = ((L : Nat) : Int) from by omega])
              clear HI2
              go_wp2
              go_roundw
              case rel => exact ⟨f + 1, L + 1, by omega, by go_num, rfl, HS, by omega, hI3⟩
              case measure => simp [intOf]; omega
          · have hp := hI.pol
            have HS : Hid (C = qlen j C (f + 1)) := qlen_many j C f L HL.out (by omega)
            go_wp2_with fail
            refine (enq_new_many _ _ _ _ _ _ _ _ hq hd (by omega)).mono ?_
            rintro e w1 ⟨rfl, hg1⟩
            have hI1 := (hI.gone hg1).mono (s' := C) (by omega)
            clear hI hp hg1
            go_wp2
            go_roundw
            case rel => exact ⟨f + 1, C, by omega, by go_num, rfl, HS, by omega, hI1⟩
            case measure => simp [intOf]; omega
        · obtain rfl : f = k := by omega
          have HI : Hid (Inv w' #[.int .i64 mc, .string ov, .string cp, .int .i64 (C : Int), .string qd, .string fa] (j + f) (L) wr) := hI
          clear hI
          by_cases hz : f ≤ 0
          · have hE := qlen_end0 j C f L HL.out hz
            go_wp2
            go_loop [30] (fun i => ∃ x : Nat, x ≤ L ∧ i = .int .i64 x) (fun i => L - (intOf i).toNat)
            case atStart => exact ⟨0, by omega, rfl⟩
            case round =>
              obtain ⟨x, hx, rfl⟩ := hrel
              by_cases hxl : x < L
              · have hc := HI.out.cell (by omega) (x) (by omega)
                go_wp2
                go_round
                case rel => exact ⟨x + 1, by omega, by go_num⟩
                case measure => simp [intOf]; omega
              · go_wp2
                go_ret
                exact ⟨rfl, HI.out.gr⟩
          · by_cases hCn : C < j + f
            · have hE := qlen_endC j C f L HL.out hz hCn
              go_wp2
              go_loop [30] (fun i => ∃ x : Nat, x ≤ L ∧ i = .int .i64 x) (fun i => L - (intOf i).toNat)
              case atStart => exact ⟨0, by omega, rfl⟩
              case round =>
                obtain ⟨x, hx, rfl⟩ := hrel
                by_cases hxl : x < L
                · have hc := HI.out.cell (by omega) (x) (by omega)
                  go_wp2
                  go_round
                  case rel => exact ⟨x + 1, by omega, by go_num⟩
                  case measure => simp [intOf]; omega
                · go_wp2
                  go_ret
                  exact ⟨rfl, HI.out.gr⟩
            · have hE := qlen_endA j C f L HL.out hz hCn
              go_wp2
              go_loop [30] (fun i => ∃ x : Nat, x ≤ L ∧ i = .int .i64 x) (fun i => L - (intOf i).toNat)
              case atStart => exact ⟨0, by omega, rfl⟩
              case round =>
                obtain ⟨x, hx, rfl⟩ := hrel
                by_cases hxl : x < L
                · have hc := HI.out.cell (by omega) (x) (by omega)
                  go_wp2
                  go_round
                  case rel => exact ⟨x + 1, by omega, by go_num⟩
                  case measure => simp [intOf]; omega
                · go_wp2
                  go_ret
                  exact ⟨rfl, HI.out.gr⟩
end Go.Proofs.Qxb6626891a
