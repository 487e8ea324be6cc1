import Derived.Test.Qxb6626891aFiresElse
import Derived.Test.Qxb6626891aFiresNew
import Derived.Test.Qxb6626891aFiresOld
namespace Go.Proofs.Qxb6626891a
open Go.RowKit
set_option linter.unusedVariables false

set_option maxHeartbeats 1000000 in
set_option maxRecDepth 100000 in
theorem fires_big (mc : Int) (ov cp : ByteArray) (cap : Int) (qd fa : ByteArray) (n k : Int) (w : World) (h1 : ov.size ≤ maxLen) (h2 : cp.size ≤ maxLen) (h4 : qd.size ≤ maxLen) (h5 : fa.size ≤ maxLen) (h : ¬ ov.size + cp.size + qd.size + fa.size ≤ 1048576) :
    Calls Try.prog 3 #[.int .i64 mc, .string ov, .string cp, .int .i64 cap, .string qd, .string fa, .int .i64 n, .int .i64 k] w fun e w' => e = .returned (.bool true) ∧ Gr w w' := by
  have hb := fun W => bytes5_no mc ov cp cap qd fa n k W h1 h2 h4 h5 h
  unfold maxLen at h1 h2 h4 h5
  go_enter Try.func3, Try.ntmps3
  go_wp2_with (go_at_call 5; refine (hb _).mono ?_; rintro e w' ⟨rfl, rfl⟩)
  go_ret
  exact ⟨rfl, Gr.refl _⟩

set_option maxHeartbeats 1000000 in
set_option maxRecDepth 100000 in
theorem fires_n0 (mc : Int) (ov cp : ByteArray) (cap : Int) (qd fa : ByteArray) (n k : Int) (w : World) (h1 : ov.size ≤ maxLen) (h2 : cp.size ≤ maxLen) (h4 : qd.size ≤ maxLen) (h5 : fa.size ≤ maxLen) (h : ov.size + cp.size + qd.size + fa.size ≤ 1048576) (d1 : decide (n < 0) = true) :
    Calls Try.prog 3 #[.int .i64 mc, .string ov, .string cp, .int .i64 cap, .string qd, .string fa, .int .i64 n, .int .i64 k] w fun e w' => e = .returned (.bool true) ∧ Gr w w' := by
  have hb := fun W => bytes5_ok mc ov cp cap qd fa n k W h1 h2 h4 h5 h
  unfold maxLen at h1 h2 h4 h5
  go_enter Try.func3, Try.ntmps3
  go_wp2_with (go_at_call 5; refine (hb _).mono ?_; rintro e w' ⟨rfl, rfl⟩)
  go_ret
  exact ⟨rfl, Gr.refl _⟩

set_option maxHeartbeats 1000000 in
set_option maxRecDepth 100000 in
theorem fires_n1 (mc : Int) (ov cp : ByteArray) (cap : Int) (qd fa : ByteArray) (n k : Int) (w : World) (h1 : ov.size ≤ maxLen) (h2 : cp.size ≤ maxLen) (h4 : qd.size ≤ maxLen) (h5 : fa.size ≤ maxLen) (h : ov.size + cp.size + qd.size + fa.size ≤ 1048576) (d1 : decide (n < 0) = false) (d2 : decide (65536 < n) = true) :
    Calls Try.prog 3 #[.int .i64 mc, .string ov, .string cp, .int .i64 cap, .string qd, .string fa, .int .i64 n, .int .i64 k] w fun e w' => e = .returned (.bool true) ∧ Gr w w' := by
  have hb := fun W => bytes5_ok mc ov cp cap qd fa n k W h1 h2 h4 h5 h
  unfold maxLen at h1 h2 h4 h5
  go_enter Try.func3, Try.ntmps3
  go_wp2_with (go_at_call 5; refine (hb _).mono ?_; rintro e w' ⟨rfl, rfl⟩)
  go_ret
  exact ⟨rfl, Gr.refl _⟩

set_option maxHeartbeats 1000000 in
set_option maxRecDepth 100000 in
theorem fires_k0 (mc : Int) (ov cp : ByteArray) (cap : Int) (qd fa : ByteArray) (n k : Int) (w : World) (h1 : ov.size ≤ maxLen) (h2 : cp.size ≤ maxLen) (h4 : qd.size ≤ maxLen) (h5 : fa.size ≤ maxLen) (h : ov.size + cp.size + qd.size + fa.size ≤ 1048576) (d1 : decide (n < 0) = false) (d2 : decide (65536 < n) = false) (d3 : decide (k < 0) = true) :
    Calls Try.prog 3 #[.int .i64 mc, .string ov, .string cp, .int .i64 cap, .string qd, .string fa, .int .i64 n, .int .i64 k] w fun e w' => e = .returned (.bool true) ∧ Gr w w' := by
  have hb := fun W => bytes5_ok mc ov cp cap qd fa n k W h1 h2 h4 h5 h
  unfold maxLen at h1 h2 h4 h5
  go_enter Try.func3, Try.ntmps3
  go_wp2_with (go_at_call 5; refine (hb _).mono ?_; rintro e w' ⟨rfl, rfl⟩)
  go_ret
  exact ⟨rfl, Gr.refl _⟩

set_option maxHeartbeats 1000000 in
set_option maxRecDepth 100000 in
theorem fires_k1 (mc : Int) (ov cp : ByteArray) (cap : Int) (qd fa : ByteArray) (n k : Int) (w : World) (h1 : ov.size ≤ maxLen) (h2 : cp.size ≤ maxLen) (h4 : qd.size ≤ maxLen) (h5 : fa.size ≤ maxLen) (h : ov.size + cp.size + qd.size + fa.size ≤ 1048576) (d1 : decide (n < 0) = false) (d2 : decide (65536 < n) = false) (d3 : decide (k < 0) = false) (d4 : decide (65536 < k) = true) :
    Calls Try.prog 3 #[.int .i64 mc, .string ov, .string cp, .int .i64 cap, .string qd, .string fa, .int .i64 n, .int .i64 k] w fun e w' => e = .returned (.bool true) ∧ Gr w w' := by
  have hb := fun W => bytes5_ok mc ov cp cap qd fa n k W h1 h2 h4 h5 h
  unfold maxLen at h1 h2 h4 h5
  go_enter Try.func3, Try.ntmps3
  go_wp2_with (go_at_call 5; refine (hb _).mono ?_; rintro e w' ⟨rfl, rfl⟩)
  go_ret
  exact ⟨rfl, Gr.refl _⟩

set_option maxHeartbeats 1000000 in
set_option maxRecDepth 100000 in
theorem fires_cap (mc : Int) (ov cp : ByteArray) (cap : Int) (qd fa : ByteArray) (n k : Int) (w : World) (h1 : ov.size ≤ maxLen) (h2 : cp.size ≤ maxLen) (h4 : qd.size ≤ maxLen) (h5 : fa.size ≤ maxLen) (h : ov.size + cp.size + qd.size + fa.size ≤ 1048576) (d1 : decide (n < 0) = false) (d2 : decide (65536 < n) = false) (d3 : decide (k < 0) = false) (d4 : decide (65536 < k) = false) (hq : (cp.toList == [113, 117, 101, 117, 101]) = true) (d5 : decide (cap < 1) = true) :
    Calls Try.prog 3 #[.int .i64 mc, .string ov, .string cp, .int .i64 cap, .string qd, .string fa, .int .i64 n, .int .i64 k] w fun e w' => e = .returned (.bool true) ∧ Gr w w' := by
  have hb := fun W => bytes5_ok mc ov cp cap qd fa n k W h1 h2 h4 h5 h
  unfold maxLen at h1 h2 h4 h5
  go_enter Try.func3, Try.ntmps3
  go_wp2_with (go_at_call 5; refine (hb _).mono ?_; rintro e w' ⟨rfl, rfl⟩)
  go_ret
  exact ⟨rfl, Gr.refl _⟩

theorem fires_any (mc : Int) (ov cp : ByteArray) (cap : Int) (qd fa : ByteArray) (n k : Int) (w : World) (h1 : ov.size ≤ maxLen) (h2 : cp.size ≤ maxLen) (h4 : qd.size ≤ maxLen) (h5 : fa.size ≤ maxLen) (hc : cap ≤ 9223372036854775807) :
    Calls Try.prog 3 #[.int .i64 mc, .string ov, .string cp, .int .i64 cap, .string qd, .string fa, .int .i64 n, .int .i64 k] w fun e w' => e = .returned (.bool true) ∧ Gr w w' := by
  by_cases h : ov.size + cp.size + qd.size + fa.size ≤ 1048576
  · cases d1 : decide (n < 0)
    · cases d2 : decide (65536 < n)
      · cases d3 : decide (k < 0)
        · cases d4 : decide (65536 < k)
          · have e1 := of_decide_eq_false d1
            have e2 := of_decide_eq_false d2
            have e3 := of_decide_eq_false d3
            have e4 := of_decide_eq_false d4
            cases hq : (cp.toList == [113, 117, 101, 117, 101])
            · obtain ⟨n', rfl⟩ := Int.eq_ofNat_of_zero_le (show 0 ≤ n by omega)
              obtain ⟨k', rfl⟩ := Int.eq_ofNat_of_zero_le (show 0 ≤ k by omega)
              exact fires_else mc ov cp cap qd fa n' k' w h1 h2 h4 h5 h (by omega) (by omega) hq
            · cases d5 : decide (cap < 1)
              · have e5 := of_decide_eq_false d5
                obtain ⟨n', rfl⟩ := Int.eq_ofNat_of_zero_le (show 0 ≤ n by omega)
                obtain ⟨k', rfl⟩ := Int.eq_ofNat_of_zero_le (show 0 ≤ k by omega)
                obtain ⟨C, rfl⟩ := Int.eq_ofNat_of_zero_le (show 0 ≤ cap by omega)
                cases hd : (qd.toList == [110, 101, 119])
                · exact fires_old mc ov cp C qd fa n' k' w h1 h2 h4 h5 h (by omega) (by omega) hq (by omega) (by omega) hd
                · exact fires_new mc ov cp C qd fa n' k' w h1 h2 h4 h5 h (by omega) (by omega) hq (by omega) (by omega) hd
              · exact fires_cap mc ov cp cap qd fa n k w h1 h2 h4 h5 h d1 d2 d3 d4 hq d5
          · exact fires_k1 mc ov cp cap qd fa n k w h1 h2 h4 h5 h d1 d2 d3 d4
        · exact fires_k0 mc ov cp cap qd fa n k w h1 h2 h4 h5 h d1 d2 d3
      · exact fires_n1 mc ov cp cap qd fa n k w h1 h2 h4 h5 h d1 d2
    · exact fires_n0 mc ov cp cap qd fa n k w h1 h2 h4 h5 h d1
  · exact fires_big mc ov cp cap qd fa n k w h1 h2 h4 h5 h
end Go.Proofs.Qxb6626891a
