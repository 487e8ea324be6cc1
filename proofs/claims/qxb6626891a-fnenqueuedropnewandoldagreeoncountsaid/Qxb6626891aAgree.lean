import Derived.Test.Qxb6626891aWalks
namespace Go.Proofs.Qxb6626891a
open Go.RowKit
set_option linter.unusedVariables false

theorem old_isnt : ((⟨#[111, 108, 100]⟩ : ByteArray).toList == [110, 101, 119]) = false := by decide +kernel
theorem new_is : ((⟨#[110, 101, 119]⟩ : ByteArray).toList == [110, 101, 119]) = true := by decide +kernel

set_option maxHeartbeats 1000000 in
set_option maxRecDepth 100000 in
theorem agree_else_new (mc : Int) (ov cp : ByteArray) (cap : Int) (qd fa : ByteArray) (n : Int) (w : World) (h1 : ov.size ≤ maxLen) (h2 : cp.size ≤ maxLen) (h4 : qd.size ≤ maxLen) (h5 : fa.size ≤ maxLen) (h : ov.size + cp.size + qd.size + fa.size ≤ 1048576) (hn0 : 0 ≤ n) (hn : n ≤ 1073741824) (hq : (cp.toList == [113, 117, 101, 117, 101]) = false) (hd : (qd.toList == [110, 101, 119]) = true)  :
    Calls Try.prog 4 #[.int .i64 mc, .string ov, .string cp, .int .i64 cap, .string qd, .string fa, .int .i64 n] w fun e w' => e = .returned (.bool true) ∧ Gr w w' := by
  have hb := fun W => bytes7_ok mc ov cp cap qd fa n W h1 h2 h4 h5 h
  unfold maxLen at h1 h2 h4 h5
  go_enter Try.func4, Try.ntmps4
  go_wp2_with (go_at_call 7; refine (hb _).mono ?_; rintro e w' ⟨rfl, rfl⟩)
  clear hb
  refine (enq_else _ _ _ _ _ _ _ _ hq).mono ?_
  rintro e w1 ⟨rfl, hg1⟩
  have hce := hg1.cell (w'.heap.size + 1)
  simp only [World.size_alloc] at hce
  go_wp2_with fail
  refine (enq_else _ _ _ _ _ _ _ _ hq).mono ?_
  rintro e w2 ⟨rfl, hg2⟩
  clear hce
  go_wp2
  go_ret
  exact ⟨rfl, ((((Gr.refl _).alloc _ _).alloc _ _).trans hg1).trans hg2⟩

set_option maxHeartbeats 1000000 in
set_option maxRecDepth 100000 in
theorem agree_else_old (mc : Int) (ov cp : ByteArray) (cap : Int) (qd fa : ByteArray) (n : Int) (w : World) (h1 : ov.size ≤ maxLen) (h2 : cp.size ≤ maxLen) (h4 : qd.size ≤ maxLen) (h5 : fa.size ≤ maxLen) (h : ov.size + cp.size + qd.size + fa.size ≤ 1048576) (hn0 : 0 ≤ n) (hn : n ≤ 1073741824) (hq : (cp.toList == [113, 117, 101, 117, 101]) = false) (hd : (qd.toList == [110, 101, 119]) = false)  :
    Calls Try.prog 4 #[.int .i64 mc, .string ov, .string cp, .int .i64 cap, .string qd, .string fa, .int .i64 n] w fun e w' => e = .returned (.bool true) ∧ Gr w w' := by
  have hb := fun W => bytes7_ok mc ov cp cap qd fa n W h1 h2 h4 h5 h
  unfold maxLen at h1 h2 h4 h5
  go_enter Try.func4, Try.ntmps4
  go_wp2_with (go_at_call 7; refine (hb _).mono ?_; rintro e w' ⟨rfl, rfl⟩)
  clear hb
  refine (enq_else _ _ _ _ _ _ _ _ hq).mono ?_
  rintro e w1 ⟨rfl, hg1⟩
  have hce := hg1.cell (w'.heap.size + 1)
  simp only [World.size_alloc] at hce
  go_wp2_with fail
  refine (enq_else _ _ _ _ _ _ _ _ hq).mono ?_
  rintro e w2 ⟨rfl, hg2⟩
  clear hce
  go_wp2
  go_ret
  exact ⟨rfl, ((((Gr.refl _).alloc _ _).alloc _ _).trans hg1).trans hg2⟩

set_option maxHeartbeats 1000000 in
set_option maxRecDepth 100000 in
theorem agree_new_few (mc : Int) (ov cp : ByteArray) (cap : Int) (qd fa : ByteArray) (n : Int) (w : World) (h1 : ov.size ≤ maxLen) (h2 : cp.size ≤ maxLen) (h4 : qd.size ≤ maxLen) (h5 : fa.size ≤ maxLen) (h : ov.size + cp.size + qd.size + fa.size ≤ 1048576) (hn0 : 0 ≤ n) (hn : n ≤ 1073741824) (hq : (cp.toList == [113, 117, 101, 117, 101]) = true) (hd : (qd.toList == [110, 101, 119]) = true) (hc0 : 1 ≤ cap) (hc1 : cap ≤ 9223372036854775807) (hc : n < cap) (hq1 : decide (cap < 1) = false)  :
    Calls Try.prog 4 #[.int .i64 mc, .string ov, .string cp, .int .i64 cap, .string qd, .string fa, .int .i64 n] w fun e w' => e = .returned (.bool true) ∧ Gr w w' := by
  have hb := fun W => bytes7_ok mc ov cp cap qd fa n W h1 h2 h4 h5 h
  unfold maxLen at h1 h2 h4 h5
  go_enter Try.func4, Try.ntmps4
  go_wp2_with (go_at_call 7; refine (hb _).mono ?_; rintro e w' ⟨rfl, rfl⟩)
  clear hb
  refine (enq_new_few _ _ _ _ _ _ _ _ hq hd hc).mono ?_
  rintro e w1 ⟨rfl, hg1⟩
  have hce := hg1.cell (w'.heap.size + 1)
  simp only [World.size_alloc] at hce
  go_wp2_with fail
  refine (enq_old_few _ _ _ _ _ _ _ _ hq old_isnt hn0 hn hc hc1).mono ?_
  rintro e w2 ⟨rfl, hg2⟩
  clear hce
  go_wp2
  go_ret
  exact ⟨rfl, ((((Gr.refl _).alloc _ _).alloc _ _).trans hg1).trans hg2⟩

set_option maxHeartbeats 1000000 in
set_option maxRecDepth 100000 in
theorem agree_new_many (mc : Int) (ov cp : ByteArray) (cap : Int) (qd fa : ByteArray) (n : Int) (w : World) (h1 : ov.size ≤ maxLen) (h2 : cp.size ≤ maxLen) (h4 : qd.size ≤ maxLen) (h5 : fa.size ≤ maxLen) (h : ov.size + cp.size + qd.size + fa.size ≤ 1048576) (hn0 : 0 ≤ n) (hn : n ≤ 1073741824) (hq : (cp.toList == [113, 117, 101, 117, 101]) = true) (hd : (qd.toList == [110, 101, 119]) = true) (hc0 : 1 ≤ cap) (hc1 : cap ≤ 9223372036854775807) (hc : cap ≤ n) (hq1 : decide (cap < 1) = false)  :
    Calls Try.prog 4 #[.int .i64 mc, .string ov, .string cp, .int .i64 cap, .string qd, .string fa, .int .i64 n] w fun e w' => e = .returned (.bool true) ∧ Gr w w' := by
  have hb := fun W => bytes7_ok mc ov cp cap qd fa n W h1 h2 h4 h5 h
  unfold maxLen at h1 h2 h4 h5
  go_enter Try.func4, Try.ntmps4
  go_wp2_with (go_at_call 7; refine (hb _).mono ?_; rintro e w' ⟨rfl, rfl⟩)
  clear hb
  refine (enq_new_many _ _ _ _ _ _ _ _ hq hd hc).mono ?_
  rintro e w1 ⟨rfl, hg1⟩
  have hce := hg1.cell (w'.heap.size + 1)
  simp only [World.size_alloc] at hce
  go_wp2_with fail
  refine (enq_old_many _ _ _ _ _ _ _ _ hq old_isnt hn0 hn hc0 hc).mono ?_
  rintro e w2 ⟨rfl, hg2⟩
  clear hce
  go_wp2
  go_ret
  exact ⟨rfl, ((((Gr.refl _).alloc _ _).alloc _ _).trans hg1).trans hg2⟩

set_option maxHeartbeats 1000000 in
set_option maxRecDepth 100000 in
theorem agree_old_few (mc : Int) (ov cp : ByteArray) (cap : Int) (qd fa : ByteArray) (n : Int) (w : World) (h1 : ov.size ≤ maxLen) (h2 : cp.size ≤ maxLen) (h4 : qd.size ≤ maxLen) (h5 : fa.size ≤ maxLen) (h : ov.size + cp.size + qd.size + fa.size ≤ 1048576) (hn0 : 0 ≤ n) (hn : n ≤ 1073741824) (hq : (cp.toList == [113, 117, 101, 117, 101]) = true) (hd : (qd.toList == [110, 101, 119]) = false) (hc0 : 1 ≤ cap) (hc1 : cap ≤ 9223372036854775807) (hc : n < cap) (hq1 : decide (cap < 1) = false)  :
    Calls Try.prog 4 #[.int .i64 mc, .string ov, .string cp, .int .i64 cap, .string qd, .string fa, .int .i64 n] w fun e w' => e = .returned (.bool true) ∧ Gr w w' := by
  have hb := fun W => bytes7_ok mc ov cp cap qd fa n W h1 h2 h4 h5 h
  unfold maxLen at h1 h2 h4 h5
  go_enter Try.func4, Try.ntmps4
  go_wp2_with (go_at_call 7; refine (hb _).mono ?_; rintro e w' ⟨rfl, rfl⟩)
  clear hb
  refine (enq_old_few _ _ _ _ _ _ _ _ hq hd hn0 hn hc hc1).mono ?_
  rintro e w1 ⟨rfl, hg1⟩
  have hce := hg1.cell (w'.heap.size + 1)
  simp only [World.size_alloc] at hce
  go_wp2_with fail
  refine (enq_new_few _ _ _ _ _ _ _ _ hq new_is hc).mono ?_
  rintro e w2 ⟨rfl, hg2⟩
  clear hce
  go_wp2
  go_ret
  exact ⟨rfl, ((((Gr.refl _).alloc _ _).alloc _ _).trans hg1).trans hg2⟩

set_option maxHeartbeats 1000000 in
set_option maxRecDepth 100000 in
theorem agree_old_many (mc : Int) (ov cp : ByteArray) (cap : Int) (qd fa : ByteArray) (n : Int) (w : World) (h1 : ov.size ≤ maxLen) (h2 : cp.size ≤ maxLen) (h4 : qd.size ≤ maxLen) (h5 : fa.size ≤ maxLen) (h : ov.size + cp.size + qd.size + fa.size ≤ 1048576) (hn0 : 0 ≤ n) (hn : n ≤ 1073741824) (hq : (cp.toList == [113, 117, 101, 117, 101]) = true) (hd : (qd.toList == [110, 101, 119]) = false) (hc0 : 1 ≤ cap) (hc1 : cap ≤ 9223372036854775807) (hc : cap ≤ n) (hq1 : decide (cap < 1) = false)  :
    Calls Try.prog 4 #[.int .i64 mc, .string ov, .string cp, .int .i64 cap, .string qd, .string fa, .int .i64 n] w fun e w' => e = .returned (.bool true) ∧ Gr w w' := by
  have hb := fun W => bytes7_ok mc ov cp cap qd fa n W h1 h2 h4 h5 h
  unfold maxLen at h1 h2 h4 h5
  go_enter Try.func4, Try.ntmps4
  go_wp2_with (go_at_call 7; refine (hb _).mono ?_; rintro e w' ⟨rfl, rfl⟩)
  clear hb
  refine (enq_old_many _ _ _ _ _ _ _ _ hq hd hn0 hn hc0 hc).mono ?_
  rintro e w1 ⟨rfl, hg1⟩
  have hce := hg1.cell (w'.heap.size + 1)
  simp only [World.size_alloc] at hce
  go_wp2_with fail
  refine (enq_new_many _ _ _ _ _ _ _ _ hq new_is hc).mono ?_
  rintro e w2 ⟨rfl, hg2⟩
  clear hce
  go_wp2
  go_ret
  exact ⟨rfl, ((((Gr.refl _).alloc _ _).alloc _ _).trans hg1).trans hg2⟩

set_option maxHeartbeats 1000000 in
set_option maxRecDepth 100000 in
theorem agree_big (mc : Int) (ov cp : ByteArray) (cap : Int) (qd fa : ByteArray) (n : Int) (w : World) (h1 : ov.size ≤ maxLen) (h2 : cp.size ≤ maxLen) (h4 : qd.size ≤ maxLen) (h5 : fa.size ≤ maxLen) (h : ¬ ov.size + cp.size + qd.size + fa.size ≤ 1048576) :
    Calls Try.prog 4 #[.int .i64 mc, .string ov, .string cp, .int .i64 cap, .string qd, .string fa, .int .i64 n] w fun e w' => e = .returned (.bool true) ∧ Gr w w' := by
  have hb := fun W => bytes7_no mc ov cp cap qd fa n W h1 h2 h4 h5 h
  unfold maxLen at h1 h2 h4 h5
  go_enter Try.func4, Try.ntmps4
  go_wp2_with (go_at_call 7; refine (hb _).mono ?_; rintro e w' ⟨rfl, rfl⟩)
  go_ret
  exact ⟨rfl, Gr.refl _⟩

set_option maxHeartbeats 1000000 in
set_option maxRecDepth 100000 in
theorem agree_range (mc : Int) (ov cp : ByteArray) (cap : Int) (qd fa : ByteArray) (n : Int) (w : World) (h1 : ov.size ≤ maxLen) (h2 : cp.size ≤ maxLen) (h4 : qd.size ≤ maxLen) (h5 : fa.size ≤ maxLen) (h : ov.size + cp.size + qd.size + fa.size ≤ 1048576) (hn : n < 0 ∨ 1073741824 < n) :
    Calls Try.prog 4 #[.int .i64 mc, .string ov, .string cp, .int .i64 cap, .string qd, .string fa, .int .i64 n] w fun e w' => e = .returned (.bool true) ∧ Gr w w' := by
  have hb := fun W => bytes7_ok mc ov cp cap qd fa n W h1 h2 h4 h5 h
  unfold maxLen at h1 h2 h4 h5
  rcases hn with hn | hn
  · have hd : decide (n < 0) = true := by simpa using hn
    go_enter Try.func4, Try.ntmps4
    go_wp2_with (go_at_call 7; refine (hb _).mono ?_; rintro e w' ⟨rfl, rfl⟩)
    go_ret
    exact ⟨rfl, Gr.refl _⟩
  · have hd : decide (n < 0) = false := by simp; omega
    go_enter Try.func4, Try.ntmps4
    go_wp2_with (go_at_call 7; refine (hb _).mono ?_; rintro e w' ⟨rfl, rfl⟩)
    go_ret
    exact ⟨rfl, Gr.refl _⟩

set_option maxHeartbeats 1000000 in
set_option maxRecDepth 100000 in
theorem agree_nocap (mc : Int) (ov cp : ByteArray) (cap : Int) (qd fa : ByteArray) (n : Int) (w : World) (h1 : ov.size ≤ maxLen) (h2 : cp.size ≤ maxLen) (h4 : qd.size ≤ maxLen) (h5 : fa.size ≤ maxLen) (h : ov.size + cp.size + qd.size + fa.size ≤ 1048576) (hn0 : 0 ≤ n) (hn : n ≤ 1073741824) (hq : (cp.toList == [113, 117, 101, 117, 101]) = true) (hc : cap < 1) :
    Calls Try.prog 4 #[.int .i64 mc, .string ov, .string cp, .int .i64 cap, .string qd, .string fa, .int .i64 n] w fun e w' => e = .returned (.bool true) ∧ Gr w w' := by
  have hb := fun W => bytes7_ok mc ov cp cap qd fa n W h1 h2 h4 h5 h
  unfold maxLen at h1 h2 h4 h5
  go_enter Try.func4, Try.ntmps4
  go_wp2_with (go_at_call 7; refine (hb _).mono ?_; rintro e w' ⟨rfl, rfl⟩)
  go_ret
  exact ⟨rfl, Gr.refl _⟩

theorem agree_any (mc : Int) (ov cp : ByteArray) (cap : Int) (qd fa : ByteArray) (n : Int) (w : World) (h1 : ov.size ≤ maxLen) (h2 : cp.size ≤ maxLen) (h4 : qd.size ≤ maxLen) (h5 : fa.size ≤ maxLen) (hc1 : cap ≤ 9223372036854775807) :
    Calls Try.prog 4 #[.int .i64 mc, .string ov, .string cp, .int .i64 cap, .string qd, .string fa, .int .i64 n] w fun e w' => e = .returned (.bool true) ∧ Gr w w' := by
  by_cases h : ov.size + cp.size + qd.size + fa.size ≤ 1048576
  · by_cases hn : n < 0 ∨ 1073741824 < n
    · exact agree_range mc ov cp cap qd fa n w h1 h2 h4 h5 h hn
    · have hn0 : 0 ≤ n := by omega
      have hn1 : n ≤ 1073741824 := by omega
      clear hn
      cases hq : (cp.toList == [113, 117, 101, 117, 101])
      · cases hd : (qd.toList == [110, 101, 119])
        · exact agree_else_old mc ov cp cap qd fa n w h1 h2 h4 h5 h hn0 hn1 hq hd
        · exact agree_else_new mc ov cp cap qd fa n w h1 h2 h4 h5 h hn0 hn1 hq hd
      · by_cases hc : cap < 1
        · exact agree_nocap mc ov cp cap qd fa n w h1 h2 h4 h5 h hn0 hn1 hq hc
        · have hc0 : 1 ≤ cap := by omega
          have hq1 : decide (cap < 1) = false := by simpa using hc
          by_cases hf : n < cap
          · cases hd : (qd.toList == [110, 101, 119])
            · exact agree_old_few mc ov cp cap qd fa n w h1 h2 h4 h5 h hn0 hn1 hq hd hc0 hc1 hf hq1
            · exact agree_new_few mc ov cp cap qd fa n w h1 h2 h4 h5 h hn0 hn1 hq hd hc0 hc1 hf hq1
          · cases hd : (qd.toList == [110, 101, 119])
            · exact agree_old_many mc ov cp cap qd fa n w h1 h2 h4 h5 h hn0 hn1 hq hd hc0 hc1 (by omega) hq1
            · exact agree_new_many mc ov cp cap qd fa n w h1 h2 h4 h5 h hn0 hn1 hq hd hc0 hc1 (by omega) hq1
  · exact agree_big mc ov cp cap qd fa n w h1 h2 h4 h5 h
end Go.Proofs.Qxb6626891a
