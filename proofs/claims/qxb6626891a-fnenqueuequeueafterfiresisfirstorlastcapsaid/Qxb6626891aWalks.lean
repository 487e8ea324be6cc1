import Derived.Test.Qxb6626891aRows
import Derived.WalkKit
import Derived.WalkSpells
import Derived.WalkLawsBesides
import Derived.ProofKit
import Derived.RegionTactic
import Derived.ChangeAlike
import Derived.Deep.QuietTactic
import Derived.BigQuiet
namespace Go.Proofs.Qxb6626891a
open Go.RowKit

theorem ret_bool {a b : Bool} (h : a = b) : Ending.returned (.bool a) = .returned (.bool b) := by rw [h]
theorem ret_int3 {a b c d : Int} {x y : Bool} (h : a = b) (h2 : c = d) (h3 : x = y) : Ending.returned (.tuple #[.int .i64 a, .int .i64 c, .bool x]) = .returned (.tuple #[.int .i64 b, .int .i64 d, .bool y]) := by rw [h, h2, h3]
/-- the world has at most new blocks: every old block is as it was, no cell is frozen or let go -/
def Gr (w w' : World) : Prop := Below w.heap.size w w' ∧ ∀ a, w'.frozen? a = w.frozen? a
theorem Gr.refl (w : World) : Gr w w := ⟨Below.refl _ _, fun _ => rfl⟩
theorem Gr.alloc {w w' : World} (h : Gr w w') (c : Array Value) (t : TypeId) : Gr w (w'.alloc (.cells c t)) :=
  ⟨h.1.alloc h.1.size _, fun a => (frozen?_alloc_cells _ _ _ a).trans (h.2 a)⟩
theorem Gr.setCell {w w' : World} (h : Gr w w') {a : Addr} (ha : w.heap.size ≤ a.block) (v : Value) : Gr w (w'.setCell a v) :=
  ⟨h.1.setCell ha v, fun x => (World.frozen?_setCell _ _ _ _).trans (h.2 x)⟩
theorem Gr.drew {w w' : World} (h : Gr w w') : Gr w w'.drew := ⟨h.1.drew, h.2⟩
theorem Gr.drewN {a b : World} (h : Gr a b) (n : Nat) : Gr a (b.drewN n) := by
  induction n generalizing b with
  | zero => exact h
  | succ n ih => exact (ih h).drew
theorem Gr.trans {a b c : World} (h : Gr a b) (k : Gr b c) : Gr a c :=
  ⟨h.1.trans (k.1.mono h.1.size), fun x => (k.2 x).trans (h.2 x)⟩
theorem Gr.grown {w w' : World} (h : Gr w w') : Grown w w' := ⟨h.1.frame _, h.2, h.1.size⟩
theorem Gr.cell {w w' : World} (h : Gr w w') (b o : Nat) (hb : b < w.heap.size) : w'.cell? ⟨b, o, none⟩ = w.cell? ⟨b, o, none⟩ := h.1.cell (p := ⟨b, o, none⟩) hb

set_option maxHeartbeats 400000 in
theorem enq_else (mc : Int) (ov cp : ByteArray) (cap : Int) (qd fa : ByteArray) (n : Int) (w : World) (h : (cp.toList == [113, 117, 101, 117, 101]) = false) :
    Calls Try.prog 6 #[.agg #[.int .i64 mc, .string ov, .string cp, .int .i64 cap, .string qd, .string fa], .int .i64 n] w fun e w' => e = .returned (.tuple #[.int .i64 0, .int .i64 n, .bool true]) ∧ Gr w w' := by
  go_enter Try.func6, Try.ntmps6
  go_wp2
  go_ret3
  exact ⟨rfl, (Gr.refl _).alloc _ _⟩

set_option maxHeartbeats 400000 in
theorem enq_old_few (mc : Int) (ov cp : ByteArray) (cap : Int) (qd fa : ByteArray) (n : Int) (w : World) (h : (cp.toList == [113, 117, 101, 117, 101]) = true) (h2 : (qd.toList == [110, 101, 119]) = false) (hn0 : 0 ≤ n) (hn : n ≤ 1073741824) (hc : n < cap) (hc1 : cap ≤ 9223372036854775807) :
    Calls Try.prog 6 #[.agg #[.int .i64 mc, .string ov, .string cp, .int .i64 cap, .string qd, .string fa], .int .i64 n] w fun e w' => e = .returned (.tuple #[.int .i64 0, .int .i64 n, .bool true]) ∧ Gr w w' := by
  go_enter Try.func6, Try.ntmps6
  go_wp2
  all_goals
    go_ret3
    first
    | exact ⟨rfl, (Gr.refl _).alloc _ _⟩
    | exact ⟨ret_int3 (by omega) rfl rfl, (Gr.refl _).alloc _ _⟩

set_option maxHeartbeats 400000 in
theorem enq_old_many (mc : Int) (ov cp : ByteArray) (cap : Int) (qd fa : ByteArray) (n : Int) (w : World) (h : (cp.toList == [113, 117, 101, 117, 101]) = true) (h2 : (qd.toList == [110, 101, 119]) = false) (hn0 : 0 ≤ n) (hn : n ≤ 1073741824) (hc0 : 1 ≤ cap) (hc : cap ≤ n)  :
    Calls Try.prog 6 #[.agg #[.int .i64 mc, .string ov, .string cp, .int .i64 cap, .string qd, .string fa], .int .i64 n] w fun e w' => e = .returned (.tuple #[.int .i64 (n - cap + 1), .int .i64 n, .bool true]) ∧ Gr w w' := by
  go_enter Try.func6, Try.ntmps6
  go_wp2
  go_ret3
  exact ⟨rfl, (Gr.refl _).alloc _ _⟩

set_option maxHeartbeats 400000 in
theorem enq_new_few (mc : Int) (ov cp : ByteArray) (cap : Int) (qd fa : ByteArray) (n : Int) (w : World) (h : (cp.toList == [113, 117, 101, 117, 101]) = true) (h2 : (qd.toList == [110, 101, 119]) = true) (hc : n < cap) :
    Calls Try.prog 6 #[.agg #[.int .i64 mc, .string ov, .string cp, .int .i64 cap, .string qd, .string fa], .int .i64 n] w fun e w' => e = .returned (.tuple #[.int .i64 0, .int .i64 n, .bool true]) ∧ Gr w w' := by
  have hd : decide (n < cap) = true := by simpa using hc
  go_enter Try.func6, Try.ntmps6
  go_wp2
  go_quiet (fail)
  go_wp2
  go_ret3
  exact ⟨rfl, ((Gr.refl _).alloc _ _).drewN _⟩

set_option maxHeartbeats 400000 in
theorem enq_new_many (mc : Int) (ov cp : ByteArray) (cap : Int) (qd fa : ByteArray) (n : Int) (w : World) (h : (cp.toList == [113, 117, 101, 117, 101]) = true) (h2 : (qd.toList == [110, 101, 119]) = true) (hc : cap ≤ n) :
    Calls Try.prog 6 #[.agg #[.int .i64 mc, .string ov, .string cp, .int .i64 cap, .string qd, .string fa], .int .i64 n] w fun e w' => e = .returned (.tuple #[.int .i64 0, .int .i64 cap, .bool false]) ∧ Gr w w' := by
  have hd : decide (n < cap) = false := by simpa using hc
  go_enter Try.func6, Try.ntmps6
  go_wp2
  go_quiet (fail)
  go_wp2
  all_goals
    go_ret3
    exact ⟨ret_int3 rfl (by omega) rfl, ((Gr.refl _).alloc _ _).drewN _⟩

set_option maxHeartbeats 400000 in
theorem bytes7_ok (mc : Int) (ov cp : ByteArray) (cap : Int) (qd fa : ByteArray) (n : Int) (w : World) (h1 : ov.size ≤ maxLen) (h2 : cp.size ≤ maxLen) (h4 : qd.size ≤ maxLen) (h5 : fa.size ≤ maxLen) (h : ov.size + cp.size + qd.size + fa.size ≤ 1048576) :
    Calls Try.prog 7 #[.int .i64 mc, .string ov, .string cp, .int .i64 cap, .string qd, .string fa, .int .i64 n] w fun e w' => e = .returned (.bool true) ∧ w' = w := by
  unfold maxLen at h1 h2 h4 h5
  go_enter Try.func7, Try.ntmps7
  go_wp2
  all_goals
    go_ret
    exact ⟨rfl, rfl⟩
set_option maxHeartbeats 400000 in
theorem bytes7_no (mc : Int) (ov cp : ByteArray) (cap : Int) (qd fa : ByteArray) (n : Int) (w : World) (h1 : ov.size ≤ maxLen) (h2 : cp.size ≤ maxLen) (h4 : qd.size ≤ maxLen) (h5 : fa.size ≤ maxLen) (h : ¬ ov.size + cp.size + qd.size + fa.size ≤ 1048576) :
    Calls Try.prog 7 #[.int .i64 mc, .string ov, .string cp, .int .i64 cap, .string qd, .string fa, .int .i64 n] w fun e w' => e = .returned (.bool false) ∧ w' = w := by
  unfold maxLen at h1 h2 h4 h5
  go_enter Try.func7, Try.ntmps7
  go_wp2
  all_goals
    go_ret
    exact ⟨rfl, rfl⟩
set_option maxHeartbeats 400000 in
theorem bytes5_ok (mc : Int) (ov cp : ByteArray) (cap : Int) (qd fa : ByteArray) (n : Int) (n1 : Int) (w : World) (h1 : ov.size ≤ maxLen) (h2 : cp.size ≤ maxLen) (h4 : qd.size ≤ maxLen) (h5 : fa.size ≤ maxLen) (h : ov.size + cp.size + qd.size + fa.size ≤ 1048576) :
    Calls Try.prog 5 #[.int .i64 mc, .string ov, .string cp, .int .i64 cap, .string qd, .string fa, .int .i64 n, .int .i64 n1] w fun e w' => e = .returned (.bool true) ∧ w' = w := by
  unfold maxLen at h1 h2 h4 h5
  go_enter Try.func5, Try.ntmps5
  go_wp2
  all_goals
    go_ret
    exact ⟨rfl, rfl⟩
set_option maxHeartbeats 400000 in
theorem bytes5_no (mc : Int) (ov cp : ByteArray) (cap : Int) (qd fa : ByteArray) (n : Int) (n1 : Int) (w : World) (h1 : ov.size ≤ maxLen) (h2 : cp.size ≤ maxLen) (h4 : qd.size ≤ maxLen) (h5 : fa.size ≤ maxLen) (h : ¬ ov.size + cp.size + qd.size + fa.size ≤ 1048576) :
    Calls Try.prog 5 #[.int .i64 mc, .string ov, .string cp, .int .i64 cap, .string qd, .string fa, .int .i64 n, .int .i64 n1] w fun e w' => e = .returned (.bool false) ∧ w' = w := by
  unfold maxLen at h1 h2 h4 h5
  go_enter Try.func5, Try.ntmps5
  go_wp2
  all_goals
    go_ret
    exact ⟨rfl, rfl⟩
end Go.Proofs.Qxb6626891a
