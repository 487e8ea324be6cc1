import Derived.Test.Qxb6626435aLess
namespace Go.Proofs.Qxb6626435a
open Go.RowKit Go.Sort
set_option linter.unusedVariables false

theorem cell_old {w : World} {p : Addr} {v : Value} (o : Obj) (h : w.cell? p = some v) : (w.alloc o).cell? p = some v := by
  rw [World.cell?_alloc_lt _ _ _ (World.block_lt_of_cell? w _ h)]; exact h

set_option maxHeartbeats 4000000 in
set_option maxRecDepth 100000 in
theorem be64_any (g o n c : Nat) (b0 b1 b2 b3 b4 b5 b6 b7 : Nat) (w : World) (hn : 8 ≤ n) (h0 : b0 < 256) (h1 : b1 < 256) (h2 : b2 < 256) (h3 : b3 < 256) (h4 : b4 < 256) (h5 : b5 < 256) (h6 : b6 < 256) (h7 : b7 < 256)
    (c0 : w.cell? ⟨g, o, none⟩ = some (.int .u8 (b0 : Int))) (c1 : w.cell? ⟨g, o + 1, none⟩ = some (.int .u8 (b1 : Int))) (c2 : w.cell? ⟨g, o + 2, none⟩ = some (.int .u8 (b2 : Int))) (c3 : w.cell? ⟨g, o + 3, none⟩ = some (.int .u8 (b3 : Int))) (c4 : w.cell? ⟨g, o + 4, none⟩ = some (.int .u8 (b4 : Int))) (c5 : w.cell? ⟨g, o + 5, none⟩ = some (.int .u8 (b5 : Int))) (c6 : w.cell? ⟨g, o + 6, none⟩ = some (.int .u8 (b6 : Int))) (c7 : w.cell? ⟨g, o + 7, none⟩ = some (.int .u8 (b7 : Int))) :
    Calls Try.prog 31 #[.agg #[], .slice (some ⟨g, o, none⟩) n c] w fun e w' => e = .returned (.int .u64 ((b7 : Int) + (b6 : Int) * 256 + (b5 : Int) * 65536 + (b4 : Int) * 16777216 + (b3 : Int) * 4294967296 + (b2 : Int) * 1099511627776 + (b1 : Int) * 281474976710656 + (b0 : Int) * 72057594037927936)) ∧ Grew w w' := by
  have d0 := cell_old (.cells #[] 62) c0
  have d1 := cell_old (.cells #[] 62) c1
  have d2 := cell_old (.cells #[] 62) c2
  have d3 := cell_old (.cells #[] 62) c3
  have d4 := cell_old (.cells #[] 62) c4
  have d5 := cell_old (.cells #[] 62) c5
  have d6 := cell_old (.cells #[] 62) c6
  have d7 := cell_old (.cells #[] 62) c7
  have q0 : 0 < n := by omega
  have q1 : (1 : Int) < (n : Int) := by omega
  have q2 : (2 : Int) < (n : Int) := by omega
  have q3 : (3 : Int) < (n : Int) := by omega
  have q4 : (4 : Int) < (n : Int) := by omega
  have q5 : (5 : Int) < (n : Int) := by omega
  have q6 : (6 : Int) < (n : Int) := by omega
  have q7 : (7 : Int) < (n : Int) := by omega
  go_enter Try.func31, Try.ntmps31
  go_wp2
  go_quiet (fail)
  go_wp2
  go_ret
  refine ⟨?_, ((Grew.refl _).alloc _).drewN _⟩
  simp (disch := omega) only [u64_or8, u64_or16, u64_or24, u64_or32, u64_or40, u64_or48, u64_or56]
  rfl

set_option maxHeartbeats 4000000 in
set_option maxRecDepth 100000 in
theorem be32_any (g o n c : Nat) (b0 b1 b2 b3 : Nat) (w : World) (hn : 4 ≤ n) (h0 : b0 < 256) (h1 : b1 < 256) (h2 : b2 < 256) (h3 : b3 < 256)
    (c0 : w.cell? ⟨g, o, none⟩ = some (.int .u8 (b0 : Int))) (c1 : w.cell? ⟨g, o + 1, none⟩ = some (.int .u8 (b1 : Int))) (c2 : w.cell? ⟨g, o + 2, none⟩ = some (.int .u8 (b2 : Int))) (c3 : w.cell? ⟨g, o + 3, none⟩ = some (.int .u8 (b3 : Int))) :
    Calls Try.prog 34 #[.agg #[], .slice (some ⟨g, o, none⟩) n c] w fun e w' => e = .returned (.int .u32 ((b3 : Int) + (b2 : Int) * 256 + (b1 : Int) * 65536 + (b0 : Int) * 16777216)) ∧ Grew w w' := by
  have d0 := cell_old (.cells #[] 62) c0
  have d1 := cell_old (.cells #[] 62) c1
  have d2 := cell_old (.cells #[] 62) c2
  have d3 := cell_old (.cells #[] 62) c3
  have q0 : 0 < n := by omega
  have q1 : (1 : Int) < (n : Int) := by omega
  have q2 : (2 : Int) < (n : Int) := by omega
  have q3 : (3 : Int) < (n : Int) := by omega
  go_enter Try.func34, Try.ntmps34
  go_wp2
  go_quiet (fail)
  go_wp2
  go_ret
  refine ⟨?_, ((Grew.refl _).alloc _).drewN _⟩
  simp (disch := omega) only [u32_or8, u32_or16, u32_or24]
  rfl
end Go.Proofs.Qxb6626435a
