import Derived.Test.Qxb6626501aFmtP
namespace Go.Proofs.Qxb6626501aFmt
open Go.RowKit Go.Extern.Stop Go.Stop Go.Extern
set_option linter.unusedVariables false

set_option maxHeartbeats 2000000 in
set_option maxRecDepth 20000 in
theorem bytes13 (id : List UInt8) (hid : id.length = 32) (d : CapD) (v : Vals) (w : World) (hf : Fits w d v) :
    Calls Tryf.prog 13 #[.agg (enc8 id).toArray, .agg (cellsC d v).toArray] w fun e w' => (∃ r : Bool, e = .returned (.bool r) ∧ (r = true → d.lim.action.size ≤ 1048576 ∧ Short (d.lim.docs.getD []) ∧ Short (d.lim.schemas.getD []))) ∧ w.Extends w' := by
  obtain ⟨W, hW⟩ : ∃ W, W = (w.alloc (.cells (enc8 id).toArray 22)).alloc (.cells (cellsC d v).toArray 28) := ⟨_, rfl⟩
  have hX : Hid (w.Extends W) := hW ▸ (((World.Extends.refl w).alloc _).alloc _)
  have hr : W.rangeAt (w.heap.size + 1) 0 (cellsC d v) := by
    have := new_range (w.alloc (.cells (enc8 id).toArray 22)) (cellsC d v) 28
    rw [hW]
    simpa using this
  obtain ⟨c96, c97, c98, c99, c100, c101, c102, c103, c104, c105, c106, c107⟩ := cap_cells (hf.means.ext hX.out) hr
  simp only [Nat.zero_add, Vals.v98, Vals.v99] at c97 c98 c99
  clear c96 c100 c101 c102 c103 c104 c105 c106 c107
  have HD : Hid (Sl W v.a98 v.n98 (d.lim.docs.getD [])) := hf.docs.ext hX.out
  have HS : Hid (Sl W v.a99 v.n99 (d.lim.schemas.getD [])) := hf.schemas.ext hX.out
  have ba := hf.act
  have bd := hf.docs.big
  have bs := hf.schemas.big
  generalize d.lim.docs.getD [] = D at *
  generalize d.lim.schemas.getD [] = S at *
  replace hW := hW.symm
  clear hr hf
  go_enter Tryf.func13, Tryf.ntmps13
  by_cases hA : d.lim.action.size ≤ 1048576
  case neg =>
    go_wp2
    go_ret
    exact ⟨⟨false, rfl, fun h => by cases h⟩, hX.out⟩
  by_cases hD : v.n98 ≤ 1048576
  case neg =>
    go_wp2
    go_ret
    exact ⟨⟨false, rfl, fun h => by cases h⟩, hX.out⟩
  have hwD : IntKind.i64.wrap ((d.lim.action.size : Int) + (v.n98 : Int)) = (d.lim.action.size : Int) + (v.n98 : Int) := by rw [IntKind.wrap_i64]; omega
  by_cases hZD : d.lim.action.size + v.n98 ≤ 1048576
  case neg =>
    go_wp2
    go_ret
    exact ⟨⟨false, rfl, fun h => by cases h⟩, hX.out⟩
  go_wp2
  go_loopw [5, 6] (fun vz vi wr => ∃ z i : Nat, z ≤ 1048576 ∧ i ≤ v.n98 ∧ vz = .int .i64 z ∧ vi = .int .i64 i ∧ Hid (∀ t (ht : t < (D).length), t < i → ((D)[t]).size ≤ 1048576) ∧ W = wr) (fun vz vi _ => v.n98 - (intOf vi).toNat)
  case atStart => exact ⟨d.lim.action.size + v.n98, 0, by omega, by omega, by go_num, rfl, fun t _ h => by omega, rfl⟩
  case round =>
    obtain ⟨z1, i1, hz1, hi1, rfl, rfl, hs1, rfl⟩ := hrel
    by_cases hin1 : i1 < v.n98
    case pos =>
      have hil : i1 < (D).length := by have := HD.out.len; omega
      obtain ⟨a0, ha0, hc⟩ := HD.out.cell i1 hil
      have hsz := HD.out.size i1 hil
      have HU : Hid (((D)[i1]).size ≤ 1048576 → ∀ t (ht : t < (D).length), t < i1 + 1 → ((D)[t]).size ≤ 1048576) := fun hy t ht h2 => by
        by_cases e : t = i1
        · subst e; exact hy
        · exact hs1.out t ht (by omega)
      rw [ha0] at c98
      clear ha0 hs1
      generalize (D)[i1] = y at *
      by_cases hy : y.size ≤ 1048576
      case neg =>
        go_wp2
        go_ret
        exact ⟨⟨false, rfl, fun h => by cases h⟩, hX.out⟩
      have hw1 : IntKind.i64.wrap ((z1 : Int) + (y.size : Int)) = (z1 : Int) + (y.size : Int) := by rw [IntKind.wrap_i64]; omega
      by_cases hzy : z1 + y.size ≤ 1048576
      case neg =>
        go_wp2
        go_ret
        exact ⟨⟨false, rfl, fun h => by cases h⟩, hX.out⟩
      have HV : Hid (∀ t (ht : t < (D).length), t < i1 + 1 → ((D)[t]).size ≤ 1048576) := HU.out hy
      clear HU
      go_wp2
      go_roundw
      case rel => exact ⟨z1 + y.size, i1 + 1, by omega, by omega, by go_num, by go_num, HV, by first | exact True.intro | rfl⟩
      case measure => simp [intOf]; omega
    have hSh1 : Hid (Short (D)) := ⟨by have := HD.out.len; omega, fun t ht => hs1.out t ht (by have := HD.out.len; omega)⟩
    clear hs1
    by_cases hS : v.n99 ≤ 1048576
    case neg =>
      go_wp2
      go_ret
      exact ⟨⟨false, rfl, fun h => by cases h⟩, hX.out⟩
    have hwS : IntKind.i64.wrap ((z1 : Int) + (v.n99 : Int)) = (z1 : Int) + (v.n99 : Int) := by rw [IntKind.wrap_i64]; omega
    by_cases hZS : z1 + v.n99 ≤ 1048576
    case neg =>
      go_wp2
      go_ret
      exact ⟨⟨false, rfl, fun h => by cases h⟩, hX.out⟩
    go_wp2
    go_loopw [5, 7] (fun vz vi wr => ∃ z i : Nat, z ≤ 1048576 ∧ i ≤ v.n99 ∧ vz = .int .i64 z ∧ vi = .int .i64 i ∧ Hid (∀ t (ht : t < (S).length), t < i → ((S)[t]).size ≤ 1048576) ∧ W = wr) (fun vz vi _ => v.n99 - (intOf vi).toNat)
    case atStart => exact ⟨z1 + v.n99, 0, by omega, by omega, by go_num, rfl, fun t _ h => by omega, rfl⟩
    case round =>
      obtain ⟨z2, i2, hz2, hi2, rfl, rfl, hs2, rfl⟩ := hrel
      by_cases hin2 : i2 < v.n99
      case pos =>
        have hil : i2 < (S).length := by have := HS.out.len; omega
        obtain ⟨a0, ha0, hc⟩ := HS.out.cell i2 hil
        have hsz := HS.out.size i2 hil
        have HU : Hid (((S)[i2]).size ≤ 1048576 → ∀ t (ht : t < (S).length), t < i2 + 1 → ((S)[t]).size ≤ 1048576) := fun hy t ht h2 => by
          by_cases e : t = i2
          · subst e; exact hy
          · exact hs2.out t ht (by omega)
        rw [ha0] at c99
        clear ha0 hs2
        generalize (S)[i2] = y at *
        by_cases hy : y.size ≤ 1048576
        case neg =>
          go_wp2
          go_ret
          exact ⟨⟨false, rfl, fun h => by cases h⟩, hX.out⟩
        have hw1 : IntKind.i64.wrap ((z2 : Int) + (y.size : Int)) = (z2 : Int) + (y.size : Int) := by rw [IntKind.wrap_i64]; omega
        by_cases hzy : z2 + y.size ≤ 1048576
        case neg =>
          go_wp2
          go_ret
          exact ⟨⟨false, rfl, fun h => by cases h⟩, hX.out⟩
        have HV : Hid (∀ t (ht : t < (S).length), t < i2 + 1 → ((S)[t]).size ≤ 1048576) := HU.out hy
        clear HU
        go_wp2
        go_roundw
        case rel => exact ⟨z2 + y.size, i2 + 1, by omega, by omega, by go_num, by go_num, HV, by first | exact True.intro | rfl⟩
        case measure => simp [intOf]; omega
      have hSh2 : Hid (Short (S)) := ⟨by have := HS.out.len; omega, fun t ht => hs2.out t ht (by have := HS.out.len; omega)⟩
      clear hs2
      go_wp2
      go_ret
      exact ⟨⟨true, rfl, fun _ => ⟨hA, hSh1.out, hSh2.out⟩⟩, hX.out⟩
end Go.Proofs.Qxb6626501aFmt
