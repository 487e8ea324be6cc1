import Derived.Test.Qxb6626501aFmtP
namespace Go.Proofs.Qxb6626501aFmt
open Go.RowKit Go.Extern.Stop Go.Stop Go.Extern
set_option linter.unusedVariables false

set_option maxHeartbeats 2000000 in
set_option maxRecDepth 20000 in
theorem bytes5 (id : List UInt8) (hid : id.length = 32) (d : CapD) (v : Vals) (d2 : CapD) (v2 : Vals) (w : World) (hf : Fits w d v) (hf2 : Fits w d2 v2) :
    Calls Tryf.prog 5 #[.agg (enc8 id).toArray, .agg (cellsC d v).toArray, .agg (cellsC d2 v2).toArray] w fun e w' => (∃ r : Bool, e = .returned (.bool r) ∧ (r = true → (d.lim.action.size ≤ 1048576 ∧ Short (d.lim.docs.getD []) ∧ Short (d.lim.schemas.getD [])) ∧ d2.lim.action.size ≤ 1048576 ∧ Short (d2.lim.docs.getD []) ∧ Short (d2.lim.schemas.getD []))) ∧ w.Extends w' := by
  obtain ⟨W, hW⟩ : ∃ W, W = ((w.alloc (.cells (enc8 id).toArray 22)).alloc (.cells (cellsC d v).toArray 28)).alloc (.cells (cellsC d2 v2).toArray 28) := ⟨_, rfl⟩
  have hX : Hid (w.Extends W) := hW ▸ ((((World.Extends.refl w).alloc _).alloc _).alloc _)
  have hr : W.rangeAt (w.heap.size + 1) 0 (cellsC d v) := by
    have := World.rangeAt_alloc (new_range (w.alloc (.cells (enc8 id).toArray 22)) (cellsC d v) 28) (.cells (cellsC d2 v2).toArray 28)
    rw [hW]
    simpa using this
  have hr2 : W.rangeAt (w.heap.size + 2) 0 (cellsC d2 v2) := by
    have := new_range ((w.alloc (.cells (enc8 id).toArray 22)).alloc (.cells (cellsC d v).toArray 28)) (cellsC d2 v2) 28
    rw [hW]
    simpa using this
  obtain ⟨c96, c97, c98, c99, c100, c101, c102, c103, c104, c105, c106, c107⟩ := cap_cells (hf.means.ext hX.out) hr
  simp only [Nat.zero_add, Vals.v98, Vals.v99] at c97 c98 c99
  clear c96 c100 c101 c102 c103 c104 c105 c106 c107
  have HD : Hid (Sl W v.a98 v.n98 (d.lim.docs.getD [])) := hf.docs.ext hX.out
  have HS : Hid (Sl W v.a99 v.n99 (d.lim.schemas.getD [])) := hf.schemas.ext hX.out
  have ba := hf.act
  have bd := hf.docs.big
  have bs := hf.schemas.big
  generalize d.lim.docs.getD [] = D at *
  generalize d.lim.schemas.getD [] = S at *
  obtain ⟨c96, c972, c982, c992, c100, c101, c102, c103, c104, c105, c106, c107⟩ := cap_cells (hf2.means.ext hX.out) hr2
  simp only [Nat.zero_add, Vals.v98, Vals.v99] at c972 c982 c992
  clear c96 c100 c101 c102 c103 c104 c105 c106 c107
  have HD2 : Hid (Sl W v2.a98 v2.n98 (d2.lim.docs.getD [])) := hf2.docs.ext hX.out
  have HS2 : Hid (Sl W v2.a99 v2.n99 (d2.lim.schemas.getD [])) := hf2.schemas.ext hX.out
  have ba2 := hf2.act
  have bd2 := hf2.docs.big
  have bs2 := hf2.schemas.big
  generalize d2.lim.docs.getD [] = D2 at *
  generalize d2.lim.schemas.getD [] = S2 at *
  replace hW := hW.symm
  clear hr hf hr2 hf2
  go_enter Tryf.func5, Tryf.ntmps5
  by_cases hA : d.lim.action.size ≤ 1048576
  case neg =>
    go_wp2
    go_ret
    exact ⟨⟨false, rfl, fun h => by cases h⟩, hX.out⟩
  by_cases hD : v.n98 ≤ 1048576
  case neg =>
    go_wp2
    go_ret
    exact ⟨⟨false, rfl, fun h => by cases h⟩, hX.out⟩
  have hwD : IntKind.i64.wrap ((d.lim.action.size : Int) + (v.n98 : Int)) = (d.lim.action.size : Int) + (v.n98 : Int) := by rw [IntKind.wrap_i64]; omega
  by_cases hZD : d.lim.action.size + v.n98 ≤ 1048576
  case neg =>
    go_wp2
    go_ret
    exact ⟨⟨false, rfl, fun h => by cases h⟩, hX.out⟩
  go_wp2
  go_loopw [7, 8] (fun vz vi wr => ∃ z i : Nat, z ≤ 1048576 ∧ i ≤ v.n98 ∧ vz = .int .i64 z ∧ vi = .int .i64 i ∧ Hid (∀ t (ht : t < (D).length), t < i → ((D)[t]).size ≤ 1048576) ∧ W = wr) (fun vz vi _ => v.n98 - (intOf vi).toNat)
  case atStart => exact ⟨d.lim.action.size + v.n98, 0, by omega, by omega, by go_num, rfl, fun t _ h => by omega, rfl⟩
  case round =>
    obtain ⟨z1, i1, hz1, hi1, rfl, rfl, hs1, rfl⟩ := hrel
    by_cases hin1 : i1 < v.n98
    case pos =>
      have hil : i1 < (D).length := by have := HD.out.len; omega
      obtain ⟨a0, ha0, hc⟩ := HD.out.cell i1 hil
      have hsz := HD.out.size i1 hil
      have HU : Hid (((D)[i1]).size ≤ 1048576 → ∀ t (ht : t < (D).length), t < i1 + 1 → ((D)[t]).size ≤ 1048576) := fun hy t ht h2 => by
        by_cases e : t = i1
        · subst e; exact hy
        · exact hs1.out t ht (by omega)
      rw [ha0] at c98
      clear ha0 hs1
      generalize (D)[i1] = y at *
      by_cases hy : y.size ≤ 1048576
      case neg =>
        go_wp2
        go_ret
        exact ⟨⟨false, rfl, fun h => by cases h⟩, hX.out⟩
      have hw1 : IntKind.i64.wrap ((z1 : Int) + (y.size : Int)) = (z1 : Int) + (y.size : Int) := by rw [IntKind.wrap_i64]; omega
      by_cases hzy : z1 + y.size ≤ 1048576
      case neg =>
        go_wp2
        go_ret
        exact ⟨⟨false, rfl, fun h => by cases h⟩, hX.out⟩
      have HV : Hid (∀ t (ht : t < (D).length), t < i1 + 1 → ((D)[t]).size ≤ 1048576) := HU.out hy
      clear HU
      go_wp2
      go_roundw
      case rel => exact ⟨z1 + y.size, i1 + 1, by omega, by omega, by go_num, by go_num, HV, by first | exact True.intro | rfl⟩
      case measure => simp [intOf]; omega
    have hSh1 : Hid (Short (D)) := ⟨by have := HD.out.len; omega, fun t ht => hs1.out t ht (by have := HD.out.len; omega)⟩
    clear hs1
    by_cases hS : v.n99 ≤ 1048576
    case neg =>
      go_wp2
      go_ret
      exact ⟨⟨false, rfl, fun h => by cases h⟩, hX.out⟩
    have hwS : IntKind.i64.wrap ((z1 : Int) + (v.n99 : Int)) = (z1 : Int) + (v.n99 : Int) := by rw [IntKind.wrap_i64]; omega
    by_cases hZS : z1 + v.n99 ≤ 1048576
    case neg =>
      go_wp2
      go_ret
      exact ⟨⟨false, rfl, fun h => by cases h⟩, hX.out⟩
    go_wp2
    go_loopw [7, 9] (fun vz vi wr => ∃ z i : Nat, z ≤ 1048576 ∧ i ≤ v.n99 ∧ vz = .int .i64 z ∧ vi = .int .i64 i ∧ Hid (∀ t (ht : t < (S).length), t < i → ((S)[t]).size ≤ 1048576) ∧ W = wr) (fun vz vi _ => v.n99 - (intOf vi).toNat)
    case atStart => exact ⟨z1 + v.n99, 0, by omega, by omega, by go_num, rfl, fun t _ h => by omega, rfl⟩
    case round =>
      obtain ⟨z2, i2, hz2, hi2, rfl, rfl, hs2, rfl⟩ := hrel
      by_cases hin2 : i2 < v.n99
      case pos =>
        have hil : i2 < (S).length := by have := HS.out.len; omega
        obtain ⟨a0, ha0, hc⟩ := HS.out.cell i2 hil
        have hsz := HS.out.size i2 hil
        have HU : Hid (((S)[i2]).size ≤ 1048576 → ∀ t (ht : t < (S).length), t < i2 + 1 → ((S)[t]).size ≤ 1048576) := fun hy t ht h2 => by
          by_cases e : t = i2
          · subst e; exact hy
          · exact hs2.out t ht (by omega)
        rw [ha0] at c99
        clear ha0 hs2
        generalize (S)[i2] = y at *
        by_cases hy : y.size ≤ 1048576
        case neg =>
          go_wp2
          go_ret
          exact ⟨⟨false, rfl, fun h => by cases h⟩, hX.out⟩
        have hw1 : IntKind.i64.wrap ((z2 : Int) + (y.size : Int)) = (z2 : Int) + (y.size : Int) := by rw [IntKind.wrap_i64]; omega
        by_cases hzy : z2 + y.size ≤ 1048576
        case neg =>
          go_wp2
          go_ret
          exact ⟨⟨false, rfl, fun h => by cases h⟩, hX.out⟩
        have HV : Hid (∀ t (ht : t < (S).length), t < i2 + 1 → ((S)[t]).size ≤ 1048576) := HU.out hy
        clear HU
        go_wp2
        go_roundw
        case rel => exact ⟨z2 + y.size, i2 + 1, by omega, by omega, by go_num, by go_num, HV, by first | exact True.intro | rfl⟩
        case measure => simp [intOf]; omega
      have hSh2 : Hid (Short (S)) := ⟨by have := HS.out.len; omega, fun t ht => hs2.out t ht (by have := HS.out.len; omega)⟩
      clear hs2
      by_cases hA2 : d2.lim.action.size ≤ 1048576
      case neg =>
        go_wp2
        go_ret
        exact ⟨⟨false, rfl, fun h => by cases h⟩, hX.out⟩
      have hwA2 : IntKind.i64.wrap ((z2 : Int) + (d2.lim.action.size : Int)) = (z2 : Int) + (d2.lim.action.size : Int) := by rw [IntKind.wrap_i64]; omega
      by_cases hZA2 : z2 + d2.lim.action.size ≤ 1048576
      case neg =>
        go_wp2
        go_ret
        exact ⟨⟨false, rfl, fun h => by cases h⟩, hX.out⟩
      by_cases hD2 : v2.n98 ≤ 1048576
      case neg =>
        go_wp2
        go_ret
        exact ⟨⟨false, rfl, fun h => by cases h⟩, hX.out⟩
      have hwD2 : IntKind.i64.wrap (((z2 : Int) + (d2.lim.action.size : Int)) + (v2.n98 : Int)) = ((z2 : Int) + (d2.lim.action.size : Int)) + (v2.n98 : Int) := by rw [IntKind.wrap_i64]; omega
      by_cases hZD2 : (z2 + d2.lim.action.size) + v2.n98 ≤ 1048576
      case neg =>
        go_wp2
        go_ret
        exact ⟨⟨false, rfl, fun h => by cases h⟩, hX.out⟩
      go_wp2
      go_loopw [7, 10] (fun vz vi wr => ∃ z i : Nat, z ≤ 1048576 ∧ i ≤ v2.n98 ∧ vz = .int .i64 z ∧ vi = .int .i64 i ∧ Hid (∀ t (ht : t < (D2).length), t < i → ((D2)[t]).size ≤ 1048576) ∧ W = wr) (fun vz vi _ => v2.n98 - (intOf vi).toNat)
      case atStart => exact ⟨(z2 + d2.lim.action.size) + v2.n98, 0, by omega, by omega, by go_num, rfl, fun t _ h => by omega, rfl⟩
      case round =>
        obtain ⟨z3, i3, hz3, hi3, rfl, rfl, hs3, rfl⟩ := hrel
        by_cases hin3 : i3 < v2.n98
        case pos =>
          have hil : i3 < (D2).length := by have := HD2.out.len; omega
          obtain ⟨a0, ha0, hc⟩ := HD2.out.cell i3 hil
          have hsz := HD2.out.size i3 hil
          have HU : Hid (((D2)[i3]).size ≤ 1048576 → ∀ t (ht : t < (D2).length), t < i3 + 1 → ((D2)[t]).size ≤ 1048576) := fun hy t ht h2 => by
            by_cases e : t = i3
            · subst e; exact hy
            · exact hs3.out t ht (by omega)
          rw [ha0] at c982
          clear ha0 hs3
          generalize (D2)[i3] = y at *
          by_cases hy : y.size ≤ 1048576
          case neg =>
            go_wp2
            go_ret
            exact ⟨⟨false, rfl, fun h => by cases h⟩, hX.out⟩
          have hw1 : IntKind.i64.wrap ((z3 : Int) + (y.size : Int)) = (z3 : Int) + (y.size : Int) := by rw [IntKind.wrap_i64]; omega
          by_cases hzy : z3 + y.size ≤ 1048576
          case neg =>
            go_wp2
            go_ret
            exact ⟨⟨false, rfl, fun h => by cases h⟩, hX.out⟩
          have HV : Hid (∀ t (ht : t < (D2).length), t < i3 + 1 → ((D2)[t]).size ≤ 1048576) := HU.out hy
          clear HU
          go_wp2
          go_roundw
          case rel => exact ⟨z3 + y.size, i3 + 1, by omega, by omega, by go_num, by go_num, HV, by first | exact True.intro | rfl⟩
          case measure => simp [intOf]; omega
        have hSh3 : Hid (Short (D2)) := ⟨by have := HD2.out.len; omega, fun t ht => hs3.out t ht (by have := HD2.out.len; omega)⟩
        clear hs3
        by_cases hS2 : v2.n99 ≤ 1048576
        case neg =>
          go_wp2
          go_ret
          exact ⟨⟨false, rfl, fun h => by cases h⟩, hX.out⟩
        have hwS2 : IntKind.i64.wrap ((z3 : Int) + (v2.n99 : Int)) = (z3 : Int) + (v2.n99 : Int) := by rw [IntKind.wrap_i64]; omega
        by_cases hZS2 : z3 + v2.n99 ≤ 1048576
        case neg =>
          go_wp2
          go_ret
          exact ⟨⟨false, rfl, fun h => by cases h⟩, hX.out⟩
        go_wp2
        go_loopw [7, 11] (fun vz vi wr => ∃ z i : Nat, z ≤ 1048576 ∧ i ≤ v2.n99 ∧ vz = .int .i64 z ∧ vi = .int .i64 i ∧ Hid (∀ t (ht : t < (S2).length), t < i → ((S2)[t]).size ≤ 1048576) ∧ W = wr) (fun vz vi _ => v2.n99 - (intOf vi).toNat)
        case atStart => exact ⟨z3 + v2.n99, 0, by omega, by omega, by go_num, rfl, fun t _ h => by omega, rfl⟩
        case round =>
          obtain ⟨z4, i4, hz4, hi4, rfl, rfl, hs4, rfl⟩ := hrel
          by_cases hin4 : i4 < v2.n99
          case pos =>
            have hil : i4 < (S2).length := by have := HS2.out.len; omega
            obtain ⟨a0, ha0, hc⟩ := HS2.out.cell i4 hil
            have hsz := HS2.out.size i4 hil
            have HU : Hid (((S2)[i4]).size ≤ 1048576 → ∀ t (ht : t < (S2).length), t < i4 + 1 → ((S2)[t]).size ≤ 1048576) := fun hy t ht h2 => by
              by_cases e : t = i4
              · subst e; exact hy
              · exact hs4.out t ht (by omega)
            rw [ha0] at c992
            clear ha0 hs4
            generalize (S2)[i4] = y at *
            by_cases hy : y.size ≤ 1048576
            case neg =>
              go_wp2
              go_ret
              exact ⟨⟨false, rfl, fun h => by cases h⟩, hX.out⟩
            have hw1 : IntKind.i64.wrap ((z4 : Int) + (y.size : Int)) = (z4 : Int) + (y.size : Int) := by rw [IntKind.wrap_i64]; omega
            by_cases hzy : z4 + y.size ≤ 1048576
            case neg =>
              go_wp2
              go_ret
              exact ⟨⟨false, rfl, fun h => by cases h⟩, hX.out⟩
            have HV : Hid (∀ t (ht : t < (S2).length), t < i4 + 1 → ((S2)[t]).size ≤ 1048576) := HU.out hy
            clear HU
            go_wp2
            go_roundw
            case rel => exact ⟨z4 + y.size, i4 + 1, by omega, by omega, by go_num, by go_num, HV, by first | exact True.intro | rfl⟩
            case measure => simp [intOf]; omega
          have hSh4 : Hid (Short (S2)) := ⟨by have := HS2.out.len; omega, fun t ht => hs4.out t ht (by have := HS2.out.len; omega)⟩
          clear hs4
          go_wp2
          go_ret
          exact ⟨⟨true, rfl, fun _ => ⟨⟨hA, hSh1.out, hSh2.out⟩, hA2, hSh3.out, hSh4.out⟩⟩, hX.out⟩
end Go.Proofs.Qxb6626501aFmt
