import Derived.Test.Qxb6626501aFmtC
namespace Go.Proofs
open Go.Shelf
def Tryf.scmp_ren : Go.Shelf.Ren := ⟨fun | 106 => 43 | 213 => 45 | 265 => 46 | n => n, fun | n => n, fun | n => n⟩
theorem Tryf.scmp : Go.Proofs.Lays.n106 Tryf.prog Tryf.scmp_ren := {
  mixed := by kernel_rfl
  f106 := Tryf.func43.trans (congrArg some (by kernel_rfl))
  f213 := Tryf.func45.trans (congrArg some (by kernel_rfl))
  f265 := Tryf.func46.trans (congrArg some (by kernel_rfl))
  t3 := Tryf.underlying3
  a3 := Tryf.isAgg3
  z3 := Tryf.sizeOf3
  v3 := Tryf.zeroValue3
  t9 := Tryf.underlying9
  a9 := Tryf.isAgg9
  z9 := Tryf.sizeOf9
  v9 := Tryf.zeroValue9 }
end Go.Proofs
namespace Go.Proofs.Qxb6626501aFmt
open Go.RowKit
set_option linter.unusedVariables false

theorem scompare_any (a b : ByteArray) (w : World) : Calls Tryf.prog 43 #[.string a, .string b] w fun e w' => e = .returned (.int .i64 (Lib.compareBytes a.data.toList b.data.toList)) ∧ w' = w :=
  Go.Proofs.Any.strings_Compare Tryf.scmp a b w

theorem isNaN_any (x : Int) (w : World) : Calls Tryf.prog 44 #[.int .i64 x] w fun e w' => e = .returned (.bool false) ∧ w = w' := by
  go_enter Tryf.func44, Tryf.ntmps44
  go_wp2
  go_ret
  exact ⟨rfl, rfl⟩

theorem cmpInt_any (x y : Nat) (hx : x ≤ 2000000) (hy : y ≤ 2000000) (w : World) : Calls Tryf.prog 42 #[.int .i64 x, .int .i64 y] w fun e w' => e = .returned (.int .i64 (if x < y then -1 else if y < x then 1 else 0)) ∧ w = w' := by
  by_cases h1 : x < y
  · rw [if_pos h1]
    go_enter Tryf.func42, Tryf.ntmps42
    go_wp2_with (go_at_call 44; refine (isNaN_any _ _).mono ?_; rintro e w' ⟨rfl, rfl⟩)
    go_ret
    exact ⟨rfl, rfl⟩
  · rw [if_neg h1]
    by_cases h2 : y < x
    · rw [if_pos h2]
      go_enter Tryf.func42, Tryf.ntmps42
      go_wp2_with (go_at_call 44; refine (isNaN_any _ _).mono ?_; rintro e w' ⟨rfl, rfl⟩)
      go_ret
      exact ⟨rfl, rfl⟩
    · rw [if_neg h2]
      go_enter Tryf.func42, Tryf.ntmps42
      go_wp2_with (go_at_call 44; refine (isNaN_any _ _).mono ?_; rintro e w' ⟨rfl, rfl⟩)
      go_ret
      exact ⟨rfl, rfl⟩

theorem compareEncoded_any (a b : ByteArray) (ha : a.size ≤ 1048576) (hb : b.size ≤ 1048576) (w : World) : Calls Tryf.prog 39 #[.string a, .string b] w fun e w' => e = .returned (.int .i64 (sgn a b)) ∧ w = w' := by
  have hc := cmpInt_any a.size b.size (by omega) (by omega)
  have hs := scompare_any a b
  unfold sgn
  by_cases h1 : a.size < b.size
  · simp only [if_pos h1] at hc ⊢
    go_enter Tryf.func39, Tryf.ntmps39
    go_wp2_with (go_at_call 42; refine (hc _).mono ?_; rintro e w' ⟨rfl, rfl⟩)
    go_ret
    exact ⟨rfl, rfl⟩
  · by_cases h2 : b.size < a.size
    · simp only [if_neg h1, if_pos h2] at hc ⊢
      go_enter Tryf.func39, Tryf.ntmps39
      go_wp2_with (go_at_call 42; refine (hc _).mono ?_; rintro e w' ⟨rfl, rfl⟩)
      go_ret
      exact ⟨rfl, rfl⟩
    · simp only [if_neg h1, if_neg h2] at hc ⊢
      go_enter Tryf.func39, Tryf.ntmps39
      go_wp2_with (first | (go_at_call 42; refine (hc _).mono ?_; rintro e w' ⟨rfl, rfl⟩) | (go_at_call 43; refine (hs _).mono ?_; rintro e w' ⟨rfl, rfl⟩))
      go_ret
      exact ⟨rfl, rfl⟩

theorem getList (a : ByteArray) (i : Nat) (h : i < a.size) : a.data.toList[i]'(by simpa using h) = a[i] := by
  simp [ByteArray.getElem_eq_getElem_data]

theorem take_up {a b : ByteArray} {i : Nat} (h1 : i < a.size) (h2 : i < b.size) (hp : a.data.toList.take i = b.data.toList.take i) (he : a[i] = b[i]) : a.data.toList.take (i + 1) = b.data.toList.take (i + 1) := by
  rw [List.take_succ_eq_append_getElem (by simpa using h1), List.take_succ_eq_append_getElem (by simpa using h2), hp, getList a i h1, getList b i h2, he]

set_option maxHeartbeats 400000 in
theorem less_any (a b : ByteArray) (ha : a.size ≤ 1048576) (hb : b.size ≤ 1048576) (r : Bool) (hr : r = true ↔ K a < K b) (w : World) : Calls Tryf.prog 17 #[.string a, .string b] w fun e w' => e = .returned (.bool r) ∧ ∃ n, w' = w.drewN n := by
  have hmix := mixedF
  by_cases hne : a.size = b.size
  · have HR : Hid (r = true ↔ K a < K b) := hr
    clear hr
    go_enter Tryf.func17, Tryf.ntmps17
    go_wp2
    go_loopw [5] (fun v wr => ∃ i : Nat, i ≤ a.size ∧ v = .int .i64 i ∧ Hid (a.data.toList.take i = b.data.toList.take i) ∧ ∃ q, wr = w.drewN q) (fun v _ => a.size - (intOf v).toNat)
    case atStart => exact ⟨0, by omega, rfl, rfl, 0, rfl⟩
    case round =>
      obtain ⟨i, hi, rfl, hp, q, rfl⟩ := hrel
      by_cases hin : i < a.size
      · have hin2 : i < b.size := by omega
        by_cases hx : a[i] = b[i]
        · have HP : Hid (a.data.toList.take (i + 1) = b.data.toList.take (i + 1)) := take_up hin hin2 hp.out hx
          clear hp HR
          go_wp2
          go_quiet (fail)
          go_wp2
          go_roundw
          case rel => exact ⟨i + 1, by omega, by go_num, HP, _, rfl⟩
          case measure => simp [intOf]; omega
        · have hxn : ¬ ((a[i].toNat : Int) = (b[i].toNat : Int)) := fun e => hx (UInt8.toNat_inj.1 (by omega))
          have hf : a[i].toNat < b[i].toNat → K a < K b := fun h => K_first hne i (by simpa using hin) (by simpa using hin2) hp.out (by rw [getList a i hin, getList b i hin2]; exact UInt8.lt_iff_toNat_lt.2 h)
          have hg : b[i].toNat < a[i].toNat → K b < K a := fun h => K_first hne.symm i (by simpa using hin2) (by simpa using hin) hp.out.symm (by rw [getList a i hin, getList b i hin2]; exact UInt8.lt_iff_toNat_lt.2 h)
          by_cases hlt : a[i].toNat < b[i].toNat
          · have hr : r = true := HR.out.2 (hf hlt)
            clear hp HR hf hg
            subst hr
            go_wp2
            go_quiet (fail)
            go_wp2
            go_quiet (fail)
            go_wp2
            go_ret
            exact ⟨rfl, _, by rw [World.drewN_drewN, World.drewN_drewN]⟩
          · have hr : r = false := by
              have h1 := hg (by omega)
              cases hb : r with
              | false => rfl
              | true => have := HR.out.1 hb; omega
            clear hp HR hf hg
            subst hr
            go_wp2
            go_quiet (fail)
            go_wp2
            go_quiet (fail)
            go_wp2
            go_ret
            exact ⟨rfl, _, by rw [World.drewN_drewN, World.drewN_drewN]⟩
      · have hr : r = false := by
          have e1 : a.data.toList.take i = a.data.toList := List.take_of_length_le (by simp; omega)
          have e2 : b.data.toList.take i = b.data.toList := List.take_of_length_le (by simp; omega)
          have e3 := hp.out
          rw [e1, e2] at e3
          cases hb : r with
          | false => rfl
          | true =>
            have := HR.out.1 hb
            unfold K at this
            rw [e3] at this
            omega
        clear hp HR
        subst hr
        go_wp2
        go_ret
        exact ⟨rfl, _, rfl⟩
  · by_cases h1 : a.size < b.size
    · have hr' : r = true := hr.2 (K_short h1)
      clear hr
      subst hr'
      go_enter Tryf.func17, Tryf.ntmps17
      go_wp2
      go_ret
      exact ⟨rfl, 0, rfl⟩
    · have hr' : r = false := by
        have h2 := K_short (a := b) (b := a) (by omega)
        cases hb : r with
        | false => rfl
        | true => have := hr.1 hb; omega
      clear hr
      subst hr'
      go_enter Tryf.func17, Tryf.ntmps17
      go_wp2
      go_ret
      exact ⟨rfl, 0, rfl⟩
end Go.Proofs.Qxb6626501aFmt
