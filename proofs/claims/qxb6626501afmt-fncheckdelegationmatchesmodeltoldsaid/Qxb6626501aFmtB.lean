import Derived.Test.Qxb6626501aFmtA
namespace Go.Proofs.Qxb6626501aFmt
open Go.RowKit
set_option linter.unusedVariables false

/-- a slice of strings that is not nil: its cells -/
def Strs (w : World) (a : Addr) (ss : List ByteArray) : Prop := ∀ i (hi : i < ss.length), w.cell? (a.add i) = some (.string ss[i])

theorem list_data (a : ByteArray) : a.toList = a.data.toList := ByteArray.toList_eq a
theorem str_ne {a b : ByteArray} (h : ¬ a = b) : (a.toList == b.toList) = false := by
  rw [beq_eq_false_iff_ne, list_data, list_data]
  intro e
  exact h (WideShapes.bytes_inj e)

set_option maxHeartbeats 400000 in
theorem contains_any (a0 : Addr) (c : Nat) (ss : List ByteArray) (n : Nat) (hn : ss.length = n) (hn2 : n ≤ 1048576) (x : ByteArray) (r : Bool) (hr0 : r = true ↔ x ∈ ss) (w : World) (hS : ∀ i (hi : i < ss.length), w.cell? (a0.add i) = some (.string ss[i])) :
    Calls Tryf.prog 25 #[.slice (some a0) n c, .string x] w fun e w' => e = .returned (.bool r) ∧ w = w' := by
  have HF : Hid (∀ (i : Nat) (hi : i < ss.length), ss[i] = x → r = true) := fun i hi h => hr0.2 (h ▸ List.getElem_mem hi)
  have HN : Hid ((∀ t (ht : t < ss.length), t < n → ss[t] ≠ x) → r = false) := fun h => by
    cases hb : r with
    | false => rfl
    | true =>
      obtain ⟨t, ht, e⟩ := List.getElem_of_mem (hr0.1 hb)
      exact absurd e (h t ht (by omega))
  clear hr0
  go_enter Tryf.func25, Tryf.ntmps25
  go_wp2
  go_loopw [5] (fun v wr => ∃ i : Nat, i ≤ n ∧ v = .int .i64 i ∧ Hid (∀ t (ht : t < ss.length), t < i → ss[t] ≠ x) ∧ wr = w) (fun v _ => n - (intOf v).toNat)
  case atStart => exact ⟨0, by omega, rfl, fun t _ h => by omega, rfl⟩
  case round =>
    obtain ⟨i, hi, rfl, hno, rfl⟩ := hrel
    by_cases hin : i < n
    · have hil : i < ss.length := by omega
      have hc := hS i hil
      have HFI : ss[i] = x → r = true := HF.out i hil
      have HNX : Hid (ss[i] ≠ x → ∀ t (ht : t < ss.length), t < i + 1 → ss[t] ≠ x) := fun h t ht h2 => by
        by_cases e : t = i
        · subst e; exact h
        · exact hno.out t ht (by omega)
      clear hS
      generalize ss[i] = y at *
      by_cases hy : y = x
      · have hr := HFI hy
        subst hy
        subst hr
        go_wp2
        go_ret
        exact ⟨rfl, rfl⟩
      · have HNY : Hid (∀ t (ht : t < ss.length), t < i + 1 → ss[t] ≠ x) := HNX.out hy
        have hb := str_ne hy
        clear HNX HFI HF HN
        go_wp2
        go_roundw
        case rel => exact ⟨i + 1, by omega, by go_num, HNY, True.intro⟩
        case measure => simp [intOf]; omega
    · obtain rfl : i = n := by omega
      have hr := HN.out hno.out
      clear HN HF
      subst hr
      go_wp2
      go_ret
      exact ⟨rfl, rfl⟩
end Go.Proofs.Qxb6626501aFmt
