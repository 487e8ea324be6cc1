import Derived.Test.Qxb6626501aFmtProg
import Derived.WalkKit
import Derived.WalkSpells
import Derived.WalkLawsBesides
import Derived.BigQuiet
namespace Go.Proofs.Qxb6626501aFmt
open Go.RowKit
set_option linter.unusedVariables false

def drp : ByteArray := ⟨#[100, 114, 111, 112, 112, 101, 100, 58]⟩
def wid : ByteArray := ⟨#[119, 105, 100, 101, 110, 101, 100, 58]⟩

theorem widened_any (s : ByteArray) (hs : s.size ≤ 100) (w : World) : Calls Tryf.prog 28 #[.string s] w fun e w' => e = .returned (.string (wid ++ s)) ∧ w = w' := by
  go_enter Tryf.func28, Tryf.ntmps28
  go_wp2
  go_ret
  exact ⟨rfl, rfl⟩
theorem dropped_any (s : ByteArray) (hs : s.size ≤ 100) (w : World) : Calls Tryf.prog 35 #[.string s] w fun e w' => e = .returned (.string (drp ++ s)) ∧ w = w' := by
  go_enter Tryf.func35, Tryf.ntmps35
  go_wp2
  go_ret
  exact ⟨rfl, rfl⟩

/-- a bound that a pointer leads to -/
def PtrAt (w : World) (v : Value) (x : Option Nat) : Prop := match x with
  | none => v = .pointer none
  | some n => ∃ a, v = .pointer (some a) ∧ w.cell? a = some (.int .u64 (n : Int))
/-- the plain rule of a lower bound -/
def lowR (claim : ByteArray) (p c : Option Nat) : ByteArray := match p, c with
  | none, _ => .empty
  | some _, none => drp ++ claim
  | some p, some c => if c < p then wid ++ claim else .empty

/-- the plain rule of an upper bound -/
def uppR (claim : ByteArray) (p c : Option Nat) : ByteArray := match p, c with
  | none, _ => .empty
  | some _, none => drp ++ claim
  | some p, some c => if p < c then wid ++ claim else .empty
theorem mixedF : Tryf.prog.follows .mixedOrders = true := by kernel_rfl
theorem ret_str {a b : ByteArray} (h : a = b) : Ending.returned (.string a) = Ending.returned (.string b) := by rw [h]

set_option maxHeartbeats 400000 in
theorem lower_any (s : ByteArray) (hs : s.size ≤ 100) (p c : Option Nat) (vp vc : Value) (w : World) (hp : PtrAt w vp p) (hc : PtrAt w vc c) :
    Calls Tryf.prog 29 #[.string s, vp, vc] w fun e w' => e = .returned (.string (lowR s p c)) ∧ ∃ n, w' = w.drewN n := by
  have hmix := mixedF
  have hd := dropped_any s hs
  have hwd := widened_any s hs
  cases p with
  | none =>
    obtain rfl : vp = .pointer none := hp
    go_enter Tryf.func29, Tryf.ntmps29
    go_wp2
    go_ret
    exact ⟨rfl, 0, rfl⟩
  | some p =>
    obtain ⟨ap, rfl, hcp⟩ := hp
    cases c with
    | none =>
      obtain rfl : vc = .pointer none := hc
      go_enter Tryf.func29, Tryf.ntmps29
      go_wp2_with (go_at_call 35; refine (hd _).mono ?_; rintro e w' ⟨rfl, rfl⟩)
      go_ret
      exact ⟨rfl, 0, rfl⟩
    | some c =>
      obtain ⟨ac, rfl, hcc⟩ := hc
      by_cases h : c < p
      · go_enter Tryf.func29, Tryf.ntmps29
        go_wp2
        go_quiet (fail)
        go_wp2_with (go_at_call 28; refine (hwd _).mono ?_; rintro e w' ⟨rfl, rfl⟩)
        go_ret
        exact ⟨ret_str (by simp only [lowR]; rw [if_pos h] <;> rfl), nq, rfl⟩
      · go_enter Tryf.func29, Tryf.ntmps29
        go_wp2
        go_quiet (fail)
        go_wp2
        go_ret
        exact ⟨ret_str (by simp only [lowR]; rw [if_neg h] <;> rfl), nq, rfl⟩

set_option maxHeartbeats 400000 in
theorem upper_any (s : ByteArray) (hs : s.size ≤ 100) (p c : Option Nat) (vp vc : Value) (w : World) (hp : PtrAt w vp p) (hc : PtrAt w vc c) :
    Calls Tryf.prog 30 #[.string s, vp, vc] w fun e w' => e = .returned (.string (uppR s p c)) ∧ ∃ n, w' = w.drewN n := by
  have hmix := mixedF
  have hd := dropped_any s hs
  have hwd := widened_any s hs
  cases p with
  | none =>
    obtain rfl : vp = .pointer none := hp
    go_enter Tryf.func30, Tryf.ntmps30
    go_wp2
    go_ret
    exact ⟨rfl, 0, rfl⟩
  | some p =>
    obtain ⟨ap, rfl, hcp⟩ := hp
    cases c with
    | none =>
      obtain rfl : vc = .pointer none := hc
      go_enter Tryf.func30, Tryf.ntmps30
      go_wp2_with (go_at_call 35; refine (hd _).mono ?_; rintro e w' ⟨rfl, rfl⟩)
      go_ret
      exact ⟨rfl, 0, rfl⟩
    | some c =>
      obtain ⟨ac, rfl, hcc⟩ := hc
      by_cases h : p < c
      · go_enter Tryf.func30, Tryf.ntmps30
        go_wp2
        go_quiet (fail)
        go_wp2_with (go_at_call 28; refine (hwd _).mono ?_; rintro e w' ⟨rfl, rfl⟩)
        go_ret
        exact ⟨ret_str (by simp only [uppR]; rw [if_pos h] <;> rfl), nq, rfl⟩
      · go_enter Tryf.func30, Tryf.ntmps30
        go_wp2
        go_quiet (fail)
        go_wp2
        go_ret
        exact ⟨ret_str (by simp only [uppR]; rw [if_neg h] <;> rfl), nq, rfl⟩

set_option maxHeartbeats 400000 in
theorem zzLower_any (s : ByteArray) (hs : s.size ≤ 100) (p c : Option Nat) (vp vc : Value) (w : World) (hp : PtrAt w vp p) (hc : PtrAt w vc c) :
    Calls Tryf.prog 20 #[.string s, vp, vc] w fun e w' => e = .returned (.string (lowR s p c)) ∧ ∃ n, w' = w.drewN n := by
  have hmix := mixedF
  have hd := dropped_any s hs
  have hwd := widened_any s hs
  cases p with
  | none =>
    obtain rfl : vp = .pointer none := hp
    go_enter Tryf.func20, Tryf.ntmps20
    go_wp2
    go_ret
    exact ⟨rfl, 0, rfl⟩
  | some p =>
    obtain ⟨ap, rfl, hcp⟩ := hp
    cases c with
    | none =>
      obtain rfl : vc = .pointer none := hc
      go_enter Tryf.func20, Tryf.ntmps20
      go_wp2
      go_ret
      exact ⟨rfl, 0, rfl⟩
    | some c =>
      obtain ⟨ac, rfl, hcc⟩ := hc
      by_cases h : c < p
      · go_enter Tryf.func20, Tryf.ntmps20
        go_wp2
        go_quiet (fail)
        go_wp2
        go_ret
        exact ⟨ret_str (by simp only [lowR]; rw [if_pos h] <;> rfl), nq, rfl⟩
      · go_enter Tryf.func20, Tryf.ntmps20
        go_wp2
        go_quiet (fail)
        go_wp2
        go_ret
        exact ⟨ret_str (by simp only [lowR]; rw [if_neg h] <;> rfl), nq, rfl⟩

set_option maxHeartbeats 400000 in
theorem zzUpper_any (s : ByteArray) (hs : s.size ≤ 100) (p c : Option Nat) (vp vc : Value) (w : World) (hp : PtrAt w vp p) (hc : PtrAt w vc c) :
    Calls Tryf.prog 21 #[.string s, vp, vc] w fun e w' => e = .returned (.string (uppR s p c)) ∧ ∃ n, w' = w.drewN n := by
  have hmix := mixedF
  have hd := dropped_any s hs
  have hwd := widened_any s hs
  cases p with
  | none =>
    obtain rfl : vp = .pointer none := hp
    go_enter Tryf.func21, Tryf.ntmps21
    go_wp2
    go_ret
    exact ⟨rfl, 0, rfl⟩
  | some p =>
    obtain ⟨ap, rfl, hcp⟩ := hp
    cases c with
    | none =>
      obtain rfl : vc = .pointer none := hc
      go_enter Tryf.func21, Tryf.ntmps21
      go_wp2
      go_ret
      exact ⟨rfl, 0, rfl⟩
    | some c =>
      obtain ⟨ac, rfl, hcc⟩ := hc
      by_cases h : p < c
      · go_enter Tryf.func21, Tryf.ntmps21
        go_wp2
        go_quiet (fail)
        go_wp2
        go_ret
        exact ⟨ret_str (by simp only [uppR]; rw [if_pos h] <;> rfl), nq, rfl⟩
      · go_enter Tryf.func21, Tryf.ntmps21
        go_wp2
        go_quiet (fail)
        go_wp2
        go_ret
        exact ⟨ret_str (by simp only [uppR]; rw [if_neg h] <;> rfl), nq, rfl⟩

end Go.Proofs.Qxb6626501aFmt
