import Derived.Test.Qxb6626501aFmtE
namespace Go.Proofs.Qxb6626501aFmt
open Go.RowKit
set_option linter.unusedVariables false

open Classical in
/-- the plain rule of a set -/
noncomputable def subR (claim : ByteArray) (p c : Option (List ByteArray)) : ByteArray := match p, c with
  | none, _ => .empty
  | some _, none => drp ++ claim
  | some p, some c => if (∀ x ∈ c, x ∈ p) then .empty else wid ++ claim

theorem all_up {ps cs : List ByteArray} {i : Nat} (h : i < cs.length) (hx : cs[i] ∈ ps) (hi : ∀ t (ht : t < cs.length), t < i → cs[t] ∈ ps) : ∀ t (ht : t < cs.length), t < i + 1 → cs[t] ∈ ps := fun t ht h2 => by
  by_cases e : t = i
  · subst e; exact hx
  · exact hi t ht (by omega)
theorem all_of {ps cs : List ByteArray} (h : ∀ t (ht : t < cs.length), cs[t] ∈ ps) : ∀ x ∈ cs, x ∈ ps := by
  intro x hx
  obtain ⟨t, ht, rfl⟩ := List.getElem_of_mem hx
  exact h t ht
theorem not_all {ps cs : List ByteArray} (i : Nat) (h : i < cs.length) (hx : ¬ cs[i] ∈ ps) : ¬ ∀ x ∈ cs, x ∈ ps := fun h2 => hx (h2 cs[i] (List.getElem_mem h))

theorem nil_eq (w : World) : (binOp BinOp.eql 23 (.slice none 0 0) (.slice none 0 0)).run Tryf.prog w = .ok (.bool true) w := by kernel_rfl
theorem nil_ne (a : Addr) (n c : Nat) (w : World) : (binOp BinOp.eql 23 (.slice (some a) n c) (.slice none 0 0)).run Tryf.prog w = .ok (.bool false) w := by kernel_rfl

def ShortO (x : Option (List ByteArray)) : Prop := match x with
  | none => True
  | some ss => Short ss
def AscO (x : Option (List ByteArray)) : Prop := match x with
  | none => True
  | some ss => Asc ss

set_option maxHeartbeats 400000 in
theorem subset_any (s : ByteArray) (hs : s.size ≤ 100) (p c : Option (List ByteArray)) (vp vc : Value) (w : World) (hp : StrsAt w vp p) (hc : StrsAt w vc c) (sp : ShortO p) (sc : ShortO c) (ha : AscO p) :
    Calls Tryf.prog 31 #[.string s, vp, vc] w fun e w' => e = .returned (.string (subR s p c)) ∧ ∃ n, w' = w.drewN n := by
  have hmix := mixedF
  have hnil := nil_eq
  have hnnil := nil_ne
  have hd := dropped_any s hs
  have hwd := widened_any s hs
  cases p with
  | none =>
    obtain rfl : vp = .slice none 0 0 := hp
    go_enter Tryf.func31, Tryf.ntmps31
    go_wp2
    go_ret
    exact ⟨rfl, 0, rfl⟩
  | some ps =>
    obtain ⟨ap, cp, rfl, hSp⟩ := hp
    cases c with
    | none =>
      obtain rfl : vc = .slice none 0 0 := hc
      clear hSp
      go_enter Tryf.func31, Tryf.ntmps31
      go_wp2_with (go_at_call 35; refine (hd _).mono ?_; rintro e w' ⟨rfl, rfl⟩)
      go_ret
      exact ⟨rfl, 0, rfl⟩
    | some cs =>
      obtain ⟨ac, cc, rfl, hSc⟩ := hc
      have HP : Hid (Short ps ∧ Asc ps ∧ ∀ (q i : Nat) (hi : i < ps.length), (w.drewN q).cell? (ap.add i) = some (.string ps[i])) := ⟨sp, ha, fun q i hi => hSp i hi⟩
      have HC : Hid (Short cs) := sc
      have hn2 : cs.length ≤ 1048576 := sc.1
      have hm2 : ps.length ≤ 1048576 := sp.1
      have hR : ∃ R, R = subR s (some ps) (some cs) := ⟨_, rfl⟩
      obtain ⟨R, hR⟩ := hR
      have HR : Hid (R = subR s (some ps) (some cs)) := hR
      rw [← hR]
      clear hR hSp sp sc ha
      obtain ⟨n, hn⟩ : ∃ n, n = cs.length := ⟨_, rfl⟩
      obtain ⟨m, hm⟩ : ∃ m, m = ps.length := ⟨_, rfl⟩
      rw [← hn] at hn2 ⊢
      rw [← hm] at hm2 ⊢
      have HNM : Hid (n = cs.length ∧ m = ps.length) := ⟨hn, hm⟩
      clear hn hm
      go_enter Tryf.func31, Tryf.ntmps31
      go_wp2
      go_loopw [17] (fun v wr => ∃ i : Nat, i ≤ n ∧ v = .int .i64 i ∧ Hid (∀ t (ht : t < cs.length), t < i → cs[t] ∈ ps) ∧ ∃ q, wr = w.drewN q) (fun v _ => n - (intOf v).toNat)
      case atStart => exact ⟨0, by omega, rfl, fun t _ h => by omega, 0, rfl⟩
      case round =>
        obtain ⟨i, hi, rfl, hup, q, rfl⟩ := hrel
        by_cases hin : i < n
        · have hil : i < cs.length := by have := HNM.out.1; omega
          have hcl := hSc i hil
          have hsz := HC.out.2 i hil
          by_cases hx : cs[i] ∈ ps
          · have hh := hasID_any ap cp m ps cs[i] HNM.out.2.symm HP.out.1 hsz HP.out.2.1 true (by simp [hx]) (w.drewN q) (HP.out.2.2 q)
            have HU : Hid (∀ t (ht : t < cs.length), t < i + 1 → cs[t] ∈ ps) := all_up hil hx hup.out
            clear hSc hup HR hx HP HC
            generalize cs[i] = y at *
            go_wp2_with (go_at_call 36; refine hh.mono ?_; rintro e w' ⟨rfl, q2, rfl⟩)
            go_roundw
            case rel => exact ⟨i + 1, by omega, by go_num, HU, _, rfl⟩
            case measure => simp [intOf]; omega
          · have hh := hasID_any ap cp m ps cs[i] HNM.out.2.symm HP.out.1 hsz HP.out.2.1 false (by simp [hx]) (w.drewN q) (HP.out.2.2 q)
            have hR : R = wid ++ s := by rw [HR.out]; simp only [subR]; rw [if_neg (not_all i hil hx)]
            clear hSc hup HR hx HP HC
            generalize cs[i] = y at *
            subst hR
            go_wp2_with (first | (go_at_call 36; refine hh.mono ?_; rintro e w' ⟨rfl, q2, rfl⟩) | (go_at_call 28; refine (hwd _).mono ?_; rintro e w' ⟨rfl, rfl⟩))
            go_ret
            exact ⟨rfl, _, rfl⟩
        · have hR : R = .empty := by
            rw [HR.out]
            simp only [subR]
            rw [if_pos (all_of fun t ht => hup.out t ht (by have := HNM.out.1; omega))]
          clear hSc hup HR HP HC
          subst hR
          go_wp2
          go_ret
          exact ⟨rfl, _, rfl⟩

set_option maxHeartbeats 400000 in
theorem zzSubset_any (s : ByteArray) (hs : s.size ≤ 100) (p c : Option (List ByteArray)) (vp vc : Value) (w : World) (hp : StrsAt w vp p) (hc : StrsAt w vc c) (sp : ShortO p) (sc : ShortO c) :
    Calls Tryf.prog 22 #[.string s, vp, vc] w fun e w' => e = .returned (.string (subR s p c)) ∧ ∃ n, w' = w.drewN n := by
  have hmix := mixedF
  have hnil := nil_eq
  have hnnil := nil_ne
  cases p with
  | none =>
    obtain rfl : vp = .slice none 0 0 := hp
    go_enter Tryf.func22, Tryf.ntmps22
    go_wp2
    go_ret
    exact ⟨rfl, 0, rfl⟩
  | some ps =>
    obtain ⟨ap, cp, rfl, hSp⟩ := hp
    cases c with
    | none =>
      obtain rfl : vc = .slice none 0 0 := hc
      clear hSp
      go_enter Tryf.func22, Tryf.ntmps22
      go_wp2
      go_ret
      exact ⟨rfl, 0, rfl⟩
    | some cs =>
      obtain ⟨ac, cc, rfl, hSc⟩ := hc
      have HP : Hid (∀ (i : Nat) (hi : i < ps.length), w.cell? (ap.add i) = some (.string ps[i])) := hSp
      have HC : Hid (Short cs) := sc
      have hn2 : cs.length ≤ 1048576 := sc.1
      have hm2 : ps.length ≤ 1048576 := sp.1
      have hR : ∃ R, R = subR s (some ps) (some cs) := ⟨_, rfl⟩
      obtain ⟨R, hR⟩ := hR
      have HR : Hid (R = subR s (some ps) (some cs)) := hR
      rw [← hR]
      clear hR hSp sp sc
      obtain ⟨n, hn⟩ : ∃ n, n = cs.length := ⟨_, rfl⟩
      obtain ⟨m, hm⟩ : ∃ m, m = ps.length := ⟨_, rfl⟩
      rw [← hn] at hn2 ⊢
      rw [← hm] at hm2 ⊢
      have HNM : Hid (n = cs.length ∧ m = ps.length) := ⟨hn, hm⟩
      clear hn hm
      go_enter Tryf.func22, Tryf.ntmps22
      go_wp2
      go_loopw [7] (fun v wr => ∃ i : Nat, i ≤ n ∧ v = .int .i64 i ∧ Hid (∀ t (ht : t < cs.length), t < i → cs[t] ∈ ps) ∧ wr = w) (fun v _ => n - (intOf v).toNat)
      case atStart => exact ⟨0, by omega, rfl, fun t _ h => by omega, rfl⟩
      case round =>
        obtain ⟨i, hi, rfl, hup, rfl⟩ := hrel
        by_cases hin : i < n
        · have hil : i < cs.length := by have := HNM.out.1; omega
          have hcl := hSc i hil
          have hsz := HC.out.2 i hil
          by_cases hx : cs[i] ∈ ps
          · have hh := contains_any ap cp ps m HNM.out.2.symm hm2 cs[i] true (by simp [hx]) _ HP.out
            have HU : Hid (∀ t (ht : t < cs.length), t < i + 1 → cs[t] ∈ ps) := all_up hil hx hup.out
            clear hSc hup HR hx HP HC
            generalize cs[i] = y at *
            go_wp2_with (go_at_call 25; refine hh.mono ?_; rintro e w' ⟨rfl, rfl⟩)
            go_roundw
            case rel => exact ⟨i + 1, by omega, by go_num, HU, True.intro⟩
            case measure => simp [intOf]; omega
          · have hh := contains_any ap cp ps m HNM.out.2.symm hm2 cs[i] false (by simp [hx]) _ HP.out
            have hR : R = wid ++ s := by rw [HR.out]; simp only [subR]; rw [if_neg (not_all i hil hx)]
            clear hSc hup HR hx HP HC
            generalize cs[i] = y at *
            subst hR
            go_wp2_with (go_at_call 25; refine hh.mono ?_; rintro e w' ⟨rfl, rfl⟩)
            go_ret
            exact ⟨rfl, 0, rfl⟩
        · have hR : R = .empty := by
            rw [HR.out]
            simp only [subR]
            rw [if_pos (all_of fun t ht => hup.out t ht (by have := HNM.out.1; omega))]
          clear hSc hup HR HP HC
          subst hR
          go_wp2
          go_ret
          exact ⟨rfl, 0, rfl⟩
end Go.Proofs.Qxb6626501aFmt
