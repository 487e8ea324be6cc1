import Derived.Test.Qxb6626501aFmtD
namespace Go.Proofs.Qxb6626501aFmt
open Go.RowKit
set_option linter.unusedVariables false

/-- a slice of strings, nil or not -/
def StrsAt (w : World) (v : Value) (x : Option (List ByteArray)) : Prop := match x with
  | none => v = .slice none 0 0
  | some ss => ∃ a c, v = .slice (some a) ss.length c ∧ ∀ i (hi : i < ss.length), w.cell? (a.add i) = some (.string ss[i])

/-- each of its strings is short -/
def Short (ss : List ByteArray) : Prop := ss.length ≤ 1048576 ∧ ∀ i (hi : i < ss.length), ss[i].size ≤ 1048576

theorem qcall {P : Program} {f : FuncId} {args : Array Value} {w : World} {n : Nat} {v : Value} (h : Calls P f args (w.drewN n) fun e w' => e = .returned v ∧ ∃ q, w' = (w.drewN n).drewN q) :
    Calls P f args (w.drewN n) fun e w'' => e = .returned v ∧ ∃ m, w'' = w.drewN m :=
  h.mono fun _ _ ⟨he, q, hq⟩ => ⟨he, n + q, by rw [hq, World.drewN_drewN]⟩

theorem qcall2 {P : Program} {f : FuncId} {args : Array Value} {w : World} {k n : Nat} {v : Value} (h : Calls P f args (w.drewN (k + n)) fun e w' => e = .returned v ∧ ∃ q, w' = (w.drewN (k + n)).drewN q) :
    Calls P f args (w.drewN (k + n)) fun e w'' => e = .returned v ∧ ∃ m, w'' = w.drewN (k + m) :=
  h.mono fun _ _ ⟨he, q, hq⟩ => ⟨he, n + q, by rw [hq, World.drewN_drewN, Nat.add_assoc]⟩

set_option maxHeartbeats 400000 in
theorem sorted_some (a0 : Addr) (c : Nat) (ss : List ByteArray) (n : Nat) (hn : ss.length = n) (hsh : Short ss) (r : Bool) (hr : r = true ↔ Asc ss) (w : World) (hS : ∀ i (hi : i < ss.length), w.cell? (a0.add i) = some (.string ss[i])) :
    Calls Tryf.prog 7 #[.slice (some a0) n c] w fun e w' => e = .returned (.bool r) ∧ ∃ q, w' = w.drewN q := by
  have hmix := mixedF
  have hn2 : n ≤ 1048576 := hn ▸ hsh.1
  have HS : Hid (Short ss) := hsh
  have HR : Hid (r = true ↔ Asc ss) := hr
  clear hr hsh
  go_enter Tryf.func7, Tryf.ntmps7
  go_wp2
  go_loopw [3] (fun v wr => ∃ i : Nat, 1 ≤ i ∧ i ≤ n + 1 ∧ v = .int .i64 i ∧ Hid (∀ t (ht : t + 1 < ss.length), t + 1 < i → K ss[t] < K ss[t + 1]) ∧ ∃ q, wr = w.drewN q) (fun v _ => n + 1 - (intOf v).toNat)
  case atStart => exact ⟨1, by omega, by omega, rfl, fun t _ h => by omega, 0, rfl⟩
  case round =>
    obtain ⟨i, hi1, hi, rfl, hup, q, rfl⟩ := hrel
    by_cases hin : i < n
    · obtain ⟨j, hj⟩ : ∃ j : Nat, (i : Int) - 1 = (j : Int) := ⟨i - 1, by omega⟩
      have hij : i = j + 1 := by omega
      have hjn : j < n := by omega
      have hwj : IntKind.i64.wrap (j : Int) = (j : Int) := by rw [IntKind.wrap_i64]; omega
      have hl1 : j < ss.length := by omega
      have hl2 : j + 1 < ss.length := by omega
      have c1 := hS j hl1
      have c2 := hS (j + 1) hl2
      have s1 := HS.out.2 j hl1
      have s2 := HS.out.2 (j + 1) hl2

      by_cases hlt : K ss[j] < K ss[j + 1]
      · have hL := less_any ss[j] ss[j + 1] s1 s2 true (by simp [hlt])
        have HN : Hid (∀ t (ht : t + 1 < ss.length), t + 1 < j + 1 + 1 → K ss[t] < K ss[t + 1]) := fun t ht h => by
          by_cases e : t = j
          · subst e; exact hlt
          · exact hup.out t ht (by omega)
        clear hS hup HR hlt
        generalize ss[j] = y1 at *
        generalize ss[j + 1] = y2 at *
        rw [← hij] at c2
        clear hij
        go_wp2
        go_quiet (exact qcall2 (hL _))
        go_wp2
        go_roundw
        case rel => exact ⟨i + 1, by omega, by omega, by go_num, by rw [show i + 1 = j + 1 + 1 from by omega]; exact HN, _, rfl⟩
        case measure => simp [intOf]; omega
      · have hL := less_any ss[j] ss[j + 1] s1 s2 false (by simp [hlt])
        have hr : r = false := by
          cases hb : r with
          | false => rfl
          | true => exact absurd (List.pairwise_iff_getElem.1 (HR.out.1 hb) j (j + 1) hl1 hl2 (by omega)) hlt
        clear hS hup HR hlt
        generalize ss[j] = y1 at *
        generalize ss[j + 1] = y2 at *
        rw [← hij] at c2
        clear hij
        subst hr
        go_wp2
        go_quiet (exact qcall2 (hL _))
        go_wp2
        go_ret
        exact ⟨rfl, _, by rw [World.drewN_drewN]⟩
    · have hr : r = true := HR.out.2 (asc_of_steps ss fun t ht => hup.out t ht (by omega))
      clear hup HR hS
      subst hr
      go_wp2
      go_ret
      exact ⟨rfl, _, rfl⟩

theorem sorted_none (w : World) : Calls Tryf.prog 7 #[.slice none 0 0] w fun e w' => e = .returned (.bool true) ∧ ∃ q, w' = w.drewN q := by
  go_enter Tryf.func7, Tryf.ntmps7
  go_wp2
  go_loopw [3] (fun v wr => v = .int .i64 1 ∧ wr = w) (fun v _ => 0)
  case atStart => exact ⟨rfl, rfl⟩
  case round =>
    obtain ⟨rfl, rfl⟩ := hrel
    go_wp2
    go_ret
    exact ⟨rfl, 0, rfl⟩

/-- the search's answer -/
theorem found_iff {ps : List ByteArray} {x : ByteArray} (hs : Asc ps) {i : Nat} (hlo : ∀ t (ht : t < ps.length), t < i → K ps[t] < K x) (hhi : ∀ t (ht : t < ps.length), i ≤ t → K x ≤ K ps[t]) (hi : i < ps.length) :
    (decide (sgn ps[i] x = 0) = true ↔ x ∈ ps) := by
  rw [decide_eq_true_iff, sgn_zero]
  constructor
  · intro h; rw [← K_inj h]; exact List.getElem_mem hi
  · intro h
    obtain ⟨t, ht, e⟩ := List.getElem_of_mem h
    rcases Nat.lt_trichotomy t i with h1 | h1 | h1
    · have := hlo t ht h1; rw [e] at this; omega
    · subst h1; rw [e]
    · have h2 := List.pairwise_iff_getElem.1 hs i t hi ht h1
      have h3 := hhi i hi (Nat.le_refl _)
      rw [e] at h2
      omega

def Lo (ps : List ByteArray) (x : ByteArray) (i : Nat) : Prop := ∀ t (ht : t < ps.length), t < i → K ps[t] < K x
def Hi (ps : List ByteArray) (x : ByteArray) (j : Nat) : Prop := ∀ t (ht : t < ps.length), j ≤ t → K x ≤ K ps[t]
theorem Lo.up {ps : List ByteArray} {x : ByteArray} (hs : Asc ps) (h : Nat) (hh : h < ps.length) (hlt : K ps[h] < K x) : Lo ps x (h + 1) := fun t ht h2 => by
  by_cases e : t = h
  · subst e; exact hlt
  · exact Nat.lt_trans (List.pairwise_iff_getElem.1 hs t h ht hh (by omega)) hlt
theorem Hi.down {ps : List ByteArray} {x : ByteArray} (hs : Asc ps) (h : Nat) (hh : h < ps.length) (hge : K x ≤ K ps[h]) : Hi ps x h := fun t ht h2 => by
  by_cases e : t = h
  · subst e; exact hge
  · have := List.pairwise_iff_getElem.1 hs h t hh ht (by omega)
    omega

set_option maxHeartbeats 1000000 in
set_option maxRecDepth 100000 in
theorem bsearch (a0 : Addr) (c n : Nat) (ps : List ByteArray) (x : ByteArray) (hn : ps.length = n) (hsh : Short ps) (hx : x.size ≤ 1048576) (hasc : Asc ps) (r : Bool) (hr : r = true ↔ x ∈ ps) (w : World)
    (hS : ∀ i (hi : i < ps.length), w.cell? (a0.add i) = some (.string ps[i])) :
    Calls Tryf.prog 38 #[.slice (some a0) n c, .string x, .func (.func 39) #[] #[]] w fun e w' => (∃ j : Nat, e = .returned (.tuple #[.int .i64 j, .bool r])) ∧ ∃ q, w' = w.drewN q := by
  have hmix := mixedF
  have hn2 : n ≤ 1048576 := hn ▸ hsh.1
  have HS : Hid (Short ps) := hsh
  have HA : Hid (Asc ps) := hasc
  have HR : Hid (r = true ↔ x ∈ ps) := hr
  clear hr hsh hasc
  go_enter Tryf.func38, Tryf.ntmps38
  go_wp2
  go_loopw [9, 10] (fun vi vj wr => ∃ i j : Nat, i ≤ j ∧ j ≤ n ∧ vi = .int .i64 i ∧ vj = .int .i64 j ∧ Hid (Lo ps x i) ∧ Hid (Hi ps x j) ∧ ∃ q, wr = w.drewN q) (fun vi vj _ => (intOf vj).toNat - (intOf vi).toNat)
  case atStart => exact ⟨0, n, by omega, by omega, rfl, rfl, (fun t _ h => by omega : Lo ps x 0), (fun t ht h => by omega : Hi ps x n), 0, rfl⟩
  case round =>
    obtain ⟨i, j, hij, hj, rfl, rfl, hlo, hhi, q, rfl⟩ := hrel
    by_cases hlt : i < j
    · obtain ⟨h, hh1, hh2, hh3⟩ : ∃ h : Nat, i ≤ h ∧ h < j ∧ ((i : Int) + (j : Int)) / 2 = (h : Int) := ⟨(i + j) / 2, by omega, by omega, by omega⟩
      have hhl : h < ps.length := by omega
      have hhn : h < n := by omega
      have hcl := hS h hhl
      have hsz := HS.out.2 h hhl
      have w1 : IntKind.i64.wrap ((i : Int) + (j : Int)) = (i : Int) + (j : Int) := by rw [IntKind.wrap_i64]; omega
      have w2 : IntKind.u64.wrap ((i : Int) + (j : Int)) = (i : Int) + (j : Int) := by rw [IntKind.wrap_u64]; omega
      have w3 : IntKind.i64.wrap (h : Int) = (h : Int) := by rw [IntKind.wrap_i64]; omega
      have HUP : Hid (K ps[h] < K x → Lo ps x (h + 1)) := fun hl' => Lo.up HA.out h hhl hl'
      have HDN : Hid (K x ≤ K ps[h] → Hi ps x h) := fun hl' => Hi.down HA.out h hhl hl'
      have hd := compareEncoded_any ps[h] x hsz hx
      have hsg := sgn_neg ps[h] x
      have hsb := sgn_bounds ps[h] x
      clear hS
      generalize ps[h] = y at *
      generalize sgn y x = z at *
      by_cases hyp : z < 0
      · have HU : Hid (Lo ps x (h + 1)) := HUP.out (hsg.1 hyp)
        clear HUP HDN hsg
        go_wp2_with (go_at_call 39; refine (hd _).mono ?_; rintro e w' ⟨rfl, rfl⟩)
        go_roundw
        case rel => exact ⟨h + 1, j, by omega, by omega, by go_num, rfl, HU, hhi, _, rfl⟩
        case measure => simp [intOf]; omega
      · have HD : Hid (Hi ps x h) := HDN.out (by have := mt hsg.2 hyp; omega)
        clear HUP HDN hsg
        go_wp2_with (go_at_call 39; refine (hd _).mono ?_; rintro e w' ⟨rfl, rfl⟩)
        go_roundw
        case rel => exact ⟨i, h, by omega, by omega, rfl, rfl, hlo, HD, _, rfl⟩
        case measure => simp [intOf]; omega
    · obtain rfl : i = j := by omega
      by_cases hin : i < n
      · have hil : i < ps.length := by omega
        have hcl := hS i hil
        have hsz := HS.out.2 i hil
        have hd := compareEncoded_any ps[i] x hsz hx
        have hf : decide (sgn ps[i] x = 0) = r := by
          have := (found_iff HA.out hlo.out hhi.out hil).trans HR.out.symm
          exact Bool.eq_iff_iff.2 this
        clear hS HR HA hlo hhi HS
        generalize ps[i] = y at *
        generalize sgn y x = z at *
        subst hf
        by_cases hz : z = 0
        · subst hz
          go_wp2_with (go_at_call 39; refine (hd _).mono ?_; rintro e w' ⟨rfl, rfl⟩)
          go_ret2
          exact ⟨⟨i, rfl⟩, _, rfl⟩
        · go_wp2_with (go_at_call 39; refine (hd _).mono ?_; rintro e w' ⟨rfl, rfl⟩)
          go_ret2
          exact ⟨⟨i, by simp [hz]⟩, _, rfl⟩
      · have hr : r = false := by
          cases hb : r with
          | false => rfl
          | true =>
            obtain ⟨t, ht, e⟩ := List.getElem_of_mem (HR.out.1 hb)
            have := hlo.out t ht (by omega)
            rw [e] at this
            omega
        clear HR HA hlo hhi HS hS
        subst hr
        go_wp2
        go_ret2
        exact ⟨⟨i, rfl⟩, _, rfl⟩

theorem hasID_any (a0 : Addr) (c n : Nat) (ps : List ByteArray) (x : ByteArray) (hn : ps.length = n) (hsh : Short ps) (hx : x.size ≤ 1048576) (hasc : Asc ps) (r : Bool) (hr : r = true ↔ x ∈ ps) (w : World)
    (hS : ∀ i (hi : i < ps.length), w.cell? (a0.add i) = some (.string ps[i])) :
    Calls Tryf.prog 36 #[.slice (some a0) n c, .string x] w fun e w' => e = .returned (.bool r) ∧ ∃ q, w' = w.drewN q := by
  have hb := bsearch a0 c n ps x hn hsh hx hasc r hr w hS
  clear hS hr hasc hsh
  go_enter Tryf.func36, Tryf.ntmps36
  go_wp2_with (go_at_call 38; refine hb.mono ?_; rintro e w' ⟨⟨j, rfl⟩, q, rfl⟩)
  go_ret
  exact ⟨rfl, _, rfl⟩
end Go.Proofs.Qxb6626501aFmt
