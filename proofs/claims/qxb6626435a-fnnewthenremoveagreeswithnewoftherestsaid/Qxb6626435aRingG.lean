import Derived.Test.Qxb6626435aLawA
namespace Go.Proofs.Qxb6626435a
open Go.RowKit Go.Sort
set_option linter.unusedVariables false

/-- A RING IN MEMORY, of whatever number of members, with whatever spare room behind them -/
structure RG (B : Nat) (ys : List Nat) (R H I : Nat) (am : Option Addr) (cm ch nh : Nat) (w : World) : Prop where
  ring : w.heap[R]? = some (.cells #[.slice am ys.length cm, .slice (some ⟨H, 0, none⟩) ys.length ch, .slice (some ⟨I, 0, none⟩) (2 ^ Lib.bitLen ys.length + 1) (2 ^ Lib.bitLen ys.length + 1), .int .u64 ((64 - Lib.bitLen ys.length : Nat) : Int)] 46 (0, 0))
  mem : 0 < ys.length → ∃ M, am = some ⟨M, 0, none⟩ ∧ B ≤ M ∧ M < H ∧ Row w M 0 ys ∧ w.there M 0 (ys.length * 20)
  heads : 0 < ys.length → ∃ g, w.rowIs H 41 nh g ∧ ∀ i (hi : i < ys.length), g i = .int .u64 (pre ys[i] 8 : Nat)
  hnh : ys.length ≤ nh
  hch : ys.length ≤ ch
  idx : w.rowIs I 21 (2 ^ Lib.bitLen ys.length + 1) (fun t => .int .i32 (below (ys.map (pre · 8)) (64 - Lib.bitLen ys.length) t : Nat))
  b1 : B ≤ H
  b3 : H < R
  b4 : R < I
  c1 : 0 < ys.length → ys.length ≤ cm ∧ cm ≤ maxLen

theorem RingAt.toG {B R M H I cm : Nat} {ys : List Nat} {w : World} (h : RingAt B ys R M H I cm w) : RG B ys R H I (some ⟨M, 0, none⟩) cm ys.length ys.length w where
  ring := h.ring
  mem := fun _ => ⟨M, rfl, h.b1, h.b2, h.mem, h.thM⟩
  heads := fun _ => ⟨_, h.heads, fun i hi => by rw [List.getD_eq_getElem?_getD, List.getElem?_eq_getElem hi]; rfl⟩
  hnh := Nat.le_refl _
  hch := Nat.le_refl _
  idx := h.idx
  b1 := by have := h.b1; have := h.b2; omega
  b3 := h.b3
  b4 := h.b4
  c1 := fun _ => ⟨h.c1, h.c2⟩

theorem bit0 : Lib.bitLen 0 = 0 := by decide +kernel
theorem RG.stay {B R H I cm ch nh : Nat} {am : Option Addr} {ys : List Nat} {w w' : World} (h : RG B ys R H I am cm ch nh w) (hk : ∀ k, B ≤ k → k < w.heap.size → w'.heap[k]? = w.heap[k]?) : RG B ys R H I am cm ch nh w' where
  ring := by
    rw [hk R (by have := h.b1; have := h.b3; omega) (Array.getElem?_eq_some_iff.1 h.ring).1]; exact h.ring
  mem := fun h0 => by
    obtain ⟨M, e, h1, h2, h3, h4⟩ := h.mem h0
    have hM := hk M h1 (there_lt h4 (by omega))
    exact ⟨M, e, h1, h2, h3.block hM, there_block h4 hM⟩
  heads := fun h0 => by
    obtain ⟨g, h1, h2⟩ := h.heads h0
    exact ⟨g, h1.of_block (hk H h.b1 h1.lt), h2⟩
  hnh := h.hnh
  hch := h.hch
  idx := h.idx.of_block (hk I (by have := h.b1; have := h.b3; have := h.b4; omega) h.idx.lt)
  b1 := h.b1
  b3 := h.b3
  b4 := h.b4
  c1 := h.c1
theorem RG.below {B R H I cm ch nh : Nat} {am : Option Addr} {ys : List Nat} {w w' : World} (h : RG B ys R H I am cm ch nh w) (hb : RowKit.Below w.heap.size w w') : RG B ys R H I am cm ch nh w' :=
  h.stay fun k _ hk => hb.block k hk

/-- New, whatever the number of identifiers -/
theorem newG (ao : Option Addr) (c : Nat) (xs : List Nat) (hn : xs.length ≤ 65536) (hlt : ∀ x ∈ xs, x < top) (w : World) (hr : 0 < xs.length → ∃ b off, ao = some ⟨b, off, none⟩ ∧ Row w b off xs) (h0 : xs.length = 0 → ∃ p : Option (Nat × Nat), ao = p.map fun p => ⟨p.1, p.2, none⟩) :
    Calls Try.prog 7 #[.slice ao xs.length c] w fun e w' => ∃ R H I am cm ch nh ys, e = .returned (.pointer (some ⟨R, 0, none⟩)) ∧ ys.Perm xs ∧ ys.Pairwise (· ≤ ·) ∧ RG w.heap.size ys R H I am cm ch nh w' ∧ RowKit.Below w.heap.size w w' := by
  by_cases hp : 0 < xs.length
  · obtain ⟨b, off, rfl, hrow⟩ := hr hp
    refine (new_some b off c xs.length xs rfl hp hn hlt w hrow).mono ?_
    rintro e w' ⟨R, M, H, I, cm, ys, rfl, hl, h1, h2, h3, h4⟩
    exact ⟨R, H, I, _, cm, _, _, ys, rfl, h1, h2, h3.toG, h4⟩
  · have hz : xs.length = 0 := by omega
    obtain ⟨p, rfl⟩ := h0 hz
    obtain rfl : xs = [] := List.length_eq_zero_iff.1 hz
    refine (new_none p c w).mono ?_
    rintro e w' ⟨R, H, I, cm, am, rfl, h3, h4⟩
    refine ⟨R, H, I, am, cm, 0, 0, [], rfl, List.Perm.refl _, List.Pairwise.nil, ?_, h4⟩
    refine ⟨?_, fun h => absurd h (Nat.lt_irrefl 0), fun h => absurd h (Nat.lt_irrefl 0), Nat.le_refl _, Nat.le_refl _, ?_, h3.b1, h3.b3, h3.b4, fun h => absurd h (Nat.lt_irrefl 0)⟩
    · have := h3.ring
      simpa [bit0] using this
    · have := h3.idx
      have e : 2 ^ Lib.bitLen ([] : List Nat).length + 1 = 2 := by rw [List.length_nil, bit0]
      rw [e]
      exact this.congr fun i _ => rfl
end Go.Proofs.Qxb6626435a
