import Derived.Test.Qxb6626435aMem
import Derived.Test.Qxb6626435aRows
import Derived.ProofKit
import Derived.OpenShut
import Derived.Deep.Slices
namespace Go.Proofs.Qxb6626435a
open Go.ChangeShapes Go.WideShapes Go.ChangeAt Go.RowKit
set_option linter.unusedVariables false

theorem Try.cells25 : Try.prog.cellsOf 25 = 20 := by kernel_rfl
theorem Try.cells5 : Try.prog.cellsOf 5 = 1 := by kernel_rfl

/-- k bytes make a number -/
theorem number (f : Nat → Nat) (hf : ∀ i, f i < 256) (k : Nat) : ∃ y, y < 256 ^ k ∧ ∀ i, i < k → y / 256 ^ (k - 1 - i) % 256 = f i := by
  induction k with
  | zero => exact ⟨0, by decide, fun i hi => by omega⟩
  | succ k ih =>
    obtain ⟨y, hy, hi⟩ := ih
    have hfk := hf k
    refine ⟨y * 256 + f k, by rw [Nat.pow_succ]; omega, fun i hik => ?_⟩
    by_cases e : i = k
    · subst e
      rw [show i + 1 - 1 - i = 0 from by omega, Nat.pow_zero, Nat.div_one]
      omega
    · rw [show k + 1 - 1 - i = (k - 1 - i) + 1 from by omega, Nat.pow_succ, Nat.mul_comm (256 ^ _), ← Nat.div_div_eq_div_mul, show (y * 256 + f k) / 256 = y from by omega]
      exact hi i (by omega)

/-- an identifier that is read: twenty bytes: a number below 2^160 -/
theorem open_id {H : Type} {en : TypeId × Value → H} {w : World} {base : Nat} {spare : Nat → Bool} {held : Bool} {fuel : Nat} {cs : List Value} {x : DataW H × List MemPlace}
    (h : DataW.trod en Try.prog w base spare held fuel 25 cs = some x) : ∃ y, y < top ∧ cs = enc y := by
  obtain ⟨xs, m, rfl, rfl, hl, hxl, hx⟩ := DataW.trod_array Try.underlying25 h
  rw [Try.cells25] at hl
  rw [Try.cells5] at hx
  have hb : ∀ i, ∃ z : Nat, z < 256 ∧ (i < 20 → cs[i]? = some (.int .u8 (z : Int))) := fun i => by
    by_cases hi : i < 20
    · have h1 := hx i hi
      rw [List.getElem?_eq_getElem (by omega)] at h1
      obtain ⟨n, hn, _, hw⟩ := DataW.trod_int Try.underlying5 h1
      obtain ⟨q1, q2⟩ := bounds_u8 hw
      refine ⟨n.toNat, by omega, fun _ => ?_⟩
      have : (List.take 1 (List.drop (i * 1) cs))[0]? = some (.int .u8 n) := by rw [hn]; rfl
      rw [List.getElem?_take, if_pos (by omega), List.getElem?_drop, Nat.mul_one, Nat.add_zero] at this
      rw [this, Int.toNat_of_nonneg q1]
    · exact ⟨0, by omega, fun h => absurd h hi⟩
  obtain ⟨f, hf⟩ := Classical.skolem.1 hb
  obtain ⟨y, hy, hi⟩ := number f (fun i => (hf i).1) 20
  refine ⟨y, by rw [top_eq]; exact hy, List.ext_getElem? fun i => ?_⟩
  by_cases h20 : i < 20
  · rw [(hf i).2 h20, enc_get y i h20]
    have := hi i h20
    unfold byteAt
    rw [show 19 - i = 20 - 1 - i from by omega, this]
  · rw [List.getElem?_eq_none (by omega), List.getElem?_eq_none (by rw [enc_length]; omega)]

/-- a slice of identifiers that is read -/
theorem open_ids {H : Type} {en : TypeId × Value → H} {w : World} {base : Nat} {spare : Nat → Bool} {held : Bool} {fuel : Nat} {a0 : Option Addr} {len cap : Nat} {x : DataW H × List MemPlace}
    (h : DataW.trod en Try.prog w base spare held fuel 22 (Value.slice a0 len cap).cells.toList = some x) :
    len = 0 ∨
    ∃ (b off : Nat) (xs : List Nat), a0 = some ⟨b, off, none⟩ ∧ 0 < len ∧ xs.length = len ∧ (∀ y ∈ xs, y < top) ∧ b < w.heap.size ∧ Row w b off xs := by
  rcases Go.Deep.open_slice Try.underlying22 h with ⟨hcs, hx⟩ | ⟨a, len', cap', m, n, D, Pl, hcs, _, hl, hm, hz, hx, hcell⟩
  · simp [Value.cells] at hcs
    obtain ⟨rfl, rfl, rfl⟩ := hcs
    exact Or.inl rfl
  · simp [Value.cells] at hcs
    obtain ⟨rfl, rfl, rfl⟩ := hcs
    obtain ⟨b, off, spot⟩ := a
    by_cases h0 : len = 0
    · exact Or.inl h0
    · right
      have hlm : len ≤ m := by rw [hz]; split <;> omega
      rw [Try.cells25] at hcell
      have hspot : spot = none := by
        obtain ⟨cs, h1, h2⟩ := hcell 0 (by omega)
        obtain ⟨y, hy, rfl⟩ := open_id h2
        obtain ⟨_, _, h3⟩ := World.cells?_some h1
        have := h3 0 (by omega)
        rw [enc_get y 0 (by omega)] at this
        simpa [Addr.add] using World.cell?_spot this
      subst hspot
      have hy : ∀ i, ∃ y : Nat, y < top ∧ (i < len → ∀ j v, (enc y)[j]? = some v → w.cell? ⟨b, off + i * 20 + j, none⟩ = some v) := fun i => by
        by_cases hi : i < len
        · obtain ⟨cs, h1, h2⟩ := hcell i (by omega)
          obtain ⟨y, hy, rfl⟩ := open_id h2
          refine ⟨y, hy, fun _ j v hv => ?_⟩
          obtain ⟨_, _, h3⟩ := World.cells?_some h1
          have hj := (List.getElem?_eq_some_iff.1 hv).1
          rw [enc_length] at hj
          have := h3 j hj
          rwa [hv, add_plain, add_plain] at this
        · exact ⟨0, by decide, fun h => absurd h hi⟩
      obtain ⟨f, hf⟩ := Classical.skolem.1 hy
      have hc0 := (hf 0).2 (by omega) 0 _ (enc_get _ 0 (by omega))
      refine ⟨b, off, (List.range len).map f, rfl, by omega, by simp, fun y hy => ?_, ?_, fun i y hi j v hv => ?_⟩
      · obtain ⟨i, _, rfl⟩ := List.mem_map.1 hy
        exact (hf i).1
      · exact World.block_lt_of_cell? w _ hc0
      · rw [List.getElem?_map] at hi
        obtain ⟨i', h1, h2⟩ := Option.map_eq_some_iff.1 hi
        have hi' := (List.getElem?_eq_some_iff.1 h1).1
        rw [List.length_range] at hi'
        rw [List.getElem?_range hi'] at h1
        cases h1
        subst h2
        exact (hf i).2 hi' j v hv
end Go.Proofs.Qxb6626435a
