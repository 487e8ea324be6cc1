import Derived.WalkKit
namespace Go.Proofs.Qxb6626435a
open Go.RowKit

/-- byte i of x, an unsigned 160-bit number, most significant first -/
def byteAt (x i : Nat) : Nat := x / 256 ^ (19 - i) % 256
/-- x's twenty cells -/
def enc (x : Nat) : List Value := (List.range 20).map fun i => .int .u8 (byteAt x i : Nat)
/-- 2^160 -/
def top : Nat := 1461501637330902918203684832716283019655932542976

theorem top_eq : top = 256 ^ 20 := by decide +kernel
theorem enc_length (x : Nat) : (enc x).length = 20 := by simp [enc]
theorem enc_get (x k : Nat) (h : k < 20) : (enc x)[k]? = some (.int .u8 (byteAt x k : Nat)) := by
  unfold enc
  rw [List.getElem?_map, List.getElem?_range h]
  rfl
theorem enc_one (x : Nat) : ∀ v ∈ enc x, v.oneCell' = true := by
  intro v hv
  unfold enc at hv
  rw [List.mem_map] at hv
  obtain ⟨i, _, rfl⟩ := hv
  rfl
theorem byteAt_lt (x i : Nat) : byteAt x i < 256 := Nat.mod_lt _ (by decide)

/-- the number that the first k bytes make -/
def pre (x k : Nat) : Nat := x / 256 ^ (20 - k)
theorem pre_zero (x : Nat) (h : x < top) : pre x 0 = 0 := by
  unfold pre; rw [Nat.sub_zero]; rw [top_eq] at h; exact Nat.div_eq_of_lt h
theorem pre_succ (x k : Nat) (h : k < 20) : pre x (k + 1) = pre x k * 256 + byteAt x k := by
  unfold pre byteAt
  have e : 20 - k = (19 - k) + 1 := by omega
  have e2 : 20 - (k + 1) = 19 - k := by omega
  rw [e, e2, Nat.pow_succ, ← Nat.div_div_eq_div_mul]
  omega
theorem pre_all (x : Nat) : pre x 20 = x := by unfold pre; simp
theorem pre_lt_of (x y k : Nat) (h : pre x k < pre y k) : x < y := by
  unfold pre at h
  by_cases hxy : x < y
  · exact hxy
  · exact absurd h (Nat.not_lt.2 (Nat.div_le_div_right (by omega)))
/-- the first byte that parts two numbers decides -/
theorem parted (x y k : Nat) (hk : k < 20) (he : pre x k = pre y k) (hne : byteAt x k ≠ byteAt y k) : (byteAt x k < byteAt y k) ↔ x < y := by
  have hx := pre_succ x k hk
  have hy := pre_succ y k hk
  constructor
  · intro h
    exact pre_lt_of x y (k + 1) (by omega)
  · intro h
    by_cases hb : byteAt x k < byteAt y k
    · exact hb
    · have : y < x := pre_lt_of y x (k + 1) (by omega)
      omega
theorem alike (x y : Nat) (he : pre x 20 = pre y 20) : x = y := by rwa [pre_all, pre_all] at he
theorem enc_inj (x y : Nat) (hx : x < top) (hy : y < top) (h : enc x = enc y) : x = y := by
  have hb : ∀ k, k < 20 → byteAt x k = byteAt y k := by
    intro k hk
    have h1 := enc_get x k hk
    have h2 := enc_get y k hk
    rw [h, h2] at h1
    simp only [Option.some.injEq, Value.int.injEq, true_and] at h1
    omega
  have hp : ∀ k, k ≤ 20 → pre x k = pre y k := by
    intro k
    induction k with
    | zero => intro _; rw [pre_zero x hx, pre_zero y hy]
    | succ k ih => intro hk; rw [pre_succ x k (by omega), pre_succ y k (by omega), ih (by omega), hb k (by omega)]
  exact alike x y (hp 20 (Nat.le_refl _))
end Go.Proofs.Qxb6626435a
