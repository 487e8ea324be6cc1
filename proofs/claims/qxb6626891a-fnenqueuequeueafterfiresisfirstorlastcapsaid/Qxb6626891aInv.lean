import Derived.Test.Qxb6626891aWalks
import Derived.Deep.OwnRows
import Derived.ArgAppend
namespace Go.Proofs.Qxb6626891a
open Go.RowKit
set_option linter.unusedVariables false

theorem info3 : (Try.prog.info? 3).map (fun i => (i.zero, i.size, i.bytes)) = some (some (.int .i64 0), 1, 8) := by kernel_rfl

theorem make_any (n k : Nat) (hn : n ≤ 65536) (hk : k ≤ 65536) (w : World) :
    (Instr.makeSlice 29 (.int .i64 (n : Int)) (.int .i64 ((n : Int) + (k : Int)))).run Try.prog w = .ok (.slice (some ⟨w.heap.size, 0, none⟩) n (n + k)) (w.alloc (.cells (madeCells #[.int .i64 0] (n + k)) 3)) := by
  obtain ⟨i, hi, hz, hs, hb⟩ := info_parts info3
  have hr := run_make (P := Try.prog) w 29 3 i (.int .i64 0) Try.underlying29 hi hz .i64 .i64 (n : Int) ((n : Int) + (k : Int)) (by omega) (by omega) (by rw [hb]; omega) (by omega)
  have e : ((n : Int) + (k : Int)).toNat = n + k := by omega
  simp only [Int.toNat_natCast, hs, Nat.mul_one, e] at hr
  exact hr

/-- WHAT THE LOOPS KNOW OF THE WORLD: nothing old has turned; the policy's block (the first new one) stands; the queue's row (the second new one) has m cells, of which the first s hold their own index -/
structure Inv (w : World) (P : Array Value) (m s : Nat) (wr : World) : Prop where
  gr : Gr w wr
  pol : ∀ o, wr.cell? ⟨w.heap.size, o, none⟩ = (w.alloc (.cells P 28)).cell? ⟨w.heap.size, o, none⟩
  row : ∃ f : Nat → Value, wr.rowIs (w.heap.size + 1) 3 m f ∧ ∀ x, x < s → f x = .int .i64 (x : Int)

namespace Inv
variable {w wr : World} {P : Array Value} {m s : Nat}

theorem made (w : World) (P : Array Value) (m : Nat) : Inv w P m 0 ((w.alloc (.cells P 28)).alloc (.cells (madeCells #[.int .i64 0] m) 3)) where
  gr := ((Gr.refl _).alloc _ _).alloc _ _
  pol := fun o => World.cell?_alloc_past _ _ _ (by simp)
  row := ⟨fun _ => .int .i64 0, by simpa using World.rowIs_made (w.alloc (.cells P 28)) (.int .i64 0) m 3, fun x hx => absurd hx (by omega)⟩

theorem mono (h : Inv w P m s wr) {s' : Nat} (hs : s' ≤ s) : Inv w P m s' wr where
  gr := h.gr
  pol := h.pol
  row := by obtain ⟨f, h1, h2⟩ := h.row; exact ⟨f, h1, fun x hx => h2 x (by omega)⟩

theorem size (h : Inv w P m s wr) : w.heap.size + 1 < wr.heap.size := by obtain ⟨f, h1, _⟩ := h.row; exact h1.lt

theorem gone (h : Inv w P m s wr) {w1 : World} (hg : Gr wr w1) : Inv w P m s w1 where
  gr := h.gr.trans hg
  pol := fun o => (hg.cell _ o (by have := h.size; omega)).trans (h.pol o)
  row := by obtain ⟨f, h1, h2⟩ := h.row; exact ⟨f, h1.of_block (hg.1.block _ h1.lt), h2⟩

theorem alloc (h : Inv w P m s wr) (c : Array Value) (t : TypeId) : Inv w P m s (wr.alloc (.cells c t)) := h.gone ((Gr.refl _).alloc _ _)

theorem store (h : Inv w P m s wr) : Inv w P m (s + 1) (wr.setCell ⟨w.heap.size + 1, s, none⟩ (.int .i64 (s : Int))) where
  gr := h.gr.setCell (by show w.heap.size ≤ w.heap.size + 1; omega) _
  pol := fun o => (World.cell?_setCell_other _ _ _ _ (by simp)).trans (h.pol o)
  row := by
    obtain ⟨f, h1, h2⟩ := h.row
    refine ⟨_, h1.set s _, fun x hx => ?_⟩
    by_cases e : x = s
    · subst e; simp
    · show (if x = s then _ else f x) = _
      rw [if_neg e]; exact h2 x (by omega)

theorem cell (h : Inv w P m s wr) (hs : s ≤ m) (x : Nat) (hx : x < s) : wr.cell? ⟨w.heap.size + 1, x, none⟩ = some (.int .i64 (x : Int)) := by
  obtain ⟨f, h1, h2⟩ := h.row
  rw [h1.cell (by omega), h2 x hx]

theorem there (h : Inv w P m s wr) (x : Nat) (hx : x < m) : ∃ v, wr.cell? ⟨w.heap.size + 1, x, none⟩ = some v := by
  obtain ⟨f, h1, h2⟩ := h.row
  exact ⟨_, h1.cell hx⟩

theorem free (h : Inv w P m s wr) (x : Nat) : wr.frozen? ⟨w.heap.size + 1, x, none⟩ = false := by
  obtain ⟨f, h1, h2⟩ := h.row
  exact h1.frozen x
/-- the queue's own cells, from o on -/
theorem olds (h : Inv w P m s wr) (hs : s ≤ m) (o L : Nat) (hL : o + L ≤ s) : ∀ j u, ((List.range L).map fun x => Value.int .i64 ((o + x : Nat) : Int))[j]? = some u → wr.cell? ⟨w.heap.size + 1, o + j, none⟩ = some u := by
  intro j u hj
  rw [List.getElem?_map] at hj
  by_cases hlt : j < L
  · rw [List.getElem?_range hlt] at hj
    simp only [Option.map_some, Option.some.injEq] at hj
    subst hj
    exact h.cell hs (o + j) (by omega)
  · rw [List.getElem?_eq_none (by simpa using hlt)] at hj
    cases hj

theorem spare (h : Inv w P m s wr) (e L : Nat) (he : e < m) (v : Value) : ∀ j, j < [v].length → (wr.cell? ⟨w.heap.size + 1, e + j, none⟩).isSome = true ∧ wr.frozen? ⟨w.heap.size + 1, e + j, none⟩ = false := by
  intro j hj
  have : j = 0 := by simpa using hj
  subst this
  obtain ⟨u, hu⟩ := h.there e he
  exact ⟨by show (wr.cell? ⟨w.heap.size + 1, e, none⟩).isSome = true; rw [hu]; rfl, h.free _⟩

theorem put (h : Inv w P m s wr) (e : Nat) (v : Value) (he : e = s) (hv : v = .int .i64 (s : Int)) : Inv w P m (s + 1) (wr.setCells (w.heap.size + 1) e [v]) := by
  subst he hv
  exact h.store
end Inv

/-- how many wait behind f fires, under a queue of C places -/
def qlen (n C f : Nat) : Nat := if f = 0 then n else min C (n + f)
theorem qlen_zero (n C : Nat) : qlen n C 0 = n := rfl
theorem qlen_le (n C f : Nat) : qlen n C f ≤ n + f := by unfold qlen; split <;> omega
theorem qlen_few (n C f L : Nat) (hL : L = qlen n C f) (h : L < C) : L = n + f ∧ L + 1 = qlen n C (f + 1) := by
  unfold qlen at *
  by_cases hf : f = 0
  · rw [if_pos hf] at hL; rw [if_neg (by omega)]; omega
  · rw [if_neg hf] at hL; rw [if_neg (by omega)]; omega
theorem qlen_many (n C f L : Nat) (hL : L = qlen n C f) (h : C ≤ L) : C = qlen n C (f + 1) := by
  unfold qlen at *
  by_cases hf : f = 0
  · rw [if_pos hf] at hL; rw [if_neg (by omega)]; omega
  · rw [if_neg hf] at hL; rw [if_neg (by omega)]; omega
theorem qlen_end0 (n C f L : Nat) (hL : L = qlen n C f) (h : f ≤ 0) : n ≤ L ∧ L ≤ n := by
  unfold qlen at hL; rw [if_pos (by omega)] at hL; omega
theorem qlen_endC (n C f L : Nat) (hL : L = qlen n C f) (h : ¬ f ≤ 0) (hC : C < n + f) : C ≤ L ∧ L ≤ C := by
  unfold qlen at hL; rw [if_neg (by omega)] at hL; omega
theorem qlen_endA (n C f L : Nat) (hL : L = qlen n C f) (h : ¬ f ≤ 0) (hC : ¬ C < n + f) : n + f ≤ L ∧ L ≤ n + f := by
  unfold qlen at hL; rw [if_neg (by omega)] at hL; omega

theorem oneNew (w : World) (v : Value) (t : TypeId) : ∀ j u, [v][j]? = some u → (w.alloc (.cells #[v] t)).cell? ((⟨w.heap.size, 0, none⟩ : Addr).add j) = some u := by
  intro j u hj
  match j, hj with
  | 0, hj => simp at hj; subst hj; simp [Addr.add]

end Go.Proofs.Qxb6626891a
