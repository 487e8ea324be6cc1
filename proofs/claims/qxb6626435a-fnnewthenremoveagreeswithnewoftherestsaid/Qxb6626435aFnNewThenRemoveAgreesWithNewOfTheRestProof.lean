import Derived.Test.Qxb6626435aRows
import Derived.Test.Qxb6626435aLawB
import Derived.Test.Qxb6626435aOpen
import Derived.WalkKit
import Derived.ProofKit
import Derived.OpenShut
import Derived.Carry
namespace Go.Proofs.Qxb6626435a.fnNewThenRemoveAgreesWithNewOfTheRest
open Go.ChangeShapes Go.WideShapes Go.ChangeAt Go.RowKit
set_option linter.unusedVariables false

theorem own : ownKnob Try.prog.godebug = none := by kernel_rfl
theorem laidOut : laidOutB Try.prog = true := by kernel_rfl

theorem okWide_array {w : World} {base : Nat} {t : TypeId} {v : Value} {n : Nat} {e : TypeId} (ht : Try.prog.underlying t = some (.array n e)) (h : Value.okWide Try.prog w .any base t v) : ∃ cs, v = .agg cs := by
  simp only [Value.okWide, ht] at h
  obtain ⟨cs, h1, _⟩ := h
  exact ⟨cs, h1⟩

set_option maxRecDepth 100000 in
theorem lifted (os : Os) (started : os.Started) (H : Type) (en : TypeId × Value → H) :
    ReturnsInHanded {} Try.checked os 4 .any (Rows.fnNewThenRemoveAgreesWithNewOfTheRestSpec.pre6 en Try.prog Try.f4 Rows.fnNewThenRemoveAgreesWithNewOfTheRestRow.domain false) (Rows.fnNewThenRemoveAgreesWithNewOfTheRestSpec.post en Try.prog Try.f4 false true false false) := by
  refine returnsInHanded_of_change (C := Try.checked) own started (by kernel_rfl) Try.func4
    (ChangeSpec.witness6 (enc := en) (C := Try.checked) false ⟨#[], #[.slice none 0 0, .agg (enc 0).toArray], []⟩ 8 (by kernel_rfl) (by kernel_rfl) (by kernel_rfl) (by kernel_rfl)) ?_
  intro W base args ds gs before hval0 hW hcnd _
  have hval : ∀ (j : Nat) t v, Try.f4.params[j]? = some t → args[j]? = some v → Value.okWide Try.prog W .any base t v := hval0
  have hW' := hW
  obtain ⟨p, q, hA0, hV, rfl, hfz, hnd⟩ := hW
  have hA : DataW.TrodAll en Try.prog W 0 (fun _ => true) true Try.f4.params.toList args.toList ds p := hA0
  rw [Try.params4] at hA hval
  obtain ⟨v0, v1, d0, d1, p0, p1, rfl, rfl, rfl, h0, h1⟩ := trodAll_two hA
  obtain ⟨rfl, rfl⟩ := trodVars_none hV
  obtain ⟨a0, len, cap, rfl⟩ := okWide_slice Try.underlying22 (hval 0 22 v0 rfl rfl)
  obtain ⟨cs, rfl⟩ := okWide_array Try.underlying25 (hval 1 25 v1 rfl rfl)
  have h0k := h0
  have h1k := h1
  obtain ⟨fuel, hf⟩ := h0
  obtain ⟨fuel1, hf1⟩ := h1
  clear hA0 hval0
  simp only [List.append_nil] at hW'
  have hlt : ∀ x ∈ p0 ++ p1, x.block < W.heap.size := fun x hx => by simpa using hW'.lt x hx
  have hargs : ∀ (W' : World), Below W.heap.size W W' → DataW.Trod en Try.prog W' 0 (fun b => decide (b < W.heap.size)) true 22 (.slice a0 len cap) d0 p0 :=
    fun W' hn => Below.trod laidOut (by kernel_rfl) (of_decide_eq_true (by kernel_rfl)) h0k hn (fun x hx => hlt x (List.mem_append_left _ hx))
  have hargs1 : ∀ (W' : World), Below W.heap.size W W' → DataW.Trod en Try.prog W' 0 (fun b => decide (b < W.heap.size)) true 25 (.agg cs) d1 p1 :=
    fun W' hn => Below.trod laidOut (by kernel_rfl) (of_decide_eq_true (by kernel_rfl)) h1k hn (fun x hx => hlt x (List.mem_append_right _ hx))
  have hcall : Calls Try.prog 4 #[.slice a0 len cap, .agg cs] W fun e w' => e = .returned (.bool true) ∧ Below W.heap.size W w' := by
    obtain ⟨y, hy, hcs⟩ := open_id hf1
    have hcs2 : cs = (enc y).toArray := by
      have : cs.toList = enc y := hcs
      rw [← this]
    rw [hcs2]
    have hno : a0 = none → len = 0 := fun e => by
      subst e
      rcases open_ids hf with h | ⟨b, off, xs, h, _⟩
      · exact h
      · cases h
    rcases open_ids hf with hl | ⟨b, off, xs, ha, hl0, hxl, htop, hb, hr⟩
    · exact lawB_any a0 cap len y [] W (by rw [hl]; rfl) (fun x hx => by cases hx) hy hno (fun h => by omega)
    · exact lawB_any a0 cap len y xs W hxl htop hy hno (fun _ => ⟨b, off, ha, hb, hr⟩)
  refine hcall.mono fun e W' ⟨he, hnx⟩ => ?_
  subst he
  exact ⟨_, rfl, _, _, _, [], p0 ++ p1, [], hW', trodAll_cons_mk (shut_bool Try.underlying4 _) trodAll_mk0, trodAll_mk2 (hargs _ hnx) (hargs1 _ hnx), rfl, hnx.frame _, fun h => by cases h⟩

theorem over : Rows.fnNewThenRemoveAgreesWithNewOfTheRestRow.holds Try.pinned (OpenSpec.ofChange Rows.fnNewThenRemoveAgreesWithNewOfTheRestSpec) :=
  OpenClaim.holds_of_wide 4 Try.f4 rfl rfl rfl rfl rfl rfl rfl ⟨rfl, rfl, rfl, rfl, rfl⟩ rfl rfl rfl rfl rfl (by kernel_rfl) Try.func4 (by kernel_rfl)
    (of_decide_eq_true (by kernel_rfl)) (by unfold Func.isWrapper; first | (rw [if_pos (by decide +kernel)]; kernel_rfl) | (rw [if_neg (by decide +kernel)]; exact ⟨rfl, rfl⟩))
    (fun os started H en _ => lifted os started H en)

/-- ████ THE STATEMENT ████ -/
theorem proved : Rows.FnNewThenRemoveAgreesWithNewOfTheRestSaid :=
  over
end Go.Proofs.Qxb6626435a.fnNewThenRemoveAgreesWithNewOfTheRest
