import Derived.Test.Qxb6626501aFmtCards
import Derived.Test.Qxb6626501aFmtY
import Derived.Test.Qxb6626501aFmtZ
import Derived.WalkKit
import Derived.ProofKit
import Derived.OpenShut
import Derived.Carry
import Derived.Stop.JoinedAt
import Derived.Stop.JoinedTold
import Derived.SevenToldRow
namespace Go.Proofs.Qxb6626501aFmt.fnCheckDelegationMatchesModel
open Go.ChangeShapes Go.WideShapes Go.ChangeAt Go.RowKit Go.Kit
open Go.Extern.Stop Go.Stop Go.Extern
set_option linter.unusedVariables false

theorem own : ownKnob Tryf.prog.godebug = none := by kernel_rfl
theorem laidOut : laidOutB Tryf.prog = true := by kernel_rfl
abbrev spec : OpenSpec := OpenSpec.ofChange Rows.fnCheckDelegationMatchesModelSpec

set_option maxRecDepth 100000 in
theorem lifted (os : Os) (started : os.Started) (H : Type) (en : TypeId × Value → H) :
    ReturnsInTold none {} Tryf.checked os 3 .any Input.okWide (spec.preRow en Tryf.prog Tryf.f3 [] false []) (fun F => (spec.at F).post en Tryf.prog Tryf.f3 false true false false) (aloneAtReturn Tryf.prog) nothingAlways := by
  refine returnsInTold_of_row (C := Tryf.checked) (s := spec) (by kernel_rfl) own started (by kernel_rfl) Tryf.func3
    (OpenSpec.witness_stopped (enc := en) (C := Tryf.checked) false ⟨#[], #[.agg (enc8 z32).toArray, .agg (cellsC d0 v0).toArray, .agg (cellsC d0 v0).toArray], []⟩ 8 (by kernel_rfl) (by kernel_rfl) (by kernel_rfl) (by kernel_rfl)) ?_
  intro F W base args ds gs before _ hF hval0 hW _ _ _ _ _
  have hval : ∀ (j : Nat) t v, Tryf.f3.params[j]? = some t → args[j]? = some v → Value.okWide Tryf.prog W .any base t v := hval0
  have hW' := hW
  obtain ⟨p, q, hA0, hV, rfl, hfz, hnd⟩ := hW
  have hA : DataW.TrodAll en Tryf.prog W 0 (fun _ => true) true Tryf.f3.params.toList args.toList ds p := hA0
  rw [Tryf.params3] at hA hval
  obtain ⟨v0, vs0, d0, ds0, p0, q0, hargs, rfl, rfl, h0, r0⟩ := trodAll_cons hA
  obtain ⟨v1, vs1, d1, ds1, p1, q1, hargs1, rfl, rfl, h1, r1⟩ := trodAll_cons r0
  obtain ⟨v2, vs2, d2, ds2, p2, q2, hargs2, rfl, rfl, h2, r2⟩ := trodAll_cons r1
  obtain ⟨rfl, rfl, rfl⟩ := trodAll_nil r2
  subst hargs2
  subst hargs1
  obtain rfl : args = #[v0, v1, v2] := by cases args; simp_all
  obtain ⟨rfl, rfl⟩ := trodVars_none hV
  have hv0 : ∃ cs, v0 = .agg cs := by
    have h := hval 0 22 v0 rfl rfl
    simp only [Value.okWide, Tryf.underlying22] at h
    obtain ⟨cs, h1, _⟩ := h
    exact ⟨cs, h1⟩
  obtain ⟨cs0, rfl⟩ := hv0
  obtain ⟨cs1, rfl, _⟩ := okWide_struct Tryf.underlying28 (hval 1 28 v1 rfl rfl)
  obtain ⟨cs2, rfl, _⟩ := okWide_struct Tryf.underlying28 (hval 2 28 v2 rfl rfl)
  have h0k := h0
  have h1k := h1
  have h2k := h2
  obtain ⟨fuel0, hf0⟩ := h0
  obtain ⟨fuel1, hf1⟩ := h1
  obtain ⟨fuel2, hf2⟩ := h2
  clear hA0 hval0
  simp only [List.append_nil] at hW'
  have hlt0 : ∀ x ∈ p0, x.block < W.heap.size := fun x hx => by simpa using hW'.lt x (by simp [hx])
  have hlt1 : ∀ x ∈ p1, x.block < W.heap.size := fun x hx => by simpa using hW'.lt x (by simp [hx])
  have hlt2 : ∀ x ∈ p2, x.block < W.heap.size := fun x hx => by simpa using hW'.lt x (by simp [hx])
  have k0 : ∀ (W' : World), Below W.heap.size W W' → DataW.Trod en Tryf.prog W' 0 (fun b => decide (b < W.heap.size)) true 22 (.agg cs0) d0 p0 :=
    fun W' hn => Below.trod laidOut (by kernel_rfl) (of_decide_eq_true (by kernel_rfl)) h0k hn hlt0
  have k1 : ∀ (W' : World), Below W.heap.size W W' → DataW.Trod en Tryf.prog W' 0 (fun b => decide (b < W.heap.size)) true 28 (.agg cs1) d1 p1 :=
    fun W' hn => Below.trod laidOut (by kernel_rfl) (of_decide_eq_true (by kernel_rfl)) h1k hn hlt1
  have k2 : ∀ (W' : World), Below W.heap.size W W' → DataW.Trod en Tryf.prog W' 0 (fun b => decide (b < W.heap.size)) true 28 (.agg cs2) d2 p2 :=
    fun W' hn => Below.trod laidOut (by kernel_rfl) (of_decide_eq_true (by kernel_rfl)) h2k hn hlt2
  have hcall : Calls Tryf.prog 3 #[.agg cs0, .agg cs1, .agg cs2] W fun e w' => e = .returned (.bool true) ∧ W.Extends w' := by
    obtain ⟨id, hid, e0⟩ := open8 hf0
    obtain ⟨d, v, e1, hfit⟩ := openCap hf1
    have e0' : cs0 = (enc8 id).toArray := by apply Array.toList_inj.1; simpa [Value.cells] using e0
    have e1' : cs1 = (cellsC d v).toArray := by apply Array.toList_inj.1; simpa [Value.cells] using e1
    obtain ⟨dd, vv, e2, hfit2⟩ := openCap hf2
    have e2' : cs2 = (cellsC dd vv).toArray := by apply Array.toList_inj.1; simpa [Value.cells] using e2
    rw [e0', e1', e2']
    exact law3 F.told W hF id hid d v dd vv hfit hfit2
  refine hcall.mono fun e W' ⟨he, hx⟩ => ?_
  have hnx : Below W.heap.size W W' := ⟨hx.os, hx.tape, hx.output, hx.size, hx.block⟩
  subst he
  exact ⟨_, rfl, _, _, _, [], p0 ++ (p1 ++ (p2 ++ [])), [], hW', trodAll_cons_mk (shut_bool Tryf.underlying4 _) trodAll_mk0, trodAll_cons_mk (k0 _ hnx) (trodAll_cons_mk (k1 _ hnx) (trodAll_cons_mk (k2 _ hnx) trodAll_mk0)), rfl, hnx.frame _, fun h => by cases h⟩

theorem stops : Tryf.pinned.checked.prog.stops = ["fmt.errorf, its operands' methods called", "fmt.Sprintf, its operands' methods called"] := by kernel_rfl
theorem stopKnobs : Tryf.pinned.checked.prog.stopKnobs = [] := by kernel_rfl
theorem quiet (os : Os) : Stop.quiet Tryf.pinned.checked.prog os := by
  intro k hk
  rw [stopKnobs] at hk
  cases hk
theorem laidOut' : laidOutB Tryf.pinned.checked.prog = true := by kernel_rfl

/-- ████ THE STATEMENT ████ -/
theorem proved : Rows.FnCheckDelegationMatchesModelToldSaid :=
  Claim7.holds_of_told_any 3 Tryf.f3 "fmt.errorf, its operands' methods called" ["fmt.Sprintf, its operands' methods called"] [] _ _ _ (by kernel_rfl) rfl rfl rfl laidOut' (by kernel_rfl) rfl ⟨rfl, rfl, rfl, rfl, rfl, rfl, rfl⟩ rfl rfl (by kernel_rfl) (by kernel_rfl) Tryf.func3 (by kernel_rfl)
    (of_decide_eq_true (by kernel_rfl)) (of_decide_eq_true (by kernel_rfl)) stops.symm rfl stopKnobs.symm (by kernel_rfl)
    (by kernel_rfl) (by kernel_rfl) (by kernel_rfl) (by kernel_rfl) (by kernel_rfl) (by kernel_rfl) (by kernel_rfl) (by kernel_rfl) (by kernel_rfl) rfl (by kernel_rfl) rfl rfl
    rfl rfl
    rfl (by kernel_rfl) (by kernel_rfl) (by kernel_rfl) (by decide) (by kernel_rfl)
    (OpenClaim.moreEntering_of (by kernel_rfl) (by kernel_rfl) (by kernel_rfl) (by kernel_rfl) (by kernel_rfl) (by kernel_rfl) (by kernel_rfl) (by kernel_rfl) (by kernel_rfl) (by kernel_rfl))
    ⟨_, WideRow.started_initial, quiet _⟩
    (fun os started _ H enc _ => lifted os started H enc)
end Go.Proofs.Qxb6626501aFmt.fnCheckDelegationMatchesModel
