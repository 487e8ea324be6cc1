import Derived.Test.Qxb6626435aMem
namespace Go.Proofs.Qxb6626435a
open Go.RowKit Go.Sort
variable {P : Program}

/-- a whole array read inside a region that draws its order and only reads -/
theorem quiet_load_mid {ops : Array Oper} {C : World → Prop} {Q : Act → Prop} {op : Oper} {rest : List Oper} {a : Act} (hw : Region.wanted op (yielded ops a.tmps) = true) (ty : TypeId) (x : Operand) (ho : op.op = .load ty x)
    (b o : Nat) (hx : a.eval x = .pointer (some ⟨b, o, none⟩)) (cs : List Value) (d : TypeDesc) (hS : ∀ w, C w → w.rangeAt b o cs)
    (hu : P.underlying ty = some d) (hd : d.isRow = true) (hi : (P.info? ty).map (·.size) = some cs.length)
    (h : wpQuiet P ops C Q rest (a.put op.dst (.agg cs.toArray))) : wpQuiet P ops C Q (op :: rest) a := by
  unfold wpQuiet
  rw [if_pos hw]
  refine ⟨.agg cs.toArray, fun w hw' => ?_, h⟩
  unfold Oper.quietAt execOp
  simp only [ho, hx, Instr.loadAt, Instr.sureAddr, Sem.run_bind, Sem.run_pure, Result.andThen_ok, run_loadVar_mid w b o ty cs d (hS w hw') hu hd hi]
  exact ⟨rfl, rfl⟩
end Go.Proofs.Qxb6626435a
