import Derived.Test.Qxb6626501aFmtX
import Derived.ChangeKeysEq
namespace Go.Proofs.Qxb6626501aFmt
open Go.RowKit Go.Extern.Stop Go.Stop Go.Extern
set_option linter.unusedVariables false

theorem plain5 : Tryf.prog.plainKey 5 = true := by kernel_rfl
theorem enc8_get (l : List UInt8) (i : Nat) (h : i < l.length) : (enc8 l).toArray[i]? = some (.int .u8 (l[i].toNat : Int)) := by simp [enc8, h]

theorem eq_arr (t : TypeId) (ht : Tryf.prog.underlying t = some (.array 32 5)) (l m : List UInt8) (hl : l.length = 32) (hm : m.length = 32) (w : World) :
    (Op.equalIn 10000 t (.agg (enc8 l).toArray) (.agg (enc8 m).toArray)).run Tryf.prog w = .ok (decide (l = m)) w := by
  rw [show (10000 : Nat) = 9999 + 1 from rfl, Op.equalIn]
  simp only [Sem.run_bind, run_underlying ht, Result.andThen_ok, Tryf.sizeOf5]
  simp only [Std.Legacy.Range.forIn_eq_forIn_range', Std.Legacy.Range.size, Nat.sub_zero, Nat.add_sub_cancel, Nat.div_one]
  have key : ∀ n s, s + n = 32 → (forIn (List.range' s n) ((none, ()) : Option Bool × Unit) (fun i __s => do
            let a ← part 5 (enc8 l).toArray (i * 1)
            let b ← part 5 (enc8 m).toArray (i * 1)
            let r ← Op.equalIn 9999 5 a b
            if (!r) = true then pure (ForInStep.done (some false, ())) else pure (ForInStep.yield (none, ()))) : Sem (Option Bool × Unit)).run Tryf.prog w = .ok (if l.drop s = m.drop s then (none, ()) else (some false, ())) w := by
    intro n
    induction n with
    | zero =>
      intro s hs
      rw [List.drop_of_length_le (by omega), List.drop_of_length_le (by omega)]
      simp
    | succ n ih =>
      intro s hs
      have h1 : s < l.length := by omega
      have h2 : s < m.length := by omega
      rw [List.range'_succ, List.forIn_cons]
      simp only [Sem.run_bind, Nat.mul_one, run_part_plain w plain5 (enc8_get l s h1), run_part_plain w plain5 (enc8_get m s h2), Result.andThen_ok]
      rw [show (9999 : Nat) = 9998 + 1 from rfl, run_equalIn_int w 9998 5 .u8 .u8 _ _ Tryf.underlying5]
      simp only [Result.andThen_ok]
      have hE : (l.drop s = m.drop s) ↔ (l[s] = m[s] ∧ l.drop (s + 1) = m.drop (s + 1)) := by
        rw [List.drop_eq_getElem_cons h1, List.drop_eq_getElem_cons h2, List.cons.injEq]
      by_cases he : l[s] = m[s]
      · have hb : ((l[s].toNat : Int) == (m[s].toNat : Int)) = true := by rw [he]; simp
        rw [hb]
        simp only [Bool.not_true, Bool.false_eq_true, if_false, Sem.run_pure, Result.andThen_ok]
        rw [show (9998 + 1 : Nat) = 9999 from rfl]
        have := ih (s + 1) (by omega)
        simp only [Nat.mul_one] at this
        rw [this]
        by_cases h3 : l.drop (s + 1) = m.drop (s + 1)
        · rw [if_pos h3, if_pos (hE.2 ⟨he, h3⟩)]
        · rw [if_neg h3, if_neg (fun h => h3 (hE.1 h).2)]
      · have hb : ((l[s].toNat : Int) == (m[s].toNat : Int)) = false := by
          rw [beq_eq_false_iff_ne]
          intro e
          exact he (UInt8.toNat_inj.1 (by omega))
        rw [hb, if_neg (fun h => he (hE.1 h).1)]
        simp
  rw [key 32 0 rfl]
  by_cases h : l = m
  · subst h; simp
  · simp [h]

theorem neq_arr (t : TypeId) (ht : Tryf.prog.underlying t = some (.array 32 5)) (l m : List UInt8) (hl : l.length = 32) (hm : m.length = 32) (w : World) :
    (binOp .neq t (.agg (enc8 l).toArray) (.agg (enc8 m).toArray)).run Tryf.prog w = .ok (.bool (!decide (l = m))) w := by
  rw [run_neq_struct, eq_arr t ht l m hl hm]; rfl
theorem eql_arr (t : TypeId) (ht : Tryf.prog.underlying t = some (.array 32 5)) (l m : List UInt8) (hl : l.length = 32) (hm : m.length = 32) (w : World) :
    (binOp .eql t (.agg (enc8 l).toArray) (.agg (enc8 m).toArray)).run Tryf.prog w = .ok (.bool (decide (l = m))) w := by
  rw [run_eql_struct, eq_arr t ht l m hl hm]; rfl
end Go.Proofs.Qxb6626501aFmt
