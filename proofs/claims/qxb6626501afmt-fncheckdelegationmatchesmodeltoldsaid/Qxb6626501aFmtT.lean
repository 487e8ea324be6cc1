import Derived.Test.Qxb6626501aFmtS
import Derived.Test.Qxb6626501aFmtQ
namespace Go.Proofs.Qxb6626501aFmt
open Go.RowKit Go.Extern.Stop Go.Stop Go.Extern
set_option linter.unusedVariables false
set_option linter.unusedSimpArgs false

def bareL (a : ByteArray) : Lim := ⟨a, none, none, none, none, none, none, none, none⟩
def fullC (id : List UInt8) (p : CapD) : CapD := ⟨p.key, p.sub, z32, false, p.lim, some id⟩
def unlC (id : List UInt8) (p : CapD) : CapD := ⟨p.key, p.sub, z32, false, p.lim, none⟩
def bareC (id : List UInt8) (p : CapD) (a : ByteArray) : CapD := ⟨p.key, p.sub, z32, false, bareL a, some id⟩

theorem lowR_self (s : ByteArray) (x : Option Nat) : lowR s x x = .empty := by cases x <;> simp [lowR]
theorem uppR_self (s : ByteArray) (x : Option Nat) : uppR s x x = .empty := by cases x <;> simp [uppR]
theorem subR_self (s : ByteArray) (x : Option (List ByteArray)) : subR s x x = .empty := by
  cases x with
  | none => rfl
  | some l => simp only [subR]; rw [if_pos fun x h => h]
theorem lowR_none (s : ByteArray) (x : Option Nat) : lowR s x none = if x.isSome = true then drp ++ s else .empty := by cases x <;> rfl
theorem uppR_none (s : ByteArray) (x : Option Nat) : uppR s x none = if x.isSome = true then drp ++ s else .empty := by cases x <;> rfl
theorem subR_none (s : ByteArray) (x : Option (List ByteArray)) : subR s x none = if x.isSome = true then drp ++ s else .empty := by cases x <;> rfl

theorem r_any (id : List UInt8) (p c : CapD) (h : p.any = true) : reason id p c = nBr := by
  unfold reason
  rw [if_neg (fun hl => by have := hl.2.1; rw [h] at this; cases this)]
theorem r_unl (id : List UInt8) (p : CapD) : reason id p (unlC id p) = nBr := by
  unfold reason
  rw [if_neg (fun hl => by have := hl.1; cases this)]
theorem linked_of (id : List UInt8) (p c : CapD) (h : p.any = false) (h1 : c.proof = some id) (h2 : c.iss = p.key) (h3 : c.sub = p.sub) : Linked id p.key p.sub c.iss c.sub p.any c.proof := ⟨h1, h, h2, h3⟩
theorem r_full (id : List UInt8) (p : CapD) (h : p.any = false) : reason id p (fullC id p) = ⟨#[]⟩ := by
  unfold reason
  rw [if_pos (linked_of id p (fullC id p) h rfl rfl rfl), if_pos (show (fullC id p).lim.action = p.lim.action from rfl)]
  simp only [attL, fullC, lowR_self, uppR_self, subR_self]
  rfl
theorem r_other (id : List UInt8) (p : CapD) (a : ByteArray) (h : p.any = false) (ha : ¬ a = p.lim.action) : reason id p (bareC id p a) = wid ++ nAc := by
  unfold reason
  rw [if_pos (linked_of id p (bareC id p a) h rfl rfl rfl), if_neg (show ¬ (bareC id p a).lim.action = p.lim.action from ha)]
theorem drp_size (s : ByteArray) : ¬ (drp ++ s).size = 0 := by
  intro h
  have := ByteArray.size_append (a := drp) (b := s)
  have h2 : drp.size = 8 := rfl
  omega
theorem r_bare (id : List UInt8) (p : CapD) (h : p.any = false) : reason id p (bareC id p p.lim.action) = if (fcR p.lim).size = 0 then ⟨#[]⟩ else drp ++ fcR p.lim := by
  unfold reason
  rw [if_pos (linked_of id p (bareC id p p.lim.action) h rfl rfl rfl), if_pos (show (bareC id p p.lim.action).lim.action = p.lim.action from rfl)]
  simp only [attL, bareC, bareL, lowR_none, uppR_none, subR_none, fcR]
  have e0 : (ByteArray.empty).size = 0 := rfl
  have hn : ¬ nNb.size = 0 ∧ ¬ nEx.size = 0 ∧ ¬ nDo.size = 0 ∧ ¬ nSc.size = 0 ∧ ¬ nFt.size = 0 ∧ ¬ nTt.size = 0 ∧ ¬ nFs.size = 0 ∧ ¬ nTs.size = 0 := by decide
  obtain ⟨n1, n2, n3, n4, n5, n6, n7, n8⟩ := hn
  by_cases h1 : p.lim.notBefore.isSome = true
  case pos => simp only [firstR, if_pos h1, if_neg (drp_size _), e0, if_true, if_neg n1]
  by_cases h2 : p.lim.expires.isSome = true
  case pos => simp only [firstR, if_neg h1, if_pos h2, if_neg (drp_size _), e0, if_true, if_neg n2]
  by_cases h3 : p.lim.docs.isSome = true
  case pos => simp only [firstR, if_neg h1, if_neg h2, if_pos h3, if_neg (drp_size _), e0, if_true, if_neg n3]
  by_cases h4 : p.lim.schemas.isSome = true
  case pos => simp only [firstR, if_neg h1, if_neg h2, if_neg h3, if_pos h4, if_neg (drp_size _), e0, if_true, if_neg n4]
  by_cases h5 : p.lim.fromTs.isSome = true
  case pos => simp only [firstR, if_neg h1, if_neg h2, if_neg h3, if_neg h4, if_pos h5, if_neg (drp_size _), e0, if_true, if_neg n5]
  by_cases h6 : p.lim.toTs.isSome = true
  case pos => simp only [firstR, if_neg h1, if_neg h2, if_neg h3, if_neg h4, if_neg h5, if_pos h6, if_neg (drp_size _), e0, if_true, if_neg n6]
  by_cases h7 : p.lim.fromSeq.isSome = true
  case pos => simp only [firstR, if_neg h1, if_neg h2, if_neg h3, if_neg h4, if_neg h5, if_neg h6, if_pos h7, if_neg (drp_size _), e0, if_true, if_neg n7]
  by_cases h8 : p.lim.toSeq.isSome = true
  case pos => simp only [firstR, if_neg h1, if_neg h2, if_neg h3, if_neg h4, if_neg h5, if_neg h6, if_neg h7, if_pos h8, if_neg (drp_size _), e0, if_true, if_neg n8]
  simp only [firstR, if_neg h1, if_neg h2, if_neg h3, if_neg h4, if_neg h5, if_neg h6, if_neg h7, if_neg h8, e0, if_true]
  rfl
end Go.Proofs.Qxb6626501aFmt
