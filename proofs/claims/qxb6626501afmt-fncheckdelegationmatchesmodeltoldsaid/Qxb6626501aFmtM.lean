import Derived.Test.Qxb6626501aFmtL
namespace Go.Proofs.Qxb6626501aFmt
open Go.RowKit Go.Extern.Stop Go.Stop Go.Extern
set_option linter.unusedVariables false

/-- a capability as plain data -/
structure CapD where
  iss : List UInt8
  sub : List UInt8
  key : List UInt8
  any : Bool
  lim : Lim
  proof : Option (List UInt8)

/-- a capability in memory -/
structure CapAt (w : World) (b o : Nat) (d : CapD) : Prop where
  ris : w.rangeAt b o (enc8 d.iss)
  rsub : w.rangeAt b (o + 32) (enc8 d.sub)
  rkey : w.rangeAt b (o + 64) (enc8 d.key)
  cany : w.cell? ⟨b, o + 96, none⟩ = some (.bool d.any)
  lim : ∃ v98 v99 v100 v101 v102 v103 v104 v105, LimAt w b o d.lim v98 v99 v100 v101 v102 v103 v104 v105
  proof : ∃ v, w.cell? ⟨b, o + 107, none⟩ = some v ∧ PtrB w v d.proof
  lis : d.iss.length = 32
  lsub : d.sub.length = 32
  lkey : d.key.length = 32

theorem CapAt.ext {w w' : World} (hx : w.Extends w') {b o : Nat} {d : CapD} (h : CapAt w b o d) : CapAt w' b o d := by
  obtain ⟨v98, v99, v100, v101, v102, v103, v104, v105, hl⟩ := h.lim
  obtain ⟨v, hc, hp⟩ := h.proof
  exact ⟨range_ext hx h.ris, range_ext hx h.rsub, range_ext hx h.rkey, hx.cell_of h.cany, ⟨v98, v99, v100, v101, v102, v103, v104, v105, hl.ext hx⟩, ⟨v, hx.cell_of hc, hp.ext hx⟩, h.lis, h.lsub, h.lkey⟩

/-- a token in memory -/
structure TokAt (w : World) (b o : Nat) (id : List UInt8) (d : CapD) : Prop where
  rid : w.rangeAt b o (enc8 id)
  lid : id.length = 32
  cap : CapAt w b (o + 35) d
theorem TokAt.ext {w w' : World} (hx : w.Extends w') {b o : Nat} {id : List UInt8} {d : CapD} (h : TokAt w b o id d) : TokAt w' b o id d := ⟨range_ext hx h.rid, h.lid, h.cap.ext hx⟩

abbrev nBr : ByteArray := ⟨#[98, 114, 111, 107, 101, 110, 45, 99, 104, 97, 105, 110]⟩

open Classical in
/-- the reason that the rules give -/
noncomputable def reason (id : List UInt8) (p c : CapD) : ByteArray :=
  if Linked id p.key p.sub c.iss c.sub p.any c.proof then (if c.lim.action = p.lim.action then firstR (attL p.lim c.lim) else wid ++ nAc) else nBr

theorem size_zero {R : ByteArray} (hz : R.size = 0) : R = ⟨#[]⟩ := by
  obtain ⟨⟨l⟩⟩ := R
  cases l with
  | nil => rfl
  | cons x l => simp [ByteArray.size] at hz
theorem ne_empty {R : ByteArray} (hz : ¬ R.size = 0) : (R.toList == ([] : List UInt8)) = false := by
  rw [list_data, beq_eq_false_iff_ne]
  intro e
  apply hz
  have := congrArg List.length e
  simpa using this

/-- how CheckDelegation answers -/
def Answer (w : World) (r : ByteArray) (e : Ending) (w' : World) : Prop :=
  (r.size = 0 → e = .returned .nilIface) ∧ (¬ r.size = 0 → ∃ x, e = .returned (.iface 65 (.pointer (some ⟨x, 0, none⟩))) ∧ w'.cell? ⟨x, 0, none⟩ = some (.string r)) ∧ w.Extends w'

theorem as65 (v : Value) (w : World) : (Instr.typeAssert (.iface 65 v) 63 65 true).run Tryf.prog w = .ok (.tuple #[v, .bool true]) w := by kernel_rfl
theorem neq_nil (a : Addr) (t : TypeId) (w : World) : (binOp BinOp.neq 63 (.iface t (.pointer (some a))) .nilIface).run Tryf.prog w = .ok (.bool true) w := by kernel_rfl
theorem neq_nil0 (w : World) : (binOp BinOp.neq 63 .nilIface .nilIface).run Tryf.prog w = .ok (.bool false) w := by kernel_rfl
theorem eql_nil (a : Addr) (t : TypeId) (w : World) : (binOp BinOp.eql 63 (.iface t (.pointer (some a))) .nilIface).run Tryf.prog w = .ok (.bool false) w := by kernel_rfl
theorem eql_nil0 (w : World) : (binOp BinOp.eql 63 .nilIface .nilIface).run Tryf.prog w = .ok (.bool true) w := by kernel_rfl

set_option maxHeartbeats 1000000 in
theorem check_any (F : Interp) (w : World) (hF : F.answers w.tape) (tb to cb co : Nat) (id : List UInt8) (p c : CapD) (ht : TokAt w tb to id p) (hc : CapAt w cb co c) (hok : LimOk p.lim c.lim) :
    Calls Tryf.prog 18 #[.pointer (some ⟨tb, to, none⟩), .pointer (some ⟨cb, co, none⟩)] w (Answer w (reason id p c)) := by
  have q1 := neq_nil
  have q2 := neq_nil0
  obtain ⟨v107, hv107, hpr⟩ := hc.proof
  have hL : LinkAt w tb to cb co id p.key p.sub c.iss c.sub p.any v107 c.proof :=
    ⟨ht.rid, ht.cap.rsub, ht.cap.rkey, ht.cap.cany, hc.ris, hc.rsub, hv107, hpr, ht.lid, ht.cap.lsub, ht.cap.lkey, hc.lis, hc.lsub⟩
  by_cases hl : Linked id p.key p.sub c.iss c.sub p.any c.proof
  · have h1 := link_yes F w hF tb to cb co id p.key p.sub c.iss c.sub p.any v107 c.proof hL hl
    obtain ⟨p98, p99, p100, p101, p102, p103, p104, p105, hpl⟩ := ht.cap.lim
    obtain ⟨c98, c99, c100, c101, c102, c103, c104, c105, hcl⟩ := hc.lim
    have hr : reason id p c = (reason id p c) := rfl
    obtain ⟨R, hR⟩ : ∃ R, R = reason id p c := ⟨_, rfl⟩
    rw [← hR]
    have h2 : ∀ w1, w.Extends w1 → Calls Tryf.prog 24 #[.pointer (some ⟨tb, to + 35, none⟩), .pointer (some ⟨cb, co, none⟩)] w1 fun e w' => e = .returned (.string R) ∧ w1.Extends w' := by
      intro w1 hx
      rw [hR]
      unfold reason
      rw [if_pos hl]
      by_cases ha : c.lim.action = p.lim.action
      · rw [if_pos ha]
        exact atten_eq tb (to + 35) cb co p.lim c.lim p98 p99 p100 p101 p102 p103 p104 p105 c98 c99 c100 c101 c102 c103 c104 c105 w1 (hpl.ext hx) (hcl.ext hx) hok ha
      · rw [if_neg ha]
        exact atten_ne tb (to + 35) cb co p.lim.action c.lim.action w1 (hx.cell_of hpl.c97) (hx.cell_of hcl.c97) ha
    clear hR hr hpl hcl hL hpr hv107 hok
    by_cases hz : R.size = 0
    · obtain rfl := size_zero hz
      have HA : Hid (∀ w', w.Extends w' → Answer w ⟨#[]⟩ (.returned .nilIface) w') := fun w' hx => ⟨fun _ => rfl, fun h => absurd rfl h, hx⟩
      clear hz
      go_enter Tryf.func18, Tryf.ntmps18
      go_wp2_with (first | (go_at_call 23; refine h1.mono ?_; rintro e w1 ⟨rfl, hx1⟩) | (go_at_call 24; refine (h2 _ hx1).mono ?_; rintro e w2 ⟨rfl, hx2⟩))
      go_ret
      exact HA.out _ (hx1.trans hx2)
    · have hb := ne_empty hz
      have HA : Hid (∀ w' x, w.Extends w' → w'.cell? ⟨x, 0, none⟩ = some (.string R) → Answer w R (.returned (.iface 65 (.pointer (some ⟨x, 0, none⟩)))) w') := fun w' x hx hcx => ⟨fun h => absurd h hz, fun _ => ⟨x, rfl, hcx⟩, hx⟩
      clear hz
      go_enter Tryf.func18, Tryf.ntmps18
      go_wp2_with (first | (go_at_call 23; refine h1.mono ?_; rintro e w1 ⟨rfl, hx1⟩) | (go_at_call 24; refine (h2 _ hx1).mono ?_; rintro e w2 ⟨rfl, hx2⟩))
      go_ret
      exact HA.out _ _ ((hx1.trans hx2).alloc _) (new_cell _ _ _ 0 _ rfl)
  · have h1 := link_no F w hF tb to cb co id p.key p.sub c.iss c.sub p.any v107 c.proof hL hl
    have hr : reason id p c = nBr := by unfold reason; rw [if_neg hl]
    rw [hr]
    have HA : Hid (∀ w' x, w.Extends w' → w'.cell? ⟨x, 0, none⟩ = some (.string nBr) → Answer w nBr (.returned (.iface 65 (.pointer (some ⟨x, 0, none⟩)))) w') := fun w' x hx hcx => ⟨fun h => absurd h (by decide), fun _ => ⟨x, rfl, hcx⟩, hx⟩
    clear hr hL hpr hv107 hok
    go_enter Tryf.func18, Tryf.ntmps18
    go_wp2_with (go_at_call 23; refine h1.mono ?_; rintro e w1 ⟨⟨a, rfl⟩, hx1⟩)
    go_ret
    exact HA.out _ _ (hx1.alloc _) (new_cell _ _ _ 0 _ rfl)

set_option maxHeartbeats 1000000 in
theorem zz_any (F : Interp) (w : World) (hF : F.answers w.tape) (tb to cb co : Nat) (id : List UInt8) (p c : CapD) (ht : TokAt w tb to id p) (hc : CapAt w cb co c) (hok : LimOk p.lim c.lim) :
    Calls Tryf.prog 10 #[.pointer (some ⟨tb, to, none⟩), .pointer (some ⟨cb, co, none⟩)] w fun e w' => e = .returned (.tuple #[.bool (decide (¬ (reason id p c).size = 0)), .string (reason id p c)]) ∧ w.Extends w' := by
  have hmix := mixedF
  have q1 := eql_nil
  have q2 := eql_nil0
  have q3 := as65
  have h1 := check_any F w hF tb to cb co id p c ht hc hok
  clear ht hc hok
  generalize reason id p c = R at *
  by_cases hz : R.size = 0
  · have h1' : Calls Tryf.prog 18 #[.pointer (some ⟨tb, to, none⟩), .pointer (some ⟨cb, co, none⟩)] w fun e w' => e = .returned .nilIface ∧ w.Extends w' := h1.mono fun e w' h => ⟨h.1 hz, h.2.2⟩
    obtain rfl := size_zero hz
    clear h1
    go_enter Tryf.func10, Tryf.ntmps10
    go_wp2_with (go_at_call 18; refine h1'.mono ?_; rintro e w1 ⟨rfl, hx1⟩)
    go_ret2
    exact ⟨rfl, hx1⟩
  · have h1' : Calls Tryf.prog 18 #[.pointer (some ⟨tb, to, none⟩), .pointer (some ⟨cb, co, none⟩)] w fun e w' => ∃ x, e = .returned (.iface 65 (.pointer (some ⟨x, 0, none⟩))) ∧ w'.cell? ⟨x, 0, none⟩ = some (.string R) ∧ w.Extends w' := h1.mono fun e w' h => by
      obtain ⟨x, e1, e2⟩ := h.2.1 hz
      exact ⟨x, e1, e2, h.2.2⟩
    rw [decide_eq_true hz]
    clear h1 hz
    go_enter Tryf.func10, Tryf.ntmps10
    go_wp2_with (go_at_call 18; refine h1'.mono ?_; rintro e w1 ⟨x, rfl, hcx, hx1⟩)
    go_quiet (fail)
    go_wp2
    go_ret2
    exact ⟨rfl, hx1.trans (ext_drewN _ _)⟩
end Go.Proofs.Qxb6626501aFmt
