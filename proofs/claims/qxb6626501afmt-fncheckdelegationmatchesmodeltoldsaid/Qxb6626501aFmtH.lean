import Derived.Test.Qxb6626501aFmtG
import Derived.Test.Qxb6626501aFmtLaw
import Derived.Deep.MidRow
import Derived.Below
namespace Go.Proofs.Qxb6626501aFmt
open Go.RowKit
set_option linter.unusedVariables false

/-- what the attenuation rules look at -/
structure Lim where
  action : ByteArray
  docs : Option (List ByteArray)
  schemas : Option (List ByteArray)
  fromTs : Option Nat
  toTs : Option Nat
  fromSeq : Option Nat
  toSeq : Option Nat
  notBefore : Option Nat
  expires : Option Nat

/-- the cells of a capability behind its receiver -/
structure LimAt (w : World) (b o : Nat) (d : Lim) (v98 v99 v100 v101 v102 v103 v104 v105 : Value) : Prop where
  c97 : w.cell? ⟨b, o + 97, none⟩ = some (.string d.action)
  c98 : w.cell? ⟨b, o + 98, none⟩ = some v98
  c99 : w.cell? ⟨b, o + 99, none⟩ = some v99
  c100 : w.cell? ⟨b, o + 100, none⟩ = some v100
  c101 : w.cell? ⟨b, o + 101, none⟩ = some v101
  c102 : w.cell? ⟨b, o + 102, none⟩ = some v102
  c103 : w.cell? ⟨b, o + 103, none⟩ = some v103
  c104 : w.cell? ⟨b, o + 104, none⟩ = some v104
  c105 : w.cell? ⟨b, o + 105, none⟩ = some v105
  docs : StrsAt w v98 d.docs
  schemas : StrsAt w v99 d.schemas
  fromTs : PtrAt w v100 d.fromTs
  toTs : PtrAt w v101 d.toTs
  fromSeq : PtrAt w v102 d.fromSeq
  toSeq : PtrAt w v103 d.toSeq
  notBefore : PtrAt w v104 d.notBefore
  expires : PtrAt w v105 d.expires

theorem PtrAt.ext {w w' : World} (hx : w.Extends w') {v : Value} {x : Option Nat} (h : PtrAt w v x) : PtrAt w' v x := by
  cases x with
  | none => exact h
  | some n => obtain ⟨a, e, hc⟩ := h; exact ⟨a, e, hx.cell_of hc⟩
theorem StrsAt.ext {w w' : World} (hx : w.Extends w') {v : Value} {x : Option (List ByteArray)} (h : StrsAt w v x) : StrsAt w' v x := by
  cases x with
  | none => exact h
  | some n => obtain ⟨a, c, e, hc⟩ := h; exact ⟨a, c, e, fun i hi => hx.cell_of (hc i hi)⟩
theorem LimAt.ext {w w' : World} (hx : w.Extends w') {b o : Nat} {d : Lim} {v98 v99 v100 v101 v102 v103 v104 v105 : Value} (h : LimAt w b o d v98 v99 v100 v101 v102 v103 v104 v105) : LimAt w' b o d v98 v99 v100 v101 v102 v103 v104 v105 :=
  ⟨hx.cell_of h.c97, hx.cell_of h.c98, hx.cell_of h.c99, hx.cell_of h.c100, hx.cell_of h.c101, hx.cell_of h.c102, hx.cell_of h.c103, hx.cell_of h.c104, hx.cell_of h.c105,
   h.docs.ext hx, h.schemas.ext hx, h.fromTs.ext hx, h.toTs.ext hx, h.fromSeq.ext hx, h.toSeq.ext hx, h.notBefore.ext hx, h.expires.ext hx⟩
theorem ext_setCells {a w : World} (h : a.Extends w) (b o : Nat) (vs : List Value) (hb : a.heap.size ≤ b) : a.Extends (w.setCells b o vs) := by
  induction vs generalizing w o with
  | nil => exact h
  | cons v r ih => exact ih (h.setCell ⟨b, o, none⟩ v hb) (o + 1)
theorem new_there (w : World) (z : Array Value) (t : TypeId) : (w.alloc (.cells z t)).there w.heap.size 0 z.size := fun j hj => by
  rw [cell_of_row _ _ _ _ t (0, 0) (heap_alloc_new w _), frozen_of_row _ _ _ _ t (heap_alloc_new w _), Nat.zero_add]
  exact ⟨by rw [Array.getElem?_eq_getElem hj]; rfl, rfl⟩
theorem there_drewN {w : World} {b o n : Nat} (h : w.there b o n) (k : Nat) : (w.drewN k).there b o n := fun j hj => h j hj
theorem ext_drewN (w : World) (n : Nat) : w.Extends (w.drewN n) := ⟨rfl, rfl, rfl, Nat.le_refl _, fun _ _ => rfl, fun _ _ => rfl, fun _ _ => rfl⟩

abbrev nNb : ByteArray := ⟨#[110, 111, 116, 95, 98, 101, 102, 111, 114, 101]⟩
abbrev nEx : ByteArray := ⟨#[101, 120, 112, 105, 114, 101, 115]⟩
abbrev nDo : ByteArray := ⟨#[100, 111, 99, 117, 109, 101, 110, 116, 95, 105, 100, 115]⟩
abbrev nSc : ByteArray := ⟨#[115, 99, 104, 101, 109, 97, 95, 105, 100, 115]⟩
abbrev nFt : ByteArray := ⟨#[102, 114, 111, 109, 95, 116, 105, 109, 101, 115, 116, 97, 109, 112]⟩
abbrev nTt : ByteArray := ⟨#[116, 111, 95, 116, 105, 109, 101, 115, 116, 97, 109, 112]⟩
abbrev nFs : ByteArray := ⟨#[102, 114, 111, 109, 95, 115, 101, 113]⟩
abbrev nTs : ByteArray := ⟨#[116, 111, 95, 115, 101, 113]⟩
abbrev nAc : ByteArray := ⟨#[97, 99, 116, 105, 111, 110]⟩

structure LimOk (p c : Lim) : Prop where
  pd : ShortO p.docs
  ps : ShortO p.schemas
  cd : ShortO c.docs
  cs : ShortO c.schemas
  ad : AscO p.docs
  asch : AscO p.schemas

/-- the first reason that is not empty -/
def firstR : List ByteArray → ByteArray
  | [] => .empty
  | r :: rs => if r.size = 0 then firstR rs else r

noncomputable def attL (p c : Lim) : List ByteArray := [lowR nNb p.notBefore c.notBefore, uppR nEx p.expires c.expires, subR nDo p.docs c.docs, subR nSc p.schemas c.schemas,
  lowR nFt p.fromTs c.fromTs, uppR nTt p.toTs c.toTs, lowR nFs p.fromSeq c.fromSeq, uppR nTs p.toSeq c.toSeq]

abbrev RetS (w : World) (f : FuncId) (args : Array Value) (r : ByteArray) : Prop := ∀ n, Calls Tryf.prog f args (w.drewN n) fun e w' => e = .returned (.string r) ∧ ∃ q, w' = (w.drewN n).drewN q

def z8 : Array Value := #[.string ⟨#[]⟩, .string ⟨#[]⟩, .string ⟨#[]⟩, .string ⟨#[]⟩, .string ⟨#[]⟩, .string ⟨#[]⟩, .string ⟨#[]⟩, .string ⟨#[]⟩]
def zero8 : Obj := .cells z8 80

set_option maxHeartbeats 1000000 in
set_option maxRecDepth 100000 in
/-- the attenuation rules, the actions equal -/
theorem atten_eq (pb po cb co : Nat) (p c : Lim) (p98 p99 p100 p101 p102 p103 p104 p105 c98 c99 c100 c101 c102 c103 c104 c105 : Value) (w : World)
    (hp : LimAt w pb po p p98 p99 p100 p101 p102 p103 p104 p105) (hc : LimAt w cb co c c98 c99 c100 c101 c102 c103 c104 c105) (hok : LimOk p c) (heq : c.action = p.action) :
    Calls Tryf.prog 24 #[.pointer (some ⟨pb, po, none⟩), .pointer (some ⟨cb, co, none⟩)] w fun e w' => e = .returned (.string (firstR (attL p c))) ∧ w.Extends w' := by
  have hmix := mixedF
  have D1 : ∀ w0, LimAt w0 pb po p p98 p99 p100 p101 p102 p103 p104 p105 → LimAt w0 cb co c c98 c99 c100 c101 c102 c103 c104 c105 → RetS w0 29 #[.string nNb, p104, c104] (lowR nNb p.notBefore c.notBefore) := fun w0 h h' n =>
    lower_any nNb (by decide) _ _ _ _ _ (h.notBefore.ext (ext_drewN _ _)) (h'.notBefore.ext (ext_drewN _ _))
  have D2 : ∀ w0, LimAt w0 pb po p p98 p99 p100 p101 p102 p103 p104 p105 → LimAt w0 cb co c c98 c99 c100 c101 c102 c103 c104 c105 → RetS w0 30 #[.string nEx, p105, c105] (uppR nEx p.expires c.expires) := fun w0 h h' n =>
    upper_any nEx (by decide) _ _ _ _ _ (h.expires.ext (ext_drewN _ _)) (h'.expires.ext (ext_drewN _ _))
  have D3 : ∀ w0, LimAt w0 pb po p p98 p99 p100 p101 p102 p103 p104 p105 → LimAt w0 cb co c c98 c99 c100 c101 c102 c103 c104 c105 → RetS w0 31 #[.string nDo, p98, c98] (subR nDo p.docs c.docs) := fun w0 h h' n =>
    subset_any nDo (by decide) _ _ _ _ _ (h.docs.ext (ext_drewN _ _)) (h'.docs.ext (ext_drewN _ _)) hok.pd hok.cd hok.ad
  have D4 : ∀ w0, LimAt w0 pb po p p98 p99 p100 p101 p102 p103 p104 p105 → LimAt w0 cb co c c98 c99 c100 c101 c102 c103 c104 c105 → RetS w0 31 #[.string nSc, p99, c99] (subR nSc p.schemas c.schemas) := fun w0 h h' n =>
    subset_any nSc (by decide) _ _ _ _ _ (h.schemas.ext (ext_drewN _ _)) (h'.schemas.ext (ext_drewN _ _)) hok.ps hok.cs hok.asch
  have D5 : ∀ w0, LimAt w0 pb po p p98 p99 p100 p101 p102 p103 p104 p105 → LimAt w0 cb co c c98 c99 c100 c101 c102 c103 c104 c105 → RetS w0 29 #[.string nFt, p100, c100] (lowR nFt p.fromTs c.fromTs) := fun w0 h h' n =>
    lower_any nFt (by decide) _ _ _ _ _ (h.fromTs.ext (ext_drewN _ _)) (h'.fromTs.ext (ext_drewN _ _))
  have D6 : ∀ w0, LimAt w0 pb po p p98 p99 p100 p101 p102 p103 p104 p105 → LimAt w0 cb co c c98 c99 c100 c101 c102 c103 c104 c105 → RetS w0 30 #[.string nTt, p101, c101] (uppR nTt p.toTs c.toTs) := fun w0 h h' n =>
    upper_any nTt (by decide) _ _ _ _ _ (h.toTs.ext (ext_drewN _ _)) (h'.toTs.ext (ext_drewN _ _))
  have D7 : ∀ w0, LimAt w0 pb po p p98 p99 p100 p101 p102 p103 p104 p105 → LimAt w0 cb co c c98 c99 c100 c101 c102 c103 c104 c105 → RetS w0 29 #[.string nFs, p102, c102] (lowR nFs p.fromSeq c.fromSeq) := fun w0 h h' n =>
    lower_any nFs (by decide) _ _ _ _ _ (h.fromSeq.ext (ext_drewN _ _)) (h'.fromSeq.ext (ext_drewN _ _))
  have D8 : ∀ w0, LimAt w0 pb po p p98 p99 p100 p101 p102 p103 p104 p105 → LimAt w0 cb co c c98 c99 c100 c101 c102 c103 c104 c105 → RetS w0 30 #[.string nTs, p103, c103] (uppR nTs p.toSeq c.toSeq) := fun w0 h h' n =>
    upper_any nTs (by decide) _ _ _ _ _ (h.toSeq.ext (ext_drewN _ _)) (h'.toSeq.ext (ext_drewN _ _))
  obtain ⟨RR, hRR⟩ : ∃ RR, RR = firstR (attL p c) := ⟨_, rfl⟩
  rw [← hRR]
  generalize e1 : lowR nNb p.notBefore c.notBefore = R1 at D1
  generalize e2 : uppR nEx p.expires c.expires = R2 at D2
  generalize e3 : subR nDo p.docs c.docs = R3 at D3
  generalize e4 : subR nSc p.schemas c.schemas = R4 at D4
  generalize e5 : lowR nFt p.fromTs c.fromTs = R5 at D5
  generalize e6 : uppR nTt p.toTs c.toTs = R6 at D6
  generalize e7 : lowR nFs p.fromSeq c.fromSeq = R7 at D7
  generalize e8 : uppR nTs p.toSeq c.toSeq = R8 at D8
  have HF : Hid (RR = firstR ([R1, R2, R3, R4, R5, R6, R7, R8].drop 0)) := by
    rw [hRR]; unfold attL; rw [e1, e2, e3, e4, e5, e6, e7, e8]; rfl
  clear hRR
  clear e1 e2 e3 e4 e5 e6 e7 e8
  have P97 := hp.c97
  have C97 := hc.c97
  rw [heq] at C97
  go_enter Tryf.func24, Tryf.ntmps24
  go_wp2
  go_quiet (fail)
  rename Nat => n1
  go_wp2
  go_quiet (fail)
  go_wp2
  generalize hW : (w.drewN n1).drewN nq = W
  have hX : w.Extends W := hW ▸ (ext_drewN w n1).trans (ext_drewN _ nq)
  clear hW P97 C97
  refine region_lit (l := ?lxq) ?hxq ?_
  case hxq =>
    simp only [List.append_eq, List.cons_append, List.nil_append]
    exact rfl
  refine region_alloc' (l' := ?lyq) (pre := ?lzq) (ok := ?okq) 74 73 (W.alloc zero8) (.pointer (some ⟨W.heap.size, 0, none⟩)) ⟨some 7, .move (.const (.pointer (some ⟨W.heap.size, 0, none⟩))), 0, "", #[], none⟩
    (fun w0 => LimAt w0 pb po p p98 p99 p100 p101 p102 p103 p104 p105 ∧ LimAt w0 cb co c c98 c99 c100 c101 c102 c103 c104 c105) hmix ?hlq ?hpq ?_ ?_ ?_ ?_ ?_ ?_ ?_ ?_ ?_ ?_ ?_ ?_ ?_ ?_ ?_
  case hlq =>
    simp only [List.set_cons_succ, List.set_cons_zero]
    exact rfl
  case hpq =>
    simp only [List.take_succ_cons, List.take_zero]
    exact rfl
  case okq => exact ⟨some 7, .alloc 80, 0, "delegation.go:91", #[], none⟩
  · kernel_rfl
  · kernel_rfl
  · kernel_rfl
  · kernel_rfl
  · kernel_rfl
  · decide
  · decide
  · rfl
  · kernel_rfl
  · kernel_rfl
  · kernel_rfl
  · rfl
  · exact ⟨hp.ext hX, hc.ext hX⟩
  · exact ⟨hp.ext (hX.alloc _), hc.ext (hX.alloc _)⟩
  apply Exists.intro
  refine ⟨?w1, ?_, ?_, ?_⟩
  case w1 =>
    rintro w0 ⟨hp0, hc0⟩
    have d1 := D1 w0 hp0 hc0
    have d2 := D2 w0 hp0 hc0
    have d3 := D3 w0 hp0 hc0
    have d4 := D4 w0 hp0 hc0
    have d5 := D5 w0 hp0 hc0
    have d6 := D6 w0 hp0 hc0
    have d7 := D7 w0 hp0 hc0
    have d8 := D8 w0 hp0 hc0
    have p1 := hp0.c98
    have p2 := hp0.c99
    have p3 := hp0.c100
    have p4 := hp0.c101
    have p5 := hp0.c102
    have p6 := hp0.c103
    have p7 := hp0.c104
    have p8 := hp0.c105
    have c1 := hc0.c98
    have c2 := hc0.c99
    have c3 := hc0.c100
    have c4 := hc0.c101
    have c5 := hc0.c102
    have c6 := hc0.c103
    have c7 := hc0.c104
    have c8 := hc0.c105
    repeat (go_big_quiet_step (first | with_reducible exact qcall (d1 _) | with_reducible exact qcall (d2 _) | with_reducible exact qcall (d3 _) | with_reducible exact qcall (d4 _) | with_reducible exact qcall (d5 _) | with_reducible exact qcall (d6 _) | with_reducible exact qcall (d7 _) | with_reducible exact qcall (d8 _)))
    exact wpQuiet_nil rfl
  · intro d hd _
    cases hd
    rfl
  · intro n
    rfl
  intro n
  simp only [List.drop_succ_cons, List.drop_zero]
  have hth : ((W.alloc zero8).drewN n).there W.heap.size 0 8 := there_drewN (new_there W z8 80) n
  refine wpList_store_mid rfl 80 (.tmp 7) (.tmp 98) rfl W.heap.size 0 #[.string R1, .string R2, .string R3, .string R4, .string R5, .string R6, .string R7, .string R8] rfl rfl hth (by kernel_rfl) (by kernel_rfl) ?_
  have hrg : (((W.alloc zero8).drewN n).setCells W.heap.size 0 [.string R1, .string R2, .string R3, .string R4, .string R5, .string R6, .string R7, .string R8]).rangeAt W.heap.size 0 [.string R1, .string R2, .string R3, .string R4, .string R5, .string R6, .string R7, .string R8] :=
    World.rangeAt_setCells_same _ _ _ _ hth
  have hX2 : w.Extends (((W.alloc zero8).drewN n).setCells W.heap.size 0 [.string R1, .string R2, .string R3, .string R4, .string R5, .string R6, .string R7, .string R8]) :=
    ext_setCells ((hX.alloc _).trans (ext_drewN _ _)) _ _ _ hX.size
  generalize ((W.alloc zero8).drewN n).setCells W.heap.size 0 [.string R1, .string R2, .string R3, .string R4, .string R5, .string R6, .string R7, .string R8] = W2 at hrg hX2 ⊢
  have HX2 : Hid (w.Extends W2) := hX2
  have k0 : W2.cell? ⟨W.heap.size, 0, none⟩ = some (.string R1) := hrg 0 _ rfl
  have k1 : W2.cell? ⟨W.heap.size, 1, none⟩ = some (.string R2) := hrg 1 _ rfl
  have k2 : W2.cell? ⟨W.heap.size, 2, none⟩ = some (.string R3) := hrg 2 _ rfl
  have k3 : W2.cell? ⟨W.heap.size, 3, none⟩ = some (.string R4) := hrg 3 _ rfl
  have k4 : W2.cell? ⟨W.heap.size, 4, none⟩ = some (.string R5) := hrg 4 _ rfl
  have k5 : W2.cell? ⟨W.heap.size, 5, none⟩ = some (.string R6) := hrg 5 _ rfl
  have k6 : W2.cell? ⟨W.heap.size, 6, none⟩ = some (.string R7) := hrg 6 _ rfl
  have k7 : W2.cell? ⟨W.heap.size, 7, none⟩ = some (.string R8) := hrg 7 _ rfl
  clear hrg hX2 hth D1 D2 D3 D4 D5 D6 D7 D8 hp hc hok
  go_wp2
  go_loopw [100] (fun v wr => ∃ i : Nat, i ≤ 8 ∧ v = .int .i64 i ∧ Hid (RR = firstR ([R1, R2, R3, R4, R5, R6, R7, R8].drop i)) ∧ wr = W2) (fun v _ => 8 - (intOf v).toNat)
  case atStart => exact ⟨0, by omega, rfl, HF, rfl⟩
  case round =>
    obtain ⟨i, hi, rfl, hf, rfl⟩ := hrel
    clear HF k0 k1 k2 k3 k4 k5 k6 k7
    have hcs : i = 8 ∨ ∃ R, [R1, R2, R3, R4, R5, R6, R7, R8][i]? = some R ∧ i < 8 := by
      rcases Nat.lt_or_ge i 8 with h | h
      · exact .inr ⟨_, List.getElem?_eq_getElem h, h⟩
      · exact .inl (by omega)
    rcases hcs with rfl | ⟨R, hR, hlt⟩
    · have hr : RR = ⟨#[]⟩ := hf.out
      clear hf
      subst hr
      go_wp2
      go_ret
      exact ⟨rfl, HX2.out⟩
    · have hi8 : i = 0 ∨ i = 1 ∨ i = 2 ∨ i = 3 ∨ i = 4 ∨ i = 5 ∨ i = 6 ∨ i = 7 := by omega
      have hix : ∀ w' : World, (Instr.index 80 (.agg #[.string R1, .string R2, .string R3, .string R4, .string R5, .string R6, .string R7, .string R8]) (.int .i64 (i : Int))).run Tryf.prog w' = .ok (.string R) w' := by
        intro w'
        rcases hi8 with rfl | rfl | rfl | rfl | rfl | rfl | rfl | rfl <;> (obtain rfl := Option.some.inj hR; kernel_rfl)
      have hst : RR = if R.size = 0 then firstR ([R1, R2, R3, R4, R5, R6, R7, R8].drop (i + 1)) else R := by
        rw [hf.out, List.drop_eq_getElem_cons (by simpa using hlt)]
        have := (List.getElem?_eq_some_iff.1 hR).2
        rw [this]
        rfl
      clear hi8 hR hf
      by_cases hz : R.size = 0
      · rw [if_pos hz] at hst
        have HN : Hid (RR = firstR ([R1, R2, R3, R4, R5, R6, R7, R8].drop (i + 1))) := hst
        have hz' : R = ⟨#[]⟩ := by
          obtain ⟨⟨l⟩⟩ := R
          cases l with
          | nil => rfl
          | cons x l => simp [ByteArray.size] at hz
        clear hst hz
        subst hz'
        go_wp2
        go_roundw
        case rel => exact ⟨i + 1, by omega, by go_num, HN, True.intro⟩
        case measure => simp [intOf]; omega
      · rw [if_neg hz] at hst
        have hb : (R.toList == ([] : List UInt8)) = false := by
          rw [list_data, beq_eq_false_iff_ne]
          intro e
          apply hz
          have := congrArg List.length e
          simpa using this
        clear hz
        subst hst
        go_wp2
        go_ret
        exact ⟨rfl, HX2.out⟩

/-- the actions differ -/
theorem atten_ne (pb po cb co : Nat) (p c : ByteArray) (w : World) (P97 : w.cell? ⟨pb, po + 97, none⟩ = some (.string p)) (C97 : w.cell? ⟨cb, co + 97, none⟩ = some (.string c)) (hne : ¬ c = p) :
    Calls Tryf.prog 24 #[.pointer (some ⟨pb, po, none⟩), .pointer (some ⟨cb, co, none⟩)] w fun e w' => e = .returned (.string (wid ++ nAc)) ∧ w.Extends w' := by
  have hmix := mixedF
  have hwd := widened_any nAc (by decide)
  have hb := str_ne hne
  go_enter Tryf.func24, Tryf.ntmps24
  go_wp2
  go_quiet (fail)
  go_wp2_with (go_at_call 28; refine (hwd _).mono ?_; rintro e w' ⟨rfl, rfl⟩)
  go_ret
  exact ⟨rfl, ext_drewN _ _⟩
end Go.Proofs.Qxb6626501aFmt
