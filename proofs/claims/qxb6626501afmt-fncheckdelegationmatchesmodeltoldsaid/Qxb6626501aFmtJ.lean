import Derived.Test.Qxb6626501aFmtI
namespace Go.Proofs.Qxb6626501aFmt
open Go.RowKit Go.Extern.Stop Go.Stop Go.Extern
set_option linter.unusedVariables false

theorem errNew (s : ByteArray) (w : World) : Calls Tryf.prog 27 #[.string s] w fun e w' => e = .returned (.iface 83 (.pointer (some ⟨w.heap.size, 0, none⟩))) ∧ w.Extends w' := by
  go_enter Tryf.func27, Tryf.ntmps27
  go_wp2
  go_ret
  exact ⟨rfl, (World.Extends.refl w).alloc _⟩

set_option maxHeartbeats 1600000 in
theorem errorf1 (F : Interp) (l : List UInt8) (hl : l.length = 32) (b : Nat) (w : World) (hF : F.answers w.tape) (hc : w.cell? ⟨b, 0, none⟩ = some (.iface 32 (.agg (enc8 l).toArray))) :
    Calls Tryf.prog 26 #[.string fm1, .slice (some ⟨b, 0, none⟩) 1 1] w fun e w' => (∃ a, e = .returned (.iface 83 (.pointer (some a)))) ∧ w.Extends w' := by
  have hF' := answers_open hF
  have f1 := call32
  have f2 := guardF
  have f3 := fmt1
  have f4 := fmt1r
  have f5 := act32
  have f6 := act32w
  have f7 := isError32
  have f8 := isString32
  have f9 := ptrE
  have f10 := elemE
  have f11 := isErrorE
  have f12 := str32
  go_enter Tryf.func26, Tryf.ntmps26
  go_wp2
  all_goals
    apply rows_call nextTurns
    case hr =>
      go_simp
      exact ⟨⟨rfl, rfl, rfl⟩, rfl⟩
    case hi => exact invoke32 _ _
    case hc =>
      refine (string33 l hl _).mono fun e w₃ ⟨⟨s, he⟩, hx⟩ => ?_
      subst he
      have hF3 : F.answers w₃.tape := by rw [hx.tape]; exact hF
      have hF3' := answers_open hF3
      have hc3 := hx.cell_of hc
      apply rows_value nextReturned
      case hr =>
        go_simp
        exact ⟨rfl, rfl⟩
      case h =>
        go_wp2
        go_ret
        exact ⟨⟨_, rfl⟩, (hx.alloc _).drew⟩

set_option maxHeartbeats 1600000 in
theorem errorf2 (F : Interp) (l m : List UInt8) (hl : l.length = 32) (hm : m.length = 32) (b : Nat) (w : World) (hF : F.answers w.tape) (hc : w.cell? ⟨b, 0, none⟩ = some (.iface 39 (.agg (enc8 l).toArray))) (hd : w.cell? ⟨b, 1, none⟩ = some (.iface 39 (.agg (enc8 m).toArray))) :
    Calls Tryf.prog 26 #[.string fm2, .slice (some ⟨b, 0, none⟩) 2 2] w fun e w' => (∃ a, e = .returned (.iface 83 (.pointer (some a)))) ∧ w.Extends w' := by
  have hF' := answers_open hF
  have f1 := call32
  have f2 := guardF
  have f3 := fmt2
  have f4 := fmt2r
  have f5 := act39
  have f6 := act39w
  have f7 := isError39
  have f8 := isString39
  have f9 := ptrE
  have f10 := elemE
  have f11 := isErrorE
  have f12 := str39
  go_enter Tryf.func26, Tryf.ntmps26
  go_wp2
  all_goals
    apply rows_call nextTurns
    case hr =>
      go_simp
      exact ⟨⟨rfl, rfl, rfl⟩, rfl⟩
    case hi => exact invoke39 _ _
    case hc =>
      refine (string34 l hl _).mono fun e w₃ ⟨⟨s, he⟩, hx⟩ => ?_
      subst he
      have hF3 : F.answers w₃.tape := by rw [hx.tape]; exact hF
      have hF3' := answers_open hF3
      have hc3 := hx.cell_of hc
      have hd3 := hx.cell_of hd
      apply rows_call nextReturned
      case hr =>
        go_simp
        exact ⟨⟨rfl, rfl, rfl⟩, rfl⟩
      case hi => exact invoke39 _ _
      case hc =>
        refine (string34 m hm _).mono fun e w₄ ⟨⟨s2, he⟩, hx2⟩ => ?_
        subst he
        have hF4 : F.answers w₄.tape := by rw [hx2.tape]; exact hF3
        have hF4' := answers_open hF4
        have hc4 := hx2.cell_of hc3
        have hd4 := hx2.cell_of hd3
        apply rows_value nextReturned
        case hr =>
          go_simp
          exact ⟨rfl, rfl⟩
        case h =>
          go_wp2
          go_ret
          exact ⟨⟨_, rfl⟩, ((hx.trans hx2).alloc _).drew⟩

set_option maxHeartbeats 1600000 in
theorem errorf3 (F : Interp) (l m : List UInt8) (hl : l.length = 32) (hm : m.length = 32) (b : Nat) (w : World) (hF : F.answers w.tape) (hc : w.cell? ⟨b, 0, none⟩ = some (.iface 39 (.agg (enc8 l).toArray))) (hd : w.cell? ⟨b, 1, none⟩ = some (.iface 39 (.agg (enc8 m).toArray))) :
    Calls Tryf.prog 26 #[.string fm3, .slice (some ⟨b, 0, none⟩) 2 2] w fun e w' => (∃ a, e = .returned (.iface 83 (.pointer (some a)))) ∧ w.Extends w' := by
  have hF' := answers_open hF
  have f1 := call32
  have f2 := guardF
  have f3 := fmt3
  have f4 := fmt3r
  have f5 := act39
  have f6 := act39w
  have f7 := isError39
  have f8 := isString39
  have f9 := ptrE
  have f10 := elemE
  have f11 := isErrorE
  have f12 := str39
  go_enter Tryf.func26, Tryf.ntmps26
  go_wp2
  all_goals
    apply rows_call nextTurns
    case hr =>
      go_simp
      exact ⟨⟨rfl, rfl, rfl⟩, rfl⟩
    case hi => exact invoke39 _ _
    case hc =>
      refine (string34 l hl _).mono fun e w₃ ⟨⟨s, he⟩, hx⟩ => ?_
      subst he
      have hF3 : F.answers w₃.tape := by rw [hx.tape]; exact hF
      have hF3' := answers_open hF3
      have hc3 := hx.cell_of hc
      have hd3 := hx.cell_of hd
      apply rows_call nextReturned
      case hr =>
        go_simp
        exact ⟨⟨rfl, rfl, rfl⟩, rfl⟩
      case hi => exact invoke39 _ _
      case hc =>
        refine (string34 m hm _).mono fun e w₄ ⟨⟨s2, he⟩, hx2⟩ => ?_
        subst he
        have hF4 : F.answers w₄.tape := by rw [hx2.tape]; exact hF3
        have hF4' := answers_open hF4
        have hc4 := hx2.cell_of hc3
        have hd4 := hx2.cell_of hd3
        apply rows_value nextReturned
        case hr =>
          go_simp
          exact ⟨rfl, rfl⟩
        case h =>
          go_wp2
          go_ret
          exact ⟨⟨_, rfl⟩, ((hx.trans hx2).alloc _).drew⟩
end Go.Proofs.Qxb6626501aFmt
