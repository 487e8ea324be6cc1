import Derived.Test.Qxb6626501aFmtF
import Derived.Test.Qxb6626501aFmtH
import Derived.Shelf.Hex.More
namespace Go.Proofs
open Go.Shelf
def Tryf.hex_ren : Go.Shelf.Ren := ⟨fun | 39 => 37 | 40 => 41 | 41 => 40 | n => n, fun | 30 => 34 | 46 => 93 | n => n, fun | n => n⟩
theorem Tryf.hex : Go.Proofs.Lays.ph39 Tryf.prog Tryf.hex_ren := {
  mixed := by kernel_rfl
  f39 := Tryf.func37.trans (congrArg some (by kernel_rfl))
  f40 := Tryf.func41.trans (congrArg some (by kernel_rfl))
  f41 := Tryf.func40.trans (congrArg some (by kernel_rfl))
  t0 := Tryf.underlying0
  a0 := Tryf.isAgg0
  z0 := Tryf.sizeOf0
  v0 := Tryf.zeroValue0
  t3 := Tryf.underlying3
  a3 := Tryf.isAgg3
  z3 := Tryf.sizeOf3
  v3 := Tryf.zeroValue3
  t5 := Tryf.underlying5
  a5 := Tryf.isAgg5
  z5 := Tryf.sizeOf5
  v5 := Tryf.zeroValue5
  t9 := Tryf.underlying9
  a9 := Tryf.isAgg9
  z9 := Tryf.sizeOf9
  v9 := Tryf.zeroValue9
  t30 := Tryf.underlying34
  a30 := Tryf.isAgg34
  z30 := Tryf.sizeOf34
  v30 := Tryf.zeroValue34
  t46 := Tryf.underlying93
  a46 := Tryf.isAgg93
  z46 := Tryf.sizeOf93
  v46 := Tryf.zeroValue93
  info5 := by kernel_rfl }
end Go.Proofs
namespace Go.Proofs.Qxb6626501aFmt
open Go.RowKit Go.Extern.Stop Go.Stop Go.Extern
set_option linter.unusedVariables false

/-- the cells of an array of bytes -/
def enc8 (l : List UInt8) : List Value := l.map fun b => .int .u8 (b.toNat : Int)
theorem enc8_len (l : List UInt8) : (enc8 l).length = l.length := by simp [enc8]

theorem hex_any (l : List UInt8) (b o c : Nat) (w : World) (h : w.rangeAt b o (enc8 l)) (hb : b < w.heap.size) (hl : l.length = 32) :
    Calls Tryf.prog 37 #[.slice (some ⟨b, o, none⟩) 32 c] w fun e w' => (∃ s, e = .returned (.string s)) ∧ Below w.heap.size w w' := by
  have := Any.hex_EncodeToString_bytes Tryf.hex b o c l w (fun i hi => h i _ (by simp [enc8, hi])) hb (by omega)
  rw [hl] at this
  exact this.mono fun e w' ⟨h1, h2⟩ => ⟨⟨_, h1⟩, h2⟩

theorem new_range (w : World) (l : List Value) (t : TypeId) : (w.alloc (.cells l.toArray t)).rangeAt w.heap.size 0 l := fun j v hv => by
  rw [cell_of_row _ _ _ _ t (0, 0) (heap_alloc_new w _), Nat.zero_add]
  simpa using hv

theorem ext_below {w w' : World} (h : Below w.heap.size w w') : w.Extends w' :=
  ⟨h.os, h.tape, h.output, h.size, fun _ ha => h.cell ha, fun _ ha => h.frozen ha, h.block⟩

theorem string33 (l : List UInt8) (hl : l.length = 32) (w : World) : Calls Tryf.prog 33 #[.agg (enc8 l).toArray] w fun e w' => (∃ s, e = .returned (.string s)) ∧ w.Extends w' := by
  have hx := hex_any l w.heap.size 0 32 (w.alloc (.cells (enc8 l).toArray 32)) (new_range w _ _) (by simp) hl
  have hsz : (enc8 l).length = 32 := by rw [enc8_len, hl]
  go_enter Tryf.func33, Tryf.ntmps33
  go_wp2_with (go_at_call 37; refine hx.mono ?_; rintro e w' ⟨⟨s, rfl⟩, hB⟩)
  go_ret
  exact ⟨⟨s, rfl⟩, ((World.Extends.refl w).alloc _).trans (ext_below hB)⟩

theorem string34 (l : List UInt8) (hl : l.length = 32) (w : World) : Calls Tryf.prog 34 #[.agg (enc8 l).toArray] w fun e w' => (∃ s, e = .returned (.string s)) ∧ w.Extends w' := by
  have hx := hex_any l w.heap.size 0 32 (w.alloc (.cells (enc8 l).toArray 39)) (new_range w _ _) (by simp) hl
  have hsz : (enc8 l).length = 32 := by rw [enc8_len, hl]
  go_enter Tryf.func34, Tryf.ntmps34
  go_wp2_with (go_at_call 37; refine hx.mono ?_; rintro e w' ⟨⟨s, rfl⟩, hB⟩)
  go_ret
  exact ⟨⟨s, rfl⟩, ((World.Extends.refl w).alloc _).trans (ext_below hB)⟩
end Go.Proofs.Qxb6626501aFmt
