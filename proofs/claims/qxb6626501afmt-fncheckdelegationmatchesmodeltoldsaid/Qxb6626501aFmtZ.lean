import Derived.Test.Qxb6626501aFmtP
import Derived.Test.Qxb6626501aFmtRows
import Derived.ProofKit
import Derived.OpenShut
import Derived.SliceStrings
namespace Go.Proofs.Qxb6626501aFmt
open Go.ChangeShapes Go.WideShapes Go.ChangeAt Go.RowKit
set_option linter.unusedVariables false

theorem Tryf.cells5 : Tryf.prog.cellsOf 5 = 1 := by kernel_rfl
theorem Tryf.cells4 : Tryf.prog.cellsOf 4 = 1 := by kernel_rfl
theorem Tryf.cells9 : Tryf.prog.cellsOf 9 = 1 := by kernel_rfl
theorem Tryf.cells22 : Tryf.prog.cellsOf 22 = 32 := by kernel_rfl
theorem Tryf.cells23 : Tryf.prog.cellsOf 23 = 1 := by kernel_rfl
theorem Tryf.cells24 : Tryf.prog.cellsOf 24 = 1 := by kernel_rfl
theorem Tryf.cells25 : Tryf.prog.cellsOf 25 = 1 := by kernel_rfl
theorem Tryf.cells26 : Tryf.prog.cellsOf 26 = 1 := by kernel_rfl
theorem Tryf.cells28 : Tryf.prog.cellsOf 28 = 108 := by kernel_rfl

section
variable {H : Type} {en : TypeId × Value → H} {w : World} {base : Nat} {spare : Nat → Bool} {held : Bool} {fuel : Nat} {cs : List Value} {x : DataW H × List MemPlace}

theorem open8 (h : DataW.trod en Tryf.prog w base spare held fuel 22 cs = some x) : ∃ l : List UInt8, l.length = 32 ∧ cs = enc8 l := by
  obtain ⟨xs, m, rfl, rfl, hl, hxl, hx⟩ := DataW.trod_array Tryf.underlying22 h
  rw [Tryf.cells22] at hl
  rw [Tryf.cells5] at hx
  have hb : ∀ i, ∃ z : UInt8, (i < 32 → cs[i]? = some (.int .u8 (z.toNat : Int))) := fun i => by
    by_cases hi : i < 32
    · have h1 := hx i hi
      rw [List.getElem?_eq_getElem (by omega)] at h1
      obtain ⟨n, hn, _, hw⟩ := DataW.trod_int Tryf.underlying5 h1
      have hbd : 0 ≤ n ∧ n < 256 := by
        simp [Lit.wf, IntKind.min, IntKind.max, IntKind.signed, IntKind.bits] at hw
        omega
      refine ⟨UInt8.ofNat n.toNat, fun _ => ?_⟩
      have : (List.take 1 (List.drop (i * 1) cs))[0]? = some (.int .u8 n) := by rw [hn]; rfl
      rw [List.getElem?_take, if_pos (by omega), List.getElem?_drop, Nat.mul_one, Nat.add_zero] at this
      rw [this]
      have e : ((UInt8.ofNat n.toNat).toNat : Int) = n := by
        rw [UInt8.toNat_ofNat']
        omega
      rw [e]
    · exact ⟨0, fun h => absurd h hi⟩
  obtain ⟨f, hf⟩ := Classical.skolem.1 hb
  refine ⟨List.ofFn (n := 32) fun i => f i.val, by simp, List.ext_getElem? fun i => ?_⟩
  by_cases h32 : i < 32
  · rw [hf i h32]
    unfold enc8
    rw [List.getElem?_map, List.getElem?_eq_getElem (by simpa using h32), List.getElem_ofFn]
    rfl
  · rw [List.getElem?_eq_none (by omega), List.getElem?_eq_none (by rw [enc8_len]; simp; omega)]

theorem openPtr (h : DataW.trod en Tryf.prog w base spare held fuel 24 cs = some x) : ∃ (p : Option Addr) (y : Option Nat), cs = [.pointer p] ∧ PtrAt w (.pointer p) y := by
  rcases DataW.trod_pointer Tryf.underlying24 h with ⟨h1, _⟩ | ⟨a, cs', y, n, _, h1, _, h3, h4⟩
  · exact ⟨none, none, h1, rfl⟩
  · obtain ⟨k, hk, _, hw⟩ := DataW.trod_int Tryf.underlying25 h4
    have hbd : 0 ≤ k := by
      simp [Lit.wf, IntKind.min, IntKind.max, IntKind.signed, IntKind.bits] at hw
      omega
    rw [Tryf.cells25] at h3
    obtain ⟨_, _, h5⟩ := World.cells?_some h3
    have h6 := h5 0 (by omega)
    subst hk
    refine ⟨some a, some k.toNat, h1, a, rfl, ?_⟩
    have e : a.add 0 = a := rfl
    rw [e] at h6
    rw [h6]
    show some (Value.int .u64 k) = _
    rw [Int.toNat_of_nonneg hbd]

theorem openProof (h : DataW.trod en Tryf.prog w base spare held fuel 26 cs = some x) : ∃ (p : Option Addr) (y : Option (List UInt8)), cs = [.pointer p] ∧ PtrB w (.pointer p) y := by
  rcases DataW.trod_pointer Tryf.underlying26 h with ⟨h1, _⟩ | ⟨a, cs', y, n, _, h1, _, h3, h4⟩
  · exact ⟨none, none, h1, rfl⟩
  · rw [Tryf.cells22] at h3
    obtain ⟨l, hl, rfl⟩ := open8 h4
    obtain ⟨_, _, h5⟩ := World.cells?_some h3
    obtain ⟨b, o, spot⟩ := a
    have hg : ∀ j (hj : j < 32), (enc8 l)[j]? = some (.int .u8 ((l[j]'(by omega)).toNat : Int)) := fun j hj => by
      have hj' : j < l.length := by omega
      simp [enc8, hj']
    have hspot : spot = none := by
      have := h5 0 (by omega)
      rw [hg 0 (by omega)] at this
      simpa [Addr.add] using World.cell?_spot this
    subst hspot
    refine ⟨some ⟨b, o, none⟩, some l, h1, b, o, rfl, fun j v hv => ?_, hl⟩
    have hj : j < 32 := by have := (List.getElem?_eq_some_iff.1 hv).1; rw [enc8_len, hl] at this; exact this
    have := h5 j hj
    rw [Addr.add_mid, hv] at this
    exact this

theorem openStrs (h : DataW.trod en Tryf.prog w base spare held fuel 23 cs = some x) : ∃ (a : Option Addr) (n k : Nat) (y : Option (List ByteArray)), cs = [.slice a n k] ∧ StrsAt w (.slice a n k) y ∧ Sl w a n (y.getD []) := by
  rcases open_strings Tryf.underlying23 Tryf.underlying9 Tryf.cells9 h with ⟨h1, _⟩ | ⟨a, len, cap, ss, h1, _, hl, hm, hss, _, hc, hz⟩
  · exact ⟨none, 0, 0, none, h1, rfl, rfl, by omega, fun i hi => by simp at hi, fun i hi => by simp at hi⟩
  · have hlen : len ≤ ss.length := by rw [hss]; split <;> omega
    have ht : (ss.take len).length = len := by simp; omega
    have hcell : ∀ i (hi : i < (ss.take len).length), w.cell? (a.add i) = some (.string (ss.take len)[i]) := fun i hi => by
      have hi2 : i < ss.length := by simp at hi; omega
      rw [hc i hi2, List.getElem_take]
      simp [hi2]
    have hmx : maxLen = 9223372036854775807 := by decide
    refine ⟨some a, len, cap, some (ss.take len), h1, ⟨a, cap, by rw [ht], hcell⟩, ⟨ht.symm, by omega, fun i hi => ⟨a, rfl, hcell i hi⟩, fun i hi => ?_⟩⟩
    have hi2 : i < ss.length := by simp at hi; omega
    have : (ss.take len)[i] ∈ ss := by rw [List.getElem_take]; exact List.getElem_mem hi2
    have := hz _ this
    rw [hmx] at this
    exact this

theorem openCap (h : DataW.trod en Tryf.prog w base spare held fuel 28 cs = some x) : ∃ (d : CapD) (v : Vals), cs = cellsC d v ∧ Fits w d v := by
  obtain ⟨xs, n, _, _, hl, hxl, hf⟩ := DataW.trod_struct Tryf.underlying28 h
  rw [Tryf.cells28] at hl
  have hx15 : xs.length = 15 := hxl
  have g : ∀ i, i < 15 → ∃ y, xs[i]? = some y := fun i hi => ⟨_, List.getElem?_eq_getElem (by omega)⟩
  have sp : ∀ k m, cs.drop k = (cs.drop k).take m ++ cs.drop (k + m) := fun k m => by
    rw [← List.drop_drop]; exact (List.take_append_drop m _).symm
  obtain ⟨y0, e0⟩ := g 0 (by omega)
  obtain ⟨y1, e1⟩ := g 1 (by omega)
  obtain ⟨y2, e2⟩ := g 2 (by omega)
  obtain ⟨y3, e3⟩ := g 3 (by omega)
  obtain ⟨y4, e4⟩ := g 4 (by omega)
  obtain ⟨y5, e5⟩ := g 5 (by omega)
  obtain ⟨y6, e6⟩ := g 6 (by omega)
  obtain ⟨y7, e7⟩ := g 7 (by omega)
  obtain ⟨y8, e8⟩ := g 8 (by omega)
  obtain ⟨y9, e9⟩ := g 9 (by omega)
  obtain ⟨y10, e10⟩ := g 10 (by omega)
  obtain ⟨y11, e11⟩ := g 11 (by omega)
  obtain ⟨y12, e12⟩ := g 12 (by omega)
  obtain ⟨y13, e13⟩ := g 13 (by omega)
  obtain ⟨y14, e14⟩ := g 14 (by omega)
  have h0 : DataW.trod en Tryf.prog w base spare held n 22 ((cs.drop 0).take (Tryf.prog.cellsOf 22)) = xs[0]? := hf 0 _ rfl
  have h1 : DataW.trod en Tryf.prog w base spare held n 22 ((cs.drop 32).take (Tryf.prog.cellsOf 22)) = xs[1]? := hf 1 _ rfl
  have h2 : DataW.trod en Tryf.prog w base spare held n 22 ((cs.drop 64).take (Tryf.prog.cellsOf 22)) = xs[2]? := hf 2 _ rfl
  have h3 : DataW.trod en Tryf.prog w base spare held n 4 ((cs.drop 96).take (Tryf.prog.cellsOf 4)) = xs[3]? := hf 3 _ rfl
  have h4 : DataW.trod en Tryf.prog w base spare held n 9 ((cs.drop 97).take (Tryf.prog.cellsOf 9)) = xs[4]? := hf 4 _ rfl
  have h5 : DataW.trod en Tryf.prog w base spare held n 23 ((cs.drop 98).take (Tryf.prog.cellsOf 23)) = xs[5]? := hf 5 _ rfl
  have h6 : DataW.trod en Tryf.prog w base spare held n 23 ((cs.drop 99).take (Tryf.prog.cellsOf 23)) = xs[6]? := hf 6 _ rfl
  have h7 : DataW.trod en Tryf.prog w base spare held n 24 ((cs.drop 100).take (Tryf.prog.cellsOf 24)) = xs[7]? := hf 7 _ rfl
  have h8 : DataW.trod en Tryf.prog w base spare held n 24 ((cs.drop 101).take (Tryf.prog.cellsOf 24)) = xs[8]? := hf 8 _ rfl
  have h9 : DataW.trod en Tryf.prog w base spare held n 24 ((cs.drop 102).take (Tryf.prog.cellsOf 24)) = xs[9]? := hf 9 _ rfl
  have h10 : DataW.trod en Tryf.prog w base spare held n 24 ((cs.drop 103).take (Tryf.prog.cellsOf 24)) = xs[10]? := hf 10 _ rfl
  have h11 : DataW.trod en Tryf.prog w base spare held n 24 ((cs.drop 104).take (Tryf.prog.cellsOf 24)) = xs[11]? := hf 11 _ rfl
  have h12 : DataW.trod en Tryf.prog w base spare held n 24 ((cs.drop 105).take (Tryf.prog.cellsOf 24)) = xs[12]? := hf 12 _ rfl
  have h13 : DataW.trod en Tryf.prog w base spare held n 25 ((cs.drop 106).take (Tryf.prog.cellsOf 25)) = xs[13]? := hf 13 _ rfl
  have h14 : DataW.trod en Tryf.prog w base spare held n 26 ((cs.drop 107).take (Tryf.prog.cellsOf 26)) = xs[14]? := hf 14 _ rfl
  rw [e0] at h0; rw [e1] at h1; rw [e2] at h2; rw [e3] at h3; rw [e4] at h4; rw [e5] at h5; rw [e6] at h6; rw [e7] at h7; rw [e8] at h8
  rw [e9] at h9; rw [e10] at h10; rw [e11] at h11; rw [e12] at h12; rw [e13] at h13; rw [e14] at h14
  obtain ⟨iss, li, q0⟩ := open8 h0
  obtain ⟨sub, ls, q1⟩ := open8 h1
  obtain ⟨key, lk, q2⟩ := open8 h2
  obtain ⟨any, q3, _⟩ := DataW.trod_bool Tryf.underlying4 h3
  obtain ⟨act, q4, _, ha⟩ := DataW.trod_string Tryf.underlying9 h4
  obtain ⟨a98, n98, k98, docs, q5, m5, s5⟩ := openStrs h5
  obtain ⟨a99, n99, k99, schemas, q6, m6, s6⟩ := openStrs h6
  obtain ⟨p100, o100, q7, m7⟩ := openPtr h7
  obtain ⟨p101, o101, q8, m8⟩ := openPtr h8
  obtain ⟨p102, o102, q9, m9⟩ := openPtr h9
  obtain ⟨p103, o103, q10, m10⟩ := openPtr h10
  obtain ⟨p104, o104, q11, m11⟩ := openPtr h11
  obtain ⟨p105, o105, q12, m12⟩ := openPtr h12
  obtain ⟨isd, q13, _, _⟩ := DataW.trod_int Tryf.underlying25 h13
  obtain ⟨p107, o107, q14, m14⟩ := openProof h14
  have hmx : maxLen = 9223372036854775807 := by decide
  refine ⟨⟨iss, sub, key, any, ⟨act, docs, schemas, o100, o101, o102, o103, o104, o105⟩, o107⟩, ⟨a98, n98, k98, a99, n99, k99, p100, p101, p102, p103, p104, p105, isd, p107⟩, ?_, ⟨⟨m5, m6, m7, m8, m9, m10, m11, m12, m14, li, ls, lk⟩, by rw [hmx] at ha; exact ha, s5, s6⟩⟩
  have hz : cs.drop 108 = [] := List.drop_of_length_le (by omega)
  simp only [Tryf.cells22, Tryf.cells4, Tryf.cells9, Tryf.cells23, Tryf.cells24, Tryf.cells25, Tryf.cells26] at q0 q1 q2 q3 q4 q5 q6 q7 q8 q9 q10 q11 q12 q13 q14
  have t : cs = cs.drop 0 := rfl
  have spn : ∀ k m r, k + m = r → cs.drop k = (cs.drop k).take m ++ cs.drop r := fun k m r e => e ▸ sp k m
  rw [t, spn 0 32 32 rfl, q0, spn 32 32 64 rfl, q1, spn 64 32 96 rfl, q2, spn 96 1 97 rfl, q3, spn 97 1 98 rfl, q4, spn 98 1 99 rfl, q5, spn 99 1 100 rfl, q6, spn 100 1 101 rfl, q7, spn 101 1 102 rfl, q8, spn 102 1 103 rfl, q9, spn 103 1 104 rfl, q10, spn 104 1 105 rfl, q11, spn 105 1 106 rfl, q12, spn 106 1 107 rfl, q13, spn 107 1 108 rfl, q14, hz]
  rfl
end
end Go.Proofs.Qxb6626501aFmt
