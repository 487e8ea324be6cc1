import Derived.Test.Qxb6626501aFmtU
import Derived.Laws.MakeOwn
namespace Go.Proofs.Qxb6626501aFmt
open Go.RowKit Go.Extern.Stop Go.Stop Go.Extern
set_option linter.unusedVariables false

/-- the new slice's cells behind i rounds -/
def outL (ss : List ByteArray) (i : Nat) : List Value := List.replicate (ss.length - i) (Value.string ⟨#[]⟩) ++ (ss.take i).reverse.map Value.string
theorem outL_len (ss : List ByteArray) (i : Nat) (h : i ≤ ss.length) : (outL ss i).length = ss.length := by simp [outL]; omega
theorem outL_up (ss : List ByteArray) (i k : Nat) (hi : i < ss.length) (hk : k + 1 + i = ss.length) :
    (outL ss i).take k ++ ([Value.string ss[i]] ++ (outL ss i).drop (k + 1)) = outL ss (i + 1) := by
  have e1 : ss.length - i = k + 1 := by omega
  have e2 : ss.length - (i + 1) = k := by omega
  unfold outL
  rw [e1, e2]
  rw [List.take_append_of_le_length (by simp), List.take_replicate, Nat.min_eq_left (by omega), List.drop_append_of_le_length (by simp), List.drop_replicate, Nat.sub_self,
    List.take_succ_eq_append_getElem hi, List.reverse_append]
  simp
theorem outL_end (ss : List ByteArray) : outL ss ss.length = ss.reverse.map Value.string := by simp [outL]

theorem info9 : (Tryf.prog.info? 9).map (fun i => (i.zero, i.size, i.bytes)) = some (some (.string ⟨#[]⟩), 1, 16) := by kernel_rfl
theorem i9r : (Tryf.prog.info? 9).map (·.size) = some 1 := by kernel_rfl
theorem make23 (n : Nat) (hn : n ≤ 1048576) (w : World) :
    (Instr.makeSlice 23 (.int .i64 (n : Int)) (.int .i64 (n : Int))).run Tryf.prog w = .ok (.slice (some ⟨w.heap.size, 0, none⟩) n n) (w.alloc (.cells (madeCells #[.string ⟨#[]⟩] n) 9)) := by
  cases hq : Tryf.prog.info? 9 with
  | none => have := info9; rw [hq] at this; cases this
  | some i =>
    have h9 := info9
    rw [hq] at h9
    simp only [Option.map_some, Option.some.injEq, Prod.mk.injEq] at h9
    obtain ⟨hz, hs, hb⟩ := h9
    have hr := run_make (P := Tryf.prog) w 23 9 i (.string ⟨#[]⟩) Tryf.underlying23 hq hz .i64 .i64 (n : Int) (n : Int) (by omega) (by omega) (by rw [hb]; omega) (by omega)
    simp only [Int.toNat_natCast, hs, Nat.mul_one] at hr
    exact hr
theorem made_blk (w : World) (ss : List ByteArray) (t : TypeId) : Blk (w.alloc (.cells (madeCells #[.string ⟨#[]⟩] ss.length) t)) w.heap.size (outL ss 0) := by
  have hl : (outL ss 0).length = ss.length := outL_len ss 0 (by omega)
  refine ⟨fun j v hv => ?_, ?_⟩
  · have hj : j < ss.length := by have := (List.getElem?_eq_some_iff.1 hv).1; omega
    rw [cell_of_row _ _ _ _ t (0, 0) (heap_alloc_new w _), Nat.zero_add]
    unfold madeCells
    rw [Array.getElem?_map, Array.getElem?_range, if_pos hj]
    simp only [Option.map_some]
    rw [← hv]
    unfold outL
    rw [List.getElem?_append_left (by simpa using hj), List.getElem?_replicate, if_pos (by simpa using hj)]
    congr 1
    have e : j % (#[Value.string ⟨#[]⟩] : Array Value).size = 0 := Nat.mod_one j
    rw [e]
    rfl
  · rw [hl]
    exact there_of_new w _ t ss.length (size_madeCells _ _)

theorem rev_none (w : World) : Calls Tryf.prog 11 #[.slice none 0 0] w fun e w' => e = .returned (.slice none 0 0) ∧ w.Extends w' := by
  have hnil := nil_eq
  go_enter Tryf.func11, Tryf.ntmps11
  go_wp2
  go_ret
  exact ⟨rfl, World.Extends.refl _⟩

set_option maxHeartbeats 1000000 in
set_option maxRecDepth 20000 in
theorem rev_some (a0 : Addr) (k n : Nat) (ss : List ByteArray) (hn : ss.length = n) (hn2 : n ≤ 1048576) (w : World) (hS : ∀ i (hi : i < ss.length), w.cell? (a0.add i) = some (.string ss[i])) :
    Calls Tryf.prog 11 #[.slice (some a0) n k] w fun e w' => e = .returned (.slice (some ⟨w.heap.size, 0, none⟩) n n) ∧ Blk w' w.heap.size (ss.reverse.map Value.string) ∧ w.Extends w' := by
  have hnil := nil_eq
  have hnnil := nil_ne
  have hmk := make23 n hn2
  subst hn
  have HB0 : Hid (Blk (w.alloc (.cells (madeCells #[.string ⟨#[]⟩] ss.length) 9)) w.heap.size (outL ss 0)) := made_blk w ss 9
  have HX0 : Hid (w.Extends (w.alloc (.cells (madeCells #[.string ⟨#[]⟩] ss.length) 9))) := (World.Extends.refl w).alloc _
  have HE : Hid (∀ i, i ≤ ss.length → (outL ss i).length = ss.length) := fun i hi => outL_len ss i hi
  obtain ⟨n, hn⟩ : ∃ n, n = ss.length := ⟨_, rfl⟩
  have HN : Hid (n = ss.length) := hn
  rw [← hn] at hn2 hmk HB0 HX0 ⊢
  clear hn
  go_enter Tryf.func11, Tryf.ntmps11
  go_wp2
  generalize w.alloc (.cells (madeCells #[.string ⟨#[]⟩] n) 9) = W1 at *
  go_loopw [4] (fun v wr => ∃ i : Nat, i ≤ n ∧ v = .int .i64 i ∧ Hid (w.Extends wr) ∧ Hid (Blk wr w.heap.size (outL ss i))) (fun v _ => n - (intOf v).toNat)
  case atStart => exact ⟨0, by omega, rfl, HX0, HB0⟩
  case round =>
    obtain ⟨i, hi, rfl, hx, hb⟩ := hrel
    clear HX0 HB0
    by_cases hin : i < n
    · have hil : i < ss.length := by have := HN.out; omega
      have hc := hx.out.cell_of (hS i hil)
      obtain ⟨j, hj⟩ : ∃ j : Nat, (n : Int) - 1 - (i : Int) = (j : Int) := ⟨n - 1 - i, by omega⟩
      have hjn : j < n := by omega
      have hw1 : IntKind.i64.wrap ((n : Int) - 1) = (n : Int) - 1 := by rw [IntKind.wrap_i64]; omega
      have hw2 : IntKind.i64.wrap (j : Int) = (j : Int) := by rw [IntKind.wrap_i64]; omega
      have hk : j < (outL ss i).length := by have := HE.out i (by omega); have := HN.out; omega
      have HU : Hid ((outL ss i).take j ++ ([Value.string ss[i]] ++ (outL ss i).drop (j + 1)) = outL ss (i + 1)) := outL_up ss i j hil (by have := HN.out; omega)
      have hB := hb.out
      have hX := hx.out
      clear hS hx hb
      generalize ss[i] = y at *
      go_wp2_with (first | ((with_reducible refine cell_law 9 (.tmp 26) (.tmp 25) w.heap.size j (outL ss i) (.string y) w hB hX (Nat.le_refl _) hk i9r rfl ?_ ?_ ?_ ?_ ?_); rfl; rfl; rfl; rfl; (intro W2 X2 S2 K2 O2; clear S2 O2)))
      have K2' : Blk W2 w.heap.size (outL ss (i + 1)) := HU.out ▸ K2
      exact ⟨⟨i + 1, by omega, by go_num, X2, K2'⟩, by simp [intOf]; omega⟩
    · obtain rfl : i = n := by omega
      have hr : Blk wr w.heap.size (ss.reverse.map Value.string) := by
        have := hb.out
        rw [HN.out, outL_end] at this
        exact this
      have HR : Hid (Blk wr w.heap.size (ss.reverse.map Value.string)) := hr
      clear hr hb hS
      go_wp2
      go_ret
      exact ⟨rfl, HR.out, hx.out⟩

/-- the reversed copy -/
def RevAt (w : World) (b : Nat) (a : Option Addr) (n k : Nat) (x : Option (List ByteArray)) : Prop := match x with
  | none => a = none ∧ n = 0 ∧ k = 0
  | some ss => a = some ⟨b, 0, none⟩ ∧ n = ss.length ∧ k = ss.length ∧ Blk w b (ss.reverse.map Value.string)
theorem RevAt.ext {w w' : World} {b : Nat} {a : Option Addr} {n k : Nat} {x : Option (List ByteArray)} (h : RevAt w b a n k x) (hx : w.Extends w') : RevAt w' b a n k x := by
  cases x with
  | none => exact h
  | some ss => exact ⟨h.1, h.2.1, h.2.2.1, h.2.2.2.ext hx⟩
theorem RevAt.keep {w w' : World} {b c : Nat} {a : Option Addr} {n k : Nat} {x : Option (List ByteArray)} (h : RevAt w b a n k x) (hne : b ≠ c) (ho : ∀ b' cs', b' ≠ c → Blk w b' cs' → Blk w' b' cs') : RevAt w' b a n k x := by
  cases x with
  | none => exact h
  | some ss => exact ⟨h.1, h.2.1, h.2.2.1, ho _ _ hne h.2.2.2⟩
theorem RevAt.strs {w : World} {b : Nat} {a : Option Addr} {n k : Nat} {x : Option (List ByteArray)} (h : RevAt w b a n k x) : StrsAt w (.slice a n k) (x.map List.reverse) := by
  cases x with
  | none => obtain ⟨rfl, rfl, rfl⟩ := h; rfl
  | some ss =>
    obtain ⟨rfl, rfl, rfl, h4⟩ := h
    refine ⟨⟨b, 0, none⟩, ss.length, by simp, fun i hi => ?_⟩
    rw [Addr.add_mid]
    exact h4.1 i _ (by rw [List.getElem?_map, List.getElem?_eq_getElem hi]; rfl)

theorem reversed_any (a : Option Addr) (n k : Nat) (x : Option (List ByteArray)) (w : World) (h : StrsAt w (.slice a n k) x) (sh : ShortO x) :
    Calls Tryf.prog 11 #[.slice a n k] w fun e w' => (∃ a' n' k', e = .returned (.slice a' n' k') ∧ RevAt w' w.heap.size a' n' k' x) ∧ w.Extends w' := by
  cases x with
  | none =>
    have e : Value.slice a n k = .slice none 0 0 := h
    injection e with e1 e2 e3
    subst e1 e2 e3
    exact (rev_none w).mono fun e w' ⟨h1, h2⟩ => ⟨⟨none, 0, 0, h1, rfl, rfl, rfl⟩, h2⟩
  | some ss =>
    obtain ⟨a0, c, e, hS⟩ := h
    injection e with e1 e2 e3
    subst e1 e2 e3
    exact (rev_some a0 k ss.length ss rfl sh.1 w hS).mono fun e w' ⟨h1, h2, h3⟩ => ⟨⟨_, _, _, h1, rfl, rfl, rfl, h2⟩, h3⟩

/-- the child with its lists reversed -/
def revC (d : CapD) : CapD := ⟨d.iss, d.sub, d.key, d.any, ⟨d.lim.action, d.lim.docs.map List.reverse, d.lim.schemas.map List.reverse, d.lim.fromTs, d.lim.toTs, d.lim.fromSeq, d.lim.toSeq, d.lim.notBefore, d.lim.expires⟩, d.proof⟩
theorem subR_rev (s : ByteArray) (p c : Option (List ByteArray)) : subR s p (c.map List.reverse) = subR s p c := by
  cases p with
  | none => rfl
  | some ps =>
    cases c with
    | none => rfl
    | some cs =>
      show (subR s (some ps) (some cs.reverse)) = _
      simp only [subR]
      by_cases h : ∀ x ∈ cs, x ∈ ps
      · rw [if_pos h, if_pos (fun x hx => h x (List.mem_reverse.1 hx))]
      · rw [if_neg h, if_neg (fun h2 => h fun x hx => h2 x (List.mem_reverse.2 hx))]
theorem reason_rev (id : List UInt8) (p c : CapD) : reason id p (revC c) = reason id p c := by
  have e : attL p.lim (revC c).lim = attL p.lim c.lim := by simp only [revC, attL, subR_rev]
  unfold reason
  rw [e]
  rfl
theorem shortO_rev {x : Option (List ByteArray)} (h : ShortO x) : ShortO (x.map List.reverse) := by
  cases x with
  | none => exact True.intro
  | some ss =>
    refine ⟨by simpa using h.1, fun i hi => ?_⟩
    rw [List.getElem_reverse]
    exact h.2 _ _
theorem zero28 (w : World) : (zeroValue 28).run Tryf.prog w = .ok (.agg (cellsC d0 v0).toArray) w := by kernel_rfl
theorem i23 : (Tryf.prog.info? 23).map (·.size) = some 1 := by kernel_rfl
abbrev vDoc (v : Vals) (a : Option Addr) (n k : Nat) : Vals := ⟨a, n, k, v.a99, v.n99, v.k99, v.p100, v.p101, v.p102, v.p103, v.p104, v.p105, v.isd, v.p107⟩
abbrev vBoth (v : Vals) (a : Option Addr) (n k : Nat) (b : Option Addr) (m l : Nat) : Vals := ⟨a, n, k, b, m, l, v.p100, v.p101, v.p102, v.p103, v.p104, v.p105, v.isd, v.p107⟩
theorem set98r (d : CapD) (v : Vals) (a : Option Addr) (n k : Nat) (h1 : d.iss.length = 32) (h2 : d.sub.length = 32) (h3 : d.key.length = 32) :
    (cellsC d v).take 98 ++ ([Value.slice a n k] ++ (cellsC d v).drop (98 + 1)) = cellsC d (vDoc v a n k) := by
  obtain ⟨l1, l2, l3, an, lim, pr⟩ := d
  obtain ⟨f1, e1⟩ := ofFn32 l1 h1
  obtain ⟨f2, e2⟩ := ofFn32 l2 h2
  obtain ⟨f3, e3⟩ := ofFn32 l3 h3
  subst e1 e2 e3
  kernel_rfl
theorem set99r (d : CapD) (v : Vals) (a : Option Addr) (n k : Nat) (b : Option Addr) (m l : Nat) (h1 : d.iss.length = 32) (h2 : d.sub.length = 32) (h3 : d.key.length = 32) :
    (cellsC d (vDoc v a n k)).take 99 ++ ([Value.slice b m l] ++ (cellsC d (vDoc v a n k)).drop (99 + 1)) = cellsC (revC d) (vBoth v a n k b m l) := by
  obtain ⟨l1, l2, l3, an, lim, pr⟩ := d
  obtain ⟨f1, e1⟩ := ofFn32 l1 h1
  obtain ⟨f2, e2⟩ := ofFn32 l2 h2
  obtain ⟨f3, e3⟩ := ofFn32 l3 h3
  subst e1 e2 e3
  kernel_rfl
end Go.Proofs.Qxb6626501aFmt
