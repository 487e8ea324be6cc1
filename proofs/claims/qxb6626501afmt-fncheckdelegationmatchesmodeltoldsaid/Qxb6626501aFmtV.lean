import Derived.Test.Qxb6626501aFmtU
namespace Go.Proofs.Qxb6626501aFmt
open Go.RowKit Go.Extern.Stop Go.Stop Go.Extern
set_option linter.unusedVariables false

theorem shortO_of {x : Option (List ByteArray)} (h : Short (x.getD [])) : ShortO x := by
  cases x with
  | none => exact True.intro
  | some l => exact h

open Classical in
theorem sorted_any (v : Value) (x : Option (List ByteArray)) (w : World) (h : StrsAt w v x) (sh : ShortO x) :
    Calls Tryf.prog 7 #[v] w fun e w' => (∃ r : Bool, e = .returned (.bool r) ∧ (r = true → AscO x)) ∧ w.Extends w' := by
  cases x with
  | none =>
    obtain rfl : v = .slice none 0 0 := h
    exact (sorted_none w).mono fun e w' ⟨h1, q, h2⟩ => ⟨⟨true, h1, fun _ => True.intro⟩, h2 ▸ ext_drewN _ _⟩
  | some ss =>
    obtain ⟨a, c, rfl, hS⟩ := h
    exact (sorted_some a c ss ss.length rfl sh (decide (Asc ss)) (by simp) w hS).mono fun e w' ⟨h1, q, h2⟩ => ⟨⟨decide (Asc ss), h1, fun h => of_decide_eq_true h⟩, h2 ▸ ext_drewN _ _⟩

abbrev plus : ByteArray := ⟨#[43]⟩
/-- the values of the linked child without claims -/
abbrev vLink (isd : Int) (P : Nat) : Vals := ⟨none, 0, 0, none, 0, 0, none, none, none, none, none, none, isd, some ⟨P, 0, none⟩⟩
abbrev vFull (v : Vals) (P : Nat) : Vals := ⟨v.a98, v.n98, v.k98, v.a99, v.n99, v.k99, v.p100, v.p101, v.p102, v.p103, v.p104, v.p105, v.isd, some ⟨P, 0, none⟩⟩
abbrev vUnl (v : Vals) : Vals := ⟨v.a98, v.n98, v.k98, v.a99, v.n99, v.k99, v.p100, v.p101, v.p102, v.p103, v.p104, v.p105, v.isd, none⟩

theorem zero32 (w : World) : (zeroValue 32).run Tryf.prog w = .ok (.agg (enc8 z32).toArray) w := by kernel_rfl
theorem i43 : (Tryf.prog.info? 43).map (·.size) = some 6 := by kernel_rfl
theorem i24 : (Tryf.prog.info? 24).map (·.size) = some 1 := by kernel_rfl
theorem i44 : (Tryf.prog.info? 44).map (·.size) = some 1 := by kernel_rfl
theorem i9 : (Tryf.prog.info? 9).map (·.size) = some 1 := by kernel_rfl

theorem built46l (id : List UInt8) (d : CapD) (isd : Int) (P : Nat) (h2 : d.sub.length = 32) (h3 : d.key.length = 32) :
    Tryf.prog.built 46 [(0, .agg (enc8 d.key).toArray), (1, .agg (enc8 d.sub).toArray), (3, .string d.lim.action), (7, .int .u64 isd), (8, .pointer (some ⟨P, 0, none⟩))] =
      some (cellsC (bareC id d d.lim.action) (vLink isd P)).toArray := by
  obtain ⟨l1, l2, l3, an, lim, pr⟩ := d
  obtain ⟨f2, e2⟩ := ofFn32 l2 h2
  obtain ⟨f3, e3⟩ := ofFn32 l3 h3
  subst e2 e3
  kernel_rfl
theorem set98 (id : List UInt8) (d : CapD) (v : Vals) (P : Nat) (h2 : d.sub.length = 32) (h3 : d.key.length = 32) :
    (cellsC (bareC id d d.lim.action) (vLink v.isd P)).take 98 ++ ([v.v98, v.v99, v.v100, v.v101, v.v102, v.v103] ++ (cellsC (bareC id d d.lim.action) (vLink v.isd P)).drop (98 + 6)) =
      cellsC (fullC id d) ⟨v.a98, v.n98, v.k98, v.a99, v.n99, v.k99, v.p100, v.p101, v.p102, v.p103, none, none, v.isd, some ⟨P, 0, none⟩⟩ := by
  obtain ⟨l1, l2, l3, an, lim, pr⟩ := d
  obtain ⟨f2, e2⟩ := ofFn32 l2 h2
  obtain ⟨f3, e3⟩ := ofFn32 l3 h3
  subst e2 e3
  kernel_rfl
theorem set104 (id : List UInt8) (d : CapD) (v : Vals) (P : Nat) (h2 : d.sub.length = 32) (h3 : d.key.length = 32) :
    (cellsC (fullC id d) ⟨v.a98, v.n98, v.k98, v.a99, v.n99, v.k99, v.p100, v.p101, v.p102, v.p103, none, none, v.isd, some ⟨P, 0, none⟩⟩).take 104 ++ ([v.v104] ++ (cellsC (fullC id d) ⟨v.a98, v.n98, v.k98, v.a99, v.n99, v.k99, v.p100, v.p101, v.p102, v.p103, none, none, v.isd, some ⟨P, 0, none⟩⟩).drop (104 + 1)) =
      cellsC (fullC id d) ⟨v.a98, v.n98, v.k98, v.a99, v.n99, v.k99, v.p100, v.p101, v.p102, v.p103, v.p104, none, v.isd, some ⟨P, 0, none⟩⟩ := by
  obtain ⟨l1, l2, l3, an, lim, pr⟩ := d
  obtain ⟨f2, e2⟩ := ofFn32 l2 h2
  obtain ⟨f3, e3⟩ := ofFn32 l3 h3
  subst e2 e3
  kernel_rfl
theorem set105 (id : List UInt8) (d : CapD) (v : Vals) (P : Nat) (h2 : d.sub.length = 32) (h3 : d.key.length = 32) :
    (cellsC (fullC id d) ⟨v.a98, v.n98, v.k98, v.a99, v.n99, v.k99, v.p100, v.p101, v.p102, v.p103, v.p104, none, v.isd, some ⟨P, 0, none⟩⟩).take 105 ++ ([v.v105] ++ (cellsC (fullC id d) ⟨v.a98, v.n98, v.k98, v.a99, v.n99, v.k99, v.p100, v.p101, v.p102, v.p103, v.p104, none, v.isd, some ⟨P, 0, none⟩⟩).drop (105 + 1)) =
      cellsC (fullC id d) (vFull v P) := by
  obtain ⟨l1, l2, l3, an, lim, pr⟩ := d
  obtain ⟨f2, e2⟩ := ofFn32 l2 h2
  obtain ⟨f3, e3⟩ := ofFn32 l3 h3
  subst e2 e3
  kernel_rfl
theorem set107 (id : List UInt8) (d : CapD) (v : Vals) (P : Nat) (h2 : d.sub.length = 32) (h3 : d.key.length = 32) :
    (cellsC (fullC id d) (vFull v P)).take 107 ++ ([Value.pointer none] ++ (cellsC (fullC id d) (vFull v P)).drop (107 + 1)) = cellsC (unlC id d) (vUnl v) := by
  obtain ⟨l1, l2, l3, an, lim, pr⟩ := d
  obtain ⟨f2, e2⟩ := ofFn32 l2 h2
  obtain ⟨f3, e3⟩ := ofFn32 l3 h3
  subst e2 e3
  kernel_rfl
theorem set97 (id : List UInt8) (d : CapD) (isd : Int) (P : Nat) (a : ByteArray) (h2 : d.sub.length = 32) (h3 : d.key.length = 32) :
    (cellsC (bareC id d d.lim.action) (vLink isd P)).take 97 ++ ([Value.string a] ++ (cellsC (bareC id d d.lim.action) (vLink isd P)).drop (97 + 1)) = cellsC (bareC id d a) (vLink isd P) := by
  obtain ⟨l1, l2, l3, an, lim, pr⟩ := d
  obtain ⟨f2, e2⟩ := ofFn32 l2 h2
  obtain ⟨f3, e3⟩ := ofFn32 l3 h3
  subst e2 e3
  kernel_rfl
theorem z32_len : z32.length = 32 := rfl
theorem lenC (d : CapD) (v : Vals) (h1 : d.iss.length = 32) (h2 : d.sub.length = 32) (h3 : d.key.length = 32) : (cellsC d v).length = 108 := by simp [cellsC, enc8_len, h1, h2, h3]

theorem means_link {W : World} {d : CapD} {v : Vals} (hm : Means W d v) (id : List UInt8) (isd : Int) (P : Nat) (a : ByteArray) (hid : id.length = 32) (hP : W.rangeAt P 0 (enc8 id)) : Means W (bareC id d a) (vLink isd P) :=
  ⟨rfl, rfl, rfl, rfl, rfl, rfl, rfl, rfl, ⟨P, 0, rfl, hP, hid⟩, hm.lkey, hm.lsub, z32_len⟩
theorem means_full {W : World} {d : CapD} {v : Vals} (hm : Means W d v) (id : List UInt8) (P : Nat) (hid : id.length = 32) (hP : W.rangeAt P 0 (enc8 id)) : Means W (fullC id d) (vFull v P) :=
  ⟨hm.docs, hm.schemas, hm.fromTs, hm.toTs, hm.fromSeq, hm.toSeq, hm.notBefore, hm.expires, ⟨P, 0, rfl, hP, hid⟩, hm.lkey, hm.lsub, z32_len⟩
theorem means_unl {W : World} {d : CapD} {v : Vals} (hm : Means W d v) (id : List UInt8) : Means W (unlC id d) (vUnl v) :=
  ⟨hm.docs, hm.schemas, hm.fromTs, hm.toTs, hm.fromSeq, hm.toSeq, hm.notBefore, hm.expires, rfl, hm.lkey, hm.lsub, z32_len⟩
end Go.Proofs.Qxb6626501aFmt
