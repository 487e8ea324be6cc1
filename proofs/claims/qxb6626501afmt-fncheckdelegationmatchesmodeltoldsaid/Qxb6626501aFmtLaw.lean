import Derived.Test.Qxb6626501aFmtProg
import Derived.WalkKit
import Derived.BigQuiet
namespace Go.Proofs.Qxb6626501aFmt
open Go
set_option linter.unusedVariables false
set_option linter.unusedSimpArgs false

section
variable {P : Program} {ops : Array Oper} {Q : Exit → Act → World → Prop}

/-- operation number i waits for elder ones only, for each one that writes a slot at which it looks; it shares its slot with none -/
def depsAt (ops : Array Oper) (m i : Nat) (o : Oper) : Bool :=
  o.after.all (fun e => decide (e.on < i)) &&
  (List.range m).all fun j => match ops[j]? with
    | none => true
    | some p => match p.dst with
      | none => true
      | some d => (!(o.looksAt ops).contains d || o.after.any (fun e => Region.binds .any e && e.on == j)) && (j == i || o.dst != some d)

def depsOk (ops : Array Oper) (m : Nat) : Bool := (List.range m).all fun i => match ops[i]? with
  | none => true
  | some o => depsAt ops m i o

theorem deps_spec {m i : Nat} {o : Oper} (h : depsOk ops m = true) (hi : i < m) (ho : ops[i]? = some o) :
    (∀ e ∈ o.after, e.on < i) ∧ ∀ j p d, j < m → ops[j]? = some p → p.dst = some d → (d ∈ o.looksAt ops → ∃ e ∈ o.after, Region.binds .any e = true ∧ e.on = j) ∧ (j ≠ i → o.dst ≠ some d) := by
  have h1 := List.all_eq_true.1 h i (List.mem_range.2 hi)
  simp only [ho, depsAt, Bool.and_eq_true] at h1
  refine ⟨fun e he => by simpa using Array.all_eq_true_iff_forall_mem.1 h1.1 e he, fun j p d hj hp hd => ?_⟩
  have h2 := List.all_eq_true.1 h1.2 j (List.mem_range.2 hj)
  simp only [hp, hd, Bool.and_eq_true] at h2
  refine ⟨fun hl => ?_, fun hne => ?_⟩
  · have h3 := h2.1
    have hc : (o.looksAt ops).contains d = true := by simpa using hl
    simp only [hc, Bool.not_true, Bool.false_or] at h3
    obtain ⟨e, he, hb⟩ := Array.any_eq_true'.1 h3
    simp only [Bool.and_eq_true, beq_iff_eq] at hb
    exact ⟨e, he, hb.1, hb.2⟩
  · have h3 := h2.2
    simp only [Bool.or_eq_true, beq_iff_eq, hne, false_or] at h3
    simpa using h3

theorem same_run {o : Oper} {a b : Act} (hs : ∀ cs b, o.op ≠ .select cs b) (h : ∀ t ∈ o.looksAt ops, a.tmps[t]? = b.tmps[t]?) :
    execOp a.eval o = execOp b.eval o ∧ Region.wanted o (yielded ops a.tmps) = Region.wanted o (yielded ops b.tmps) := by
  refine ⟨execOp_congr o hs fun x hx => ?_, ?_⟩
  · cases x with
    | tmp t =>
      have := h t (List.mem_append_left _ (List.mem_filterMap.2 ⟨.tmp t, by simpa using hx, rfl⟩))
      simp only [Act.eval, Array.getD_eq_getD_getElem?, this]
    | _ => rfl
  · unfold Region.wanted
    cases hg : o.guard with
    | none => rfl
    | some gw =>
      obtain ⟨g, want⟩ := gw
      have hy : yielded ops a.tmps g = yielded ops b.tmps g := by
        unfold yielded
        cases ht : (ops[g]?).bind (·.dst) with
        | none => rfl
        | some t =>
          have := h t (List.mem_append_right _ (by simp [hg, ht]))
          simp only [Option.bind_some, this]
      simp only [hy]

/-- what a walk in the text's order tells of each operation at the last frame -/
theorem quiet_frames {m : Nat} {C : World → Prop} {af : Act} (hns : Region.noSelect ops = true) (hd : depsOk ops m = true) :
    ∀ (l : List Oper) (k : Nat) (a : Act), k + l.length = m → (∀ j, j < l.length → l[j]? = ops[k + j]?) → wpQuiet P ops C (fun x => x = af) l a →
      a.defers = af.defers ∧ a.tmps.size = af.tmps.size ∧
      (∀ t, (∀ j p, k ≤ j → j < m → ops[j]? = some p → p.dst ≠ some t) → a.tmps[t]? = af.tmps[t]?) ∧
      ∀ i o, k ≤ i → i < m → ops[i]? = some o → ∃ v, (∀ d, o.dst = some d → d < af.tmps.size → af.tmps[d]? = some v) ∧ YieldsIn P ops C o v af
  | [], k, a, hk, _, h => by
    obtain rfl : a = af := h
    exact ⟨rfl, rfl, fun _ _ => rfl, fun i o h1 h2 => absurd h2 (by simp at hk; omega)⟩
  | o :: l, k, a, hk, hl, h => by
    have h0 : ops[k]? = some o := by simpa using (hl 0 (by simp)).symm
    have hkm : k < m := by simp at hk; omega
    have hst : qOp P ops C k (wpQuiet P ops C (fun x => x = af) l) a := by unfold qOp; simp only [h0]; exact h
    obtain ⟨v, hy, hK⟩ := yieldsIn_of_qOp h0 hst
    obtain ⟨i1, i2, i3, i4⟩ := quiet_frames hns hd l (k + 1) (a.put o.dst v) (by simp at hk; omega)
      (fun j hj => by have := hl (j + 1) (by simp; omega); simpa [Nat.add_assoc, Nat.add_comm 1 j] using this) hK
    have hdef : (a.put o.dst v).defers = a.defers := by cases ho : o.dst <;> simp [Act.put]
    have hsz : (a.put o.dst v).tmps.size = a.tmps.size := by cases ho : o.dst <;> simp [Act.put]
    have hput : ∀ t, o.dst ≠ some t → (a.put o.dst v).tmps[t]? = a.tmps[t]? := fun t ht => by
      cases ho : o.dst with
      | none => rfl
      | some d =>
        have : d ≠ t := fun e => ht (by rw [ho, e])
        simp [Act.put, Array.getElem?_setIfInBounds_ne this]
    obtain ⟨d1, d2⟩ := deps_spec hd hkm h0
    refine ⟨hdef ▸ i1, hsz ▸ i2, fun t ht => ?_, fun i p hi him hp => ?_⟩
    · rw [← hput t (ht k o (Nat.le_refl _) hkm h0)]
      exact i3 t fun j p hj => ht j p (by omega)
    · by_cases hik : i = k
      · subst hik
        obtain rfl : o = p := by rw [h0] at hp; exact Option.some.inj hp
        refine ⟨v, fun d hd1 hd2 => ?_, ?_⟩
        · rw [← i3 d fun j p hj hjm hp e => (deps_spec hd hjm hp).2 i o d hkm h0 hd1 |>.2 (by omega) e]
          have : d < a.tmps.size := by rw [← hsz, i2]; exact hd2
          simp [Act.put, hd1, this]
        · obtain ⟨e1, e2⟩ := same_run (ops := ops) (a := af) (b := a) (fun cs b => Region.noSelect_spec hns i o cs b h0) fun t ht => by
            rw [← i3 t fun j p hj hjm hp e => ?_]
            · refine hput t fun e => ?_
              obtain ⟨e', he', _, hon⟩ := (d2 i o t hkm h0 e).1 ht
              have := d1 e' he'
              omega
            · obtain ⟨e', he', _, hon⟩ := (d2 j p t hjm hp e).1 ht
              have := d1 e' he'
              omega
          exact hy.of_same e1 e2
      · exact i4 i p (by omega) him hp

theorem yieldsIn_turn {ops' : Array Oper} {C : World → Prop} {o : Oper} {v : Value} {a : Act} (hd : ∀ g : Nat, (ops'[g]?).bind (·.dst) = (ops[g]?).bind (·.dst)) (h : YieldsIn P ops' C o v a) :
    YieldsIn P ops C o v a := by
  have : yielded ops a.tmps = yielded ops' a.tmps := by funext g; unfold yielded; rw [hd g]
  unfold YieldsIn at *
  rw [this]
  exact h

/-- behind the first m operations each waits for the one before it; and each of the first m has one that waits for it -/
def tailOk (ops : Array Oper) (m : Nat) : Bool :=
  ((List.range ops.size).all fun i => decide (i ≤ m) || match ops[i]? with
    | none => true
    | some o => o.after.any fun e => Region.binds .any e && e.on + 1 == i) &&
  (List.range m).all fun j => (List.range (m + 1)).any fun k => decide (j < k) && match ops[k]? with
    | none => false
    | some o => o.after.any fun e => Region.binds .any e && e.on == j

def Closed (ops : Array Oper) (L : Array Bool) : Prop := ∀ i o, ops[i]? = some o → L.getD i false = true → ∀ e ∈ o.after, Region.binds .any e = true → L.getD e.on false = true

theorem tail_waits {m : Nat} {L : Array Bool} (ht : tailOk ops m = true) (hcl : Closed ops L) (hno : ∀ i, m ≤ i → L.getD i false = false) {i : Nat} (hi : i ∈ Region.ready .any ops L) (him : m ≤ i) :
    i = m ∧ ∀ j, j < m → L.getD j false = true := by
  obtain ⟨hun, o, ho, hall⟩ := mem_ready.1 hi
  have his : i < ops.size := (Array.getElem?_eq_some_iff.1 ho).1
  simp only [tailOk, Bool.and_eq_true] at ht
  have h1 := List.all_eq_true.1 ht.1 i (List.mem_range.2 his)
  have him' : i = m := by
    rcases Nat.lt_or_ge m i with h | h
    · have hle : ¬ i ≤ m := by omega
      simp only [ho, hle, decide_false, Bool.false_or] at h1
      obtain ⟨e, he, hb⟩ := Array.any_eq_true'.1 h1
      simp only [Bool.and_eq_true, beq_iff_eq] at hb
      have h2 := hall e he hb.1
      rw [hno e.on (by omega)] at h2
      cases h2
    · omega
  refine ⟨him', ?_⟩
  -- downwards
  have key : ∀ n j, j < m → m ≤ j + n → L.getD j false = true := by
    intro n
    induction n using Nat.strongRecOn with
    | _ n ih =>
      intro j hj hn
      have h2 := List.all_eq_true.1 ht.2 j (List.mem_range.2 hj)
      obtain ⟨k, hk, hb⟩ := List.any_eq_true.1 h2
      simp only [Bool.and_eq_true, decide_eq_true_eq] at hb
      obtain ⟨hjk, hb⟩ := hb
      have hkm : k ≤ m := by have := List.mem_range.1 hk; omega
      cases hok : ops[k]? with
      | none => rw [hok] at hb; cases hb
      | some ok =>
        rw [hok] at hb
        obtain ⟨e, he, hb2⟩ := Array.any_eq_true'.1 hb
        simp only [Bool.and_eq_true, beq_iff_eq] at hb2
        rcases Nat.lt_or_ge k m with hlt | hge
        · have := ih (m - k) (by omega) k hlt (by omega)
          have := hcl k ok hok this e he hb2.1
          rwa [hb2.2] at this
        · have hkm' : k = i := by omega
          rw [hkm', ho] at hok
          obtain rfl := Option.some.inj hok
          have := hall e he hb2.1
          rwa [hb2.2] at this
  exact fun j hj => key m j hj (by omega)

def firstN (n m : Nat) : Array Bool := Array.ofFn (n := n) fun i => decide (i.val < m)

/-- a frame that agrees with the last one at each slot whose writers are listed -/
structure Agrees (ops : Array Oper) (m : Nat) (af : Act) (L : Array Bool) (a : Act) : Prop where
  defers : a.defers = af.defers
  size : a.tmps.size = af.tmps.size
  slots : ∀ t, (∀ j p, j < m → ops[j]? = some p → p.dst = some t → L.getD j false = true) → a.tmps[t]? = af.tmps[t]?

theorem Agrees.put {m i : Nat} {af a : Act} {L : Array Bool} {o : Oper} {v : Value} (h : Agrees ops m af L a) (him : i < m) (hi : ops[i]? = some o)
    (hv : ∀ d, o.dst = some d → d < af.tmps.size → af.tmps[d]? = some v) : Agrees ops m af (L.setIfInBounds i true) (a.put o.dst v) := by
  refine ⟨?_, ?_, fun t ht => ?_⟩
  · rw [← h.defers]; cases ho : o.dst <;> simp [Act.put]
  · rw [← h.size]; cases ho : o.dst <;> simp [Act.put]
  · by_cases e : o.dst = some t
    · simp only [e, Act.put]
      by_cases hlt : t < af.tmps.size
      · rw [hv t e hlt, Array.getElem?_setIfInBounds]
        have := h.size
        simp [this, hlt]
      · rw [Array.getElem?_eq_none (by simp [h.size]; exact Nat.le_of_not_lt hlt), Array.getElem?_eq_none (Nat.le_of_not_lt hlt)]
    · have hk : (a.put o.dst v).tmps[t]? = a.tmps[t]? := by
        cases ho : o.dst with
        | none => rfl
        | some d =>
          have : d ≠ t := fun e' => e (by rw [ho, e'])
          simp [Act.put, Array.getElem?_setIfInBounds_ne this]
      rw [hk]
      refine h.slots t fun j p hj hp hpt => ?_
      have := ht j p hj hp hpt
      by_cases hij : i = j
      · subst hij
        rw [hi] at hp
        cases hp
        exact absurd hpt e
      · rwa [getD_set_ne false hij] at this

theorem Agrees.full {m : Nat} {af a : Act} {L : Array Bool} (h : Agrees ops m af L a) (hL : ∀ j, j < m → L.getD j false = true) : a = af := by
  obtain ⟨t, d⟩ := a
  obtain ⟨t', d'⟩ := af
  have h1 := h.defers
  have h2 : t = t' := Array.ext_getElem? fun i => h.slots i fun j p hj _ _ => hL j hj
  simp only at h1
  rw [h1, h2]

theorem firstN_eq {L : Array Bool} {n m : Nat} (hs : L.size = n) (hl : ∀ j, j < m → L.getD j false = true) (hn : ∀ i, m ≤ i → L.getD i false = false) : L = firstN n m := by
  apply Array.ext
  · simp [firstN, hs]
  · intro i h1 h2
    simp only [firstN, Array.getElem_ofFn]
    rcases Nat.lt_or_ge i m with h | h
    · have := hl i h
      simp [h1] at this
      simp [this, h]
    · have := hn i h
      simp [h1] at this
      simp [this, h]

/-- the tail, one operation behind the other -/
theorem wpAny_tail : ∀ (l : List Oper) (k : Nat) (a : Act) (w : World), k + l.length = ops.size → (∀ j, l[j]? = ops[k + j]?) →
    (∀ i, k ≤ i → i ≤ ops.size → Region.ready .any ops (firstN ops.size i) = if i < ops.size then [i] else []) → wpList P ops Q l a w → wpAny P .any ops Q l.length (firstN ops.size k) a w
  | [], k, a, w, hk, _, hr, h => by
    have := hr k (Nat.le_refl _) (by simp at hk; omega)
    rw [if_neg (by simp at hk; omega)] at this
    exact ⟨this, h⟩
  | o :: l, k, a, w, hk, hl, hr, h => by
    have h0 : ops[k]? = some o := by simpa using (hl 0).symm
    have hks : k < ops.size := (Array.getElem?_eq_some_iff.1 h0).1
    have hrk := hr k (Nat.le_refl _) (by omega)
    rw [if_pos hks] at hrk
    have hset : (firstN ops.size k).setIfInBounds k true = firstN ops.size (k + 1) := by
      apply Array.ext
      · simp [firstN]
      · intro i h1 h2
        have h3 : i < (firstN ops.size k).size := by simpa using h1
        rw [Array.getElem_setIfInBounds h3]
        simp only [firstN, Array.getElem_ofFn]
        by_cases e : k = i
        · subst e; simp
        · rw [if_neg e]
          by_cases h4 : i < k
          · rw [decide_eq_true h4, decide_eq_true (by omega)]
          · rw [decide_eq_false h4, decide_eq_false (by omega)]
    refine wpAny_all hrk (by simp) fun i hi => ?_
    obtain rfl : i = k := by simpa using hi
    rw [hset]
    have h1 : wpOp P ops Q i (wpList P ops Q l) a w := by unfold wpOp; simp only [h0]; exact h
    refine wpOp_mono (fun a' w' h' => ?_) h1
    exact wpAny_tail l (i + 1) a' w' (by simp at hk; omega) (fun j => by have := hl (j + 1); simpa [Nat.add_assoc, Nat.add_comm 1 j] using this) (fun j hj => hr j (by omega)) h'

theorem getD_false {L : Array Bool} {j : Nat} (h : j < L.size) : L.getD j true = false ↔ L.getD j false = false := by simp [h]

theorem count_set {L : Array Bool} {i n : Nat} (h : i < L.size) (hi : L.getD i true = false) (hc : L.toList.count false = n + 1) : (L.setIfInBounds i true).toList.count false = n := by
  have h1 : L.toList[i]'(by simpa using h) = false := by simpa [h] using hi
  rw [Array.toList_setIfInBounds, List.count_set (by simpa using h), h1, hc]
  simp

theorem wpAny_pre {m k : Nat} {af : Act} {A B : World → Prop} (hns : Region.noSelect ops = true) (hd : depsOk ops m = true) (ht : tailOk ops m = true) (hms : m < ops.size)
    (hf : (firstN ops.size m).toList.count false = ops.size - m)
    (hA : ∀ i o, i < m → i ≠ k → ops[i]? = some o → ∃ v, (∀ d, o.dst = some d → d < af.tmps.size → af.tmps[d]? = some v) ∧ YieldsIn P ops A o v af)
    (hB : ∀ i o, i < m → i ≠ k → ops[i]? = some o → ∃ v, (∀ d, o.dst = some d → d < af.tmps.size → af.tmps[d]? = some v) ∧ YieldsIn P ops B o v af)
    (hk : ∀ o, k < m → ops[k]? = some o → Region.wanted o (yielded ops af.tmps) = true ∧ ∃ u, (∀ d, o.dst = some d → d < af.tmps.size → af.tmps[d]? = some u) ∧ ∀ w, A w → ∃ w', (execOp af.eval o).run P w = .ok (.value u) w' ∧ B w')
    (hend : ∀ w, (if k < m then B w else A w) → wpAny P .any ops Q (ops.size - m) (firstN ops.size m) af w) :
    ∀ (fuel : Nat) (L : Array Bool) (a : Act) (w : World), L.size = ops.size → (∀ i, m ≤ i → L.getD i false = false) → Closed ops L → L.toList.count false = fuel →
      Agrees ops m af L a → (if L.getD k false = true then B w else A w) → wpAny P .any ops Q fuel L a w := by
  have done : ∀ (fuel : Nat) (L : Array Bool) (a : Act) (w : World), L.size = ops.size → (∀ i, m ≤ i → L.getD i false = false) → L.toList.count false = fuel →
      Agrees ops m af L a → (if L.getD k false = true then B w else A w) → (∀ j, j < m → L.getD j false = true) → wpAny P .any ops Q fuel L a w := by
    intro fuel L a w hs hno hc hag hw hall
    obtain rfl := hag.full hall
    obtain rfl := firstN_eq hs hall hno
    rw [hf] at hc
    subst hc
    refine hend w ?_
    by_cases hkm : k < m
    · rw [if_pos hkm]; rw [if_pos (hall k hkm)] at hw; exact hw
    · rw [if_neg hkm]; rw [hno k (by omega)] at hw; simpa using hw
  have least : ∀ (L : Array Bool), L.size = ops.size → ¬ (∀ j, j < m → L.getD j false = true) → ∃ j, j < m ∧ j ∈ Region.ready .any ops L := by
    intro L hs hn
    have : ∃ j, j < m ∧ L.getD j false = false := by
      apply Classical.byContradiction
      intro hno
      refine hn fun j hj => ?_
      cases hb : L.getD j false with
      | true => rfl
      | false => exact absurd ⟨j, hj, hb⟩ hno
    obtain ⟨j, hj⟩ := this
    have key : ∀ n j, j ≤ n → j < m → L.getD j false = false → ∃ j, j < m ∧ j ∈ Region.ready .any ops L := by
      intro n
      induction n with
      | zero =>
        intro j hj0 hjm hjf
        have hjs : j < ops.size := by omega
        refine ⟨j, hjm, mem_ready.2 ⟨(getD_false (by omega)).2 hjf, ops[j], by simp [hjs], fun e he hb => ?_⟩⟩
        have := (deps_spec hd hjm (by simp [hjs] : ops[j]? = some ops[j])).1 e he
        omega
      | succ n ih =>
        intro j hj0 hjm hjf
        have hjs : j < ops.size := by omega
        by_cases hx : ∃ j', j' ≤ n ∧ j' < m ∧ L.getD j' false = false
        · obtain ⟨j', h1, h2, h3⟩ := hx
          exact ih j' h1 h2 h3
        · refine ⟨j, hjm, mem_ready.2 ⟨(getD_false (by omega)).2 hjf, ops[j], by simp [hjs], fun e he hb => ?_⟩⟩
          have := (deps_spec hd hjm (by simp [hjs] : ops[j]? = some ops[j])).1 e he
          cases hb : L.getD e.on false with
          | true => rfl
          | false => exact absurd ⟨e.on, by omega, by omega, hb⟩ hx
    exact key j j (Nat.le_refl _) hj.1 hj.2
  intro fuel
  induction fuel with
  | zero =>
    intro L a w hs hno hcl hc hag hw
    by_cases hall : ∀ j, j < m → L.getD j false = true
    · exact done 0 L a w hs hno hc hag hw hall
    · obtain ⟨j, hj, hr⟩ := least L hs hall
      have hjs : j < L.size := by omega
      have h1 := (mem_ready.1 hr).1
      have h2 : false ∈ L.toList := by
        have : L[j] = false := by simpa [hjs] using h1
        rw [← this]
        simp
      have := List.count_pos_iff.2 h2
      omega
  | succ n ih =>
    intro L a w hs hno hcl hc hag hw
    by_cases hall : ∀ j, j < m → L.getD j false = true
    · exact done (n + 1) L a w hs hno hc hag hw hall
    · obtain ⟨j, hj, hr⟩ := least L hs hall
      refine ⟨fun h0 => by (rw [h0] at hr; cases hr), fun i hi => ?_⟩
      have him : i < m := by
        rcases Nat.lt_or_ge i m with h | h
        · exact h
        · exact absurd (tail_waits ht hcl hno hi h).2 hall
      obtain ⟨hun, o, ho, hrd⟩ := mem_ready.1 hi
      have his : i < L.size := by omega
      have hs' : (L.setIfInBounds i true).size = ops.size := by simpa using hs
      have hno' : ∀ j, m ≤ j → (L.setIfInBounds i true).getD j false = false := fun j hj => by
        rw [getD_set_ne false (by omega)]; exact hno j hj
      have hcl' : Closed ops (L.setIfInBounds i true) := fun j oj hoj hl e he hb => by
        by_cases hij : i = j
        · subst hij
          rw [ho] at hoj
          cases hoj
          exact getD_set_true (hrd e he hb)
        · rw [getD_set_ne false hij] at hl
          exact getD_set_true (hcl j oj hoj hl e he hb)
      have hc' := count_set his hun hc
      obtain ⟨e1, e2⟩ := same_run (ops := ops) (a := a) (b := af) (fun cs b => Region.noSelect_spec hns i o cs b ho) fun t htl =>
        hag.slots t fun j p hj hp hpt => by
          obtain ⟨e, he, hb, hon⟩ := ((deps_spec hd him ho).2 j p t hj hp hpt).1 htl
          rw [← hon]
          exact hrd e he hb
      by_cases hik : i = k
      · subst hik
        obtain ⟨hwt, u, hu, hrun⟩ := hk o him ho
        have hLk : L.getD i false = false := (getD_false his).1 hun
        rw [hLk] at hw
        obtain ⟨w', hr', hB'⟩ := hrun w (by simpa using hw)
        unfold wpOp
        simp only [ho]
        rw [if_pos (by rw [e2]; exact hwt)]
        refine .inl ?_
        unfold Oper.wp
        rw [e1, hr']
        simp only [Oper.upon]
        refine ih _ _ _ hs' hno' hcl' hc' (hag.put him ho hu) ?_
        rw [if_pos (by simp [his])]
        exact hB'
      · have hy0 : ∃ v, (∀ d, o.dst = some d → d < af.tmps.size → af.tmps[d]? = some v) ∧ YieldsIn P ops (fun w => if L.getD k false = true then B w else A w) o v af := by
          by_cases hLk : L.getD k false = true
          · have : (fun w => if L.getD k false = true then B w else A w) = B := by funext w; rw [if_pos hLk]
            rw [this]; exact hB i o him hik ho
          · have : (fun w => if L.getD k false = true then B w else A w) = A := by funext w; rw [if_neg hLk]
            rw [this]; exact hA i o him hik ho
        obtain ⟨v, hv, hy⟩ := hy0
        have hy' := hy.of_same e1 e2
        refine wpOp_of_qOp (C := fun w => if L.getD k false = true then B w else A w) hw (K := fun x => x = a.put o.dst v) ?_ (hy'.qOp ho rfl)
        intro a' w' hw' ha'
        subst ha'
        refine ih _ _ _ hs' hno' hcl' hc' (hag.put him ho hv) ?_
        rw [getD_set_ne false hik]
        exact hw'

theorem repl_getD (n i : Nat) : (Array.replicate n false).getD i false = false := by
  rcases Nat.lt_or_ge i n with h | h <;> simp [h]

theorem dst_of_map {a b : Array Oper} (h : a.map (·.dst) = b.map (·.dst)) (g : Nat) : (a[g]?).bind (·.dst) = (b[g]?).bind (·.dst) := by
  have h1 : (a.map (·.dst))[g]? = (b.map (·.dst))[g]? := by rw [h]
  simp only [Array.getElem?_map] at h1
  cases ha : a[g]? <;> cases hb : b[g]? <;> simp [ha, hb] at h1 <;> simp [h1]

/-- a drawn region: the first operations quiet, the rest one behind the other -/
theorem region_tail {id m : Nat} {l pre : List Oper} {C : World → Prop} {a : Act} {w : World} (hm : P.follows .mixedOrders = true) (hns : Region.noSelect l.toArray = true)
    (hd : depsOk l.toArray m = true) (ht : tailOk l.toArray m = true) (hms : m < l.length) (hpre : l.take m = pre)
    (hf : (firstN l.length m).toList.count false = l.length - m)
    (hr : ((List.range (l.length + 1)).all fun i => decide (i < m) || decide (Region.ready .any l.toArray (firstN l.length i) = if i < l.length then [i] else [])) = true)
    (hC : C { w with drawn := w.drawn + 1 })
    (af : Act) (hwalk : wpQuiet P l.toArray C (fun x => x = af) pre a) (htail : ∀ w', C w' → wpList P l.toArray Q (l.drop m) af w') : (Code.region id l.toArray true).wp P Q a w := by
  subst hpre
  refine wp_region_any hm ?_
  obtain ⟨q1, q2, q3, q4⟩ := quiet_frames hns hd (l.take m) 0 a (by simp; omega) (fun j hj => by simp at hj; simp [List.getElem?_take, hj]) hwalk
  refine wpAny_pre (m := m) (k := l.length) (A := C) (B := C) (af := af) hns hd ht (by simpa using hms) (by simpa using hf) (fun i o hi _ ho => q4 i o (by omega) hi ho) (fun i o hi _ ho => q4 i o (by omega) hi ho) (fun o hk => absurd hk (by omega)) ?_ _ _ _ _ (by simp) ?_ ?_ ?_ ?_ ?_
  · intro w' hw'
    rw [if_neg (by omega)] at hw'
    have h1 := wpAny_tail (P := P) (Q := Q) (ops := l.toArray) (l.drop m) m af w' (by simp; omega) (by intro j; simp) ?_ (htail w' hw')
    · simpa using h1
    · intro i hi his
      have h2 := List.all_eq_true.1 hr i (List.mem_range.2 (by simp at his; omega))
      simp only [Bool.or_eq_true, decide_eq_true_eq] at h2
      rcases h2 with h2 | h2
      · omega
      · simpa using h2
  · exact fun i _ => repl_getD _ i
  · exact fun i o _ hl => by rw [repl_getD] at hl; cases hl
  · simp [List.count_replicate]
  · exact ⟨q1, q2, fun t ht' => q3 t fun j p _ hj hp e => by have := ht' j p hj hp e; rw [repl_getD] at this; cases this⟩
  · rw [repl_getD, if_neg (by simp)]
    exact hC

/-- the same, with one operation among the first that makes a block (number k; its stand-in in l' only hands over the address) -/
theorem region_alloc {id m k : Nat} {l l' pre : List Oper} {a af : Act} {w w1 : World} {ok : Oper} {u : Value} (hm : P.follows .mixedOrders = true) (hns : Region.noSelect l.toArray = true) (hns' : Region.noSelect l'.toArray = true)
    (hd : depsOk l.toArray m = true) (hd' : depsOk l'.toArray m = true) (ht : tailOk l.toArray m = true) (hms : m < l.length) (hlen : l'.length = l.length) (hpre : l'.take m = pre) (hkm : k < m)
    (hdst' : ∀ g : Nat, (l'.toArray[g]?).bind (·.dst) = (l.toArray[g]?).bind (·.dst)) (hsame : ∀ i, i < m → i ≠ k → l'[i]? = l[i]?)
    (hf : (firstN l.length m).toList.count false = l.length - m)
    (hr : ((List.range (l.length + 1)).all fun i => decide (i < m) || decide (Region.ready .any l.toArray (firstN l.length i) = if i < l.length then [i] else [])) = true)
    (hwA : wpQuiet P l'.toArray (fun w' => ∃ n, w' = w.drewN n) (fun x => x = af) pre a)
    (hwB : wpQuiet P l'.toArray (fun w' => ∃ n, w' = w1.drewN n) (fun x => x = af) pre a)
    (hok : l[k]? = some ok) (hwt : ok.guard = none) (hu : ∀ d, ok.dst = some d → d < af.tmps.size → af.tmps[d]? = some u)
    (hrun : ∀ n, (execOp af.eval ok).run P (w.drewN n) = .ok (.value u) (w1.drewN n))
    (htail : ∀ n, wpList P l.toArray Q (l.drop m) af (w1.drewN n)) : (Code.region id l.toArray true).wp P Q a w := by
  subst hpre
  refine wp_region_any hm ?_
  have hlist : ∀ j, j < (l'.take m).length → (l'.take m)[j]? = l'.toArray[0 + j]? := fun j hj => by simp at hj; simp [List.getElem?_take, hj]
  obtain ⟨q1, q2, q3, q4⟩ := quiet_frames hns' hd' (l'.take m) 0 a (by simp; omega) hlist hwA
  obtain ⟨_, _, _, r4⟩ := quiet_frames hns' hd' (l'.take m) 0 a (by simp; omega) hlist hwB
  refine wpAny_pre (m := m) (k := k) (A := fun w' => ∃ n, w' = w.drewN n) (B := fun w' => ∃ n, w' = w1.drewN n) (af := af) hns hd ht (by simpa using hms) (by simpa using hf) ?_ ?_ ?_ ?_ _ _ _ _ (by simp) ?_ ?_ ?_ ?_ ?_
  · intro i o hi hik ho
    have ho' : l'.toArray[i]? = some o := by
      rw [← ho]; simpa using hsame i hi hik
    obtain ⟨v, h1, h2⟩ := q4 i o (by omega) hi ho'
    exact ⟨v, h1, yieldsIn_turn hdst' h2⟩
  · intro i o hi hik ho
    have ho' : l'.toArray[i]? = some o := by
      rw [← ho]; simpa using hsame i hi hik
    obtain ⟨v, h1, h2⟩ := r4 i o (by omega) hi ho'
    exact ⟨v, h1, yieldsIn_turn hdst' h2⟩
  · intro o _ ho
    have : o = ok := by
      have : l[k]? = some o := by simpa using ho
      rw [hok] at this
      exact (Option.some.inj this).symm
    subst this
    refine ⟨by unfold Region.wanted; rw [hwt], u, hu, ?_⟩
    rintro _ ⟨n, rfl⟩
    exact ⟨_, hrun n, n, rfl⟩
  · intro w' hw'
    rw [if_pos hkm] at hw'
    obtain ⟨n, rfl⟩ := hw'
    have h1 := wpAny_tail (P := P) (Q := Q) (ops := l.toArray) (l.drop m) m af (w1.drewN n) (by simp; omega) (by intro j; simp) ?_ (htail n)
    · simpa using h1
    · intro i hi his
      have h2 := List.all_eq_true.1 hr i (List.mem_range.2 (by simp at his; omega))
      simp only [Bool.or_eq_true, decide_eq_true_eq] at h2
      rcases h2 with h2 | h2
      · omega
      · simpa using h2
  · exact fun i _ => repl_getD _ i
  · exact fun i o _ hl => by rw [repl_getD] at hl; cases hl
  · simp [List.count_replicate]
  · refine ⟨q1, q2, fun t ht' => q3 t fun j p _ hj hp e => ?_⟩
    have h3 := hdst' j
    rw [hp] at h3
    cases ho : l.toArray[j]? with
    | none => rw [ho] at h3; simp [e] at h3
    | some o =>
      rw [ho] at h3
      have := ht' j o hj ho (by simpa [e] using h3.symm)
      rw [repl_getD] at this
      cases this
  · rw [repl_getD, if_neg (by simp)]
    exact ⟨1, rfl⟩

theorem region_lit {id : Nat} {l l0 : List Oper} {a : Act} {w : World} (h : l0 = l) (g : (Code.region id l.toArray true).wp P Q a w) : (Code.region id l0.toArray true).wp P Q a w := by rw [h]; exact g

/-- the same in the shape of a walk: F, what the walk leans on, holds ahead of the block and behind it; ok', the stand-in -/
theorem region_alloc' {id : Nat} (m k : Nat) {l l' pre : List Oper} {a : Act} {w : World} {ok : Oper} (w1 : World) (u : Value) (ok' : Oper) (F : World → Prop) (hm : P.follows .mixedOrders = true)
    (hl' : l.set k ok' = l') (hpre : l'.take m = pre)
    (hns : Region.noSelect l.toArray = true) (hns' : Region.noSelect l'.toArray = true)
    (hd : depsOk l.toArray m = true) (hd' : depsOk l'.toArray m = true) (ht : tailOk l.toArray m = true) (hms : m < l.length) (hkm : k < m)
    (hdd : ok'.dst = ok.dst)
    (hf : (firstN l.length m).toList.count false = l.length - m)
    (hr : ((List.range (l.length + 1)).all fun i => decide (i < m) || decide (Region.ready .any l.toArray (firstN l.length i) = if i < l.length then [i] else [])) = true)
    (hok : l[k]? = some ok) (hwt : ok.guard = none) (hF : F w) (hF1 : F w1)
    (hwalk : ∃ af : Act, (∀ w0, F w0 → wpQuiet P l'.toArray (fun w' => ∃ n, w' = w0.drewN n) (fun x => x = af) pre a) ∧
      (∀ d, ok.dst = some d → d < af.tmps.size → af.tmps[d]? = some u) ∧
      (∀ n, (execOp af.eval ok).run P (w.drewN n) = .ok (.value u) (w1.drewN n)) ∧
      (∀ n, wpList P l.toArray Q (l.drop m) af (w1.drewN n))) : (Code.region id l.toArray true).wp P Q a w := by
  obtain ⟨af, h1, h2, h3, h4⟩ := hwalk
  refine region_alloc hm hns hns' hd hd' ht hms (by rw [← hl']; simp) hpre hkm (fun g => ?_) (fun i _ hne => ?_) hf hr (h1 w hF) (h1 w1 hF1) hok hwt h2 h3 h4
  · rw [← hl']
    by_cases e : k = g
    · subst e
      have hlt : k < l.length := (List.getElem?_eq_some_iff.1 hok).1
      have hk' : l[k] = ok := by have := hok; rw [List.getElem?_eq_getElem hlt] at this; exact Option.some.inj this
      simp [hlt, hdd, hk']
    · simp [List.getElem?_set_ne e]
  · rw [← hl', List.getElem?_set_ne (Ne.symm hne)]

/-- the tail's law in the shape of a walk -/
theorem region_tail' {id m : Nat} {l pre : List Oper} {C : World → Prop} {a : Act} {w : World} (hm : P.follows .mixedOrders = true) (hns : Region.noSelect l.toArray = true)
    (hd : depsOk l.toArray m = true) (ht : tailOk l.toArray m = true) (hms : m < l.length) (hpre : l.take m = pre)
    (hf : (firstN l.length m).toList.count false = l.length - m)
    (hr : ((List.range (l.length + 1)).all fun i => decide (i < m) || decide (Region.ready .any l.toArray (firstN l.length i) = if i < l.length then [i] else [])) = true)
    (hC : C { w with drawn := w.drawn + 1 })
    (hwalk : ∃ af : Act, wpQuiet P l.toArray C (fun x => x = af) pre a ∧ (∀ w', C w' → wpList P l.toArray Q (l.drop m) af w')) : (Code.region id l.toArray true).wp P Q a w := by
  obtain ⟨af, h1, h2⟩ := hwalk
  exact region_tail hm hns hd ht hms hpre hf hr hC af h1 h2

end
end Go.Proofs.Qxb6626501aFmt
