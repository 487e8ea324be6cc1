namespace Go.Proofs.Qxb6626435a
set_option linter.unusedVariables false

/-- the cells from a up to b -/
def seg (l : List Nat) (a b : Nat) : List Nat := (l.take b).drop a

theorem seg_snoc (l : List Nat) (a b : Nat) (hab : a ≤ b) (hb : b < l.length) : seg l a (b + 1) = seg l a b ++ [l[b]] := by
  unfold seg
  rw [List.take_succ_eq_append_getElem hb, List.drop_append_of_le_length (by rw [List.length_take]; omega)]
theorem seg_self (l : List Nat) (a : Nat) : seg l a a = [] := by
  unfold seg; rw [List.drop_eq_nil_iff, List.length_take]; omega
theorem seg_set (l : List Nat) (a b k v : Nat) (h : b ≤ k) : seg (l.set k v) a b = seg l a b := by
  unfold seg; rw [List.take_set_of_le h]
theorem take_set_le (l : List Nat) (b k v : Nat) (h : b ≤ k) : (l.set k v).take b = l.take b := List.take_set_of_le h
theorem seg_append (l : List Nat) (a b c : Nat) (hab : a ≤ b) (hbc : b ≤ c) : seg l a b ++ seg l b c = seg l a c := by
  unfold seg
  have h1 : l.take b = (l.take c).take b := by rw [List.take_take, Nat.min_eq_left hbc]
  rw [h1]
  generalize l.take c = m
  by_cases h : b ≤ m.length
  · have e : m.drop b = (m.drop a).drop (b - a) := by rw [List.drop_drop]; congr 1; omega
    have e2 : (m.take b).drop a = (m.drop a).take (b - a) := by rw [List.drop_take]
    rw [e, e2, List.take_append_drop]
  · rw [List.take_of_length_le (by omega), List.drop_eq_nil_of_le (show m.length ≤ b by omega), List.append_nil]
theorem seg_cut (l : List Nat) (a b : Nat) : seg l a b = seg l a (min b l.length) := by
  unfold seg
  by_cases h : b ≤ l.length
  · rw [Nat.min_eq_left h]
  · rw [Nat.min_eq_right (by omega), List.take_of_length_le (by omega), List.take_of_length_le (Nat.le_refl _)]
theorem seg_of_take (l m : List Nat) (a b c : Nat) (hb : b ≤ c) (h : l.take c = m.take c) : seg l a b = seg m a b := by
  unfold seg
  have e1 : l.take b = (l.take c).take b := by rw [List.take_take, Nat.min_eq_left hb]
  have e2 : m.take b = (m.take c).take b := by rw [List.take_take, Nat.min_eq_left hb]
  rw [e1, e2, h]
theorem seg_zero (l : List Nat) (b : Nat) : seg l 0 b = l.take b := by unfold seg; rw [List.drop_zero]
theorem seg_past (l : List Nat) (a b : Nat) (h : l.length ≤ a) : seg l a b = [] := by
  unfold seg; rw [List.drop_eq_nil_iff, List.length_take]; omega
theorem seg_mem (l : List Nat) (a b : Nat) (v : Nat) (h : v ∈ seg l a b) : v ∈ l := List.mem_of_mem_take (List.mem_of_mem_drop h)

theorem copy_step (ss xs : List Nat) (j : Nat) (h1 : j < ss.length) (h2 : j < xs.length) (he : ss.take j = xs.take j) : (ss.set j xs[j]).take (j + 1) = xs.take (j + 1) := by
  rw [List.take_succ_eq_append_getElem (by rw [List.length_set]; exact h1), List.take_succ_eq_append_getElem h2, take_set_le _ _ _ _ (Nat.le_refl _), he]
  simp
theorem copy_done (ss xs : List Nat) (n : Nat) (h1 : ss.length = n) (h2 : xs.length = n) (he : ss.take n = xs.take n) : ss = xs := by
  rwa [List.take_of_length_le (by omega), List.take_of_length_le (by omega)] at he

/-- each run of w cells, from a multiple of w on, is sorted -/
def Runs (w : Nat) (l : List Nat) : Prop := ∀ q, (seg l (q * w) (q * w + w)).Pairwise (· ≤ ·)
theorem runs_one (l : List Nat) : Runs 1 l := by
  intro q
  by_cases h : q < l.length
  · rw [Nat.mul_one, seg_snoc l q q (Nat.le_refl _) h, seg_self]; simp
  · rw [Nat.mul_one, seg_past l q _ (by omega)]; exact List.Pairwise.nil
theorem runs_all (w : Nat) (l : List Nat) (h : l.length ≤ w) (hr : Runs w l) : l.Pairwise (· ≤ ·) := by
  have := hr 0
  rw [Nat.zero_mul, Nat.zero_add, seg_zero, List.take_of_length_le h] at this
  exact this

/-- inside a merge: 'ss' the runs, 'ds' what is written; i and j the two readers, k the writer -/
structure Mg (ss ds0 ds : List Nat) (lo mid hi i j k : Nat) : Prop where
  i0 : lo ≤ i
  i1 : i ≤ mid
  j0 : mid ≤ j
  j1 : j ≤ hi
  ke : k + mid = i + j
  len : ds.length = ss.length
  keep : ds.take lo = ds0.take lo
  perm : (seg ds lo k).Perm (seg ss lo i ++ seg ss mid j)
  srt : (seg ds lo k).Pairwise (· ≤ ·)
  ui : ∀ (h : i < ss.length), i < mid → ∀ m ∈ seg ds lo k, m ≤ ss[i]
  uj : ∀ (h : j < ss.length), j < hi → ∀ m ∈ seg ds lo k, m ≤ ss[j]

theorem Mg.start (ss ds0 : List Nat) (lo mid hi : Nat) (h1 : lo ≤ mid) (h2 : mid ≤ hi) (hl : ds0.length = ss.length) : Mg ss ds0 ds0 lo mid hi lo mid lo where
  i0 := Nat.le_refl _
  i1 := h1
  j0 := Nat.le_refl _
  j1 := h2
  ke := by omega
  len := hl
  keep := rfl
  perm := by rw [seg_self, seg_self, seg_self]; exact List.Perm.refl _
  srt := by rw [seg_self]; exact List.Pairwise.nil
  ui := fun _ _ m hm => by rw [seg_self] at hm; cases hm
  uj := fun _ _ m hm => by rw [seg_self] at hm; cases hm

/-- in a sorted segment the next is no smaller -/
theorem seg_next (l : List Nat) (a b i : Nat) (ha : a ≤ i) (hb : i + 1 < b) (hl : i + 1 < l.length) (hs : (seg l a b).Pairwise (· ≤ ·)) : l[i] ≤ l[i + 1] := by
  have e : seg l a (i + 1 + 1) = seg l a i ++ [l[i]] ++ [l[i + 1]] := by
    rw [seg_snoc l a (i + 1) (by omega) hl, seg_snoc l a i ha (by omega)]
  have e2 : seg l a b = seg l a (i + 1 + 1) ++ seg l (i + 1 + 1) b := (seg_append l a (i + 1 + 1) b (by omega) (by omega)).symm
  rw [e2, e] at hs
  have h1 := (List.pairwise_append.1 hs).1
  have h2 := (List.pairwise_append.1 h1).2.2
  exact h2 l[i] (by simp) l[i + 1] (by simp)

theorem seg_put (ds : List Nat) (lo k v : Nat) (h1 : lo ≤ k) (h2 : k < ds.length) : seg (ds.set k v) lo (k + 1) = seg ds lo k ++ [v] := by
  rw [seg_snoc _ lo k h1 (by rw [List.length_set]; exact h2), seg_set ds lo k k v (Nat.le_refl _)]
  simp

theorem Mg.takeI {ss ds0 ds : List Nat} {lo mid hi i j k : Nat} (h : Mg ss ds0 ds lo mid hi i j k) (hm : mid ≤ hi) (hh : hi ≤ ss.length) (hi' : i < mid) (hs : (seg ss lo mid).Pairwise (· ≤ ·))
    (hle : ∀ (hj : j < ss.length), j < hi → ss[i]'(by omega) ≤ ss[j]) : Mg ss ds0 (ds.set k (ss[i]'(by omega))) lo mid hi (i + 1) j (k + 1) := by
  have i0 := h.i0
  have j0 := h.j0
  have j1 := h.j1
  have ke := h.ke
  have hlen := h.len
  have hil : i < ss.length := by omega
  have hu := h.ui hil hi'
  have hput := seg_put ds lo k ss[i] (by omega) (by omega)
  refine ⟨by omega, by omega, j0, j1, by omega, by rw [List.length_set]; exact hlen, by rw [take_set_le _ _ _ _ (by omega)]; exact h.keep, ?_, ?_, ?_, ?_⟩
  · rw [hput, seg_snoc ss lo i i0 hil]
    refine (List.Perm.append_right [ss[i]] h.perm).trans ?_
    rw [List.append_assoc, List.append_assoc]
    exact List.Perm.append_left _ List.perm_append_comm
  · rw [hput, List.pairwise_append]
    refine ⟨h.srt, List.pairwise_singleton _ _, fun m hm v hv => ?_⟩
    rw [List.mem_singleton] at hv
    subst hv
    exact hu m hm
  · intro hl2 hlt m hm
    rw [hput, List.mem_append, List.mem_singleton] at hm
    have hn := seg_next ss lo mid i i0 (by omega) hl2 hs
    rcases hm with hm | rfl
    · exact Nat.le_trans (hu m hm) hn
    · exact hn
  · intro hj hjh m hm
    rw [hput, List.mem_append, List.mem_singleton] at hm
    rcases hm with hm | rfl
    · exact h.uj hj hjh m hm
    · exact hle hj hjh

theorem Mg.takeJ {ss ds0 ds : List Nat} {lo mid hi i j k : Nat} (h : Mg ss ds0 ds lo mid hi i j k) (hm : mid ≤ hi) (hh : hi ≤ ss.length) (hj' : j < hi) (hs : (seg ss mid hi).Pairwise (· ≤ ·))
    (hle : ∀ (hi0 : i < ss.length), i < mid → ss[j]'(by omega) ≤ ss[i]) : Mg ss ds0 (ds.set k (ss[j]'(by omega))) lo mid hi i (j + 1) (k + 1) := by
  have i0 := h.i0
  have i1 := h.i1
  have j0 := h.j0
  have ke := h.ke
  have hlen := h.len
  have hjl : j < ss.length := by omega
  have hu := h.uj hjl hj'
  have hput := seg_put ds lo k ss[j] (by omega) (by omega)
  refine ⟨i0, i1, by omega, by omega, by omega, by rw [List.length_set]; exact hlen, by rw [take_set_le _ _ _ _ (by omega)]; exact h.keep, ?_, ?_, ?_, ?_⟩
  · rw [hput, seg_snoc ss mid j j0 hjl, ← List.append_assoc]
    exact List.Perm.append_right [ss[j]] h.perm
  · rw [hput, List.pairwise_append]
    refine ⟨h.srt, List.pairwise_singleton _ _, fun m hm v hv => ?_⟩
    rw [List.mem_singleton] at hv
    subst hv
    exact hu m hm
  · intro hl2 hlt m hm
    rw [hput, List.mem_append, List.mem_singleton] at hm
    rcases hm with hm | rfl
    · exact h.ui hl2 hlt m hm
    · exact hle hl2 hlt
  · intro hj2 hjh m hm
    rw [hput, List.mem_append, List.mem_singleton] at hm
    have hn := seg_next ss mid hi j j0 (by omega) hj2 hs
    rcases hm with hm | rfl
    · exact Nat.le_trans (hu m hm) hn
    · exact hn

/-- between two merges: the first m runs of 2w cells are merged -/
structure Lv (ss ds : List Nat) (w m : Nat) : Prop where
  len : ds.length = ss.length
  perm : (ds.take (m * (2 * w))).Perm (ss.take (m * (2 * w)))
  runs : ∀ q, q < m → (seg ds (q * (2 * w)) (q * (2 * w) + 2 * w)).Pairwise (· ≤ ·)

theorem Lv.start (ss ds : List Nat) (w : Nat) (h : ds.length = ss.length) : Lv ss ds w 0 := ⟨h, by simp, fun q hq => by omega⟩

theorem Lv.next {ss ds0 ds : List Nat} {w m lo mid hi : Nat} (h : Lv ss ds0 w m) (hlo : lo = m * (2 * w)) (hmid : mid = min (lo + w) ss.length) (hhi : hi = min (lo + 2 * w) ss.length) (hlt : lo < ss.length)
    (g : Mg ss ds0 ds lo mid hi mid hi hi) : Lv ss ds w (m + 1) := by
  have e : (m + 1) * (2 * w) = lo + 2 * w := by rw [Nat.add_mul, Nat.one_mul, hlo]
  have hd : ds.take (lo + 2 * w) = ds.take lo ++ seg ds lo hi := by
    have h1 : ds.take (lo + 2 * w) = seg ds 0 hi := by rw [← seg_zero, seg_cut, g.len, ← hhi]
    rw [h1, ← seg_zero ds lo, seg_append ds 0 lo hi (by omega) (by omega)]
  have hs : ss.take (lo + 2 * w) = ss.take lo ++ seg ss lo hi := by
    have h1 : ss.take (lo + 2 * w) = seg ss 0 hi := by rw [← seg_zero, seg_cut, ← hhi]
    rw [h1, ← seg_zero ss lo, seg_append ss 0 lo hi (by omega) (by omega)]
  refine ⟨g.len, ?_, ?_⟩
  · rw [e, hd, hs, g.keep]
    refine List.Perm.append (by rw [hlo]; exact h.perm) ?_
    have hp := g.perm
    rw [seg_append ss lo mid hi g.i0 g.j0] at hp
    exact hp
  · intro q hq
    by_cases hqm : q = m
    · subst hqm
      rw [← hlo, seg_cut, g.len, ← hhi]
      exact g.srt
    · have hle : q * (2 * w) + 2 * w ≤ lo := by
        have : (q + 1) * (2 * w) ≤ m * (2 * w) := Nat.mul_le_mul_right _ (by omega)
        rw [Nat.add_mul, Nat.one_mul] at this
        omega
      rw [seg_of_take ds ds0 _ _ lo hle g.keep]
      exact h.runs q (by omega)

theorem Lv.next_of {ss ds0 ds : List Nat} {w m lo mid hi i j k : Nat} (h : Lv ss ds0 w m) (hlo : lo = m * (2 * w)) (hmid : mid = min (lo + w) ss.length) (hhi : hi = min (lo + 2 * w) ss.length) (hlt : lo < ss.length)
    (g : Mg ss ds0 ds lo mid hi i j k) (e1 : i = mid) (e2 : j = hi) (e3 : k = hi) : Lv ss ds w (m + 1) := by
  subst e1 e2 e3
  exact h.next hlo hmid hhi hlt g

theorem Lv.done {ss ds : List Nat} {w m : Nat} (h : Lv ss ds w m) (hw : ss.length ≤ m * (2 * w)) : ds.Perm ss ∧ Runs (2 * w) ds := by
  refine ⟨?_, fun q => ?_⟩
  · have := h.perm
    rw [List.take_of_length_le (by rw [h.len]; exact hw), List.take_of_length_le hw] at this
    exact this
  · by_cases hq : q < m
    · exact h.runs q hq
    · rw [seg_past ds _ _ (by rw [h.len]; exact Nat.le_trans hw (Nat.mul_le_mul_right _ (by omega)))]
      exact List.Pairwise.nil

theorem run_left (W m lo mid : Nat) (ss : List Nat) (hR : Runs W ss) (hlo : lo = m * (2 * W)) (hmid : mid = min (lo + W) ss.length) : (seg ss lo mid).Pairwise (· ≤ ·) := by
  have h := hR (2 * m)
  have e : 2 * m * W = lo := by rw [hlo, Nat.mul_comm 2 m, Nat.mul_assoc]
  rw [e, seg_cut, ← hmid] at h
  exact h
theorem run_right (W m lo mid hi : Nat) (ss : List Nat) (hR : Runs W ss) (hlo : lo = m * (2 * W)) (hmid : mid = min (lo + W) ss.length) (hhi : hi = min (lo + 2 * W) ss.length) : (seg ss mid hi).Pairwise (· ≤ ·) := by
  by_cases hc : lo + W ≤ ss.length
  · have h := hR (2 * m + 1)
    have e : (2 * m + 1) * W = lo + W := by rw [Nat.add_mul, Nat.one_mul, hlo, Nat.mul_comm 2 m, Nat.mul_assoc]
    have e2 : mid = lo + W := by omega
    rw [e, seg_cut, show lo + W + W = lo + 2 * W from by omega, ← hhi, ← e2] at h
    exact h
  · rw [seg_past ss mid hi (by omega)]
    exact List.Pairwise.nil
end Go.Proofs.Qxb6626435a
