import Derived.Test.Qxb6626435aRingIsG
import Derived.Shelf.RegionOpenPlain
import Derived.Deep.RegionLaw
import Derived.Lib.SliceRun
import Derived.Shelf.SlicesE.Delete
namespace Go.Proofs.Qxb6626435a
open Go.RowKit Go.Sort
set_option linter.unusedVariables false

/-- 'clear' of one identifier -/
theorem clear_id (w : World) (ty : TypeId) (b o c : Nat) (ht : w.there b o 20) :
    (Builtin.clear_ #[24] ty #[.slice (some ⟨b, o, none⟩) 1 c]).run Try.prog w = .ok (.tuple #[]) (w.setCells b o (enc 0)) := by
  have hzc : (Builtin.zeroCells (Value.agg #[.int .u8 0, .int .u8 0, .int .u8 0, .int .u8 0, .int .u8 0, .int .u8 0, .int .u8 0, .int .u8 0, .int .u8 0, .int .u8 0, .int .u8 0, .int .u8 0, .int .u8 0, .int .u8 0, .int .u8 0, .int .u8 0, .int .u8 0, .int .u8 0, .int .u8 0, .int .u8 0]).cells 1).toList = enc 0 := by kernel_rfl
  have hst := run_storeCells_cells (P := Try.prog) b o (enc 0) 0 w (fun j hj => (ht j (by rw [enc_length] at hj; omega)).1) (fun j hj => (ht j (by rw [enc_length] at hj; omega)).2) (enc_one 0)
  simp only [Nat.add_zero] at hst
  simp [Builtin.clear_, run_underlying Try.underlying24, hzc, hst]

set_option maxHeartbeats 1000000 in
set_option maxRecDepth 100000 in
theorem del_id_j (b cap n i j : Nat) (hj : j = i + 1) (ys : List Nat) (hyl : ys.length = n) (hi : i < n) (hcap : n ≤ cap) (hm : cap ≤ maxLen) (hn : n ≤ 65536) (w : World) (hr : Row w b 0 ys) (ht : w.there b 0 (n * 20)) :
    Calls Try.prog 26 #[.slice (some ⟨b, 0, none⟩) n cap, .int .i64 (i : Int), .int .i64 (j : Int)] w fun e w' => e = .returned (.slice (some ⟨b, 0, none⟩) (n - 1) cap) ∧ w' = (w.drew.setCells b (i * 20) ((ys.drop (i + 1)).flatMap enc)).setCells b ((n - 1) * 20) (enc 0) := by
  obtain ⟨i0, hi0, hz0, hz1, hz2⟩ := info_parts info26
  obtain ⟨news, hnews⟩ : ∃ news, news = (ys.drop (i + 1)).flatMap enc := ⟨_, rfl⟩
  have hlen : news.length = (n - (i + 1)) * 20 := by rw [hnews, flat_len, List.length_drop, hyl]
  have hcellr : ∀ t u, news[t]? = some u → w.cell? ⟨b, (i + 1) * 20 + t, none⟩ = some u := fun t u hu => by
    have e : t = t / 20 * 20 + t % 20 := by omega
    rw [e, hnews, flat_get _ (t / 20) (t % 20) (by omega)] at hu
    obtain ⟨x, hx1, hx2⟩ := Option.bind_eq_some_iff.1 hu
    rw [List.getElem?_drop] at hx1
    have := hr _ x hx1 (t % 20) u hx2
    rwa [show 0 + (i + 1 + t / 20) * 20 + t % 20 = (i + 1) * 20 + t from by omega] at this
  obtain ⟨A, hA, hsrc⟩ : ∃ A : Addr, (if cap = j then some (⟨b, 0, none⟩ : Addr) else some ⟨b, j * 20, none⟩) = some A ∧ Hid (∀ t u, news[t]? = some u → w.drew.cell? (A.add t) = some u) := by
    by_cases h : cap = j
    · refine ⟨⟨b, 0, none⟩, by simp [h], fun t u hu => ?_⟩
      have h0 : news.length = 0 := by rw [hlen]; omega
      rw [List.length_eq_zero_iff.1 h0] at hu
      simp at hu
    · refine ⟨⟨b, j * 20, none⟩, by simp [h], fun t u hu => ?_⟩
      rw [Addr.add_lit, hj]
      exact hcellr t u hu
  have s1 : Hid (news.length = (n - j) * 20) := by rw [hj]; exact hlen
  have s2 : Hid (∀ u ∈ news, u.oneCell' = true) := by
    intro u hu
    rw [hnews] at hu
    obtain ⟨x, _, hx2⟩ := List.mem_flatMap.1 hu
    exact enc_one x u hx2
  have s3 : Hid (∀ t, t < news.length → (w.drew.cell? ⟨b, 0 + i * 20 + t, none⟩).isSome = true ∧ w.drew.frozen? ⟨b, 0 + i * 20 + t, none⟩ = false) := by
    intro t ht'
    rw [hlen] at ht'
    have := ht (i * 20 + t) (by omega)
    rwa [← Nat.add_assoc] at this
  obtain ⟨W1, hW1⟩ : ∃ W1, W1 = w.drew.setCells b (0 + i * 20) news := ⟨_, rfl⟩
  have hth : W1.there b ((n - 1) * 20) 20 := by
    rw [hW1]
    exact World.there_setCells (there_at (w := w.drew) ht (n - 1) (by omega)) _ _ _
  have hcl : ∀ ty c, (Builtin.clear_ #[24] ty #[.slice (some ⟨b, (n - 1) * 20, none⟩) 1 c]).run Try.prog W1 = .ok (.tuple #[]) (W1.setCells b ((n - 1) * 20) (enc 0)) := fun ty c => clear_id W1 ty b _ c hth
  have hW : Hid (W1 = w.drew.setCells b (0 + i * 20) news) := hW1
  have HE : Hid (W1.setCells b ((n - 1) * 20) (enc 0) = (w.drew.setCells b (i * 20) ((ys.drop (i + 1)).flatMap enc)).setCells b ((n - 1) * 20) (enc 0)) := by
    show _ = _
    rw [hW1, hnews, Nat.zero_add]
  have hij : i < j := by omega
  have hic : i ≤ cap := by omega
  have hjc : j ≤ cap := by omega
  have hjn : j ≤ n := by omega
  have HJ : Hid (j = i + 1) := hj
  have hcl2 : ∀ ty c, (Builtin.clear_ #[24] ty #[.slice (some ⟨b, (i + (n - j)) * 20, none⟩) (n - (i + (n - j))) c]).run Try.prog W1 = .ok (.tuple #[]) (W1.setCells b ((n - 1) * 20) (enc 0)) := fun ty c => by
    rw [show n - (i + (n - j)) = 1 from by omega, show i + (n - j) = n - 1 from by omega]
    exact hcl ty c
  clear hcl hj
  have hmx := mixed
  clear hW1 hth hr ht hlen hnews hcellr
  go_enter Try.func26, Try.ntmps26
  go_wp2_with fail
  go_region_law_o (refine step_append_room rfl (.tmp 22) (.tmp 25) 24 rfl 26 i0 20 Try.underlying24 hi0 hz1 b 0 i cap (by simp [Act.eval, Act.put]) A (n - j) (cap - j) news (by simp [Act.eval, Act.put]) s1.out hsrc.out s2.out (by omega) s3.out ?_; rw [← hW.out])
  go_wp2
  go_ret
  exact ⟨by rw [show n - 1 = i + (n - j) from by have := HJ.out; omega]; rfl, HE.out⟩

theorem zero41 (w : World) : (zeroValue 41).run Try.prog w = .ok (.int .u64 0) w := Try.zeroValue41 w

set_option maxHeartbeats 1000000 in
set_option maxRecDepth 100000 in
theorem del_u64_j (b cap n nh i j : Nat) (hj : j = i + 1) (g : Nat → Value) (h1 : ∀ t, t < n → (g t).oneCell' = true) (hi : i < n) (hcap : n ≤ cap) (hnh : n ≤ nh) (hn : n ≤ 65536) (w : World) (hr : w.rowIs b 41 nh g) :
    Calls Try.prog 27 #[.slice (some ⟨b, 0, none⟩) n cap, .int .i64 (i : Int), .int .i64 (j : Int)] w fun e w' => e = .returned (.slice (some ⟨b, 0, none⟩) (n - 1) cap) ∧ w' = (w.drew.setCells b i ((List.range (n - j)).map fun t => g (j + t))).setCells b (n - 1) [.int .u64 0] := by
  obtain ⟨i0, hi0, hz0, hz1, hz2⟩ := info_parts info41
  obtain ⟨news, hnews⟩ : ∃ news, news = (List.range (n - j)).map fun t => g (j + t) := ⟨_, rfl⟩
  have hlen : news.length = n - j := by rw [hnews]; simp
  have hcellr : ∀ t u, news[t]? = some u → w.cell? ⟨b, j + t, none⟩ = some u := fun t u hu => by
    have ht : t < n - j := by
      have := (List.getElem?_eq_some_iff.1 hu).1
      omega
    rw [hnews, List.getElem?_map, List.getElem?_range ht] at hu
    rw [hr.cell (by omega)]
    exact hu
  obtain ⟨A, hA, hsrc⟩ : ∃ A : Addr, (if cap = j then some (⟨b, 0, none⟩ : Addr) else some ⟨b, j, none⟩) = some A ∧ Hid (∀ t u, news[t]? = some u → w.drew.cell? (A.add t) = some u) := by
    by_cases h : cap = j
    · refine ⟨⟨b, 0, none⟩, by simp [h], fun t u hu => ?_⟩
      have h0 : news.length = 0 := by rw [hlen]; omega
      rw [List.length_eq_zero_iff.1 h0] at hu
      simp at hu
    · refine ⟨⟨b, j, none⟩, by simp [h], fun t u hu => ?_⟩
      rw [Addr.add_lit]
      exact hcellr t u hu
  have s1 : Hid (news.length = (n - j) * 1) := by rw [Nat.mul_one]; exact hlen
  have s2 : Hid (∀ u ∈ news, u.oneCell' = true) := by
    intro u hu
    rw [hnews] at hu
    obtain ⟨t, ht, rfl⟩ := List.mem_map.1 hu
    exact h1 _ (by have := List.mem_range.1 ht; omega)
  have s3 : Hid (∀ t, t < news.length → (w.drew.cell? ⟨b, 0 + i * 1 + t, none⟩).isSome = true ∧ w.drew.frozen? ⟨b, 0 + i * 1 + t, none⟩ = false) := by
    intro t ht'
    rw [hlen] at ht'
    refine ⟨?_, hr.drew.frozen _⟩
    rw [hr.drew.cell (by omega)]
    rfl
  obtain ⟨W1, hW1⟩ : ∃ W1, W1 = w.drew.setCells b (0 + i * 1) news := ⟨_, rfl⟩
  have hth : W1.there b (n - 1) 1 := by
    rw [hW1]
    refine World.there_setCells (w := w.drew) (fun t ht => ?_) _ _ _
    exact ⟨by rw [hr.drew.cell (by omega)]; rfl, hr.drew.frozen _⟩
  have hW : Hid (W1 = w.drew.setCells b (0 + i * 1) news) := hW1
  have HE : Hid (W1.setCells b (n - 1) [.int .u64 0] = (w.drew.setCells b i ((List.range (n - j)).map fun t => g (j + t))).setCells b (n - 1) [.int .u64 0]) := by
    show _ = _
    rw [hW1, hnews, Nat.zero_add, Nat.mul_one]
  have hij : i < j := by omega
  have hic : i ≤ cap := by omega
  have hjc : j ≤ cap := by omega
  have hjn : j ≤ n := by omega
  have HJ : Hid (j = i + 1) := hj
  have hcl2 : ∀ ty c, (Builtin.clear_ #[40] ty #[.slice (some ⟨b, i + (n - j), none⟩) (n - (i + (n - j))) c]).run Try.prog W1 = .ok (.tuple #[]) (W1.setCells b (n - 1) [.int .u64 0]) := fun ty c => by
    rw [show n - (i + (n - j)) = 1 from by omega, show i + (n - j) = n - 1 from by omega]
    exact Lib.run_clear_slice W1 40 41 ty (.int .u64 0) Try.underlying40 zero41 rfl rfl b (n - 1) 1 c (by omega) (fun t ht => (hth t ht).1) (fun t ht => (hth t ht).2)
  clear hj hW1 hth hr hlen hnews hcellr h1
  have hmx := mixed
  go_enter Try.func27, Try.ntmps27
  go_wp2_with fail
  go_region_law_o (refine step_append_room rfl (.tmp 22) (.tmp 25) 40 rfl 41 i0 1 Try.underlying40 hi0 hz1 b 0 i cap (by simp [Act.eval, Act.put]) A (n - j) (cap - j) news (by simp [Act.eval, Act.put]) s1.out hsrc.out s2.out (by omega) s3.out ?_; rw [← hW.out])
  go_wp2
  go_ret
  exact ⟨by rw [show n - 1 = i + (n - j) from by have := HJ.out; omega]; rfl, HE.out⟩
end Go.Proofs.Qxb6626435a
