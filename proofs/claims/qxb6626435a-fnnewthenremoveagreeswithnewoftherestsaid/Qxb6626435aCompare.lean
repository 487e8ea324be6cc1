import Derived.Test.Qxb6626435aCmp
import Derived.Deep.RegionWith
namespace Go.Proofs.Qxb6626435a
open Go.RowKit Go.Sort
set_option linter.unusedVariables false

theorem be0_box (x b : Nat) (t : TypeId) (W : World) (h : W.heap[b]? = some (.cells (enc x).toArray t (0, 0))) (n : Nat) (os : Array Obj) :
    Calls Try.prog 31 #[.agg #[], .slice (some ⟨b, 0, none⟩) 20 20] (grow (W.drewN n) os) fun e w' => e = .returned (.int .u64 (seg0 x)) ∧ ∃ q os', w' = grow ((grow (W.drewN n) os).drewN q) os' := by
  have hlt : b < (W.drewN n).heap.size := by
    obtain ⟨hlt, _⟩ := Array.getElem?_eq_some_iff.1 h
    exact hlt
  have hb := box_cells x b t (grow (W.drewN n) os) ((heap_grow_old _ _ hlt).trans h)
  refine (be64_any b 0 20 20 _ _ _ _ _ _ _ _ _ (by omega) (byteAt_lt x 0) (byteAt_lt x 1) (byteAt_lt x 2) (byteAt_lt x 3) (byteAt_lt x 4) (byteAt_lt x 5) (byteAt_lt x 6) (byteAt_lt x 7) (hb 0 (by omega)) (hb 1 (by omega)) (hb 2 (by omega)) (hb 3 (by omega)) (hb 4 (by omega)) (hb 5 (by omega)) (hb 6 (by omega)) (hb 7 (by omega))).mono ?_
  rintro e w' ⟨rfl, hg⟩
  exact ⟨rfl, hg⟩
theorem be8_box (x b : Nat) (t : TypeId) (W : World) (h : W.heap[b]? = some (.cells (enc x).toArray t (0, 0))) (n : Nat) (os : Array Obj) :
    Calls Try.prog 31 #[.agg #[], .slice (some ⟨b, 8, none⟩) 12 12] (grow (W.drewN n) os) fun e w' => e = .returned (.int .u64 (seg8 x)) ∧ ∃ q os', w' = grow ((grow (W.drewN n) os).drewN q) os' := by
  have hlt : b < (W.drewN n).heap.size := by
    obtain ⟨hlt, _⟩ := Array.getElem?_eq_some_iff.1 h
    exact hlt
  have hb := box_cells x b t (grow (W.drewN n) os) ((heap_grow_old _ _ hlt).trans h)
  refine (be64_any b 8 12 12 _ _ _ _ _ _ _ _ _ (by omega) (byteAt_lt x 8) (byteAt_lt x 9) (byteAt_lt x 10) (byteAt_lt x 11) (byteAt_lt x 12) (byteAt_lt x 13) (byteAt_lt x 14) (byteAt_lt x 15) (hb 8 (by omega)) (hb 9 (by omega)) (hb 10 (by omega)) (hb 11 (by omega)) (hb 12 (by omega)) (hb 13 (by omega)) (hb 14 (by omega)) (hb 15 (by omega))).mono ?_
  rintro e w' ⟨rfl, hg⟩
  exact ⟨rfl, hg⟩
theorem be16_box (x b : Nat) (t : TypeId) (W : World) (h : W.heap[b]? = some (.cells (enc x).toArray t (0, 0))) (n : Nat) (os : Array Obj) :
    Calls Try.prog 34 #[.agg #[], .slice (some ⟨b, 16, none⟩) 4 4] (grow (W.drewN n) os) fun e w' => e = .returned (.int .u32 (seg16 x)) ∧ ∃ q os', w' = grow ((grow (W.drewN n) os).drewN q) os' := by
  have hlt : b < (W.drewN n).heap.size := by
    obtain ⟨hlt, _⟩ := Array.getElem?_eq_some_iff.1 h
    exact hlt
  have hb := box_cells x b t (grow (W.drewN n) os) ((heap_grow_old _ _ hlt).trans h)
  refine (be32_any b 16 4 4 _ _ _ _ _ (by omega) (byteAt_lt x 16) (byteAt_lt x 17) (byteAt_lt x 18) (byteAt_lt x 19) (hb 16 (by omega)) (hb 17 (by omega)) (hb 18 (by omega)) (hb 19 (by omega))).mono ?_
  rintro e w' ⟨rfl, hg⟩
  exact ⟨rfl, hg⟩
theorem cmp32_grown (x y : Int) (W : World) (n : Nat) (os : Array Obj) : Calls Try.prog 33 #[.int .u32 x, .int .u32 y] (grow (W.drewN n) os) fun e w' => e = .returned (.int .i64 (sgn x y)) ∧ ∃ q os', w' = grow ((grow (W.drewN n) os).drewN q) os' := by
  refine (cmp32_any x y _).mono ?_
  rintro e w' ⟨rfl, rfl⟩
  exact ⟨rfl, 0, #[], (grow_empty _).symm⟩

structure Boxes (w : World) (x y : Nat) (wr : World) : Prop where
  gr : Grew w wr
  bx : wr.heap[w.heap.size]? = some (.cells (enc x).toArray 26 (0, 0))
  bxy : wr.heap[w.heap.size + 1]? = some (.cells (enc y).toArray 26 (0, 0))
theorem Boxes.gone {w wr : World} {x y : Nat} (h : Boxes w x y wr) (n : Nat) (os : Array Obj) : Boxes w x y (grow (wr.drewN n) os) where
  gr := h.gr.trans ⟨_, _, rfl⟩
  bx := (heap_grow_old (wr.drewN n) os (show w.heap.size < wr.heap.size from (Array.getElem?_eq_some_iff.1 h.bx).1)).trans h.bx
  bxy := (heap_grow_old (wr.drewN n) os (show w.heap.size + 1 < wr.heap.size from (Array.getElem?_eq_some_iff.1 h.bxy).1)).trans h.bxy

set_option maxHeartbeats 2000000 in
set_option maxRecDepth 100000 in
theorem compare_lt (x y : Nat) (hx : x < top) (hy : y < top) (w : World) :
    Calls Try.prog 16 #[.agg (enc x).toArray, .agg (enc y).toArray] w fun e w' => e = .returned (.int .i64 (sgn x y)) ∧ Grew w w' := by
  have hmix := mixed
  have HS : Hid (sgn x y = if seg0 x = seg0 y then (if seg8 x = seg8 y then sgn (seg16 x) (seg16 y) else sgn (seg8 x) (seg8 y)) else sgn (seg0 x) (seg0 y)) := sgn_segs x y hx hy
  have hI : Boxes w x y ((w.alloc (.cells (enc x).toArray 26)).alloc (.cells (enc y).toArray 26)) := ⟨((Grew.refl _).alloc _).alloc _, heap_alloc2_old _ _ _, heap_alloc2_new _ _ _⟩
  go_enter Try.func16, Try.ntmps16
  go_wp2
  go_loopw [5] (fun i wr => Boxes w x y wr ∧ (i = .int .i64 0 ∨ (i = .int .i64 8 ∧ Hid (seg0 x = seg0 y)) ∨ (i = .int .i64 16 ∧ Hid (seg0 x = seg0 y) ∧ Hid (seg8 x = seg8 y)))) (fun i _ => 16 - (intOf i).toNat)
  case atStart => exact ⟨hI, Or.inl rfl⟩
  case round =>
    clear hI
    obtain ⟨hI, hk⟩ := hrel
    rcases hk with rfl | ⟨rfl, h0⟩ | ⟨rfl, h0, h8⟩
    · have c1 := be0_box x _ 26 wr hI.bx
      have c2 := be0_box y _ 26 wr hI.bxy
      generalize hpx : seg0 x = px at c1
      generalize hpy : seg0 y = py at c2
      have HPX : Hid (seg0 x = px) := hpx
      have HPY : Hid (seg0 y = py) := hpy
      clear hpx hpy
      by_cases hne : px = py
      · subst hne
        go_wp2
        go_quiet_grown (first | (go_at_call_of 31 (Value.slice (some ⟨w.heap.size, 0, none⟩) 20 20); refine Calls.grown_of (c1 _ _)) | (go_at_call 31; refine Calls.grown_of (c2 _ _)))
        clear c1 c2
        go_wp2
        go_roundw
        case rel => exact ⟨hI.gone _ _, Or.inr (Or.inl ⟨rfl, True.intro⟩)⟩
        case measure => simp [intOf]
      · have hne2 : (px != py) = true := by simpa using hne
        go_wp2
        go_quiet_grown (first | (go_at_call_of 31 (Value.slice (some ⟨w.heap.size, 0, none⟩) 20 20); refine Calls.grown_of (c1 _ _)) | (go_at_call 31; refine Calls.grown_of (c2 _ _)))
        clear c1 c2
        go_wp2_with (go_at_call 32; refine (cmp64_any _ _ _).mono ?_; rintro e w' ⟨rfl, rfl⟩)
        go_ret
        exact ⟨ret_i64 (by rw [HS.out, if_neg (by rw [HPX.out, HPY.out]; exact hne), HPX.out, HPY.out]), (hI.gone _ _).gr⟩
    · have c1 := be8_box x _ 26 wr hI.bx
      have c2 := be8_box y _ 26 wr hI.bxy
      generalize hpx : seg8 x = px at c1
      generalize hpy : seg8 y = py at c2
      have HPX : Hid (seg8 x = px) := hpx
      have HPY : Hid (seg8 y = py) := hpy
      clear hpx hpy
      by_cases hne : px = py
      · subst hne
        go_wp2
        go_quiet_grown (first | (go_at_call_of 31 (Value.slice (some ⟨w.heap.size, 8, none⟩) 12 12); refine Calls.grown_of (c1 _ _)) | (go_at_call 31; refine Calls.grown_of (c2 _ _)))
        clear c1 c2
        go_wp2
        go_roundw
        case rel => exact ⟨hI.gone _ _, Or.inr (Or.inr ⟨rfl, h0, True.intro⟩)⟩
        case measure => simp [intOf]
      · have hne2 : (px != py) = true := by simpa using hne
        go_wp2
        go_quiet_grown (first | (go_at_call_of 31 (Value.slice (some ⟨w.heap.size, 8, none⟩) 12 12); refine Calls.grown_of (c1 _ _)) | (go_at_call 31; refine Calls.grown_of (c2 _ _)))
        clear c1 c2
        go_wp2_with (go_at_call 32; refine (cmp64_any _ _ _).mono ?_; rintro e w' ⟨rfl, rfl⟩)
        go_ret
        exact ⟨ret_i64 (by rw [HS.out, if_pos h0.out, if_neg (by rw [HPX.out, HPY.out]; exact hne), HPX.out, HPY.out]), (hI.gone _ _).gr⟩
    · have c1 := be16_box x _ 26 wr hI.bx
      have c2 := be16_box y _ 26 wr hI.bxy
      have c3 := fun p q => cmp32_grown p q wr
      generalize hpx : seg16 x = px at c1
      generalize hpy : seg16 y = py at c2
      have HPX : Hid (seg16 x = px) := hpx
      have HPY : Hid (seg16 y = py) := hpy
      clear hpx hpy
      go_wp2
      go_quiet_grown (first | (go_at_call_of 34 (Value.slice (some ⟨w.heap.size, 16, none⟩) 4 4); refine Calls.grown_of (c1 _ _)) | (go_at_call 34; refine Calls.grown_of (c2 _ _)) | (go_at_call 33; refine Calls.grown_of (c3 _ _ _ _)))
      clear c1 c2 c3
      go_wp2
      go_ret
      exact ⟨ret_i64 (by rw [HS.out, if_pos h0.out, if_pos h8.out, HPX.out, HPY.out]), (hI.gone _ _).gr⟩

theorem byteAt_mod (x i : Nat) (hi : i < 20) : byteAt (x % top) i = byteAt x i := by
  unfold byteAt
  rw [top_eq, show (256 : Nat) ^ 20 = 256 ^ (19 - i) * 256 ^ (i + 1) from by rw [← Nat.pow_add]; congr 1; omega, Nat.mod_mul_right_div_self]
  rw [show (256 : Nat) ^ (i + 1) = 256 * 256 ^ i from by rw [Nat.pow_succ, Nat.mul_comm], Nat.mod_mul_right_mod]
theorem enc_mod (x : Nat) : enc (x % top) = enc x := by
  unfold enc
  apply List.map_congr_left
  intro i hi
  rw [byteAt_mod x i (by simpa using hi)]

/-- the comparison, at whatever Nats: by their remainders by 2^160 -/
def cf (x y : Nat) : Int := sgn ((x % top : Nat) : Int) ((y % top : Nat) : Int)
theorem compare_any (x y : Nat) (w : World) :
    Calls Try.prog 16 #[.agg (enc x).toArray, .agg (enc y).toArray] w fun e w' => e = .returned (.int .i64 (cf x y)) ∧ Grew w w' := by
  have ht : 0 < top := by unfold top; omega
  have h := compare_lt (x % top) (y % top) (Nat.mod_lt _ ht) (Nat.mod_lt _ ht) w
  rw [enc_mod, enc_mod] at h
  exact h
end Go.Proofs.Qxb6626435a
