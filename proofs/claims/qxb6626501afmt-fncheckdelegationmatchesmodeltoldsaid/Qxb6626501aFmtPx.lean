import Derived.Test.Qxb6626501aFmtP
namespace Go.Proofs.Qxb6626501aFmt
open Go.RowKit Go.Extern.Stop Go.Stop Go.Extern
set_option linter.unusedVariables false

def addL (t n : Nat) : Nat := if 1048576 < t ∨ 1048576 - t < n then 1048577 else t + n
def sumL (t : Nat) (ss : List ByteArray) : Nat := ss.foldl (fun t s => addL t s.size) t
def listB (t : Nat) (ss : List ByteArray) : Nat := if 65536 < ss.length then 1048577 else sumL (addL t (16 * ss.length)) ss
def capB (t : Nat) (d : CapD) : Nat :=
  if 1048576 < addL t d.lim.action.size then addL t d.lim.action.size else
  if 1048576 < listB (addL t d.lim.action.size) (d.lim.docs.getD []) then listB (addL t d.lim.action.size) (d.lim.docs.getD []) else
  listB (listB (addL t d.lim.action.size) (d.lim.docs.getD [])) (d.lim.schemas.getD [])
theorem addL_le {t : Nat} (h : t ≤ 1048577) (n : Nat) : addL t n ≤ 1048577 := by
  unfold addL
  split <;> omega
theorem sumL_le : ∀ (ss : List ByteArray) (t : Nat), t ≤ 1048577 → sumL t ss ≤ 1048577
  | [], t, h => h
  | s :: ss, t, h => sumL_le ss (addL t s.size) (addL_le h _)
theorem listB_le {t : Nat} (h : t ≤ 1048577) (ss : List ByteArray) : listB t ss ≤ 1048577 := by
  unfold listB
  split
  · omega
  · exact sumL_le _ _ (addL_le h _)
theorem capB_le {t : Nat} (h : t ≤ 1048577) (d : CapD) : capB t d ≤ 1048577 := by
  unfold capB
  split
  · exact addL_le h _
  · split
    · exact listB_le (addL_le h _) _
    · exact listB_le (listB_le (addL_le h _) _) _
theorem sumL_sat : ∀ (ss : List ByteArray), sumL 1048577 ss = 1048577
  | [] => rfl
  | s :: ss => by
    show sumL (addL 1048577 s.size) ss = 1048577
    rw [show addL 1048577 s.size = 1048577 from by unfold addL; rw [if_pos (by omega)]]
    exact sumL_sat ss
theorem sumL_drop (ss : List ByteArray) (t i : Nat) (hi : i < ss.length) : sumL t (ss.drop i) = sumL (addL t ss[i].size) (ss.drop (i + 1)) := by
  rw [List.drop_eq_getElem_cons hi]
  rfl

theorem addLen_ex (t n : Nat) (ht : t ≤ 1048577) (hn : n ≤ 9223372036854775807) (r : Nat) (hr : r = addL t n) (w : World) : Calls Tryf.prog 15 #[.int .i64 t, .int .i64 n] w fun e w' => e = .returned (.int .i64 r) ∧ w = w' := by
  unfold addL at hr
  by_cases h1 : 1048576 < t
  · rw [if_pos (.inl h1)] at hr
    subst hr
    go_enter Tryf.func15, Tryf.ntmps15
    go_wp2
    go_ret
    exact ⟨rfl, rfl⟩
  · have hs : IntKind.i64.wrap (1048576 - (t : Int)) = 1048576 - (t : Int) := by rw [IntKind.wrap_i64]; omega
    by_cases h2 : 1048576 - t < n
    · rw [if_pos (.inr h2)] at hr
      subst hr
      have h2' : 1048576 - (t : Int) < (n : Int) := by omega
      go_enter Tryf.func15, Tryf.ntmps15
      go_wp2
      go_ret
      exact ⟨rfl, rfl⟩
    · rw [if_neg (by omega)] at hr
      subst hr
      have h2' : ¬ 1048576 - (t : Int) < (n : Int) := by omega
      have hs2 : IntKind.i64.wrap ((t : Int) + (n : Int)) = (t : Int) + (n : Int) := by rw [IntKind.wrap_i64]; omega
      go_enter Tryf.func15, Tryf.ntmps15
      go_wp2
      go_ret
      exact ⟨by push_cast; rfl, rfl⟩

set_option maxHeartbeats 400000 in
theorem listBytes_ex (t : Nat) (ht : t ≤ 1048577) (a : Addr) (n k : Nat) (ss : List ByteArray) (r : Nat) (hr : r = listB t ss) (w : World) (hS : Sl w (some a) n ss) :
    Calls Tryf.prog 16 #[.int .i64 t, .slice (some a) n k] w fun e w' => e = .returned (.int .i64 r) ∧ w = w' := by
  have hbig := hS.big
  have hlen := hS.len
  have HS : Hid (Sl w (some a) n ss) := hS
  unfold listB at hr
  clear hS
  by_cases h1 : 65536 < n
  · rw [if_pos (by omega)] at hr
    subst hr
    clear hlen
    go_enter Tryf.func16, Tryf.ntmps16
    go_wp2
    go_ret
    exact ⟨rfl, rfl⟩
  · rw [if_neg (by omega), ← hlen] at hr
    have hm : IntKind.i64.wrap (16 * (n : Int)) = 16 * (n : Int) := by rw [IntKind.wrap_i64]; omega
    have hA := addLen_ex t (16 * n) ht (by omega) _ rfl
    have hr0 := addL_le ht (16 * n)
    rw [show ((16 * n : Nat) : Int) = 16 * (n : Int) from by push_cast; rfl] at hA
    have HR : Hid (r = sumL (addL t (16 * n)) (ss.drop 0)) := hr
    clear hr hlen
    generalize addL t (16 * n) = r0 at *
    go_enter Tryf.func16, Tryf.ntmps16
    go_wp2_with (go_at_call 15; refine (hA _).mono ?_; rintro e w' ⟨rfl, rfl⟩)
    clear hA
    go_loopw [0, 5] (fun vt vi wr => ∃ q i : Nat, q ≤ 1048577 ∧ i ≤ n ∧ vt = .int .i64 q ∧ vi = .int .i64 i ∧ Hid (r = sumL q (ss.drop i)) ∧ w = wr) (fun vt vi _ => n - (intOf vi).toNat)
    case atStart => exact ⟨r0, 0, hr0, by omega, rfl, rfl, HR, rfl⟩
    case round =>
      obtain ⟨q, i, hq, hi, rfl, rfl, hs, rfl⟩ := hrel
      clear HR
      by_cases hin : i < n
      · by_cases hlim : 1048576 < q
        · have hqr : r = q := by
            have : q = 1048577 := by omega
            rw [hs.out, this, sumL_sat]
          clear hs
          subst hqr
          go_wp2
          go_ret
          exact ⟨rfl, rfl⟩
        · have hil : i < ss.length := by have := HS.out.len; omega
          obtain ⟨a0, ha0, hc⟩ := HS.out.cell i hil
          obtain rfl := Option.some.inj ha0
          clear ha0
          have hsz := HS.out.size i hil
          have HN : Hid (r = sumL (addL q ss[i].size) (ss.drop (i + 1))) := by rw [hs.out]; exact sumL_drop ss q i hil
          have hB := addLen_ex q ss[i].size hq hsz _ rfl
          have hq1 := addL_le hq ss[i].size
          clear hs
          generalize ss[i] = y at *
          generalize addL q y.size = q1 at *
          go_wp2_with (go_at_call 15; refine (hB _).mono ?_; rintro e w' ⟨rfl, rfl⟩)
          go_roundw
          case rel => exact ⟨q1, i + 1, hq1, by omega, rfl, by go_num, HN, by first | exact True.intro | rfl⟩
          case measure => simp [intOf]; omega
      · have hqr : r = q := by
          rw [hs.out, List.drop_of_length_le (by have := HS.out.len; omega)]
          rfl
        clear hs
        subst hqr
        go_wp2
        go_ret
        exact ⟨rfl, rfl⟩

theorem listBytes_ex0 (t : Nat) (ht : t ≤ 1048577) (k : Nat) (r : Nat) (hr : r = listB t []) (w : World) :
    Calls Tryf.prog 16 #[.int .i64 t, .slice none 0 k] w fun e w' => e = .returned (.int .i64 r) ∧ w = w' := by
  have hA := addLen_ex t 0 ht (by omega) r hr
  clear hr
  go_enter Tryf.func16, Tryf.ntmps16
  go_wp2_with (go_at_call 15; refine (hA _).mono ?_; rintro e w' ⟨rfl, rfl⟩)
  clear hA
  go_loopw [0, 5] (fun vt vi wr => vt = .int .i64 r ∧ vi = .int .i64 0 ∧ w = wr) (fun vt vi _ => 0)
  case atStart => exact ⟨rfl, rfl, rfl⟩
  case round =>
    obtain ⟨rfl, rfl, rfl⟩ := hrel
    go_wp2
    go_ret
    exact ⟨rfl, rfl⟩

theorem listBytes_exact (t : Nat) (ht : t ≤ 1048577) (a : Option Addr) (n k : Nat) (ss : List ByteArray) (r : Nat) (hr : r = listB t ss) (w : World) (hS : Sl w a n ss) :
    Calls Tryf.prog 16 #[.int .i64 t, .slice a n k] w fun e w' => e = .returned (.int .i64 r) ∧ w = w' := by
  cases a with
  | some a => exact listBytes_ex t ht a n k ss r hr w hS
  | none =>
    have h0 : ss = [] := by
      cases ss with
      | nil => rfl
      | cons s ss => obtain ⟨a0, e, _⟩ := hS.cell 0 (by simp); cases e
    subst h0
    obtain rfl : n = 0 := hS.len
    exact listBytes_ex0 t ht k r hr w

set_option maxHeartbeats 400000 in
theorem capBytes_exact (t : Nat) (ht : t ≤ 1048577) (d : CapD) (v : Vals) (w : World) (hf : Fits w d v) :
    Calls Tryf.prog 6 #[.int .i64 t, .agg (cellsC d v).toArray] w fun e w' => e = .returned (.int .i64 (capB t d : Nat)) ∧ w.Extends w' := by
  obtain ⟨W, hW⟩ : ∃ W, W = w.alloc (.cells (cellsC d v).toArray 28) := ⟨_, rfl⟩
  have hx : Hid (w.Extends W) := hW ▸ (World.Extends.refl w).alloc _
  have hr : W.rangeAt w.heap.size 0 (cellsC d v) := hW ▸ new_range w _ _
  obtain ⟨c96, c97, c98, c99, c100, c101, c102, c103, c104, c105, c106, c107⟩ := cap_cells (hf.means.ext hx.out) hr
  simp only [Nat.zero_add] at c97 c98 c99
  clear c96 c100 c101 c102 c103 c104 c105 c106 c107
  obtain ⟨R, hR⟩ : ∃ R, R = capB t d := ⟨_, rfl⟩
  rw [← hR]
  unfold capB at hR
  have hA := addLen_ex t d.lim.action.size ht hf.act _ rfl
  have l1 := addL_le ht d.lim.action.size
  generalize addL t d.lim.action.size = r1 at *
  have hD := listBytes_exact r1 l1 v.a98 v.n98 v.k98 _ _ rfl W (hf.docs.ext hx.out)
  have l2 := listB_le l1 (d.lim.docs.getD [])
  generalize listB r1 (d.lim.docs.getD []) = r2 at *
  have hS := listBytes_exact r2 l2 v.a99 v.n99 v.k99 _ _ rfl W (hf.schemas.ext hx.out)
  generalize listB r2 (d.lim.schemas.getD []) = r3 at *
  replace hW := hW.symm
  clear hr hf
  by_cases h1 : 1048576 < r1
  · rw [if_pos h1] at hR
    subst hR
    go_enter Tryf.func6, Tryf.ntmps6
    go_wp2_with (go_at_call 15; refine (hA _).mono ?_; rintro e w' ⟨rfl, rfl⟩)
    go_ret
    exact ⟨rfl, hx.out⟩
  · rw [if_neg h1] at hR
    by_cases h2 : 1048576 < r2
    · rw [if_pos h2] at hR
      subst hR
      go_enter Tryf.func6, Tryf.ntmps6
      go_wp2_with (first | (go_at_call 15; refine (hA _).mono ?_; rintro e w' ⟨rfl, rfl⟩) | (go_at_call 16; with_reducible refine hD.mono ?_; rintro e w' ⟨rfl, rfl⟩))
      go_ret
      exact ⟨rfl, hx.out⟩
    · rw [if_neg h2] at hR
      subst hR
      go_enter Tryf.func6, Tryf.ntmps6
      go_wp2_with (first | (go_at_call 15; refine (hA _).mono ?_; rintro e w' ⟨rfl, rfl⟩) | (go_at_call 16; with_reducible refine hD.mono ?_; rintro e w' ⟨rfl, rfl⟩) | (go_at_call 16; with_reducible refine hS.mono ?_; rintro e w' ⟨rfl, rfl⟩))
      go_ret
      exact ⟨rfl, hx.out⟩
end Go.Proofs.Qxb6626501aFmt
