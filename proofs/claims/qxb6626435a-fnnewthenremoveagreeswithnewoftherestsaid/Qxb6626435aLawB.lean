import Derived.Test.Qxb6626435aLawB0
namespace Go.Proofs.Qxb6626435a
open Go.RowKit Go.Sort
set_option linter.unusedVariables false

/-- '[]ID{v}': the arm -/
theorem wpList_one {ops : Array Oper} {rest : List Oper} {o : Oper} {a : Act} {w : World} {Q : Exit → Act → World → Prop} (hg : o.guard = none) (t e : TypeId) (x : Operand) (y : Nat) (ho : o.op = .buildSlice t 1 #[(0, x)]) (hx : a.eval x = .agg (enc y).toArray)
    (hr : (Instr.buildSlice t 1 #[(0, .agg (enc y).toArray)]).run Try.prog w = .ok (.slice (some ⟨w.heap.size, 0, none⟩) 1 1) (w.alloc (.cells (enc y).toArray e)))
    (h : wpList Try.prog ops Q rest (a.put o.dst (.slice (some ⟨w.heap.size, 0, none⟩) 1 1)) (w.alloc (.cells (enc y).toArray e))) : wpList Try.prog ops Q (o :: rest) a w := by
  refine wpList_plain hg fun K hK => ?_
  unfold Oper.wp execOp
  have e0 : (#[(0, x)] : Array (Nat × Operand)).map (fun (i, x) => (i, a.eval x)) = #[(0, .agg (enc y).toArray)] := by simp [hx]
  simp only [ho, e0, Sem.run_bind, hr, Result.andThen_ok]
  exact hK _ _ h
/-- 'append' whose run is known: the arm -/
theorem wpList_app {ops : Array Oper} {rest : List Oper} {o : Oper} {a : Act} {w w' : World} {Q : Exit → Act → World → Prop} (hg : o.guard = none) (s x : Operand) (t : TypeId) (ho : o.op = Op.call { callee := Callee.builtin Builtin.append, args := #[s, x], argTypes := #[t, t] })
    (u v r : Value) (hs : a.eval s = u) (hx : a.eval x = v) (hr : ∀ ty, (Builtin.append_ #[t, t] ty #[u, v]).run Try.prog w = .ok r w')
    (h : wpList Try.prog ops Q rest (a.put o.dst r) w') : wpList Try.prog ops Q (o :: rest) a w := by
  refine wpList_plain hg fun K hK => ?_
  unfold Oper.wp
  simp [execOp, ho, resolve, invoke, builtin, hs, hx, hr, Result.andThen]
  exact hK _ _ h

/-- the loop of the rest, i identifiers seen: ds is kept, k of them; rb: x was met -/
def Dn (xs ds : List Nat) (x i k : Nat) (rb : Bool) : Prop := ds.length = k ∧ ds = (xs.take i).erase x ∧ (rb = true ↔ x ∈ xs.take i)

theorem dn_zero (xs : List Nat) (x : Nat) : Dn xs [] x 0 0 false := ⟨rfl, rfl, by simp⟩
theorem range_grown_off {w wr : World} {b off i : Nat} {xs : List Nat} (hr : Row w b off xs) (hb : b < w.heap.size) (hg : RowKit.Below w.heap.size w wr) (hi : i < xs.length) : ∀ w', (∃ p : GrownBy, w' = grow (wr.drewN p.n) p.os) → w'.rangeAt b (off + i * 20) (enc xs[i]) := by
  rintro w' ⟨p, rfl⟩
  have hg2 : Grew wr (grow (wr.drewN p.n) p.os) := ⟨p.n, p.os, rfl⟩
  exact ((hr.below hg hb).below hg2.below (Nat.lt_of_lt_of_le hb hg.size)).at i hi
theorem box_of {w : World} {b x : Nat} (h : w.heap[b]? = some (.cells (enc x).toArray 25 (0, 0))) : w.rangeAt b 0 (enc x) := fun j v hv => by
  rw [cell_of_row _ _ _ _ _ _ h, Nat.zero_add, List.getElem?_toArray]; exact hv
theorem box_grown_off {w wr : World} {b x : Nat} (h : w.heap[b]? = some (.cells (enc x).toArray 25 (0, 0))) (hg : RowKit.Below w.heap.size w wr) : ∀ w', (∃ p : GrownBy, w' = grow (wr.drewN p.n) p.os) → w'.rangeAt b 0 (enc x) := by
  rintro w' ⟨p, rfl⟩
  have hg2 : Grew wr (grow (wr.drewN p.n) p.os) := ⟨p.n, p.os, rfl⟩
  have hb := (Array.getElem?_eq_some_iff.1 h).1
  exact box_of ((hg2.below.block b (Nat.lt_of_lt_of_le hb hg.size)).trans ((hg.block b hb).trans h))

set_option maxHeartbeats 2000000 in
set_option maxRecDepth 100000 in
theorem lawB_any (ao : Option Addr) (c n x : Nat) (xs : List Nat) (w : World) (hxl : xs.length = n) (hlt : ∀ x ∈ xs, x < top) (hx : x < top) (hno : ao = none → n = 0) (hao : 0 < n → ∃ b off, ao = some ⟨b, off, none⟩ ∧ b < w.heap.size ∧ Row w b off xs) :
    Calls Try.prog 4 #[.slice ao n c, .agg (enc x).toArray] w fun e w' => e = .returned (.bool true) ∧ Below w.heap.size w w' := by
  have hnil : ∀ W, (binOp .neq 22 (.slice ao n c) (.slice none 0 0)).run Try.prog W = .ok (.bool (!ao.isNone)) W := fun W => run_neq_slice_nil (P := Try.prog) W 22 25 _ n c Try.underlying22
  have hmix := mixed
  go_enter Try.func4, Try.ntmps4
  go_wp2_with (first | ((with_reducible refine wpList_load_mid ?_ 25 (.tmp 3) ?_ w.heap.size 0 ?_ (enc x) _ (range_new x w 25) Try.underlying25 ?_ (sz25 x) ?_); rfl; rfl; rfl; rfl))
  refine (bytesB_any _ _ _ _ _).mono ?_
  rintro e W1 ⟨⟨bb, rfl⟩, hg⟩
  have hal : RowKit.Below w.heap.size w (w.alloc (.cells (enc x).toArray 25)) := (Below.refl _ _).alloc (Nat.le_refl _) _
  have hBw : RowKit.Below w.heap.size w W1 := hal.trans (hg.below.mono hal.size)
  have hbx1 : W1.heap[w.heap.size]? = some (.cells (enc x).toArray 25 (0, 0)) := (hg.below.block _ (by simp)).trans (heap_alloc_new w _)
  clear hg hal
  cases bb with
  | false =>
    go_wp2
    go_ret
    exact ⟨rfl, hBw⟩
  | true =>
  by_cases hn : n ≤ 32768
  case neg =>
    go_wp2
    go_ret
    exact ⟨rfl, hBw⟩
  have hao1 : 0 < n → ∃ b off, ao = some ⟨b, off, none⟩ ∧ b < W1.heap.size ∧ Row W1 b off xs := fun h => by
    obtain ⟨b, off, e, h1, h2⟩ := hao h
    exact ⟨b, off, e, Nat.lt_of_lt_of_le h1 hBw.size, h2.below hBw h1⟩
  have hbl : w.heap.size < W1.heap.size := (Array.getElem?_eq_some_iff.1 hbx1).1
  clear hao
  cases ao with
  | none =>
    have HN0 : Hid (n = 0) := hno rfl
    clear hno
    have hBc : RowKit.Below W1.heap.size W1 W1 := Below.refl _ _
    have hx0 : xs = [] := List.length_eq_zero_iff.1 (by rw [hxl]; exact HN0.out)
    have HNA : Hid (∀ W, RowKit.Below W1.heap.size W1 W → Calls Try.prog 7 #[.slice none 0 0] W fun e w' => ∃ R H I am cm ch nh ys, e = .returned (.pointer (some ⟨R, 0, none⟩)) ∧ ys.Perm xs ∧ ys.Pairwise (· ≤ ·) ∧ RG W.heap.size ys R H I am cm ch nh w' ∧ RowKit.Below W.heap.size W w') := fun W hW => by
      rw [hx0]
      exact newG none 0 [] (by simp) (fun y hy => by cases hy) W (fun h => absurd h (Nat.lt_irrefl 0)) (fun _ => ⟨none, rfl⟩)
    clear hx0 hao1
    simp only [Option.isNone_none, Bool.not_true] at hnil
    have hmkA := room24 n (by omega)
    have hmkB := room22 n (by omega)
    have hAp0 := Ap.made W1 n
    go_wp2
    go_loopw [7, 8, 9, 10] (fun v7 v8 v9 v10 wq => ∃ (i k : Nat) (rb : Bool) (ds : List Nat), i ≤ n ∧ v10 = .int .i64 i ∧ v9 = .bool rb ∧ v7 = .slice (some ⟨W1.heap.size, 0, none⟩) k n ∧ v8 = .slice (some ⟨W1.heap.size + 1, 0, none⟩) k n ∧ k ≤ i ∧ Ap W1 n W1.heap.size (W1.heap.size + 1) ds wq ∧ Hid (Dn xs ds x i k rb)) (fun _ _ _ v _ => n - (intOf v).toNat)
    case atStart => exact ⟨0, 0, false, [], by omega, rfl, rfl, rfl, rfl, by omega, hAp0, dn_zero xs x⟩
    case round =>
      clear hAp0 hmkA hmkB
      obtain ⟨i, k, rb, ds, hi, rfl, rfl, rfl, rfl, hki, hAp, hds⟩ := hrel
      by_cases hin : i < n
      · exact absurd hin (by have := HN0.out; omega)
      · have hid : decide ((i : Int) < (n : Int)) = false := by simp; omega
        have hid2 : decide (i < n) = false := by simp; omega
        have hE : Hid (ds.length = k ∧ ds = xs.erase x) := by
          refine ⟨hds.out.1, ?_⟩
          rw [hds.out.2.1, List.take_of_length_le (by omega)]
        have hdl : ∀ y ∈ ds, y < top := fun y hy => hlt y (List.mem_of_mem_erase (by rw [← hE.out.2]; exact hy))
        have hk6 : ds.length ≤ 65536 := by rw [hE.out.1]; omega
        have hBr : RowKit.Below W1.heap.size W1 wr := hBc.trans (hAp.bel.mono hBc.size)
        have HSO : Hid (Calls Try.prog 6 #[.slice (some ⟨W1.heap.size + 1, 0, none⟩) k n] wr fun e w' => ∃ S ys, e = .returned (.slice (some ⟨S, 0, none⟩) k k) ∧ ys.Perm ds ∧ ys.Pairwise (· ≤ ·) ∧ (0 < ds.length → Row w' S 0 ys ∧ S < w'.heap.size) ∧ Below wr.heap.size wr w') := by
          have := sortG (some ⟨W1.heap.size + 1, 0, none⟩) n ds hk6 hdl wr (fun _ => ⟨_, _, rfl, hAp.lQ, hAp.rQ⟩)
          rw [hE.out.1] at this
          rw [hE.out.1]
          exact this
        have HRP : Hid (∀ W, RowKit.Below wr.heap.size wr W → Calls Try.prog 7 #[.slice (some ⟨W1.heap.size, 0, none⟩) k n] W fun e w' => ∃ R H I am cm ch nh ys, e = .returned (.pointer (some ⟨R, 0, none⟩)) ∧ ys.Perm ds ∧ ys.Pairwise (· ≤ ·) ∧ RG W.heap.size ys R H I am cm ch nh w' ∧ RowKit.Below W.heap.size W w') := fun W hW => by
          have := newG (some ⟨W1.heap.size, 0, none⟩) n ds hk6 hdl W (fun _ => ⟨_, _, rfl, hAp.rP.below hW hAp.lP⟩) (fun _ => ⟨some (W1.heap.size, 0), rfl⟩)
          rw [hE.out.1] at this
          exact this
        have hApb := hAp.bel
        clear hds hAp hin
        go_wp2_with fail
        refine HSO.out.mono ?_
        rintro e w2 ⟨S, zs, rfl, hP1, hs1, hS, hb2⟩
        clear HSO hid hid2
        have hBc2 := hApb.trans (hb2.mono hApb.size)
        go_wp2_with fail
        refine (HNA.out w2 hBc2).mono ?_
        rintro e w3 ⟨R, H, I, am, cm, ch, nh, ys, rfl, hP2, hs2, hRG, hb3⟩
        clear HNA
        have hy6 : ys.length ≤ 65536 := by rw [hP2.length_eq]; omega
        have hyl : ∀ y ∈ ys, y < top := fun y hy => hlt y (hP2.mem_iff.1 hy)
        have hB2 : RowKit.Below W1.heap.size W1 w2 := hBr.trans (hb2.mono hBr.size)
        have hB3 : RowKit.Below W1.heap.size W1 w3 := hB2.trans (hb3.mono hB2.size)
        have hbx3 : Hid (w3.rangeAt w.heap.size 0 (enc x)) := box_of ((hB3.block _ hbl).trans hbx1)
        have HRM := remove_G x hRG hx hy6 hyl hs2
        go_wp2_with (first | ((with_reducible refine wpList_load_mid ?_ 25 (.tmp 3) ?_ w.heap.size 0 ?_ (enc x) _ hbx3.out Try.underlying25 ?_ (sz25 x) ?_); rfl; rfl; rfl; rfl))
        refine HRM.mono ?_
        rintro e w4 ⟨rfl, zs2, I2, hP3, hs3, hRG2, hb4⟩
        clear HRM hRG hbx3
        have hb24 : RowKit.Below w2.heap.size w2 w4 := hb3.trans hb4
        have hb4' : RowKit.Below wr.heap.size wr w4 := hb2.trans (hb24.mono hb2.size)
        have hB4 : RowKit.Below W1.heap.size W1 w4 := hB2.trans (hb24.mono hB2.size)
        have HNP := HRP.out w4 hb4'
        clear HRP
        go_wp2_with fail
        refine HNP.mono ?_
        rintro e w5 ⟨R', H', I', am', cm', ch', nh', ys', rfl, hP4, hs4, hRG4, hb5⟩
        clear HNP
        have hP5 : zs2.Perm ds := by
          refine hP3.trans ?_
          rw [hE.out.2]
          exact hP2.erase x
        have e1 : zs2 = zs := sorted_one _ _ _ hP5 hP1 hs3 hs1
        have e2 : ys' = zs := sorted_one _ _ _ hP4 hP1 hs4 hs1
        subst e1
        subst e2
        have hzl : ys'.length = k := by rw [hP1.length_eq, hE.out.1]
        have hz6 : ys'.length ≤ 65536 := by rw [hzl]; omega
        have hzt : ∀ y ∈ ys', y < top := fun y hy => hdl y (hP1.mem_iff.1 hy)
        have hB5 : RowKit.Below W1.heap.size W1 w5 := hB4.trans (hb5.mono hB4.size)
        have hRG5 := hRG2.below hb5
        have HRI := ringIs_G w2.heap.size R H I2 S cm ch nh k am ys' w5 hz6 hzt hRG5 (some ⟨S, 0, none⟩) (fun h0 => by
          obtain ⟨r1, r2⟩ := hS (by rw [← hP1.length_eq]; exact h0)
          have hb25 := hb24.trans (hb5.mono hb24.size)
          exact ⟨rfl, r1.below hb25 r2, Nat.lt_of_lt_of_le r2 hb25.size⟩)
        rw [hzl] at HRI
        clear hP1 hP2 hP3 hP4 hP5 hs1 hs2 hs3 hs4 hS
        go_wp2_with fail
        refine HRI.mono ?_
        rintro e w6 ⟨rfl, hb6⟩
        clear HRI
        have hB6 : RowKit.Below W1.heap.size W1 w6 := hB5.trans (hb6.mono hB5.size)
        have HSM := same_G (hRG5.below hb6) (hRG4.below hb6) hz6 hzt
        clear hRG5 hRG4 hRG2
        go_wp2_with fail
        refine HSM.mono ?_
        rintro e w7 ⟨rfl, hg7⟩
        clear HSM
        have hB7 : RowKit.Below W1.heap.size W1 w7 := hB6.trans (hg7.below.mono hB6.size)
        go_wp2
        go_ret
        exact ⟨rfl, hBw.trans (hB7.mono hBw.size)⟩
  | some a =>
  have hmk := make24 n (by omega)
  have HO := One.made W1 n 26
  simp only [Option.isNone_some, Bool.not_false] at hnil
  go_wp2
  go_loopw [6] (fun i wr => ∃ (j : Nat) (es : List Nat), j ≤ n ∧ i = .int .i64 j ∧ One W1 n W1.heap.size es wr ∧ Hid (es.take j = xs.take j)) (fun i _ => n - (intOf i).toNat)
  case atStart => exact ⟨0, _, by omega, rfl, HO, rfl⟩
  case round =>
    clear HO hmk
    obtain ⟨j, ss, hj, rfl, hT, he⟩ := hrel
    by_cases hlt2 : j < n
    · obtain ⟨b, off, hab, hb, hr⟩ := hao1 (by omega)
      cases hab
      have hjx : j < xs.length := by omega
      have HLD : Hid (wr.rangeAt b (off + j * 20) (enc xs[j])) := (hr.below hT.bel hb).at j hjx
      have HST : Hid (wr.there W1.heap.size (j * 20) 20) := there_at hT.th j hlt2
      have HT : Hid (One W1 n W1.heap.size (ss.set j xs[j]) (wr.setCells W1.heap.size (j * 20) (enc xs[j]))) := hT.set j _ hlt2
      have HE : Hid ((ss.set j xs[j]).take (j + 1) = xs.take (j + 1)) := copy_step ss xs j (by rw [hT.len]; exact hlt2) hjx he.out
      clear hT he
      generalize xs[j] = y at *
      go_wp2_with (first | ((with_reducible refine wpList_load_mid ?_ 25 (.tmp 36) ?_ b (off + j * 20) ?_ (enc y) _ HLD.out Try.underlying25 ?_ (sz25 y) ?_); rfl; rfl; rfl; rfl) | ((with_reducible refine wpList_store_mid ?_ 26 (.tmp 38) (.tmp 37) ?_ W1.heap.size (j * 20) (enc y).toArray ?_ ?_ (th25 y HST.out) (sz26' y) (all_oneCell_toArray (enc_one y)) ?_); rfl; rfl; rfl; rfl))
      go_roundw
      case rel => exact ⟨j + 1, _, by omega, by go_num, HT.out, HE⟩
      case measure => simp [intOf]; omega
    · have hjn : j = n := by omega
      have hss : xs = ss := (copy_done ss xs n hT.len hxl (by rw [← hjn]; exact he.out)).symm
      clear hjn
      subst hss
      have hjd : decide ((j : Int) < (n : Int)) = false := by simp; omega
      have hjd2 : decide (j < n) = false := by simp; omega
      clear he hlt2
      have hBc : RowKit.Below W1.heap.size W1 wr := hT.bel
      have HNA : Hid (∀ W, RowKit.Below wr.heap.size wr W → Calls Try.prog 7 #[.slice (some ⟨W1.heap.size, 0, none⟩) n n] W fun e w' => ∃ R H I am cm ch nh ys, e = .returned (.pointer (some ⟨R, 0, none⟩)) ∧ ys.Perm xs ∧ ys.Pairwise (· ≤ ·) ∧ RG W.heap.size ys R H I am cm ch nh w' ∧ RowKit.Below W.heap.size W w') := fun W hW => by
        have := newG (some ⟨W1.heap.size, 0, none⟩) n xs (by omega) hlt W (fun h => ⟨_, _, rfl, hT.row.below hW (there_lt hT.th (by omega))⟩) (fun _ => ⟨some (W1.heap.size, 0), rfl⟩)
        rw [hxl] at this
        exact this
      clear hT hj
      obtain ⟨Wc, hWc⟩ : ∃ Wc, Wc = wr := ⟨_, rfl⟩
      rw [← hWc] at hBc HNA
      rw [← hWc]
      clear hWc
      have hmkA := room24 n (by omega)
      have hmkB := room22 n (by omega)
      have hAp0 := Ap.made Wc n
      go_wp2
      clear hjd hjd2
      go_loopw [7, 8, 9, 10] (fun v7 v8 v9 v10 wq => ∃ (i k : Nat) (rb : Bool) (ds : List Nat), i ≤ n ∧ v10 = .int .i64 i ∧ v9 = .bool rb ∧ v7 = .slice (some ⟨Wc.heap.size, 0, none⟩) k n ∧ v8 = .slice (some ⟨Wc.heap.size + 1, 0, none⟩) k n ∧ k ≤ i ∧ Ap Wc n Wc.heap.size (Wc.heap.size + 1) ds wq ∧ Hid (Dn xs ds x i k rb)) (fun _ _ _ v _ => n - (intOf v).toNat)
      case atStart => exact ⟨0, 0, false, [], by omega, rfl, rfl, rfl, rfl, by omega, hAp0, dn_zero xs x⟩
      case round =>
        clear hAp0 hmkA hmkB
        obtain ⟨i, k, rb, ds, hi, rfl, rfl, rfl, rfl, hki, hAp, hds⟩ := hrel
        by_cases hin : i < n
        · obtain ⟨b, off, hab, hb, hr⟩ := hao1 (by omega)
          cases hab
          have hix : i < xs.length := by omega
          have hyt : xs[i] < top := hlt _ (List.getElem_mem hix)
          have hBr : RowKit.Below W1.heap.size W1 wr := hBc.trans (hAp.bel.mono hBc.size)
          have HL : Hid (∀ w', (∃ p : GrownBy, w' = grow (wr.drewN p.n) p.os) → w'.rangeAt b (off + i * 20) (enc xs[i])) := range_grown_off hr hb hBr hix
          have HB : Hid (∀ w', (∃ p : GrownBy, w' = grow (wr.drewN p.n) p.os) → w'.rangeAt w.heap.size 0 (enc x)) := box_grown_off hbx1 hBr
          have heq := equalIn_ids 25 Try.underlying25 xs[i] x hyt hx
          have q1 : (0 : Int) ≤ (i : Int) := by omega
          have q2 : (i : Int) < (n : Int) := by omega
          have q3 : IntKind.i64.wrap (i : Int) = (i : Int) := by rw [IntKind.wrap_i64]; omega
          have HIT : Hid (rb = false → xs[i] = x → Hid (Dn xs ds x (i + 1) k true)) := fun h1 h2 => by
            show _ ∧ _ ∧ _
            have hm : x ∉ xs.take i := fun h => by have := hds.out.2.2.2 h; rw [h1] at this; cases this
            exact ⟨hds.out.1, by rw [erase_hit xs i x hix hm h2]; exact hds.out.2.1, fun _ => (mem_next xs i x hix).2 (Or.inr h2), fun _ => rfl⟩
          have HIN : Hid (rb = true ∨ xs[i] ≠ x → Hid (Dn xs (ds ++ [xs[i]]) x (i + 1) (k + 1) rb)) := fun h1 => by
            show _ ∧ _ ∧ _
            refine ⟨by rw [List.length_append, List.length_singleton, hds.out.1], ?_, ?_⟩
            · by_cases hm : x ∈ xs.take i
              · rw [erase_in xs i x hix hm, hds.out.2.1]
              · have hne : xs[i] ≠ x := by
                  rcases h1 with h1 | h1
                  · exact absurd (hds.out.2.2.1 h1) hm
                  · exact h1
                rw [erase_out xs i x hix hm hne, hds.out.2.1]
            · rw [mem_next xs i x hix, hds.out.2.2]
              constructor
              · exact Or.inl
              · rintro (h | h)
                · exact h
                · rcases h1 with h1 | h1
                  · exact hds.out.2.2.1 h1
                  · exact absurd h h1
          have HAP : Hid (∀ w', RowKit.Below wr.heap.size wr w' → Ap Wc n Wc.heap.size (Wc.heap.size + 1) ds w') := fun w' h => hAp.grew h
          have HRB : Hid (∀ w', RowKit.Below W1.heap.size W1 w' → w'.rangeAt b (off + i * 20) (enc xs[i])) := fun w' h => (hr.below h hb).at i hix
          have HLEN : Hid (ds.length = k) := hds.out.1
          generalize xs[i] = y at *
          clear hds hAp
          cases rb with
          | false =>
            by_cases hyx : y = x
            · rw [decide_eq_true hyx] at heq
              have HH := HIT.out rfl hyx
              clear HIT HIN hyx
              go_wp2
              refine wp_region_quiet_grown hmix (by kernel_rfl) ?_
              repeat (first | ((with_reducible refine quiet_load_mid ?_ 25 (.tmp 56) ?_ b (off + i * 20) ?_ (enc y) _ HL.out Try.underlying25 ?_ (sz25 _) ?_); (focus go_simp); rfl; rfl; rfl) | ((with_reducible refine quiet_load_mid ?_ 25 (.tmp 3) ?_ w.heap.size 0 ?_ (enc x) _ HB.out Try.underlying25 ?_ (sz25 _) ?_); (focus go_simp); rfl; rfl; rfl) | quiet_step (fail))
              refine wpQuiet_nil ?_
              intro _ hw'
              obtain ⟨⟨nq, osq⟩, hw''⟩ := hw'
              subst hw''
              have hgq : Grew wr (grow (wr.drewN nq) osq) := ⟨_, _, rfl⟩
              have HBR : Hid (∀ w', RowKit.Below wr.heap.size wr w' → RowKit.Below W1.heap.size W1 w') := fun w' h => hBr.trans (h.mono hBr.size)
              clear HL HB heq
              have hAp2 := HAP.out _ hgq.below
              generalize grow (wr.drewN nq) osq = wq at *
              clear HAP HRB HBR
              go_wp2
              go_roundw
              case rel => exact ⟨i + 1, k, true, ds, by omega, by go_num, rfl, rfl, rfl, by omega, hAp2, HH⟩
              case measure => simp [intOf]; omega
            · rw [decide_eq_false hyx] at heq
              have HH := HIN.out (Or.inr hyx)
              clear HIT HIN hyx
              go_wp2
              refine wp_region_quiet_grown hmix (by kernel_rfl) ?_
              repeat (first | ((with_reducible refine quiet_load_mid ?_ 25 (.tmp 56) ?_ b (off + i * 20) ?_ (enc y) _ HL.out Try.underlying25 ?_ (sz25 _) ?_); (focus go_simp); rfl; rfl; rfl) | ((with_reducible refine quiet_load_mid ?_ 25 (.tmp 3) ?_ w.heap.size 0 ?_ (enc x) _ HB.out Try.underlying25 ?_ (sz25 _) ?_); (focus go_simp); rfl; rfl; rfl) | quiet_step (fail))
              refine wpQuiet_nil ?_
              intro _ hw'
              obtain ⟨⟨nq, osq⟩, hw''⟩ := hw'
              subst hw''
              have hgq : Grew wr (grow (wr.drewN nq) osq) := ⟨_, _, rfl⟩
              have HBR : Hid (∀ w', RowKit.Below wr.heap.size wr w' → RowKit.Below W1.heap.size W1 w') := fun w' h => hBr.trans (h.mono hBr.size)
              clear HL HB heq
              have hAp2 := HAP.out _ hgq.below
              have hBr2 := HBR.out _ hgq.below
              have hLD1 : Hid ((grow (wr.drewN nq) osq).rangeAt b (off + i * 20) (enc y)) := HRB.out _ hBr2
              generalize grow (wr.drewN nq) osq = wq at *
              clear HAP HBR hBr hgq
              have hkn : k < n := by omega
              have a1 : Hid (∀ ty, (Builtin.append_ #[24, 24] ty #[.slice (some ⟨Wc.heap.size, 0, none⟩) k n, .slice (some ⟨wq.heap.size, 0, none⟩) 1 1]).run Try.prog (wq.alloc (.cells (enc y).toArray 26)) = .ok (.slice (some ⟨Wc.heap.size, 0, none⟩) (k + 1) n) ((wq.alloc (.cells (enc y).toArray 26)).setCells Wc.heap.size (k * 20) (enc y))) := fun ty => by
                obtain ⟨i0, h1, h2, h3, h4⟩ := info_parts info26
                exact app_one 24 26 ty i0 Try.underlying24 h1 h3 wq Wc.heap.size k n y 26 hkn hAp2.lP hAp2.tP
              obtain ⟨W3, hW3⟩ : ∃ W3, W3 = (wq.alloc (.cells (enc y).toArray 26)).setCells Wc.heap.size (k * 20) (enc y) := ⟨_, rfl⟩
              have hAl : RowKit.Below W1.heap.size W1 W3 := by
                rw [hW3]
                exact below_setCells (hBr2.alloc hBr2.size _) _ _ _ hBc.size
              have hLD2 : Hid (W3.rangeAt b (off + i * 20) (enc y)) := HRB.out _ hAl
              have HAP3 : Hid (Ap Wc n Wc.heap.size (Wc.heap.size + 1) (ds ++ [y]) ((W3.alloc (.cells (enc y).toArray 25)).setCells (Wc.heap.size + 1) (k * 20) (enc y))) := by
                have := hAp2.step y (by rw [HLEN.out]; exact hkn)
                rw [HLEN.out, ← hW3] at this
                exact this
              have a2 : Hid (∀ ty, (Builtin.append_ #[22, 22] ty #[.slice (some ⟨Wc.heap.size + 1, 0, none⟩) k n, .slice (some ⟨W3.heap.size, 0, none⟩) 1 1]).run Try.prog (W3.alloc (.cells (enc y).toArray 25)) = .ok (.slice (some ⟨Wc.heap.size + 1, 0, none⟩) (k + 1) n) ((W3.alloc (.cells (enc y).toArray 25)).setCells (Wc.heap.size + 1) (k * 20) (enc y))) := fun ty => by
                obtain ⟨i0, h1, h2, h3, h4⟩ := info_parts info25
                refine app_one 22 25 ty i0 Try.underlying22 h1 h3 W3 (Wc.heap.size + 1) k n y 25 hkn ?_ ?_
                · rw [hW3]; exact Nat.lt_of_lt_of_le hAp2.lQ (Nat.le_trans (by simp) (size_set _ _ _ _))
                · rw [hW3]; exact World.there_setCells (there_block hAp2.tQ (((Below.refl wq.heap.size wq).alloc (Nat.le_refl _) _).block _ hAp2.lQ)) _ _ _
              rw [← hW3] at a1
              clear hW3 hAl hBr2 hAp2 HRB
              go_wp2_with (first | ((with_reducible refine wpList_load_mid ?_ 25 (.tmp 64) ?_ b (off + i * 20) ?_ (enc y) _ hLD1.out Try.underlying25 ?_ (sz25 y) ?_); rfl; rfl; rfl; rfl) | ((with_reducible refine wpList_load_mid ?_ 25 (.tmp 71) ?_ b (off + i * 20) ?_ (enc y) _ hLD2.out Try.underlying25 ?_ (sz25 y) ?_); rfl; rfl; rfl; rfl) | ((with_reducible refine wpList_one ?_ 24 26 (.tmp 65) y ?_ ?_ (one24 y wq) ?_); rfl; rfl; rfl) | ((with_reducible refine wpList_one ?_ 22 25 (.tmp 72) y ?_ ?_ (one22 y W3) ?_); rfl; rfl; rfl) | ((with_reducible refine wpList_app ?_ (.tmp 61) (.tmp 66) 24 ?_ (.slice (some ⟨Wc.heap.size, 0, none⟩) k n) (.slice (some ⟨wq.heap.size, 0, none⟩) 1 1) _ ?_ ?_ a1.out ?_); rfl; rfl; rfl; rfl) | ((with_reducible refine wpList_app ?_ (.tmp 68) (.tmp 73) 22 ?_ (.slice (some ⟨Wc.heap.size + 1, 0, none⟩) k n) (.slice (some ⟨W3.heap.size, 0, none⟩) 1 1) _ ?_ ?_ a2.out ?_); rfl; rfl; rfl; rfl))
              go_roundw
              case rel => exact ⟨i + 1, k + 1, false, ds ++ [y], by omega, by go_num, rfl, rfl, rfl, by omega, HAP3.out, HH⟩
              case measure => simp [intOf]; omega
          | true =>
            have HH := HIN.out (Or.inl rfl)
            clear HIT HIN
            go_wp2
            refine wp_region_quiet_grown hmix (by kernel_rfl) ?_
            repeat (first | ((with_reducible refine quiet_load_mid ?_ 25 (.tmp 56) ?_ b (off + i * 20) ?_ (enc y) _ HL.out Try.underlying25 ?_ (sz25 _) ?_); (focus go_simp); rfl; rfl; rfl) | ((with_reducible refine quiet_load_mid ?_ 25 (.tmp 3) ?_ w.heap.size 0 ?_ (enc x) _ HB.out Try.underlying25 ?_ (sz25 _) ?_); (focus go_simp); rfl; rfl; rfl) | quiet_step (fail))
            refine wpQuiet_nil ?_
            intro _ hw'
            obtain ⟨⟨nq, osq⟩, hw''⟩ := hw'
            subst hw''
            have hgq : Grew wr (grow (wr.drewN nq) osq) := ⟨_, _, rfl⟩
            have HBR : Hid (∀ w', RowKit.Below wr.heap.size wr w' → RowKit.Below W1.heap.size W1 w') := fun w' h => hBr.trans (h.mono hBr.size)
            clear HL HB heq
            have hAp2 := HAP.out _ hgq.below
            have hBr2 := HBR.out _ hgq.below
            have hLD1 : Hid ((grow (wr.drewN nq) osq).rangeAt b (off + i * 20) (enc y)) := HRB.out _ hBr2
            generalize grow (wr.drewN nq) osq = wq at *
            clear HAP HBR hBr hgq
            have hkn : k < n := by omega
            have a1 : Hid (∀ ty, (Builtin.append_ #[24, 24] ty #[.slice (some ⟨Wc.heap.size, 0, none⟩) k n, .slice (some ⟨wq.heap.size, 0, none⟩) 1 1]).run Try.prog (wq.alloc (.cells (enc y).toArray 26)) = .ok (.slice (some ⟨Wc.heap.size, 0, none⟩) (k + 1) n) ((wq.alloc (.cells (enc y).toArray 26)).setCells Wc.heap.size (k * 20) (enc y))) := fun ty => by
              obtain ⟨i0, h1, h2, h3, h4⟩ := info_parts info26
              exact app_one 24 26 ty i0 Try.underlying24 h1 h3 wq Wc.heap.size k n y 26 hkn hAp2.lP hAp2.tP
            obtain ⟨W3, hW3⟩ : ∃ W3, W3 = (wq.alloc (.cells (enc y).toArray 26)).setCells Wc.heap.size (k * 20) (enc y) := ⟨_, rfl⟩
            have hAl : RowKit.Below W1.heap.size W1 W3 := by
              rw [hW3]
              exact below_setCells (hBr2.alloc hBr2.size _) _ _ _ hBc.size
            have hLD2 : Hid (W3.rangeAt b (off + i * 20) (enc y)) := HRB.out _ hAl
            have HAP3 : Hid (Ap Wc n Wc.heap.size (Wc.heap.size + 1) (ds ++ [y]) ((W3.alloc (.cells (enc y).toArray 25)).setCells (Wc.heap.size + 1) (k * 20) (enc y))) := by
              have := hAp2.step y (by rw [HLEN.out]; exact hkn)
              rw [HLEN.out, ← hW3] at this
              exact this
            have a2 : Hid (∀ ty, (Builtin.append_ #[22, 22] ty #[.slice (some ⟨Wc.heap.size + 1, 0, none⟩) k n, .slice (some ⟨W3.heap.size, 0, none⟩) 1 1]).run Try.prog (W3.alloc (.cells (enc y).toArray 25)) = .ok (.slice (some ⟨Wc.heap.size + 1, 0, none⟩) (k + 1) n) ((W3.alloc (.cells (enc y).toArray 25)).setCells (Wc.heap.size + 1) (k * 20) (enc y))) := fun ty => by
              obtain ⟨i0, h1, h2, h3, h4⟩ := info_parts info25
              refine app_one 22 25 ty i0 Try.underlying22 h1 h3 W3 (Wc.heap.size + 1) k n y 25 hkn ?_ ?_
              · rw [hW3]; exact Nat.lt_of_lt_of_le hAp2.lQ (Nat.le_trans (by simp) (size_set _ _ _ _))
              · rw [hW3]; exact World.there_setCells (there_block hAp2.tQ (((Below.refl wq.heap.size wq).alloc (Nat.le_refl _) _).block _ hAp2.lQ)) _ _ _
            rw [← hW3] at a1
            clear hW3 hAl hBr2 hAp2 HRB
            go_wp2_with (first | ((with_reducible refine wpList_load_mid ?_ 25 (.tmp 64) ?_ b (off + i * 20) ?_ (enc y) _ hLD1.out Try.underlying25 ?_ (sz25 y) ?_); rfl; rfl; rfl; rfl) | ((with_reducible refine wpList_load_mid ?_ 25 (.tmp 71) ?_ b (off + i * 20) ?_ (enc y) _ hLD2.out Try.underlying25 ?_ (sz25 y) ?_); rfl; rfl; rfl; rfl) | ((with_reducible refine wpList_one ?_ 24 26 (.tmp 65) y ?_ ?_ (one24 y wq) ?_); rfl; rfl; rfl) | ((with_reducible refine wpList_one ?_ 22 25 (.tmp 72) y ?_ ?_ (one22 y W3) ?_); rfl; rfl; rfl) | ((with_reducible refine wpList_app ?_ (.tmp 61) (.tmp 66) 24 ?_ (.slice (some ⟨Wc.heap.size, 0, none⟩) k n) (.slice (some ⟨wq.heap.size, 0, none⟩) 1 1) _ ?_ ?_ a1.out ?_); rfl; rfl; rfl; rfl) | ((with_reducible refine wpList_app ?_ (.tmp 68) (.tmp 73) 22 ?_ (.slice (some ⟨Wc.heap.size + 1, 0, none⟩) k n) (.slice (some ⟨W3.heap.size, 0, none⟩) 1 1) _ ?_ ?_ a2.out ?_); rfl; rfl; rfl; rfl))
            go_roundw
            case rel => exact ⟨i + 1, k + 1, true, ds ++ [y], by omega, by go_num, rfl, rfl, rfl, by omega, HAP3.out, HH⟩
            case measure => simp [intOf]; omega
        · have hid : decide ((i : Int) < (n : Int)) = false := by simp; omega
          have hid2 : decide (i < n) = false := by simp; omega
          have hE : Hid (ds.length = k ∧ ds = xs.erase x) := by
            refine ⟨hds.out.1, ?_⟩
            rw [hds.out.2.1, List.take_of_length_le (by omega)]
          have hdl : ∀ y ∈ ds, y < top := fun y hy => hlt y (List.mem_of_mem_erase (by rw [← hE.out.2]; exact hy))
          have hk6 : ds.length ≤ 65536 := by rw [hE.out.1]; omega
          have hBr : RowKit.Below W1.heap.size W1 wr := hBc.trans (hAp.bel.mono hBc.size)
          have HSO : Hid (Calls Try.prog 6 #[.slice (some ⟨Wc.heap.size + 1, 0, none⟩) k n] wr fun e w' => ∃ S ys, e = .returned (.slice (some ⟨S, 0, none⟩) k k) ∧ ys.Perm ds ∧ ys.Pairwise (· ≤ ·) ∧ (0 < ds.length → Row w' S 0 ys ∧ S < w'.heap.size) ∧ Below wr.heap.size wr w') := by
            have := sortG (some ⟨Wc.heap.size + 1, 0, none⟩) n ds hk6 hdl wr (fun _ => ⟨_, _, rfl, hAp.lQ, hAp.rQ⟩)
            rw [hE.out.1] at this
            rw [hE.out.1]
            exact this
          have HRP : Hid (∀ W, RowKit.Below wr.heap.size wr W → Calls Try.prog 7 #[.slice (some ⟨Wc.heap.size, 0, none⟩) k n] W fun e w' => ∃ R H I am cm ch nh ys, e = .returned (.pointer (some ⟨R, 0, none⟩)) ∧ ys.Perm ds ∧ ys.Pairwise (· ≤ ·) ∧ RG W.heap.size ys R H I am cm ch nh w' ∧ RowKit.Below W.heap.size W w') := fun W hW => by
            have := newG (some ⟨Wc.heap.size, 0, none⟩) n ds hk6 hdl W (fun _ => ⟨_, _, rfl, hAp.rP.below hW hAp.lP⟩) (fun _ => ⟨some (Wc.heap.size, 0), rfl⟩)
            rw [hE.out.1] at this
            exact this
          have hApb := hAp.bel
          clear hds hAp hin
          go_wp2_with fail
          refine HSO.out.mono ?_
          rintro e w2 ⟨S, zs, rfl, hP1, hs1, hS, hb2⟩
          clear HSO hid hid2
          have hBc2 := hApb.trans (hb2.mono hApb.size)
          go_wp2_with fail
          refine (HNA.out w2 hBc2).mono ?_
          rintro e w3 ⟨R, H, I, am, cm, ch, nh, ys, rfl, hP2, hs2, hRG, hb3⟩
          clear HNA
          have hy6 : ys.length ≤ 65536 := by rw [hP2.length_eq]; omega
          have hyl : ∀ y ∈ ys, y < top := fun y hy => hlt y (hP2.mem_iff.1 hy)
          have hB2 : RowKit.Below W1.heap.size W1 w2 := hBr.trans (hb2.mono hBr.size)
          have hB3 : RowKit.Below W1.heap.size W1 w3 := hB2.trans (hb3.mono hB2.size)
          have hbx3 : Hid (w3.rangeAt w.heap.size 0 (enc x)) := box_of ((hB3.block _ hbl).trans hbx1)
          have HRM := remove_G x hRG hx hy6 hyl hs2
          go_wp2_with (first | ((with_reducible refine wpList_load_mid ?_ 25 (.tmp 3) ?_ w.heap.size 0 ?_ (enc x) _ hbx3.out Try.underlying25 ?_ (sz25 x) ?_); rfl; rfl; rfl; rfl))
          refine HRM.mono ?_
          rintro e w4 ⟨rfl, zs2, I2, hP3, hs3, hRG2, hb4⟩
          clear HRM hRG hbx3
          have hb24 : RowKit.Below w2.heap.size w2 w4 := hb3.trans hb4
          have hb4' : RowKit.Below wr.heap.size wr w4 := hb2.trans (hb24.mono hb2.size)
          have hB4 : RowKit.Below W1.heap.size W1 w4 := hB2.trans (hb24.mono hB2.size)
          have HNP := HRP.out w4 hb4'
          clear HRP
          go_wp2_with fail
          refine HNP.mono ?_
          rintro e w5 ⟨R', H', I', am', cm', ch', nh', ys', rfl, hP4, hs4, hRG4, hb5⟩
          clear HNP
          have hP5 : zs2.Perm ds := by
            refine hP3.trans ?_
            rw [hE.out.2]
            exact hP2.erase x
          have e1 : zs2 = zs := sorted_one _ _ _ hP5 hP1 hs3 hs1
          have e2 : ys' = zs := sorted_one _ _ _ hP4 hP1 hs4 hs1
          subst e1
          subst e2
          have hzl : ys'.length = k := by rw [hP1.length_eq, hE.out.1]
          have hz6 : ys'.length ≤ 65536 := by rw [hzl]; omega
          have hzt : ∀ y ∈ ys', y < top := fun y hy => hdl y (hP1.mem_iff.1 hy)
          have hB5 : RowKit.Below W1.heap.size W1 w5 := hB4.trans (hb5.mono hB4.size)
          have hRG5 := hRG2.below hb5
          have HRI := ringIs_G w2.heap.size R H I2 S cm ch nh k am ys' w5 hz6 hzt hRG5 (some ⟨S, 0, none⟩) (fun h0 => by
            obtain ⟨r1, r2⟩ := hS (by rw [← hP1.length_eq]; exact h0)
            have hb25 := hb24.trans (hb5.mono hb24.size)
            exact ⟨rfl, r1.below hb25 r2, Nat.lt_of_lt_of_le r2 hb25.size⟩)
          rw [hzl] at HRI
          clear hP1 hP2 hP3 hP4 hP5 hs1 hs2 hs3 hs4 hS
          go_wp2_with fail
          refine HRI.mono ?_
          rintro e w6 ⟨rfl, hb6⟩
          clear HRI
          have hB6 : RowKit.Below W1.heap.size W1 w6 := hB5.trans (hb6.mono hB5.size)
          have HSM := same_G (hRG5.below hb6) (hRG4.below hb6) hz6 hzt
          clear hRG5 hRG4 hRG2
          go_wp2_with fail
          refine HSM.mono ?_
          rintro e w7 ⟨rfl, hg7⟩
          clear HSM
          have hB7 : RowKit.Below W1.heap.size W1 w7 := hB6.trans (hg7.below.mono hB6.size)
          go_wp2
          go_ret
          exact ⟨rfl, hBw.trans (hB7.mono hBw.size)⟩
end Go.Proofs.Qxb6626435a
