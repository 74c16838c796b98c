/-
  THE WALK OF FnMergeSortedUnionAfterInto (3), out of its callees' contracts.
-/
import Derived.Test.Qxb6619318aAssoc
import Derived.Test.Qxb6619318aMergeG
namespace Go.Proofs.Qxb6619318a
open Go.RowKit

set_option maxHeartbeats 400000 in
theorem zmerge_grow (v av bv : Value) (X A B : List Int) (base : Nat) (w : World) (hown : Own w base v X) (hA : Sl w base av A) (hB : Sl w base bv B) (hbase : base ≤ w.heap.size) (hn : X.length + A.length + B.length ≤ 1000000000) :
    Calls Try.prog 13 #[v, av, bv] w fun e w' => ∃ v' R, e = .returned v' ∧ Own w' base v' (X ++ R) ∧ List.Perm R (A ++ B) ∧ (Srt A → Srt B → Srt R) ∧ Below base w w' ∧ w.grownBy w' v.ownBlock := by
  go_enter Try.func13, Try.ntmps13
  go_wp2_with fail
  refine (merge_grow v av bv X A B base _ hown hA hB hbase hn).mono ?_
  rintro e w' ⟨v', R, rfl, h⟩
  go_wp2
  go_ret
  exact ⟨v', R, rfl, h⟩

theorem Own.below {w w' : World} {base : Nat} {v : Value} {zs : List Int} (h : Own w base v zs) (hb : Below w.heap.size w w') : Own w' base v zs := by
  have hg : w.grownBy w' none := ⟨hb.os, hb.tape, hb.output, hb.size, fun k hk _ => hb.block k hk⟩
  exact World.ownsRow.kept h hg (by cases v.ownBlock <;> simp)

/-- 'got[len(into):]'. -/
theorem Sl.cutAt {w : World} {base g n cap : Nat} {I R : List Int} (h : Own w base (.slice (some ⟨g, 0, none⟩) n cap) (I ++ R)) (li : Nat) (hli : I.length = li) (ao : Option Addr) (hao : cap ≠ li → ao = some ⟨g, li, none⟩) (hn : ao ≠ none) :
    Sl w w.heap.size (.slice ao (n - li) (cap - li)) R := by
  have hlt := (h.lt g rfl).2
  have hc := fun j hj => (Own.cell h j hj).1
  rcases h.form with ⟨h', _⟩ | ⟨g', cap', h', _, h1, h2⟩
  · simp at h'
  · simp only [Value.slice.injEq, Option.some.injEq, Addr.mk.injEq, and_true] at h'
    obtain ⟨rfl, rfl, rfl⟩ := h'
    simp only [List.length_append] at h1 hc ⊢
    unfold maxLen at h2
    refine ⟨ao, _, _, rfl, by omega, by omega, by unfold maxLen; omega, fun h => absurd h hn, fun hl => ⟨g, li, hao (by omega), hlt, fun i hi => ?_⟩⟩
    rw [hc (li + i) (by omega)]
    congr 2
    simp only [List.getD]
    rw [List.getElem?_append_right (by omega), show li + i - I.length = i from by omega]

theorem sl_cell {w : World} {B : Nat} {ao : Option Addr} {l c : Nat} {zs : List Int} (h : Sl w B (.slice ao l c) zs) (k : Nat) (hk : k < l) : ∃ b o, ao = some ⟨b, o, none⟩ ∧ w.cell? ⟨b, o + k, none⟩ = some (.int .i64 (zs.getD k 0)) := by
  obtain ⟨_, _, _, hv, h1, h2, h3, h4, h5⟩ := h
  cases hv
  obtain ⟨b, o, rfl, _, hc⟩ := h5 (by omega)
  exact ⟨b, o, rfl, hc k hk⟩
theorem getD_left (I R : List Int) (k : Nat) (h : k < I.length) : (I ++ R).getD k 0 = I.getD k 0 := by
  simp only [List.getD]; rw [List.getElem?_append_left h]

set_option maxRecDepth 100000 in
set_option maxHeartbeats 1000000 in
theorem walk3 (oi oa ob : Option Addr) (li ci la ca lb cb : Nat) (I A B : List Int) (w : World) (hI : Sl w w.heap.size (.slice oi li ci) I) (hA : Sl w w.heap.size (.slice oa la ca) A) (hB : Sl w w.heap.size (.slice ob lb cb) B) :
    Calls Try.prog 3 #[.slice oi li ci, .slice oa la ca, .slice ob lb cb] w fun e w' => e = .returned (.bool true) ∧ Below w.heap.size w w' := by
  obtain ⟨r1, r2, r3, r4⟩ := sl_len hI
  obtain ⟨p1, p2, p3, p4⟩ := sl_len hA
  obtain ⟨q1, q2, q3, q4⟩ := sl_len hB
  have HI : Hid (Sl w w.heap.size (.slice oi li ci) I) := hI
  have HA : Hid (Sl w w.heap.size (.slice oa la ca) A) := hA
  have HB : Hid (Sl w w.heap.size (.slice ob lb cb) B) := hB
  have lI : Hid (I.length = li) := r1
  have lA : Hid (A.length = la) := p1
  have lB : Hid (B.length = lb) := q1
  have nA : Hid (oa = none → la = 0 ∧ ca = 0) := p4
  have nB : Hid (ob = none → lb = 0 ∧ cb = 0) := q4
  clear hA hB hI p1 q1 r1 p4 q4 r4
  by_cases c1 : 1048576 < li + la + lb
  · go_enter Try.func3, Try.ntmps3
    go_wp2_with fail
    refine (bytes9_no oi oa ob li la lb ci ca cb _ (by omega) (by omega) (by omega) c1).mono ?_
    rintro e w' ⟨rfl, hw'⟩
    obtain rfl := hw'.symm
    go_wp2
    go_ret
    exact ⟨rfl, Below.refl _ _⟩
  have c1' : li + la + lb ≤ 1048576 := by omega
  clear c1
  by_cases c2 : 32768 < li ∨ 32768 < la ∨ 32768 < lb
  · have d2 : 32768 < li ∨ (li ≤ 32768 ∧ 32768 < la) ∨ (li ≤ 32768 ∧ la ≤ 32768 ∧ 32768 < lb) := by omega
    clear c2
    rcases d2 with d2 | ⟨d2, d3⟩ | ⟨d2, d3, d4⟩
    all_goals
      go_enter Try.func3, Try.ntmps3
      go_wp2_with fail
      refine (bytes9 oi oa ob li la lb ci ca cb _ c1').mono ?_
      rintro e w' ⟨rfl, hw'⟩
      obtain rfl := hw'.symm
      go_wp2
      go_ret
      exact ⟨rfl, Below.refl _ _⟩
  have d1 : li ≤ 32768 := by omega
  have d2 : la ≤ 32768 := by omega
  have d3 : lb ≤ 32768 := by omega
  clear c2
  go_enter Try.func3, Try.ntmps3
  go_wp2_with fail
  refine (bytes9 oi oa ob li la lb ci ca cb _ c1').mono ?_
  rintro e w' ⟨rfl, hw'⟩
  obtain rfl := hw'.symm
  go_wp2_with fail
  refine (sorted_any _ A w.heap.size _ HA.out (by have := lA.out; omega)).mono ?_
  rintro e V1 ⟨⟨b1, rfl, hb1⟩, q, hq⟩
  have B1 : Hid (Below w.heap.size w V1) := by rw [hq]; exact below_drewN (Below.refl _ _) q
  clear hq q
  cases b1 with
  | false =>
    go_wp2
    go_ret
    exact ⟨rfl, B1.out⟩
  | true =>
  have SA : Hid (Srt A) := hb1 rfl
  clear hb1
  go_wp2_with fail
  refine (sorted_any _ B w.heap.size _ (HB.out.below B1.out) (by have := lB.out; omega)).mono ?_
  rintro e V3 ⟨⟨b2, rfl, hb2⟩, q, hq⟩
  have B3 : Hid (Below w.heap.size w V3) := by rw [hq]; exact below_drewN B1.out q
  clear hq q B1
  cases b2 with
  | false =>
    go_wp2
    go_ret
    exact ⟨rfl, B3.out⟩
  | true =>
  have SB : Hid (Srt B) := hb2 rfl
  clear hb2
  have hq := fun (w : World) (a : Option Addr) (n c n' c' : Nat) => run_neq_slice_nil_any (P := Try.prog) w 22 3 a n c n' c' Try.underlying22
  obtain ⟨i0, hi, hz0, hz1, hz2⟩ := info_parts info3
  go_upto_if 37 with fail
  go_cut [1] from 14 (fun v0 wc => Sl wc wc.heap.size v0 A ∧ Below V3.heap.size V3 wc)
  case first =>
    cases oa with
    | none =>
      obtain ⟨rfl, rfl⟩ := nA.out rfl
      have hnil : A = [] := List.eq_nil_of_length_eq_zero lA.out
      go_wp2
      go_meet
      case rel =>
        rw [hnil]
        exact ⟨Sl.nil _ _, Below.refl _ _⟩
    | some ad =>
      go_wp2_with (at_make; refine wpList_make_full _ rfl _ _ 22 rfl V3.heap.size 3 i0 (.int .i64 0) 1 Try.underlying22 hi hz0 hz1 _ _ _ _ la rfl rfl rfl rfl (by rw [hz2]; omega) (by unfold maxLen; omega) (Nat.le_refl _) ?_)
      intro w1 ho1 hg1
      obtain ⟨xs, k1, k2⟩ := made_row ho1
      have hb1 : Below V3.heap.size V3 w1 := (Below.refl _ _).grown hg1 (Nat.le_refl _) (fun k h => by cases h)
      clear ho1 hg1
      go_wp2_with (refine wpList_copy_splice rfl _ _ 22 22 rfl 3 Try.underlying22 size3 _ _ _ _ _ _ rfl rfl V3.heap.size 0 xs 3 k2 (A.map (Value.int .i64)) (by simp [lA.out]) (copy_src ((HA.out.below B3.out).below (hb1.mono B3.out.size))) (by simp [lA.out, k1]) (ints_oneCell _ _) V3.heap.size V3 hb1 (Nat.le_refl _) ?_; intro w2 HG2 hB2)
      go_wp2
      go_meet
      case rel => exact ⟨Sl.ofOwn (copied_own (base := V3.heap.size) (Nat.le_refl _) k1 lA.out (by unfold maxLen; omega) HG2.out), hB2⟩
  case rest =>
    obtain ⟨sA, bA⟩ := hcut
    obtain ⟨V4, rfl⟩ : ∃ V : World, V = wc := ⟨_, rfl⟩
    have SlA : Hid (Sl V4 V4.heap.size u1 A) := sA
    have B4 : Hid (Below w.heap.size w V4) := B3.out.trans (bA.mono B3.out.size)
    clear sA bA B3
    go_upto_if 46 with fail
    go_cut [2] from 14 (fun v0 wc => Sl wc wc.heap.size v0 B ∧ Below V4.heap.size V4 wc)
    case first =>
      cases ob with
      | none =>
        obtain ⟨rfl, rfl⟩ := nB.out rfl
        have hnil : B = [] := List.eq_nil_of_length_eq_zero lB.out
        go_wp2
        go_meet
        case rel =>
          rw [hnil]
          exact ⟨Sl.nil _ _, Below.refl _ _⟩
      | some ad =>
        go_wp2_with (at_make; refine wpList_make_full _ rfl _ _ 22 rfl V4.heap.size 3 i0 (.int .i64 0) 1 Try.underlying22 hi hz0 hz1 _ _ _ _ lb rfl rfl rfl rfl (by rw [hz2]; omega) (by unfold maxLen; omega) (Nat.le_refl _) ?_)
        intro w1 ho1 hg1
        obtain ⟨xs, k1, k2⟩ := made_row ho1
        have hb1 : Below V4.heap.size V4 w1 := (Below.refl _ _).grown hg1 (Nat.le_refl _) (fun k h => by cases h)
        clear ho1 hg1
        go_wp2_with (refine wpList_copy_splice rfl _ _ 22 22 rfl 3 Try.underlying22 size3 _ _ _ _ _ _ rfl rfl V4.heap.size 0 xs 3 k2 (B.map (Value.int .i64)) (by simp [lB.out]) (copy_src ((HB.out.below B4.out).below (hb1.mono B4.out.size))) (by simp [lB.out, k1]) (ints_oneCell _ _) V4.heap.size V4 hb1 (Nat.le_refl _) ?_; intro w2 HG2 hB2)
        go_wp2
        go_meet
        case rel => exact ⟨Sl.ofOwn (copied_own (base := V4.heap.size) (Nat.le_refl _) k1 lB.out (by unfold maxLen; omega) HG2.out), hB2⟩
    case rest =>
      obtain ⟨sB, bB⟩ := hcut
      obtain ⟨V5, rfl⟩ : ∃ V : World, V = wc := ⟨_, rfl⟩
      have SlB : Hid (Sl V5 V5.heap.size u2 B) := sB
      have SlA5 : Hid (Sl V5 V5.heap.size u1 A) := (SlA.out.below bB).mono bB.size
      have B5 : Hid (Below w.heap.size w V5) := B4.out.trans (bB.mono B4.out.size)
      clear sB bB B4 SlA
      have nI1 := lI.out
      have nA1 := lA.out
      have nB1 := lB.out
      go_wp2_with fail
      refine (clone_any _ I w.heap.size _ (HI.out.below B5.out) B5.out.size (by omega)).mono ?_
      rintro e V6 ⟨vin, rfl, o6, b6⟩
      have OI : Hid (Own V6 V5.heap.size vin I) := o6
      have B6 : Hid (Below V5.heap.size V5 V6) := b6
      clear o6 b6
      have A6 : Hid (Sl V6 V6.heap.size u1 A) := (SlA5.out.below B6.out).mono B6.out.size
      have B6' : Hid (Sl V6 V6.heap.size u2 B) := (SlB.out.below B6.out).mono B6.out.size
      go_wp2_with fail
      refine (concat_any u1 u2 (.slice none 0 0) A B [] _ A6.out B6'.out (Sl.nil _ _) (by simp; omega)).mono ?_
      rintro e V7 ⟨vw, RW, rfl, ow, pw, sw, bw⟩
      have OW : Hid (Own V7 V6.heap.size vw RW) := ow
      have PW : Hid (RW.Perm (A ++ B)) := by show RW.Perm (A ++ B); simpa using pw
      have SW : Hid (Srt RW) := sw
      have B7 : Hid (Below V6.heap.size V6 V7) := bw
      clear ow pw sw bw
      have lW : Hid (RW.length = la + lb) := by have h := PW.out.length_eq; simp at h; show _ = _; omega
      have A7 : Hid (Sl V7 V5.heap.size u1 A) := (SlA5.out.below B6.out).below (B7.out.mono B6.out.size)
      have B7' : Hid (Sl V7 V5.heap.size u2 B) := (SlB.out.below B6.out).below (B7.out.mono B6.out.size)
      have OI7 : Hid (Own V7 V5.heap.size vin I) := Own.below OI.out B7.out
      go_wp2_with fail
      refine (zmerge_grow vin u1 u2 I A B V5.heap.size _ OI7.out A7.out B7'.out (Nat.le_trans B6.out.size B7.out.size) (by omega)).mono ?_
      rintro e V8 ⟨vg, R, rfl, o8, p8, s8, b8, g8⟩
      have OG : Hid (Own V8 V5.heap.size vg (I ++ R)) := o8
      have PG : Hid (R.Perm (A ++ B)) := p8
      have SG : Hid (Srt R) := s8 SA.out SB.out
      have B8 : Hid (Below V5.heap.size V7 V8) := b8
      have ER : Hid (R = RW) := srt_only (s8 SA.out SB.out) SW.out (p8.trans PW.out.symm)
      have OW8 : Hid (Own V8 V6.heap.size vw RW) := by
        refine World.ownsRow.kept OW.out g8 ?_
        cases hk : vw.ownBlock with
        | none => exact .inl rfl
        | some k =>
          refine .inr (fun e => ?_)
          have h1 := (OW.out.lt k hk).1
          have h2 := (OI.out.lt k e.symm).2
          omega
      have g5 : w.heap.size ≤ V5.heap.size := B5.out.size
      have g6 : V5.heap.size ≤ V6.heap.size := B6.out.size
      have g7 : V6.heap.size ≤ V7.heap.size := B7.out.size
      have g8' : V7.heap.size ≤ V8.heap.size := B8.out.size
      have BW8 : Hid (Below w.heap.size w V8) := ((B5.out.trans (B6.out.mono (by omega))).trans (B7.out.mono (by omega))).trans (B8.out.mono (by omega))
      have A8 : Hid (Sl V8 V8.heap.size u1 A) := (A7.out.below B8.out).mono (by omega)
      have B8' : Hid (Sl V8 V8.heap.size u2 B) := (B7'.out.below B8.out).mono (by omega)
      have lR : Hid (R.length = la + lb) := by have h := PG.out.length_eq; simp at h; show _ = _; omega
      have I8 : Hid (Sl V8 w.heap.size (.slice oi li ci) I) := HI.out.below BW8.out
      clear o8 p8 s8 b8 g8
      have W8 : Hid (Sl V8 V8.heap.size vw RW) := Sl.ofOwn OW8.out
      obtain ⟨ow, lw, cw, hvw, w1, w2, w3, w4, w5⟩ := Sl.ofOwn OW8.out
      rw [hvw] at W8
      have LW : lw = la + lb := by have := lW.out; omega
      clear w1 w4 w5
      rcases OG.out.form with ⟨hv, hn⟩ | ⟨g, cap, hv, hg, hc1, hc2⟩
      · have hI0 : I = [] := (List.append_eq_nil_iff.1 hn).1
        have hR0 : R = [] := (List.append_eq_nil_iff.1 hn).2
        obtain rfl : li = 0 := by rw [← lI.out, hI0]; rfl
        have hz : la + lb = 0 := by rw [← lR.out, hR0]; rfl
        obtain rfl : lw = 0 := by omega
        rw [hv, hvw]
        have HRN : Hid (R = []) := hR0
        clear hv hvw LW hn hI0 hR0
        go_wp2_with fail
        refine wp_loop_rounds 1 ?_
        rw [rounds_succ]
        go_wp2_with fail
        have WB : Below V8.heap.size V8 V8 := Below.refl _ _
        refine (equal_any (.slice none 0 0) _ R RW _ _ _ (by rw [HRN.out]; exact Sl.nil _ 0) W8.out (by have := lR.out; omega) ER.out).mono ?_
        rintro e V10 ⟨rfl, q10, hq10⟩
        have B10 : Hid (Below V8.heap.size V8 V10) := by rw [hq10]; exact below_drewN WB q10
        clear hq10
        have A10 : Hid (Sl V10 V10.heap.size u1 A) := (A8.out.below B10.out).mono B10.out.size
        have B10' : Hid (Sl V10 V10.heap.size u2 B) := (B8'.out.below B10.out).mono B10.out.size
        have W10 : Hid (Sl V10 V10.heap.size _ RW) := (W8.out.below B10.out).mono B10.out.size
        go_wp2_with fail
        refine (zmerge_any (.slice none 0 0) u2 u1 [] B A V10.heap.size _ (World.ownsRow_nil _ _ _ _) B10'.out A10.out (Nat.le_refl _) (by simp; omega)).mono ?_
        rintro e V11 ⟨vs, Rs, rfl, o11, p11, s11, b11⟩
        have OS : Hid (Own V11 V10.heap.size vs Rs) := o11
        have ES : Hid (Rs = RW) := srt_only (s11 SB.out SA.out) SW.out (p11.trans (List.perm_append_comm.trans PW.out.symm))
        have B11 : Hid (Below V10.heap.size V10 V11) := b11
        clear o11 p11 s11 b11
        have W11 : Hid (Sl V11 V11.heap.size _ RW) := (W10.out.below B11.out).mono B11.out.size
        have S11 : Hid (Sl V11 V11.heap.size vs Rs) := Sl.ofOwn OS.out
        have BW11 : Hid (Below w.heap.size w V11) := (BW8.out.trans (B10.out.mono (by omega))).trans (B11.out.mono (by have := B10.out.size; omega))
        go_wp2_with fail
        refine (equal_any vs _ Rs RW _ _ _ S11.out W11.out (by rw [ES.out, lW.out]; omega) ES.out).mono ?_
        rintro e V12 ⟨rfl, q12, hq12⟩
        have B12 : Hid (Below w.heap.size w V12) := by rw [hq12]; exact below_drewN BW11.out q12
        clear hq12
        go_wp2
        go_ret
        exact ⟨rfl, B12.out⟩
      · obtain ⟨n, hnn⟩ : ∃ n, n = (I ++ R).length := ⟨_, rfl⟩
        rw [← hnn] at hv hc1
        have hn2 : n = li + lw := by rw [hnn, List.length_append, lI.out, lR.out]; omega
        have HN : Hid (n = (I ++ R).length) := hnn
        rw [hv] at OG
        rw [hv, hvw]
        unfold maxLen at hc2 w3
        clear hv hvw hnn
        have hne : ((n : Int) != (li : Int) + (lw : Int)) = false := by rw [bne_eq_false_iff_eq]; omega
        have bl : lw ≤ 100000 := by omega
        have hn3 : li ≤ n := by omega
        have hn4 : n ≤ 200000 := by omega
        have HN2 : Hid (n = li + lw) := hn2
        clear hn2 LW
        go_wp2_with fail
        go_loopw [12] (fun i wr => ∃ k : Nat, k ≤ li ∧ i = .int .i64 k ∧ ∃ q, wr = V8.drewN q) (fun i _ => li - (intOf i).toNat)
        case atStart => exact ⟨0, Nat.zero_le _, rfl, 0, rfl⟩
        case round =>
          obtain ⟨k, hk, rfl, q, rfl⟩ := hrel
          by_cases hlt : k < li
          · obtain ⟨b, o, hoi, hcell⟩ := sl_cell I8.out k hlt
            subst hoi
            have hnk : k < (I ++ R).length := by rw [← HN.out]; omega
            have cg := (OG.out.cell k hnk).1
            rw [getD_left I R k (by rw [lI.out]; exact hlt)] at cg
            obtain ⟨z, hz⟩ : ∃ z, z = I.getD k 0 := ⟨_, rfl⟩
            rw [← hz] at cg hcell
            clear hz hnk
            have e1 : (k : Int) < (n : Int) := by omega
            have e2 : (k : Int) < (li : Int) := by omega
            go_wp2
            go_quiet (fail)
            go_wp2
            go_roundw
            case rel => exact ⟨k + 1, by omega, by go_num, _, rfl⟩
            case measure => simp [intOf]; omega
          · have f1 : (0 : Int) ≤ (li : Int) := by omega
            have f2 : (li : Int) ≤ (n : Int) := by omega
            have WB : Below V8.heap.size V8 (V8.drewN q) := below_drewN (Below.refl _ _) q
            by_cases hcl : cap = li
            · subst hcl
              have CT : Hid (Sl V8 V8.heap.size (.slice (some ⟨g, 0, none⟩) 0 0) R) := by
                have h := Sl.cutAt OG.out cap lI.out (some ⟨g, 0, none⟩) (fun h => absurd rfl h) (by simp)
                rw [show n - cap = 0 from by omega, Nat.sub_self] at h
                exact h
              go_wp2_with fail
              refine (equal_any _ _ R RW _ _ _ (CT.out.drewN q) (W8.out.drewN q) (by have := lR.out; omega) ER.out).mono ?_
              rintro e V10 ⟨rfl, q10, hq10⟩
              have B10 : Hid (Below V8.heap.size V8 V10) := by rw [hq10]; exact below_drewN WB q10
              clear hq10
              have A10 : Hid (Sl V10 V10.heap.size u1 A) := (A8.out.below B10.out).mono B10.out.size
              have B10' : Hid (Sl V10 V10.heap.size u2 B) := (B8'.out.below B10.out).mono B10.out.size
              have W10 : Hid (Sl V10 V10.heap.size _ RW) := (W8.out.below B10.out).mono B10.out.size
              go_wp2_with fail
              refine (zmerge_any (.slice none 0 0) u2 u1 [] B A V10.heap.size _ (World.ownsRow_nil _ _ _ _) B10'.out A10.out (Nat.le_refl _) (by simp; omega)).mono ?_
              rintro e V11 ⟨vs, Rs, rfl, o11, p11, s11, b11⟩
              have OS : Hid (Own V11 V10.heap.size vs Rs) := o11
              have ES : Hid (Rs = RW) := srt_only (s11 SB.out SA.out) SW.out (p11.trans (List.perm_append_comm.trans PW.out.symm))
              have B11 : Hid (Below V10.heap.size V10 V11) := b11
              clear o11 p11 s11 b11
              have W11 : Hid (Sl V11 V11.heap.size _ RW) := (W10.out.below B11.out).mono B11.out.size
              have S11 : Hid (Sl V11 V11.heap.size vs Rs) := Sl.ofOwn OS.out
              have BW11 : Hid (Below w.heap.size w V11) := (BW8.out.trans (B10.out.mono (by omega))).trans (B11.out.mono (by have := B10.out.size; omega))
              go_wp2_with fail
              refine (equal_any vs _ Rs RW _ _ _ S11.out W11.out (by rw [ES.out, lW.out]; omega) ES.out).mono ?_
              rintro e V12 ⟨rfl, q12, hq12⟩
              have B12 : Hid (Below w.heap.size w V12) := by rw [hq12]; exact below_drewN BW11.out q12
              clear hq12
              go_wp2
              go_ret
              exact ⟨rfl, B12.out⟩
            · have CT : Hid (Sl V8 V8.heap.size (.slice (some ⟨g, li, none⟩) (n - li) (cap - li)) R) := Sl.cutAt OG.out li lI.out (some ⟨g, li, none⟩) (fun _ => rfl) (by simp)
              go_wp2_with fail
              refine (equal_any _ _ R RW _ _ _ (CT.out.drewN q) (W8.out.drewN q) (by have := lR.out; omega) ER.out).mono ?_
              rintro e V10 ⟨rfl, q10, hq10⟩
              have B10 : Hid (Below V8.heap.size V8 V10) := by rw [hq10]; exact below_drewN WB q10
              clear hq10
              have A10 : Hid (Sl V10 V10.heap.size u1 A) := (A8.out.below B10.out).mono B10.out.size
              have B10' : Hid (Sl V10 V10.heap.size u2 B) := (B8'.out.below B10.out).mono B10.out.size
              have W10 : Hid (Sl V10 V10.heap.size _ RW) := (W8.out.below B10.out).mono B10.out.size
              go_wp2_with fail
              refine (zmerge_any (.slice none 0 0) u2 u1 [] B A V10.heap.size _ (World.ownsRow_nil _ _ _ _) B10'.out A10.out (Nat.le_refl _) (by simp; omega)).mono ?_
              rintro e V11 ⟨vs, Rs, rfl, o11, p11, s11, b11⟩
              have OS : Hid (Own V11 V10.heap.size vs Rs) := o11
              have ES : Hid (Rs = RW) := srt_only (s11 SB.out SA.out) SW.out (p11.trans (List.perm_append_comm.trans PW.out.symm))
              have B11 : Hid (Below V10.heap.size V10 V11) := b11
              clear o11 p11 s11 b11
              have W11 : Hid (Sl V11 V11.heap.size _ RW) := (W10.out.below B11.out).mono B11.out.size
              have S11 : Hid (Sl V11 V11.heap.size vs Rs) := Sl.ofOwn OS.out
              have BW11 : Hid (Below w.heap.size w V11) := (BW8.out.trans (B10.out.mono (by omega))).trans (B11.out.mono (by have := B10.out.size; omega))
              go_wp2_with fail
              refine (equal_any vs _ Rs RW _ _ _ S11.out W11.out (by rw [ES.out, lW.out]; omega) ES.out).mono ?_
              rintro e V12 ⟨rfl, q12, hq12⟩
              have B12 : Hid (Below w.heap.size w V12) := by rw [hq12]; exact below_drewN BW11.out q12
              clear hq12
              go_wp2
              go_ret
              exact ⟨rfl, B12.out⟩
end Go.Proofs.Qxb6619318a
