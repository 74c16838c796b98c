/-
  THE WALK OF FnMergeAssociates (4), out of its callees' contracts.
-/
import Derived.Test.Qxb6619318aMBytes
import Derived.Deep.Cut
namespace Go.Proofs.Qxb6619318a
open Go.RowKit

theorem sl_len {w : World} {B : Nat} {ao : Option Addr} {l c : Nat} {zs : List Int} (h : Sl w B (.slice ao l c) zs) : zs.length = l ∧ l ≤ c ∧ c ≤ 9223372036854775807 ∧ (ao = none → l = 0 ∧ c = 0) := by
  obtain ⟨_, _, _, hv, h1, h2, h3, h4, h5⟩ := h
  cases hv
  unfold maxLen at h3
  exact ⟨h1, h2, by omega, fun h => by have := h4 h; omega⟩

/-- A slice of ints that came in (as the shells of this seat tell it): its elements. -/
theorem Sl.ofRow {w : World} {a : Option Addr} {len cap : Nat} {zs : List Int}
    (h : (a = none ∧ len = 0 ∧ cap = 0 ∧ zs = []) ∨ ∃ x, a = some x ∧ len ≤ cap ∧ cap ≤ maxLen ∧ zs.length = cap ∧ (∀ i, i < zs.length → w.cell? (x.add i) = some (.int .i64 (zs.getD i 0))) ∧ ∀ n ∈ zs, (Lit.int .i64 n).wf = true) :
    Sl w w.heap.size (.slice a len cap) (zs.take len) := by
  rcases h with ⟨rfl, rfl, rfl, rfl⟩ | ⟨x, rfl, h1, h2, h3, h4, _⟩
  · exact Sl.nil _ _
  · refine ⟨some x, len, cap, rfl, by rw [List.length_take]; omega, h1, h2, (fun h => by cases h), fun hl => ?_⟩
    have h0 := h4 0 (by omega)
    have hsp := World.cell?_spot h0
    obtain ⟨b, o, sp⟩ := x
    have : sp = none := by simpa [Addr.add] using hsp
    subst this
    refine ⟨b, o, rfl, ?_, fun i hi => ?_⟩
    · have := World.block_lt_of_cell? w _ h0
      simpa [Addr.add] using this
    · have := h4 i (by omega)
      rw [Addr.add_lit] at this
      rw [this]
      simp [List.getD, hi]

set_option maxRecDepth 100000 in
set_option maxHeartbeats 1000000 in
theorem walk4 (oa ob oc : Option Addr) (la ca lb cb lc cc : Nat) (A B C : List Int) (w : World) (hA : Sl w w.heap.size (.slice oa la ca) A) (hB : Sl w w.heap.size (.slice ob lb cb) B) (hC : Sl w w.heap.size (.slice oc lc cc) C) :
    Calls Try.prog 4 #[.slice oa la ca, .slice ob lb cb, .slice oc lc cc] w fun e w' => e = .returned (.bool true) ∧ Below w.heap.size w w' := by
  obtain ⟨p1, p2, p3, p4⟩ := sl_len hA
  obtain ⟨q1, q2, q3, q4⟩ := sl_len hB
  obtain ⟨r1, r2, r3, r4⟩ := sl_len hC
  have HA : Hid (Sl w w.heap.size (.slice oa la ca) A) := hA
  have HB : Hid (Sl w w.heap.size (.slice ob lb cb) B) := hB
  have HC : Hid (Sl w w.heap.size (.slice oc lc cc) C) := hC
  have lA : Hid (A.length = la) := p1
  have lB : Hid (B.length = lb) := q1
  have lC : Hid (C.length = lc) := r1
  have nA : Hid (oa = none → la = 0 ∧ ca = 0) := p4
  have nB : Hid (ob = none → lb = 0 ∧ cb = 0) := q4
  have nC : Hid (oc = none → lc = 0 ∧ cc = 0) := r4
  clear hA hB hC p1 q1 r1 p4 q4 r4
  by_cases c1 : 1048576 < la + lb + lc
  · go_enter Try.func4, Try.ntmps4
    go_wp2_with fail
    refine (bytes15_no oa ob oc la lb lc ca cb cc _ (by omega) (by omega) (by omega) c1).mono ?_
    rintro e w' ⟨rfl, hw'⟩
    obtain rfl := hw'.symm
    go_wp2
    go_ret
    exact ⟨rfl, Below.refl _ _⟩
  have c1' : la + lb + lc ≤ 1048576 := by omega
  clear c1
  by_cases c2 : 32768 < la ∨ 32768 < lb ∨ 32768 < lc
  · have d2 : 32768 < la ∨ (la ≤ 32768 ∧ 32768 < lb) ∨ (la ≤ 32768 ∧ lb ≤ 32768 ∧ 32768 < lc) := by omega
    clear c2
    rcases d2 with d2 | ⟨d2, d3⟩ | ⟨d2, d3, d4⟩
    all_goals
      go_enter Try.func4, Try.ntmps4
      go_wp2_with fail
      refine (bytes15 oa ob oc la lb lc ca cb cc _ c1').mono ?_
      rintro e w' ⟨rfl, hw'⟩
      obtain rfl := hw'.symm
      go_wp2
      go_ret
      exact ⟨rfl, Below.refl _ _⟩
  have d1 : la ≤ 32768 := by omega
  have d2 : lb ≤ 32768 := by omega
  have d3 : lc ≤ 32768 := by omega
  clear c2
  go_enter Try.func4, Try.ntmps4
  go_wp2_with fail
  refine (bytes15 oa ob oc la lb lc ca cb cc _ c1').mono ?_
  rintro e w' ⟨rfl, hw'⟩
  obtain rfl := hw'.symm
  go_wp2_with fail
  refine (sorted_any _ A w.heap.size _ HA.out (by have := lA.out; omega)).mono ?_
  rintro e V1 ⟨⟨b1, rfl, hb1⟩, q, hq⟩
  have B1 : Hid (Below w.heap.size w V1) := by rw [hq]; exact below_drewN (Below.refl _ _) q
  clear hq q
  cases b1 with
  | false =>
    go_wp2
    go_ret
    exact ⟨rfl, B1.out⟩
  | true =>
  have SA : Hid (Srt A) := hb1 rfl
  clear hb1
  go_wp2_with fail
  refine (sorted_any _ B w.heap.size _ (HB.out.below B1.out) (by have := lB.out; omega)).mono ?_
  rintro e V2 ⟨⟨b2, rfl, hb2⟩, q, hq⟩
  have B2 : Hid (Below w.heap.size w V2) := by rw [hq]; exact below_drewN B1.out q
  clear hq q B1
  cases b2 with
  | false =>
    go_wp2
    go_ret
    exact ⟨rfl, B2.out⟩
  | true =>
  have SB : Hid (Srt B) := hb2 rfl
  clear hb2
  go_wp2_with fail
  refine (sorted_any _ C w.heap.size _ (HC.out.below B2.out) (by have := lC.out; omega)).mono ?_
  rintro e V3 ⟨⟨b3, rfl, hb3⟩, q, hq⟩
  have B3 : Hid (Below w.heap.size w V3) := by rw [hq]; exact below_drewN B2.out q
  clear hq q B2
  cases b3 with
  | false =>
    go_wp2
    go_ret
    exact ⟨rfl, B3.out⟩
  | true =>
  have SC : Hid (Srt C) := hb3 rfl
  clear hb3
  have hq := fun (w : World) (a : Option Addr) (n c n' c' : Nat) => run_neq_slice_nil_any (P := Try.prog) w 22 3 a n c n' c' Try.underlying22
  obtain ⟨i0, hi, hz0, hz1, hz2⟩ := info_parts info3
  go_upto_if 43 with fail
  go_cut [0] from 15 (fun v0 wc => Sl wc wc.heap.size v0 A ∧ Below V3.heap.size V3 wc)
  case first =>
    cases oa with
    | none =>
      obtain ⟨rfl, rfl⟩ := nA.out rfl
      have hnil : A = [] := List.eq_nil_of_length_eq_zero lA.out
      go_wp2
      go_meet
      case rel =>
        rw [hnil]
        exact ⟨Sl.nil _ _, Below.refl _ _⟩
    | some ad =>
      go_wp2_with (at_make; refine wpList_make_full _ rfl _ _ 22 rfl V3.heap.size 3 i0 (.int .i64 0) 1 Try.underlying22 hi hz0 hz1 _ _ _ _ la rfl rfl rfl rfl (by rw [hz2]; omega) (by unfold maxLen; omega) (Nat.le_refl _) ?_)
      intro w1 ho1 hg1
      obtain ⟨xs, k1, k2⟩ := made_row ho1
      have hb1 : Below V3.heap.size V3 w1 := (Below.refl _ _).grown hg1 (Nat.le_refl _) (fun k h => by cases h)
      clear ho1 hg1
      go_wp2_with (refine wpList_copy_splice rfl _ _ 22 22 rfl 3 Try.underlying22 size3 _ _ _ _ _ _ rfl rfl V3.heap.size 0 xs 3 k2 (A.map (Value.int .i64)) (by simp [lA.out]) (copy_src ((HA.out.below B3.out).below (hb1.mono B3.out.size))) (by simp [lA.out, k1]) (ints_oneCell _ _) V3.heap.size V3 hb1 (Nat.le_refl _) ?_; intro w2 HG2 hB2)
      go_wp2
      go_meet
      case rel => exact ⟨Sl.ofOwn (copied_own (base := V3.heap.size) (Nat.le_refl _) k1 lA.out (by unfold maxLen; omega) HG2.out), hB2⟩
  case rest =>
    obtain ⟨sA, bA⟩ := hcut
    obtain ⟨V4, rfl⟩ : ∃ V : World, V = wc := ⟨_, rfl⟩
    have SlA : Hid (Sl V4 V4.heap.size u0 A) := sA
    have B4 : Hid (Below w.heap.size w V4) := B3.out.trans (bA.mono B3.out.size)
    clear sA bA B3
    go_upto_if 52 with fail
    go_cut [1] from 15 (fun v0 wc => Sl wc wc.heap.size v0 B ∧ Below V4.heap.size V4 wc)
    case first =>
      cases ob with
      | none =>
        obtain ⟨rfl, rfl⟩ := nB.out rfl
        have hnil : B = [] := List.eq_nil_of_length_eq_zero lB.out
        go_wp2
        go_meet
        case rel =>
          rw [hnil]
          exact ⟨Sl.nil _ _, Below.refl _ _⟩
      | some ad =>
        go_wp2_with (at_make; refine wpList_make_full _ rfl _ _ 22 rfl V4.heap.size 3 i0 (.int .i64 0) 1 Try.underlying22 hi hz0 hz1 _ _ _ _ lb rfl rfl rfl rfl (by rw [hz2]; omega) (by unfold maxLen; omega) (Nat.le_refl _) ?_)
        intro w1 ho1 hg1
        obtain ⟨xs, k1, k2⟩ := made_row ho1
        have hb1 : Below V4.heap.size V4 w1 := (Below.refl _ _).grown hg1 (Nat.le_refl _) (fun k h => by cases h)
        clear ho1 hg1
        go_wp2_with (refine wpList_copy_splice rfl _ _ 22 22 rfl 3 Try.underlying22 size3 _ _ _ _ _ _ rfl rfl V4.heap.size 0 xs 3 k2 (B.map (Value.int .i64)) (by simp [lB.out]) (copy_src ((HB.out.below B4.out).below (hb1.mono B4.out.size))) (by simp [lB.out, k1]) (ints_oneCell _ _) V4.heap.size V4 hb1 (Nat.le_refl _) ?_; intro w2 HG2 hB2)
        go_wp2
        go_meet
        case rel => exact ⟨Sl.ofOwn (copied_own (base := V4.heap.size) (Nat.le_refl _) k1 lB.out (by unfold maxLen; omega) HG2.out), hB2⟩
    case rest =>
      obtain ⟨sB, bB⟩ := hcut
      obtain ⟨V5, rfl⟩ : ∃ V : World, V = wc := ⟨_, rfl⟩
      have SlB : Hid (Sl V5 V5.heap.size u1 B) := sB
      have SlA5 : Hid (Sl V5 V5.heap.size u0 A) := (SlA.out.below bB).mono bB.size
      have B5 : Hid (Below w.heap.size w V5) := B4.out.trans (bB.mono B4.out.size)
      clear sB bB B4 SlA
      go_upto_if 61 with fail
      go_cut [2] from 15 (fun v0 wc => Sl wc wc.heap.size v0 C ∧ Below V5.heap.size V5 wc)
      case first =>
        cases oc with
        | none =>
          obtain ⟨rfl, rfl⟩ := nC.out rfl
          have hnil : C = [] := List.eq_nil_of_length_eq_zero lC.out
          go_wp2
          go_meet
          case rel =>
            rw [hnil]
            exact ⟨Sl.nil _ _, Below.refl _ _⟩
        | some ad =>
          go_wp2_with (at_make; refine wpList_make_full _ rfl _ _ 22 rfl V5.heap.size 3 i0 (.int .i64 0) 1 Try.underlying22 hi hz0 hz1 _ _ _ _ lc rfl rfl rfl rfl (by rw [hz2]; omega) (by unfold maxLen; omega) (Nat.le_refl _) ?_)
          intro w1 ho1 hg1
          obtain ⟨xs, k1, k2⟩ := made_row ho1
          have hb1 : Below V5.heap.size V5 w1 := (Below.refl _ _).grown hg1 (Nat.le_refl _) (fun k h => by cases h)
          clear ho1 hg1
          go_wp2_with (refine wpList_copy_splice rfl _ _ 22 22 rfl 3 Try.underlying22 size3 _ _ _ _ _ _ rfl rfl V5.heap.size 0 xs 3 k2 (C.map (Value.int .i64)) (by simp [lC.out]) (copy_src ((HC.out.below B5.out).below (hb1.mono B5.out.size))) (by simp [lC.out, k1]) (ints_oneCell _ _) V5.heap.size V5 hb1 (Nat.le_refl _) ?_; intro w2 HG2 hB2)
          go_wp2
          go_meet
          case rel => exact ⟨Sl.ofOwn (copied_own (base := V5.heap.size) (Nat.le_refl _) k1 lC.out (by unfold maxLen; omega) HG2.out), hB2⟩
      case rest =>
        obtain ⟨sC, bC⟩ := hcut
        obtain ⟨V6, rfl⟩ : ∃ V : World, V = wc := ⟨_, rfl⟩
        have SlC : Hid (Sl V6 V6.heap.size u2 C) := sC
        have SlA6 : Hid (Sl V6 V6.heap.size u0 A) := (SlA5.out.below bC).mono bC.size
        have SlB6 : Hid (Sl V6 V6.heap.size u1 B) := (SlB.out.below bC).mono bC.size
        have B6 : Hid (Below w.heap.size w V6) := B5.out.trans (bC.mono B5.out.size)
        clear sC bC B5 SlA5 SlB
        go_wp2_with fail
        have nA1 := lA.out
        have nB1 := lB.out
        have nC1 := lC.out
        refine (concat_any u0 u1 u2 A B C _ SlA6.out SlB6.out SlC.out (by omega)).mono ?_
        rintro e V7 ⟨vw, RW, rfl, ow, pw, sw, bw⟩
        have OW : Hid (Own V7 V6.heap.size vw RW) := ow
        have PW : Hid (RW.Perm (A ++ B ++ C)) := pw
        have SW : Hid (Srt RW) := sw
        have BW : Hid (Below V6.heap.size V6 V7) := bw
        clear ow pw sw bw
        have A7 : Hid (Sl V7 V7.heap.size u0 A) := (SlA6.out.below BW.out).mono BW.out.size
        have B7 : Hid (Sl V7 V7.heap.size u1 B) := (SlB6.out.below BW.out).mono BW.out.size
        have C7 : Hid (Sl V7 V7.heap.size u2 C) := (SlC.out.below BW.out).mono BW.out.size
        have W7 : Hid (Sl V7 V7.heap.size vw RW) := Sl.ofOwn OW.out
        go_wp2_with fail
        refine (zmerge_any (.slice none 0 0) u0 u1 [] A B V7.heap.size _ (World.ownsRow_nil _ _ _ _) A7.out B7.out (Nat.le_refl _) (by simp; omega)).mono ?_
        rintro e V8 ⟨vab, Rab, rfl, o8, p8, s8, b8⟩
        have OAB : Hid (Own V8 V7.heap.size vab Rab) := o8
        have PAB : Hid (Rab.Perm (A ++ B)) := p8
        have SAB : Hid (Srt Rab) := s8 SA.out SB.out
        have BB8 : Hid (Below V7.heap.size V7 V8) := b8
        clear o8 p8 s8 b8
        have A8 : Hid (Sl V8 V8.heap.size u0 A) := (A7.out.below BB8.out).mono BB8.out.size
        have B8 : Hid (Sl V8 V8.heap.size u1 B) := (B7.out.below BB8.out).mono BB8.out.size
        have C8 : Hid (Sl V8 V8.heap.size u2 C) := (C7.out.below BB8.out).mono BB8.out.size
        have W8 : Hid (Sl V8 V8.heap.size vw RW) := (W7.out.below BB8.out).mono BB8.out.size
        have lAB : Hid (Rab.length = la + lb) := by have h := PAB.out.length_eq; simp at h; show _ = _; omega
        go_wp2_with fail
        refine (zmerge_any (.slice none 0 0) vab u2 [] Rab C V8.heap.size _ (World.ownsRow_nil _ _ _ _) (Sl.ofOwn OAB.out) C8.out (Nat.le_refl _) (by have := lAB.out; simp; omega)).mono ?_
        rintro e V9 ⟨vl, Rl, rfl, o9, p9, s9, b9⟩
        have OL : Hid (Own V9 V8.heap.size vl Rl) := o9
        have PL : Hid (Rl.Perm (Rab ++ C)) := p9
        have SL : Hid (Srt Rl) := s9 SAB.out SC.out
        have BB9 : Hid (Below V8.heap.size V8 V9) := b9
        clear o9 p9 s9 b9
        have A9 : Hid (Sl V9 V9.heap.size u0 A) := (A8.out.below BB9.out).mono BB9.out.size
        have B9 : Hid (Sl V9 V9.heap.size u1 B) := (B8.out.below BB9.out).mono BB9.out.size
        have C9 : Hid (Sl V9 V9.heap.size u2 C) := (C8.out.below BB9.out).mono BB9.out.size
        have W9 : Hid (Sl V9 V9.heap.size vw RW) := (W8.out.below BB9.out).mono BB9.out.size
        have L9 : Hid (Sl V9 V9.heap.size vl Rl) := Sl.ofOwn OL.out
        go_wp2_with fail
        refine (zmerge_any (.slice none 0 0) u1 u2 [] B C V9.heap.size _ (World.ownsRow_nil _ _ _ _) B9.out C9.out (Nat.le_refl _) (by simp; omega)).mono ?_
        rintro e V10 ⟨vbc, Rbc, rfl, o10, p10, s10, b10⟩
        have OBC : Hid (Own V10 V9.heap.size vbc Rbc) := o10
        have PBC : Hid (Rbc.Perm (B ++ C)) := p10
        have SBC : Hid (Srt Rbc) := s10 SB.out SC.out
        have BB10 : Hid (Below V9.heap.size V9 V10) := b10
        clear o10 p10 s10 b10
        have A10 : Hid (Sl V10 V10.heap.size u0 A) := (A9.out.below BB10.out).mono BB10.out.size
        have W10 : Hid (Sl V10 V10.heap.size vw RW) := (W9.out.below BB10.out).mono BB10.out.size
        have L10 : Hid (Sl V10 V10.heap.size vl Rl) := (L9.out.below BB10.out).mono BB10.out.size
        have lBC : Hid (Rbc.length = lb + lc) := by have h := PBC.out.length_eq; simp at h; show _ = _; omega
        go_wp2_with fail
        refine (zmerge_any (.slice none 0 0) u0 vbc [] A Rbc V10.heap.size _ (World.ownsRow_nil _ _ _ _) A10.out (Sl.ofOwn OBC.out) (Nat.le_refl _) (by have := lBC.out; simp; omega)).mono ?_
        rintro e V11 ⟨vr, Rr, rfl, o11, p11, s11, b11⟩
        have OR : Hid (Own V11 V10.heap.size vr Rr) := o11
        have PR : Hid (Rr.Perm (A ++ Rbc)) := p11
        have SR : Hid (Srt Rr) := s11 SA.out SBC.out
        have BB11 : Hid (Below V10.heap.size V10 V11) := b11
        clear o11 p11 s11 b11
        have W11 : Hid (Sl V11 V11.heap.size vw RW) := (W10.out.below BB11.out).mono BB11.out.size
        have L11 : Hid (Sl V11 V11.heap.size vl Rl) := (L10.out.below BB11.out).mono BB11.out.size
        have R11 : Hid (Sl V11 V11.heap.size vr Rr) := Sl.ofOwn OR.out
        have lW : Hid (RW.length = la + lb + lc) := by have h := PW.out.length_eq; simp at h; show _ = _; omega
        have EL : Hid (Rl = RW) := srt_only SL.out SW.out (PL.out.trans ((List.Perm.append_right C PAB.out).trans PW.out.symm))
        have ER : Hid (Rr = RW) := srt_only SR.out SW.out (PR.out.trans ((List.Perm.append_left A PBC.out).trans (by rw [← List.append_assoc]; exact PW.out.symm)))
        have B11 : Hid (Below w.heap.size w V11) := by
          have g6 := B6.out.size
          have g7 := BW.out.size
          have g8 := BB8.out.size
          have g9 := BB9.out.size
          have g10 := BB10.out.size
          exact ((((B6.out.trans (BW.out.mono (by omega))).trans (BB8.out.mono (by omega))).trans (BB9.out.mono (by omega))).trans (BB10.out.mono (by omega))).trans (BB11.out.mono (by omega))
        go_wp2_with fail
        refine (equal_any vl vw Rl RW _ _ _ L11.out W11.out (by rw [EL.out, lW.out]; omega) EL.out).mono ?_
        rintro e V12 ⟨rfl, q, hq12⟩
        have W12 : Hid (Sl V12 V11.heap.size vw RW) := by rw [hq12]; exact W11.out.drewN q
        have R12 : Hid (Sl V12 V11.heap.size vr Rr) := by rw [hq12]; exact R11.out.drewN q
        have B12 : Hid (Below w.heap.size w V12) := by rw [hq12]; exact below_drewN B11.out q
        clear hq12 q
        go_wp2_with fail
        refine (equal_any vr vw Rr RW _ _ _ R12.out W12.out (by rw [ER.out, lW.out]; omega) ER.out).mono ?_
        rintro e V13 ⟨rfl, q, hq13⟩
        have B13 : Hid (Below w.heap.size w V13) := by rw [hq13]; exact below_drewN B12.out q
        clear hq13 q
        go_wp2
        go_ret
        exact ⟨rfl, B13.out⟩
end Go.Proofs.Qxb6619318a
