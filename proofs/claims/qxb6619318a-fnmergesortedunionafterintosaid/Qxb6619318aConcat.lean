/-
  pfb1SortedConcat (12).
-/
import Derived.Test.Qxb6619318aClone
namespace Go.Proofs.Qxb6619318a
open Go.RowKit

theorem Own.form {w : World} {base : Nat} {v : Value} {zs : List Int} (h : Own w base v zs) : (v = .slice none 0 0 ∧ zs = []) ∨ ∃ g cap, v = .slice (some ⟨g, 0, none⟩) zs.length cap ∧ base ≤ g ∧ zs.length ≤ cap ∧ cap ≤ maxLen := by
  rcases h.2 with ⟨rfl, h0⟩ | ⟨g, cap, cur, rfl, hb, hg, hn, hm, hs, ht⟩
  · exact .inl ⟨rfl, List.eq_nil_of_length_eq_zero h0⟩
  · exact .inr ⟨g, cap, rfl, hb, hn, hm⟩

theorem Own.cell {w : World} {base g n cap : Nat} {zs : List Int} (h : Own w base (.slice (some ⟨g, 0, none⟩) n cap) zs) (j : Nat) (hj : j < zs.length) :
    w.cell? ⟨g, j, none⟩ = some (.int .i64 (zs.getD j 0)) ∧ w.frozen? ⟨g, j, none⟩ = false := by
  have hn : n = zs.length := by
    rcases h.2 with ⟨h', _⟩ | ⟨_, _, _, h', _⟩
    · simp at h'
    · simp at h'; exact h'.2.1
  subst hn
  have h' : w.ownsRow base 3 1 (.slice (some ⟨g, 0, none⟩) zs.length cap) zs.length (zs.map (Value.int .i64)) := h
  refine ⟨?_, h'.frozenAt j⟩
  rw [h'.cellAt j (by omega)]
  simp [List.getD, hj]

theorem Own.set {w : World} {base g n cap : Nat} {zs : List Int} (h : Own w base (.slice (some ⟨g, 0, none⟩) n cap) zs) (j : Nat) (x : Int) :
    Own (w.setCell ⟨g, j, none⟩ (.int .i64 x)) base (.slice (some ⟨g, 0, none⟩) n cap) (zs.set j x) := by
  have hn : n = zs.length := by
    rcases h.2 with ⟨h', _⟩ | ⟨_, _, _, h', _⟩
    · simp at h'
    · simp at h'; exact h'.2.1
  subst hn
  have h' : w.ownsRow base 3 1 (.slice (some ⟨g, 0, none⟩) zs.length cap) zs.length (zs.map (Value.int .i64)) := h
  have := (h'.stored j (.int .i64 x)).1
  unfold Own
  rw [List.length_set, List.map_set]
  exact this

theorem srt_take1 (L : List Int) : Srt (L.take 1) := by
  cases L with
  | nil => exact srt_nil
  | cons x L => rw [List.take_succ_cons, List.take_zero, srt_cons]; exact ⟨fun y hy => by simp at hy, srt_nil⟩
theorem split_at (Y : List Int) (m : Nat) (h : m < Y.length) : Y = Y.take m ++ Y.getD m 0 :: Y.drop (m + 1) := by
  have e : Y.getD m 0 = Y[m] := by simp [List.getD, h]
  rw [e, ← List.drop_eq_getElem_cons h, List.take_append_drop]

theorem ins_next {L Y X : List Int} {u x : Int} {m j n : Nat} (hY : Y = Y.take m ++ u :: Y.drop (m + 1)) (hYl : Y.length = n) (hm : m < n) (hp : Y.Perm L) (hs : Srt (Y.take m))
    (hI : II (Y.take m) [u] (Y.drop (m + 1)) x X j) (hj : j = 0 ∨ ∃ i, j = i + 1 ∧ ¬ u < X.getD i 0) : (X.set j u).Perm L ∧ Srt ((X.set j u).take (m + 1)) := by
  obtain ⟨h1, h2, _⟩ := hI.stop hs hj
  have hl : (Y.take m).length = m := by rw [List.length_take, hYl]; omega
  rw [hl] at h2
  rw [← hY] at h1
  exact ⟨h1.trans hp, h2⟩

set_option maxHeartbeats 1000000 in
theorem concat_any (a1 a2 a3 : Value) (A B C : List Int) (w : World) (hA : Sl w w.heap.size a1 A) (hB : Sl w w.heap.size a2 B) (hC : Sl w w.heap.size a3 C) (hn : A.length + B.length + C.length ≤ 1000000000) :
    Calls Try.prog 12 #[a1, a2, a3] w fun e w' => ∃ v' R, e = .returned v' ∧ Own w' w.heap.size v' R ∧ List.Perm R (A ++ B ++ C) ∧ Srt R ∧ Below w.heap.size w w' := by
  obtain ⟨i0, hi, hz0, hz1, hz2⟩ := info_parts info3
  have HA : Hid (Sl w w.heap.size a1 A) := hA
  have HB : Hid (Sl w w.heap.size a2 B) := hB
  have HC : Hid (Sl w w.heap.size a3 C) := hC
  obtain ⟨oa, la, ca, rfl, p1, p2, p3, p4, p5⟩ := hA
  obtain ⟨ob, lb, cb, rfl, q1, q2, q3, q4, q5⟩ := hB
  obtain ⟨oc, lc, cc, rfl, r1, r2, r3, r4, r5⟩ := hC
  have bA : Hid (A.length = la) := p1
  have bB : Hid (B.length = lb) := q1
  have bC : Hid (C.length = lc) := r1
  have hl : la + lb + lc ≤ 1000000000 := by omega
  clear p1 p3 p4 p5 q1 q3 q4 q5 r1 r3 r4 r5 hn
  go_enter Try.func12, Try.ntmps12
  go_wp2_with (first
    | (at_make; refine wpList_make_own _ rfl _ _ 22 rfl w.heap.size 3 i0 (.int .i64 0) 1 Try.underlying22 hi hz0 hz1 _ _ _ (la + lb + lc) rfl rfl (by omega) (by rw [hz2]; omega) (by unfold maxLen; omega) (Nat.le_refl _) ?_; intro w0 o0 g0; have b0 : Below w.heap.size w w0 := (Below.refl _ _).grown g0 (Nat.le_refl _) (fun k h => by cases h))
    | (at_builtin; refine wpList_append_sl rfl (.tmp 20) (.tmp 21) rfl w.heap.size _ [] rfl o0 w.heap.size _ A rfl (HA.out.below b0) (by have := bA.out; simp; omega) b0.size ?_; intro v1 w1 o1 g1; have b1 : Below w.heap.size w w1 := b0.grown g1 b0.size (fun k h => (o0.lt k h).1))
    | (at_builtin; refine wpList_append_sl rfl (.tmp 23) (.tmp 24) rfl w.heap.size v1 ([] ++ A) rfl o1 w.heap.size _ B rfl (HB.out.below b1) (by have := bA.out; have := bB.out; simp; omega) b1.size ?_; intro v2 w2 o2 g2; have b2 : Below w.heap.size w w2 := b1.grown g2 b1.size (fun k h => (o1.lt k h).1))
    | (at_builtin; refine wpList_append_sl rfl (.tmp 26) (.tmp 27) rfl w.heap.size v2 ([] ++ A ++ B) rfl o2 w.heap.size _ C rfl (HC.out.below b2) (by have := bA.out; have := bB.out; have := bC.out; simp; omega) b2.size ?_; intro v3 w3 o3 g3; have b3 : Below w.heap.size w w3 := b2.grown g3 b2.size (fun k h => (o2.lt k h).1)))
  obtain ⟨L, hL⟩ : ∃ L, L = A ++ B ++ C := ⟨_, rfl⟩
  have O3 : Hid (Own w3 w.heap.size v3 L) := by rw [hL]; exact o3
  have B3 : Hid (Below w.heap.size w w3) := b3
  have HL : Hid (L = A ++ B ++ C) := hL
  have hLn : L.length ≤ 1000000000 := by rw [hL]; have := bA.out; have := bB.out; have := bC.out; simp; omega
  clear o0 o1 o2 o3 g0 g1 g2 g3 b0 b1 b2 b3 hL
  rcases O3.out.form with ⟨hv, hL0⟩ | ⟨g, cap, hv, hg, hc1, hc2⟩
  · rw [hv]
    subst hL0
    refine wp_loop_rounds 1 ?_
    rw [rounds_succ]
    go_wp2
    go_ret
    rw [hv] at O3
    exact ⟨_, [], rfl, O3.out, by rw [← HL.out], srt_nil, B3.out⟩
  · rw [hv]
    rw [hv] at O3
    clear hv
    obtain ⟨n, hn⟩ : ∃ n, n = L.length := ⟨_, rfl⟩
    rw [← hn] at O3 hLn hc1 ⊢
    have HN : Hid (n = L.length) := hn
    clear hn
    go_loopg [8] (n - 1) (fun k i wr => ∃ (m : Nat) (Y : List Int), 1 ≤ m ∧ (m ≤ n ∨ m = 1) ∧ k = n - m ∧ i = .int .i64 m ∧ Own wr w.heap.size (.slice (some ⟨g, 0, none⟩) n cap) Y ∧ Y.Perm L ∧ Srt (Y.take m) ∧ Below w.heap.size w wr)
    case atStart => exact ⟨1, L, Nat.le_refl _, .inr rfl, rfl, rfl, O3.out, List.Perm.refl _, srt_take1 L, B3.out⟩
    case round =>
      obtain ⟨m, Y, hm1, hm2, hk, rfl, ho, hp, hs, hb⟩ := hrel
      have HO : Hid (Own wr w.heap.size (.slice (some ⟨g, 0, none⟩) n cap) Y) := ho
      have HP : Hid (Y.Perm L) := hp
      have HS : Hid (Srt (Y.take m)) := hs
      have HB : Hid (Below w.heap.size w wr) := hb
      have HK : Hid (gk = n - m) := hk
      have HYn : Hid (Y.length = n) := by rw [HN.out]; exact hp.length_eq
      clear ho hp hs hb hk
      by_cases hlt : m < n
      · obtain ⟨cm, _⟩ := HO.out.cell m (by rw [HYn.out]; exact hlt)
        obtain ⟨u, hu⟩ : ∃ u, u = Y.getD m 0 := ⟨_, rfl⟩
        rw [← hu] at cm
        have HY : Hid (Y = Y.take m ++ u :: Y.drop (m + 1)) := by rw [hu]; exact split_at Y m (by rw [HYn.out]; exact hlt)
        clear hu
        have e1 : (m : Int) < (n : Int) := by omega
        obtain ⟨wo, rfl⟩ : ∃ wo : World, wo = wr := ⟨_, rfl⟩
        obtain ⟨go, rfl⟩ : ∃ go : Nat, go = gk := ⟨_, rfl⟩
        go_wp2
        go_loopg [10] m (fun k j wr => ∃ (X : List Int) (x : Int), j = .int .i64 k ∧ II (Y.take m) [u] (Y.drop (m + 1)) x X k ∧ Own wr w.heap.size (.slice (some ⟨g, 0, none⟩) n cap) X ∧ Below w.heap.size w wr)
        case atStart =>
          refine ⟨Y, u, rfl, ?_, HO.out, HB.out⟩
          have h := II.start (Y.take m) (Y.drop (m + 1)) u
          rw [← HY.out] at h
          have hl : (Y.take m).length = m := by rw [List.length_take, HYn.out]; omega
          rw [hl] at h
          exact h
        case round =>
          obtain ⟨X, x, rfl, hI, hoX, hbX⟩ := hrel
          have IH : Hid (II (Y.take m) [u] (Y.drop (m + 1)) x X gk) := hI
          have OX : Hid (Own wr w.heap.size (.slice (some ⟨g, 0, none⟩) n cap) X) := hoX
          have BX : Hid (Below w.heap.size w wr) := hbX
          have hXl : X.length = n ∧ gk ≤ m := by
            have h := hI.len
            have := HYn.out
            simp at h; omega
          obtain ⟨hX1, hX2⟩ := hXl
          have HX1 : Hid (X.length = n) := hX1
          have e2 : (gk : Int) < (n : Int) := by omega
          have e3 : (gk : Int) ≤ 1000000000 := by omega
          clear hI hoX hbX hX1
          obtain ⟨cg, fg⟩ := OX.out.cell gk (by rw [HX1.out]; omega)
          cases gk with
          | zero =>
            have HNX := show Hid _ from ins_next HY.out HYn.out hlt HP.out HS.out IH.out (.inl rfl)
            go_wp2
            go_roundg (n - (m + 1))
            case measure => rw [HK.out]; omega
            case rel => exact ⟨m + 1, X.set 0 u, by omega, .inl (by omega), rfl, by go_num, OX.out.set 0 u, HNX.out.1, HNX.out.2, BX.out.setCell (by exact hg) _⟩
          | succ q =>
            obtain ⟨cq, _⟩ := OX.out.cell q (by rw [HX1.out]; omega)
            obtain ⟨z, hz⟩ : ∃ z, z = X.getD q 0 := ⟨_, rfl⟩
            obtain ⟨z', hz'⟩ : ∃ z', z' = X.getD (q + 1) 0 := ⟨_, rfl⟩
            rw [← hz] at cq
            rw [← hz'] at cg
            have HZ : Hid (z = X.getD q 0) := hz
            clear hz hz'
            have e4 : (q : Int) < (n : Int) := by omega
            by_cases hq : u < z
            · have HS2 : Hid (II (Y.take m) [u] (Y.drop (m + 1)) z (X.set (q + 1) z) q) := by
                have h := IH.out.step (by rw [← HZ.out]; exact hq)
                rw [← HZ.out] at h
                exact h
              go_wp2
              go_roundg q
              case measure => omega
              case rel => exact ⟨X.set (q + 1) z, z, by go_num, HS2.out, OX.out.set (q + 1) z, BX.out.setCell (by exact hg) _⟩
            · have HNX := show Hid _ from ins_next HY.out HYn.out hlt HP.out HS.out IH.out (.inr ⟨q, rfl, by rw [← HZ.out]; exact hq⟩)
              go_wp2
              go_roundg (n - (m + 1))
              case measure => rw [HK.out]; omega
              case rel => exact ⟨m + 1, X.set (q + 1) u, by omega, .inl (by omega), rfl, by go_num, OX.out.set (q + 1) u, HNX.out.1, HNX.out.2, BX.out.setCell (by exact hg) _⟩
      · go_wp2
        go_ret
        refine ⟨_, Y, rfl, HO.out, by rw [← HL.out]; exact HP.out, ?_, HB.out⟩
        have h := HS.out
        rw [List.take_of_length_le (by rw [HYn.out]; omega)] at h
        exact h
end Go.Proofs.Qxb6619318a
