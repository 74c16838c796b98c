/-
  merge (28).
-/
import Derived.Test.Qxb6619318aEq
import Derived.Deep.LoopGhost
import Derived.Deep.RegionLaw
import Derived.Deep.RegionHeld3
namespace Go.Proofs.Qxb6619318a
open Go.RowKit

theorem app_facts {V : World} {base : Nat} {u : Value} {L : List Int} {x : Int} (h : Own V base u L) :
    Hid (((V.alloc (.cells #[.int .i64 x] 3)).drew).ownsRow base 3 1 u L.length (L.map (Value.int .i64))) ∧
    Hid (∀ (j : Nat) q, [Value.int .i64 x][j]? = some q → ((V.alloc (.cells #[.int .i64 x] 3)).drew).cell? ((⟨V.heap.size, 0, none⟩ : Addr).add j) = some q) := by
  refine ⟨(World.ownsRow.alloc h _).drew, fun j q hq => ?_⟩
  exact World.news_of_block (w := (V.alloc (.cells #[.int .i64 x] 3)).drew) (B := V.heap.size) (cs := #[.int .i64 x]) (t := 3) (fr := (0, 0)) (heap_alloc_new V _) j q hq
theorem after_app {wr V w1 : World} {base : Nat} {u : Value} {L : List Int} {x : Int} (hv : Below base wr V) (hbase : base ≤ V.heap.size) (ho : Own V base u L)
    (hg : ((V.alloc (.cells #[.int .i64 x] 3)).drew).grownBy w1 u.ownBlock) : Below base wr w1 :=
  ((hv.alloc hbase _).drew).grown hg (by simp; omega) (fun k hk => (ho.lt k hk).1)
theorem own_snoc {w1 : World} {base : Nat} {v : Value} {L : List Int} {x : Int} (h : w1.ownsRow base 3 1 v (L.length + 1) (L.map (Value.int .i64) ++ [.int .i64 x])) :
    Own w1 base v (L ++ [x]) := by
  unfold Own
  rw [List.length_append, List.map_append]
  exact h
theorem one_oneCell {x : Int} : ∀ u ∈ [Value.int .i64 x], u.oneCell' = true := fun u hu => by simp at hu; subst hu; rfl

set_option maxHeartbeats 1000000 in
theorem merge_any (v av bv : Value) (X A B : List Int) (base : Nat) (w : World) (hown : Own w base v X) (hA : Sl w base av A) (hB : Sl w base bv B) (hbase : base ≤ w.heap.size) (hn : X.length + A.length + B.length ≤ 1000000000) :
    Calls Try.prog 28 #[v, av, bv] w fun e w' => ∃ v' R, e = .returned v' ∧ Own w' base v' (X ++ R) ∧ List.Perm R (A ++ B) ∧ (Srt A → Srt B → Srt R) ∧ Below base w w' := by
  obtain ⟨i0, hi, hz0, hz1, hz2⟩ := info_parts info3
  go_enter Try.func28, Try.ntmps28
  go_wp2
  go_loopg [0, 1, 2] (A.length + B.length) (fun k v0 v1 v2 wr => ∃ R A1 B1, k = A1.length + B1.length ∧ Own wr base v0 (X ++ R) ∧ Sl wr base v1 A1 ∧ Sl wr base v2 B1 ∧ MI A B R A1 B1 ∧ Below base w wr)
  case atStart => exact ⟨[], A, B, rfl, by simpa using hown, hA, hB, MI.start A B, Below.refl _ _⟩
  case round =>
    obtain ⟨R, A1, B1, hk, ho, s1, s2, hm, hb⟩ := hrel
    have hlen : R.length + A1.length + B1.length = A.length + B.length := by have := hm.1.length_eq; simp at this; omega
    have hsz := hb.size
    have hRb : R.length ≤ A.length + B.length := by omega
    cases A1 with
    | nil =>
      have HD := show Hid _ from hm.done (by simp)
      have HB : Hid (Below base w wr) := hb
      have HO : Hid (Own wr base _ (X ++ R)) := ho
      have S1 : Hid (Sl wr base _ ([] : List Int)) := s1
      have S2 : Hid (Sl wr base _ B1) := s2
      have bw : base ≤ wr.heap.size := by omega
      have bd1 : ((X ++ R).length + ([] : List Int).length) * 8 ≤ 140737488355328 := by simp at hlen ⊢; omega
      have bd2 : ((X ++ R ++ ([] : List Int)).length + (B1).length) * 8 ≤ 140737488355328 := by simp at hlen ⊢; omega
      obtain ⟨ao, l, c, rfl, t1, _, _, _, _⟩ := s1
      obtain rfl : l = 0 := by simpa using t1.symm
      clear ho hm hb hk hlen hown hA hB
      go_wp2_with (first | (at_builtin; refine wpList_append_sl rfl (.tmp 38) (.tmp 39) rfl base _ (X ++ R) rfl HO.out base _ ([] : List Int) rfl S1.out bd1 bw ?_; intro v1 w1 o1 g1) | (at_builtin; refine wpList_append_sl rfl (.tmp 41) (.tmp 42) rfl base v1 (X ++ R ++ ([] : List Int)) rfl o1 base _ (B1) rfl (S2.out.below ((Below.refl _ _).grown g1 bw (fun k hk => (HO.out.lt k hk).1))) bd2 (Nat.le_trans bw g1.size) ?_; intro v2 w2 o2 g2))
      go_ret
      exact ⟨v2, R ++ (([] : List Int) ++ B1), rfl, by rw [← List.append_assoc X, ← List.append_assoc (X ++ R)]; exact o2, HD.out.1, HD.out.2, (HB.out.grown g1 bw (fun k hk => (HO.out.lt k hk).1)).grown g2 (Nat.le_trans bw g1.size) (fun k hk => (o1.lt k hk).1)⟩
    | cons x A2 =>
      cases B1 with
      | nil =>
        have HD := show Hid _ from hm.done (by simp)
        have HB : Hid (Below base w wr) := hb
        have HO : Hid (Own wr base _ (X ++ R)) := ho
        have S1 : Hid (Sl wr base _ (x :: A2)) := s1
        have S2 : Hid (Sl wr base _ ([] : List Int)) := s2
        have bw : base ≤ wr.heap.size := by omega
        have bd1 : ((X ++ R).length + ((x :: A2)).length) * 8 ≤ 140737488355328 := by simp at hlen ⊢; omega
        have bd2 : ((X ++ R ++ (x :: A2)).length + ([] : List Int).length) * 8 ≤ 140737488355328 := by simp at hlen ⊢; omega
        obtain ⟨b1, o1, l1, c1, rfl, q1, q2, q3, q4, q5⟩ := s1.head
        obtain ⟨ao, l, c, rfl, t1, _, _, _, _⟩ := s2
        obtain rfl : l = 0 := by simpa using t1.symm
        have p1 : (0 : Int) < (l1 : Int) := by omega
        clear ho s1 hm hb hk hlen hown hA hB
        go_wp2_with (first | (at_builtin; refine wpList_append_sl rfl (.tmp 38) (.tmp 39) rfl base _ (X ++ R) rfl HO.out base _ ((x :: A2)) rfl S1.out bd1 bw ?_; intro v1 w1 o1 g1) | (at_builtin; refine wpList_append_sl rfl (.tmp 41) (.tmp 42) rfl base v1 (X ++ R ++ (x :: A2)) rfl o1 base _ ([] : List Int) rfl (S2.out.below ((Below.refl _ _).grown g1 bw (fun k hk => (HO.out.lt k hk).1))) bd2 (Nat.le_trans bw g1.size) ?_; intro v2 w2 o2 g2))
        go_ret
        exact ⟨v2, R ++ ((x :: A2) ++ ([] : List Int)), rfl, by rw [← List.append_assoc X, ← List.append_assoc (X ++ R)]; exact o2, HD.out.1, HD.out.2, (HB.out.grown g1 bw (fun k hk => (HO.out.lt k hk).1)).grown g2 (Nat.le_trans bw g1.size) (fun k hk => (o1.lt k hk).1)⟩
      | cons y B2 =>
        obtain ⟨b1, o1, l1, c1, rfl, q1, q2, q3, q4, q5⟩ := s1.head
        obtain ⟨b2, o2, l2, c2, rfl, r1, r2, r3, r4, r5⟩ := s2.head
        have HO : Hid (Own wr base _ (X ++ R)) := ho
        have HS1 : Hid (Sl wr base _ (x :: A2)) := s1
        have HS2 : Hid (Sl wr base _ (y :: B2)) := s2
        have HM : Hid (MI A B R (x :: A2) (y :: B2)) := hm
        have HB : Hid (Below base w wr) := hb
        have Hk : Hid (gk = (x :: A2).length + (y :: B2).length) := hk
        have Hq : Hid (A2.length + 1 = l1) := q1
        have Hr : Hid (B2.length + 1 = l2) := r1
        have p1 : (0 : Int) < (l1 : Int) := by omega
        have p2 : (0 : Int) < (l2 : Int) := by omega
        unfold maxLen at q3 r3
        clear ho s1 s2 hm hb hk q1 r1 hlen hown hA hB
        go_wp2
        go_quiet (fail)
        obtain ⟨L, hL⟩ : ∃ L, L = X ++ R := ⟨_, rfl⟩
        have HLL : Hid (L = X ++ R) := hL
        have bL : L.length ≤ 1000000000 := by rw [hL]; simp; omega
        rw [← hL] at HO
        clear hL
        have bd : (L.length + 1) * 8 ≤ 140737488355328 := by omega
        have bm : L.length + 1 ≤ maxLen := by unfold maxLen; omega
        obtain ⟨V, hV⟩ : ∃ V, V = wr.drewN nq := ⟨_, rfl⟩
        rw [← hV]
        have KO : Hid (Own V base u0 L) := by rw [hV]; exact HO.out
        have kc1 : V.cell? ⟨b1, o1, none⟩ = some (.int .i64 x) := by rw [hV]; simpa using q5
        have kc2 : V.cell? ⟨b2, o2, none⟩ = some (.int .i64 y) := by rw [hV]; simpa using r5
        have KS : Hid (Below base wr V) := by rw [hV]; exact below_drewN (Below.refl _ _) nq
        have bV : base ≤ V.heap.size := by have := KS.out.size; omega
        clear hV q5 r5
        have p3 : (1 : Int) ≤ (l1 : Int) := by omega
        have p4 : (1 : Int) ≤ (l2 : Int) := by omega
        by_cases hxy : x < y
        · obtain ⟨KA, KN⟩ := app_facts (x := x) KO.out
          have bb : base ≤ ((V.alloc (.cells #[.int .i64 x] 3)).drew).heap.size := by simp; omega
          by_cases hc : c1 = 1
          · skip
            subst hc
            obtain rfl : l1 = 1 := by omega
            go_wp2
            go_region_law ((refine step_append_lies _ (by rfl) (.tmp 22) (.tmp 26) 22 (by rfl) base 3 i0 (.int .i64 0) 1 8 Try.underlying22 hi hz0 hz1 hz2 rfl (by omega) u0 _ _ (by simp [Act.eval]) KA.out ⟨V.heap.size, 0, none⟩ 1 1 [.int .i64 x] (by simp [Act.eval]) rfl KN.out one_oneCell (by omega) bm bd bb _ rfl ?_; intro g cap w1 hown1 hgrow hat hlt))
            have HBW : Hid (Below base wr w1) := after_app KS.out bV KO.out hgrow
            have HOW : Hid (Own w1 base _ (L ++ [x])) := own_snoc hown1
            clear hown1 hgrow hat hlt KA KN
            go_wp2
            go_roundg (A2.length + (y :: B2).length)
            case measure => rw [Hk.out]; simp
            case rel => exact ⟨R ++ [x], A2, y :: B2, rfl, by rw [← List.append_assoc, ← HLL.out]; exact HOW.out, (HS1.out.tail (some ⟨b1, o1, none⟩) (fun h => absurd rfl h) (by simp)).below HBW.out, HS2.out.below HBW.out, HM.out.left hxy, HB.out.trans HBW.out⟩
          · skip
            go_wp2
            go_region_law ((refine step_append_lies _ (by rfl) (.tmp 22) (.tmp 26) 22 (by rfl) base 3 i0 (.int .i64 0) 1 8 Try.underlying22 hi hz0 hz1 hz2 rfl (by omega) u0 _ _ (by simp [Act.eval]) KA.out ⟨V.heap.size, 0, none⟩ 1 1 [.int .i64 x] (by simp [Act.eval]) rfl KN.out one_oneCell (by omega) bm bd bb _ rfl ?_; intro g cap w1 hown1 hgrow hat hlt))
            have HBW : Hid (Below base wr w1) := after_app KS.out bV KO.out hgrow
            have HOW : Hid (Own w1 base _ (L ++ [x])) := own_snoc hown1
            clear hown1 hgrow hat hlt KA KN
            go_wp2
            go_roundg (A2.length + (y :: B2).length)
            case measure => rw [Hk.out]; simp
            case rel => exact ⟨R ++ [x], A2, y :: B2, rfl, by rw [← List.append_assoc, ← HLL.out]; exact HOW.out, (HS1.out.tail (some ⟨b1, o1 + 1, none⟩) (fun _ => rfl) (by simp)).below HBW.out, HS2.out.below HBW.out, HM.out.left hxy, HB.out.trans HBW.out⟩
        · obtain ⟨KA, KN⟩ := app_facts (x := y) KO.out
          have bb : base ≤ ((V.alloc (.cells #[.int .i64 y] 3)).drew).heap.size := by simp; omega
          by_cases hc : c2 = 1
          · skip
            subst hc
            obtain rfl : l2 = 1 := by omega
            go_wp2
            go_region_law ((refine step_append_lies _ (by rfl) (.tmp 30) (.tmp 34) 22 (by rfl) base 3 i0 (.int .i64 0) 1 8 Try.underlying22 hi hz0 hz1 hz2 rfl (by omega) u0 _ _ (by simp [Act.eval]) KA.out ⟨V.heap.size, 0, none⟩ 1 1 [.int .i64 y] (by simp [Act.eval]) rfl KN.out one_oneCell (by omega) bm bd bb _ rfl ?_; intro g cap w1 hown1 hgrow hat hlt))
            have HBW : Hid (Below base wr w1) := after_app KS.out bV KO.out hgrow
            have HOW : Hid (Own w1 base _ (L ++ [y])) := own_snoc hown1
            clear hown1 hgrow hat hlt KA KN
            go_wp2
            go_roundg ((x :: A2).length + B2.length)
            case measure => rw [Hk.out]; simp
            case rel => exact ⟨R ++ [y], x :: A2, B2, rfl, by rw [← List.append_assoc, ← HLL.out]; exact HOW.out, HS1.out.below HBW.out, (HS2.out.tail (some ⟨b2, o2, none⟩) (fun h => absurd rfl h) (by simp)).below HBW.out, HM.out.right (by omega), HB.out.trans HBW.out⟩
          · skip
            go_wp2
            go_region_law ((refine step_append_lies _ (by rfl) (.tmp 30) (.tmp 34) 22 (by rfl) base 3 i0 (.int .i64 0) 1 8 Try.underlying22 hi hz0 hz1 hz2 rfl (by omega) u0 _ _ (by simp [Act.eval]) KA.out ⟨V.heap.size, 0, none⟩ 1 1 [.int .i64 y] (by simp [Act.eval]) rfl KN.out one_oneCell (by omega) bm bd bb _ rfl ?_; intro g cap w1 hown1 hgrow hat hlt))
            have HBW : Hid (Below base wr w1) := after_app KS.out bV KO.out hgrow
            have HOW : Hid (Own w1 base _ (L ++ [y])) := own_snoc hown1
            clear hown1 hgrow hat hlt KA KN
            go_wp2
            go_roundg ((x :: A2).length + B2.length)
            case measure => rw [Hk.out]; simp
            case rel => exact ⟨R ++ [y], x :: A2, B2, rfl, by rw [← List.append_assoc, ← HLL.out]; exact HOW.out, HS1.out.below HBW.out, (HS2.out.tail (some ⟨b2, o2 + 1, none⟩) (fun _ => rfl) (by simp)).below HBW.out, HM.out.right (by omega), HB.out.trans HBW.out⟩
end Go.Proofs.Qxb6619318a
