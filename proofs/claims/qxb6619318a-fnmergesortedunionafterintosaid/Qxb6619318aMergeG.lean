/-
  merge (28) AND WHAT IT LEAVES ALONE: every block that was there but the row of the slice that is appended to. ('merge_any' of Qxb6619318aMerge, with two limbs more.)
-/
import Derived.Test.Qxb6619318aMerge
import Derived.Maps.AppendAt
namespace Go.Proofs.Qxb6619318a
open Go.RowKit

/-- Where the slice that is built lies: v's own row, or a block that was not there. -/
def Lies (w : World) (v v0 : Value) : Prop := v0.ownBlock = v.ownBlock ∨ ∃ k, v0.ownBlock = some k ∧ w.heap.size ≤ k

theorem grow_on {w wr w1 : World} {v v0 : Value} (h : w.grownBy wr v.ownBlock) (hl : Lies w v v0) (h1 : wr.grownBy w1 v0.ownBlock) : w.grownBy w1 v.ownBlock := by
  refine ⟨h1.os.trans h.os, h1.tape.trans h.tape, h1.output.trans h.output, Nat.le_trans h.size h1.size, fun k hk hne => ?_⟩
  rw [h1.block k (Nat.lt_of_lt_of_le hk h.size) ?_, h.block k hk hne]
  rcases hl with e | ⟨k', e, hk'⟩
  · rw [e]; exact hne
  · rw [e]; intro h; have := Option.some.inj h; omega

theorem grow_app {wr V w1 : World} {u : Value} {x : Int} (hv : wr.grownBy V u.ownBlock) (hg : ((V.alloc (.cells #[.int .i64 x] 3)).drew).grownBy w1 u.ownBlock) : wr.grownBy w1 u.ownBlock :=
  (hv.trans (World.grownBy_alloc V _ _)).trans ⟨hg.os, hg.tape, hg.output, hg.size, hg.block⟩

theorem grow_drew (w : World) (n : Nat) (row : Option Nat) : w.grownBy (w.drewN n) row := ⟨rfl, rfl, rfl, Nat.le_refl _, fun _ _ _ => rfl⟩

/-- 'append(out, xs...)', as 'wpList_append_sl', and where the new slice lies. -/
theorem wpList_append_sl2 {w : World} {ops : Array Oper} {rest : List Oper} {o : Oper} {a : Act} {Q : Exit → Act → World → Prop} (hgd : o.guard = none) (s x : Operand)
    (ho : o.op = .call { callee := .builtin .append, args := #[s, x], argTypes := #[22, 22] })
    (base : Nat) (v : Value) (xs : List Int) (hs : a.eval s = v) (hown : Own w base v xs) (B : Nat) (u : Value) (zs : List Int) (hx : a.eval x = u) (hsl : Sl w B u zs)
    (hbd : (xs.length + zs.length) * 8 ≤ 140737488355328) (hbase : base ≤ w.heap.size)
    (h : ∀ v' w', Own w' base v' (xs ++ zs) → w.grownBy w' v.ownBlock → (v'.ownBlock = v.ownBlock ∨ v'.ownBlock = some w.heap.size) → wpList Try.prog ops Q rest (a.put o.dst v') w') : wpList Try.prog ops Q (o :: rest) a w := by
  obtain ⟨i0, hi, hz0, hz1, hz2⟩ := info_parts info3
  obtain ⟨ao, l, c, rfl, h1, h2, h3, h4, h5⟩ := hsl
  cases ao with
  | none =>
    obtain rfl := h4 rfl
    obtain rfl : l = 0 := by omega
    have : zs = [] := List.eq_nil_of_length_eq_zero h1
    subst this
    refine wpList_append_own_none hgd s x 22 ho base 3 i0 1 Try.underlying22 hi v _ _ hs hown hx ?_
    exact h v w (by simpa using hown) (World.grownBy.refl _ _) (.inl rfl)
  | some ad =>
    refine wpList_append_own_at w hgd s x 22 ho base 3 i0 (.int .i64 0) 1 8 Try.underlying22 hi hz0 hz1 hz2 rfl (by omega) v _ _ hs hown ad l c (zs.map (Value.int .i64)) hx (by simp [h1]) ?_ (ints_oneCell _ _) ?_ ?_ hbase ?_
    · intro j q hq
      have hj : j < l := by have := (List.getElem?_eq_some_iff.1 hq).1; simpa [h1] using this
      obtain ⟨b, o', hbo, _, hc⟩ := h5 (by omega)
      cases hbo
      rw [Addr.add_lit, hc j hj, ← hq]
      simp [List.getD, h1, hj]
    · unfold maxLen; omega
    · rw [← h1]; exact hbd
    · intro v' w' h6 h7 _ h8
      refine h v' w' ?_ h7 h8
      unfold Own
      rw [List.length_append, List.map_append, h1]
      exact h6

theorem lies_next {w wr : World} {v v0 v1 : Value} (hs : w.heap.size ≤ wr.heap.size) (h : Lies w v v0) (h1 : v1.ownBlock = v0.ownBlock ∨ v1.ownBlock = some wr.heap.size) : Lies w v v1 := by
  rcases h1 with e | e
  · unfold Lies; rw [e]; exact h
  · exact .inr ⟨_, e, hs⟩
theorem lies_app {w wr V : World} {v u : Value} {x : Int} {g n cap : Nat} (hs : w.heap.size ≤ wr.heap.size) (hv : wr.heap.size ≤ V.heap.size) (h : Lies w v u) (hat : u.ownBlock = some g ∨ g = ((V.alloc (.cells #[.int .i64 x] 3)).drew).heap.size) : Lies w v (.slice (some ⟨g, 0, none⟩) n cap) := by
  rcases hat with e | e
  · unfold Lies; rw [show (Value.slice (some (⟨g, 0, none⟩ : Addr)) n cap).ownBlock = u.ownBlock from e.symm]; exact h
  · refine .inr ⟨g, rfl, ?_⟩
    rw [e]; simp; omega

set_option maxHeartbeats 1000000 in
theorem merge_grow (v av bv : Value) (X A B : List Int) (base : Nat) (w : World) (hown : Own w base v X) (hA : Sl w base av A) (hB : Sl w base bv B) (hbase : base ≤ w.heap.size) (hn : X.length + A.length + B.length ≤ 1000000000) :
    Calls Try.prog 28 #[v, av, bv] w fun e w' => ∃ v' R, e = .returned v' ∧ Own w' base v' (X ++ R) ∧ List.Perm R (A ++ B) ∧ (Srt A → Srt B → Srt R) ∧ Below base w w' ∧ w.grownBy w' v.ownBlock := by
  obtain ⟨i0, hi, hz0, hz1, hz2⟩ := info_parts info3
  go_enter Try.func28, Try.ntmps28
  go_wp2
  go_loopg [0, 1, 2] (A.length + B.length) (fun k v0 v1 v2 wr => ∃ R A1 B1, k = A1.length + B1.length ∧ Own wr base v0 (X ++ R) ∧ Sl wr base v1 A1 ∧ Sl wr base v2 B1 ∧ MI A B R A1 B1 ∧ Below base w wr ∧ w.grownBy wr v.ownBlock ∧ Lies w v v0)
  case atStart => exact ⟨[], A, B, rfl, by simpa using hown, hA, hB, MI.start A B, Below.refl _ _, World.grownBy.refl _ _, .inl rfl⟩
  case round =>
    obtain ⟨R, A1, B1, hk, ho, s1, s2, hm, hb, hgw, hly⟩ := hrel
    have HGW : Hid (w.grownBy wr v.ownBlock) := hgw
    have HLY : Hid (Lies w v _) := hly
    clear hgw hly
    have hlen : R.length + A1.length + B1.length = A.length + B.length := by have := hm.1.length_eq; simp at this; omega
    have hsz := hb.size
    have hRb : R.length ≤ A.length + B.length := by omega
    cases A1 with
    | nil =>
      have HD := show Hid _ from hm.done (by simp)
      have HB : Hid (Below base w wr) := hb
      have HO : Hid (Own wr base _ (X ++ R)) := ho
      have S1 : Hid (Sl wr base _ ([] : List Int)) := s1
      have S2 : Hid (Sl wr base _ B1) := s2
      have bw : base ≤ wr.heap.size := by omega
      have bd1 : ((X ++ R).length + ([] : List Int).length) * 8 ≤ 140737488355328 := by simp at hlen ⊢; omega
      have bd2 : ((X ++ R ++ ([] : List Int)).length + (B1).length) * 8 ≤ 140737488355328 := by simp at hlen ⊢; omega
      obtain ⟨ao, l, c, rfl, t1, _, _, _, _⟩ := s1
      obtain rfl : l = 0 := by simpa using t1.symm
      clear ho hm hb hk hlen hown hA hB
      go_wp2_with (first | (at_builtin; refine wpList_append_sl2 rfl (.tmp 38) (.tmp 39) rfl base _ (X ++ R) rfl HO.out base _ ([] : List Int) rfl S1.out bd1 bw ?_; intro v1 w1 o1 g1 k1) | (at_builtin; refine wpList_append_sl2 rfl (.tmp 41) (.tmp 42) rfl base v1 (X ++ R ++ ([] : List Int)) rfl o1 base _ (B1) rfl (S2.out.below ((Below.refl _ _).grown g1 bw (fun k hk => (HO.out.lt k hk).1))) bd2 (Nat.le_trans bw g1.size) ?_; intro v2 w2 o2 g2 k2))
      go_ret
      exact ⟨v2, R ++ (([] : List Int) ++ B1), rfl, by rw [← List.append_assoc X, ← List.append_assoc (X ++ R)]; exact o2, HD.out.1, HD.out.2, (HB.out.grown g1 bw (fun k hk => (HO.out.lt k hk).1)).grown g2 (Nat.le_trans bw g1.size) (fun k hk => (o1.lt k hk).1), grow_on (grow_on HGW.out HLY.out g1) (lies_next HGW.out.size HLY.out k1) g2⟩
    | cons x A2 =>
      cases B1 with
      | nil =>
        have HD := show Hid _ from hm.done (by simp)
        have HB : Hid (Below base w wr) := hb
        have HO : Hid (Own wr base _ (X ++ R)) := ho
        have S1 : Hid (Sl wr base _ (x :: A2)) := s1
        have S2 : Hid (Sl wr base _ ([] : List Int)) := s2
        have bw : base ≤ wr.heap.size := by omega
        have bd1 : ((X ++ R).length + ((x :: A2)).length) * 8 ≤ 140737488355328 := by simp at hlen ⊢; omega
        have bd2 : ((X ++ R ++ (x :: A2)).length + ([] : List Int).length) * 8 ≤ 140737488355328 := by simp at hlen ⊢; omega
        obtain ⟨b1, o1, l1, c1, rfl, q1, q2, q3, q4, q5⟩ := s1.head
        obtain ⟨ao, l, c, rfl, t1, _, _, _, _⟩ := s2
        obtain rfl : l = 0 := by simpa using t1.symm
        have p1 : (0 : Int) < (l1 : Int) := by omega
        clear ho s1 hm hb hk hlen hown hA hB
        go_wp2_with (first | (at_builtin; refine wpList_append_sl2 rfl (.tmp 38) (.tmp 39) rfl base _ (X ++ R) rfl HO.out base _ ((x :: A2)) rfl S1.out bd1 bw ?_; intro v1 w1 o1 g1 k1) | (at_builtin; refine wpList_append_sl2 rfl (.tmp 41) (.tmp 42) rfl base v1 (X ++ R ++ (x :: A2)) rfl o1 base _ ([] : List Int) rfl (S2.out.below ((Below.refl _ _).grown g1 bw (fun k hk => (HO.out.lt k hk).1))) bd2 (Nat.le_trans bw g1.size) ?_; intro v2 w2 o2 g2 k2))
        go_ret
        exact ⟨v2, R ++ ((x :: A2) ++ ([] : List Int)), rfl, by rw [← List.append_assoc X, ← List.append_assoc (X ++ R)]; exact o2, HD.out.1, HD.out.2, (HB.out.grown g1 bw (fun k hk => (HO.out.lt k hk).1)).grown g2 (Nat.le_trans bw g1.size) (fun k hk => (o1.lt k hk).1), grow_on (grow_on HGW.out HLY.out g1) (lies_next HGW.out.size HLY.out k1) g2⟩
      | cons y B2 =>
        obtain ⟨b1, o1, l1, c1, rfl, q1, q2, q3, q4, q5⟩ := s1.head
        obtain ⟨b2, o2, l2, c2, rfl, r1, r2, r3, r4, r5⟩ := s2.head
        have HO : Hid (Own wr base _ (X ++ R)) := ho
        have HS1 : Hid (Sl wr base _ (x :: A2)) := s1
        have HS2 : Hid (Sl wr base _ (y :: B2)) := s2
        have HM : Hid (MI A B R (x :: A2) (y :: B2)) := hm
        have HB : Hid (Below base w wr) := hb
        have Hk : Hid (gk = (x :: A2).length + (y :: B2).length) := hk
        have Hq : Hid (A2.length + 1 = l1) := q1
        have Hr : Hid (B2.length + 1 = l2) := r1
        have p1 : (0 : Int) < (l1 : Int) := by omega
        have p2 : (0 : Int) < (l2 : Int) := by omega
        unfold maxLen at q3 r3
        clear ho s1 s2 hm hb hk q1 r1 hlen hown hA hB
        go_wp2
        go_quiet (fail)
        obtain ⟨L, hL⟩ : ∃ L, L = X ++ R := ⟨_, rfl⟩
        have HLL : Hid (L = X ++ R) := hL
        have bL : L.length ≤ 1000000000 := by rw [hL]; simp; omega
        rw [← hL] at HO
        clear hL
        have bd : (L.length + 1) * 8 ≤ 140737488355328 := by omega
        have bm : L.length + 1 ≤ maxLen := by unfold maxLen; omega
        obtain ⟨V, hV⟩ : ∃ V, V = wr.drewN nq := ⟨_, rfl⟩
        rw [← hV]
        have KO : Hid (Own V base u0 L) := by rw [hV]; exact HO.out
        have kc1 : V.cell? ⟨b1, o1, none⟩ = some (.int .i64 x) := by rw [hV]; simpa using q5
        have kc2 : V.cell? ⟨b2, o2, none⟩ = some (.int .i64 y) := by rw [hV]; simpa using r5
        have KG : Hid (wr.grownBy V u0.ownBlock) := by rw [hV]; exact grow_drew _ _ _
        have KS : Hid (Below base wr V) := by rw [hV]; exact below_drewN (Below.refl _ _) nq
        have bV : base ≤ V.heap.size := by have := KS.out.size; omega
        clear hV q5 r5
        have p3 : (1 : Int) ≤ (l1 : Int) := by omega
        have p4 : (1 : Int) ≤ (l2 : Int) := by omega
        by_cases hxy : x < y
        · obtain ⟨KA, KN⟩ := app_facts (x := x) KO.out
          have bb : base ≤ ((V.alloc (.cells #[.int .i64 x] 3)).drew).heap.size := by simp; omega
          by_cases hc : c1 = 1
          · skip
            subst hc
            obtain rfl : l1 = 1 := by omega
            go_wp2
            go_region_law ((refine step_append_lies _ (by rfl) (.tmp 22) (.tmp 26) 22 (by rfl) base 3 i0 (.int .i64 0) 1 8 Try.underlying22 hi hz0 hz1 hz2 rfl (by omega) u0 _ _ (by simp [Act.eval]) KA.out ⟨V.heap.size, 0, none⟩ 1 1 [.int .i64 x] (by simp [Act.eval]) rfl KN.out one_oneCell (by omega) bm bd bb _ rfl ?_; intro g cap w1 hown1 hgrow hat hlt))
            have HBW : Hid (Below base wr w1) := after_app KS.out bV KO.out hgrow
            have HGN : Hid (w.grownBy w1 v.ownBlock) := grow_on HGW.out HLY.out (grow_app KG.out hgrow)
            have HLN : Hid (Lies w v (.slice (some ⟨g, 0, none⟩) (L.length + 1) cap)) := lies_app HGW.out.size KG.out.size HLY.out hat
            have HOW : Hid (Own w1 base _ (L ++ [x])) := own_snoc hown1
            clear hown1 hgrow hat hlt KA KN
            go_wp2
            go_roundg (A2.length + (y :: B2).length)
            case measure => rw [Hk.out]; simp
            case rel => exact ⟨R ++ [x], A2, y :: B2, rfl, by rw [← List.append_assoc, ← HLL.out]; exact HOW.out, (HS1.out.tail (some ⟨b1, o1, none⟩) (fun h => absurd rfl h) (by simp)).below HBW.out, HS2.out.below HBW.out, HM.out.left hxy, HB.out.trans HBW.out, HGN.out, HLN.out⟩
          · skip
            go_wp2
            go_region_law ((refine step_append_lies _ (by rfl) (.tmp 22) (.tmp 26) 22 (by rfl) base 3 i0 (.int .i64 0) 1 8 Try.underlying22 hi hz0 hz1 hz2 rfl (by omega) u0 _ _ (by simp [Act.eval]) KA.out ⟨V.heap.size, 0, none⟩ 1 1 [.int .i64 x] (by simp [Act.eval]) rfl KN.out one_oneCell (by omega) bm bd bb _ rfl ?_; intro g cap w1 hown1 hgrow hat hlt))
            have HBW : Hid (Below base wr w1) := after_app KS.out bV KO.out hgrow
            have HGN : Hid (w.grownBy w1 v.ownBlock) := grow_on HGW.out HLY.out (grow_app KG.out hgrow)
            have HLN : Hid (Lies w v (.slice (some ⟨g, 0, none⟩) (L.length + 1) cap)) := lies_app HGW.out.size KG.out.size HLY.out hat
            have HOW : Hid (Own w1 base _ (L ++ [x])) := own_snoc hown1
            clear hown1 hgrow hat hlt KA KN
            go_wp2
            go_roundg (A2.length + (y :: B2).length)
            case measure => rw [Hk.out]; simp
            case rel => exact ⟨R ++ [x], A2, y :: B2, rfl, by rw [← List.append_assoc, ← HLL.out]; exact HOW.out, (HS1.out.tail (some ⟨b1, o1 + 1, none⟩) (fun _ => rfl) (by simp)).below HBW.out, HS2.out.below HBW.out, HM.out.left hxy, HB.out.trans HBW.out, HGN.out, HLN.out⟩
        · obtain ⟨KA, KN⟩ := app_facts (x := y) KO.out
          have bb : base ≤ ((V.alloc (.cells #[.int .i64 y] 3)).drew).heap.size := by simp; omega
          by_cases hc : c2 = 1
          · skip
            subst hc
            obtain rfl : l2 = 1 := by omega
            go_wp2
            go_region_law ((refine step_append_lies _ (by rfl) (.tmp 30) (.tmp 34) 22 (by rfl) base 3 i0 (.int .i64 0) 1 8 Try.underlying22 hi hz0 hz1 hz2 rfl (by omega) u0 _ _ (by simp [Act.eval]) KA.out ⟨V.heap.size, 0, none⟩ 1 1 [.int .i64 y] (by simp [Act.eval]) rfl KN.out one_oneCell (by omega) bm bd bb _ rfl ?_; intro g cap w1 hown1 hgrow hat hlt))
            have HBW : Hid (Below base wr w1) := after_app KS.out bV KO.out hgrow
            have HGN : Hid (w.grownBy w1 v.ownBlock) := grow_on HGW.out HLY.out (grow_app KG.out hgrow)
            have HLN : Hid (Lies w v (.slice (some ⟨g, 0, none⟩) (L.length + 1) cap)) := lies_app HGW.out.size KG.out.size HLY.out hat
            have HOW : Hid (Own w1 base _ (L ++ [y])) := own_snoc hown1
            clear hown1 hgrow hat hlt KA KN
            go_wp2
            go_roundg ((x :: A2).length + B2.length)
            case measure => rw [Hk.out]; simp
            case rel => exact ⟨R ++ [y], x :: A2, B2, rfl, by rw [← List.append_assoc, ← HLL.out]; exact HOW.out, HS1.out.below HBW.out, (HS2.out.tail (some ⟨b2, o2, none⟩) (fun h => absurd rfl h) (by simp)).below HBW.out, HM.out.right (by omega), HB.out.trans HBW.out, HGN.out, HLN.out⟩
          · skip
            go_wp2
            go_region_law ((refine step_append_lies _ (by rfl) (.tmp 30) (.tmp 34) 22 (by rfl) base 3 i0 (.int .i64 0) 1 8 Try.underlying22 hi hz0 hz1 hz2 rfl (by omega) u0 _ _ (by simp [Act.eval]) KA.out ⟨V.heap.size, 0, none⟩ 1 1 [.int .i64 y] (by simp [Act.eval]) rfl KN.out one_oneCell (by omega) bm bd bb _ rfl ?_; intro g cap w1 hown1 hgrow hat hlt))
            have HBW : Hid (Below base wr w1) := after_app KS.out bV KO.out hgrow
            have HGN : Hid (w.grownBy w1 v.ownBlock) := grow_on HGW.out HLY.out (grow_app KG.out hgrow)
            have HLN : Hid (Lies w v (.slice (some ⟨g, 0, none⟩) (L.length + 1) cap)) := lies_app HGW.out.size KG.out.size HLY.out hat
            have HOW : Hid (Own w1 base _ (L ++ [y])) := own_snoc hown1
            clear hown1 hgrow hat hlt KA KN
            go_wp2
            go_roundg ((x :: A2).length + B2.length)
            case measure => rw [Hk.out]; simp
            case rel => exact ⟨R ++ [y], x :: A2, B2, rfl, by rw [← List.append_assoc, ← HLL.out]; exact HOW.out, HS1.out.below HBW.out, (HS2.out.tail (some ⟨b2, o2 + 1, none⟩) (fun _ => rfl) (by simp)).below HBW.out, HM.out.right (by omega), HB.out.trans HBW.out, HGN.out, HLN.out⟩
end Go.Proofs.Qxb6619318a
