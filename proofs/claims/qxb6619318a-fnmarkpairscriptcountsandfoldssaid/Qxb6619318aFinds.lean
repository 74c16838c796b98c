/-
  THE WALK OF FnNextPairFindsMarkedPairAnyCase (8), out of the contracts of its callees.
-/
import Derived.Test.Qxb6619318aBytes
import Derived.Test.Qxb6619318aShifts
namespace Go.Proofs.Qxb6619318a
open Go.RowKit

set_option maxHeartbeats 400000 in
theorem bytes27 (a b : Option Addr) (la lb ca cb : Nat) (t : ByteArray) (f : Int) (w : World) (h : la + lb + t.size ≤ 1048576) :
    Calls Try.prog 27 #[.slice a la ca, .slice b lb cb, .string t, .int .i64 f] w fun e w' => e = .returned (.bool true) ∧ w' = w := by
  go_enter Try.func27, Try.ntmps27
  go_wp2
  go_ret
  exact ⟨rfl, rfl⟩
theorem five' {la lb lc : Nat} (h : 1048576 < la + lb + lc) : 1048576 < la ∨ (la ≤ 1048576 ∧ 1048576 < lb) ∨ (la ≤ 1048576 ∧ lb ≤ 1048576 ∧ 1048576 < la + lb) ∨ (la + lb ≤ 1048576 ∧ 1048576 < lc) ∨ (la + lb ≤ 1048576 ∧ lc ≤ 1048576 ∧ 1048576 < la + lb + lc) := by omega
set_option maxHeartbeats 1000000 in
theorem bytes27_no (a b : Option Addr) (la lb ca cb : Nat) (t : ByteArray) (f : Int) (w : World) (h1 : la ≤ 9223372036854775807) (h2 : lb ≤ 9223372036854775807) (h3 : t.size ≤ 9223372036854775807) (h : 1048576 < la + lb + t.size) :
    Calls Try.prog 27 #[.slice a la ca, .slice b lb cb, .string t, .int .i64 f] w fun e w' => e = .returned (.bool false) ∧ w' = w := by
  rcases five' h with h4 | ⟨h4, h5⟩ | ⟨h4, h5, h6⟩ | ⟨h4, h5⟩ | ⟨h4, h5, h6⟩
  all_goals
    go_enter Try.func27, Try.ntmps27
    go_wp2
    go_ret
    exact ⟨rfl, rfl⟩
set_option maxHeartbeats 400000 in
theorem bytes23 (a b : Option Addr) (la lb ca cb : Nat) (w : World) (h : la + lb ≤ 1048576) :
    Calls Try.prog 23 #[.slice a la ca, .slice b lb cb] w fun e w' => e = .returned (.bool true) ∧ w' = w := by
  go_enter Try.func23, Try.ntmps23
  go_wp2
  go_ret
  exact ⟨rfl, rfl⟩
set_option maxHeartbeats 1000000 in
theorem bytes23_no (a b : Option Addr) (la lb ca cb : Nat) (w : World) (h1 : la ≤ 9223372036854775807) (h2 : lb ≤ 9223372036854775807) (h : 1048576 < la + lb) :
    Calls Try.prog 23 #[.slice a la ca, .slice b lb cb] w fun e w' => e = .returned (.bool false) ∧ w' = w := by
  have h' : 1048576 < la ∨ (la ≤ 1048576 ∧ 1048576 < lb) ∨ (la ≤ 1048576 ∧ lb ≤ 1048576 ∧ 1048576 < la + lb) := by omega
  rcases h' with h4 | ⟨h4, h5⟩ | ⟨h4, h5, h6⟩
  all_goals
    go_enter Try.func23, Try.ntmps23
    go_wp2
    go_ret
    exact ⟨rfl, rfl⟩

theorem info4 : (Try.prog.info? 4).map (fun i => (i.zero, i.size, i.bytes)) = some (some (.bool false), 1, 1) := by kernel_rfl

/-- 'make([]bool, 1<<16)', its length a letter. -/
theorem wpList_make_bools {w : World} {ops : Array Oper} {rest : List Oper} {o : Oper} {a : Act} {Q : Exit → Act → World → Prop} (hgd : o.guard = none) (l c : Operand) (ho : o.op = Op.makeSlice 44 l c)
    (T : Nat) (hT : (65536 : Int) = (T : Int)) (hl : a.eval l = .int .i64 65536) (hc : a.eval c = .int .i64 65536)
    (h : ∀ w1, Wt w1 w.heap.size (fun _ => false) → w.grownBy w1 none → w.heap.size < w1.heap.size → wpList Try.prog ops Q rest (a.put o.dst (.slice (some ⟨w.heap.size, 0, none⟩) T T)) w1) : wpList Try.prog ops Q (o :: rest) a w := by
  obtain ⟨i0, hi, hz0, hz1, hz2⟩ := info_parts info4
  refine wpList_make_full w hgd l c 44 ho w.heap.size 4 i0 (.bool false) 1 Try.underlying44 hi hz0 hz1 _ _ _ _ T hl hc hT hT (by rw [hz2]; omega) (by unfold maxLen; omega) (Nat.le_refl _) ?_
  intro w1 ho1 hg1
  have hlt := (ho1.lt w.heap.size rfl).2
  refine h w1 ⟨fun q hq => ?_, fun q => ho1.frozenAt q⟩ hg1 hlt
  rw [ho1.cellAt q (by omega)]
  show (madeCells #[.bool false] (T * 1)).toList[q]? = _
  rw [toList_madeCells_one, List.getElem?_replicate, if_pos (by omega)]

theorem or_i64i (f l : Int) (f0 : 0 ≤ f) (f1 : f ≤ 255) (l0 : 0 ≤ l) (l1 : l ≤ 255) : bits .or .i64 f (l * 256) = (pp f l : Int) := by
  obtain ⟨x, rfl⟩ := Int.eq_ofNat_of_zero_le f0
  obtain ⟨y, rfl⟩ := Int.eq_ofNat_of_zero_le l0
  rw [or_i64 x y (by omega) (by omega)]
  unfold pp; omega

/-- Neither of the first k pairs holds a capital. -/
def NoCap (F L : List Int) (k : Nat) : Prop := ∀ j, j < k → ¬ (65 ≤ F.getD j 0 ∧ F.getD j 0 ≤ 90) ∧ ¬ (65 ≤ L.getD j 0 ∧ L.getD j 0 ≤ 90)

theorem set_grown (w : World) (g a : Nat) (x : Value) : w.grownBy ((w.setCell ⟨g, a, none⟩ x).drew) (some g) :=
  ⟨rfl, rfl, rfl, by simp, fun k _ hk => by
    show (w.setCell ⟨g, a, none⟩ x).heap[k]? = _
    rw [Below.heap_setCell _ _ _ _ (fun e => hk (by rw [e]))]⟩

theorem PS.drew1 {w : World} {g : Nat} {s : List Int × Int} (h : PS w g s) : PS w.drew g s :=
  ⟨h.tb, fun j hj => h.cell j hj, h.num, fun j => h.free j, h.bd⟩
theorem kept2 {w w' : World} {g b1 b2 o1 o2 : Nat} {x y : Value} (h1 : w.cell? ⟨b1, o1, none⟩ = some x) (h2 : w.cell? ⟨b2, o2, none⟩ = some y) (hg : w.grownBy w' (some g)) (n1 : b1 < g) (n2 : b2 < g) : w'.cell? ⟨b1, o1, none⟩ = some x ∧ w'.cell? ⟨b2, o2, none⟩ = some y := by
  constructor
  · rw [World.cell?_of_block (a := ⟨b1, o1, none⟩) (hg.block b1 (World.block_lt_of_cell? w _ h1) (by intro e; cases e; omega))]; exact h1
  · rw [World.cell?_of_block (a := ⟨b2, o2, none⟩) (hg.block b2 (World.block_lt_of_cell? w _ h2) (by intro e; cases e; omega))]; exact h2

theorem lo_byte (x : UInt8) : IntKind.i64.wrap (lo (x.toNat : Int)) = lo (x.toNat : Int) := by
  have := x.toNat_lt
  have := lo_bd (x.toNat : Int) (by omega) (by omega)
  exact IntWalk.i64_in _ (by omega)
theorem lo_byte8 (x : UInt8) : IntKind.i64.wrap (lo (x.toNat : Int) * 256) = lo (x.toNat : Int) * 256 := by
  have := x.toNat_lt
  have := lo_bd (x.toNat : Int) (by omega) (by omega)
  exact IntWalk.i64_in _ (by omega)
theorem lower_byte (x : UInt8) (X : World) : Calls Try.prog 22 #[.int .u8 (x.toNat : Int)] X fun e w' => e = .returned (.int .u8 (lo (x.toNat : Int))) ∧ w' = X := by
  have := x.toNat_lt
  exact lower_any _ X (by omega) (by omega)
theorem pair_want (F L : List Int) (bF : ∀ i : Nat, 0 ≤ F.getD i 0 ∧ F.getD i 0 ≤ 255) (bL : ∀ i : Nat, 0 ≤ L.getD i 0 ∧ L.getD i 0 ≤ 255) (k : Nat) (hnc : NoCap F L k) (s : List Int × Int) (hm : Mk (List.replicate 1024 0, 0) s (VrTo F L k)) (t : ByteArray) (gw m : Nat) (hm0 : m < t.size) (hlt : m + 1 < t.size) :
    ∃ p : Nat, (p : Int) ≤ 65535 ∧ bits .or .i64 (lo ((t[m]'hm0).toNat : Int)) (lo ((t[m + 1]'hlt).toNat : Int) * 256) = (p : Int) ∧
      ∀ X : World, Wt X gw (wantTo F L k) → X.cell? ⟨gw, p, none⟩ = some (.bool (tb s.1 (pr t (m + 1)))) := by
  have hx := UInt8.toNat_lt (t[m]'hm0)
  have hy := UInt8.toNat_lt (t[m + 1]'hlt)
  have b1 := lo_bd ((t[m]'hm0).toNat : Int) (by omega) (by omega)
  have b2 := lo_bd ((t[m + 1]'hlt).toNat : Int) (by omega) (by omega)
  have hp := pp_lt _ _ b1.1 b1.2 b2.1 b2.2
  refine ⟨pp (lo ((t[m]'hm0).toNat : Int)) (lo ((t[m + 1]'hlt).toNat : Int)), by omega, or_i64i _ _ b1.1 b1.2 b2.1 b2.2, fun X hX => ?_⟩
  rw [hX.cell _ hp]
  congr 2
  have hq := want_Vr F L bF bL (pr t (m + 1)) (pr_lt _ _) k hnc
  have e1 : ((pr t (m + 1) : Nat) : Int) % 256 = ((t[m]'hm0).toNat : Int) := by
    unfold pr; rw [Nat.add_sub_cancel, byN_in t m hm0, byN_in t (m + 1) hlt]; omega
  have e2 : ((pr t (m + 1) : Nat) : Int) / 256 = ((t[m + 1]'hlt).toNat : Int) := by
    unfold pr; rw [Nat.add_sub_cancel, byN_in t m hm0, byN_in t (m + 1) hlt]; omega
  rw [e1, e2] at hq
  rw [Bool.eq_iff_iff, hq, hm.bit]
  exact ⟨.inr, fun h => h.elim (fun h => by rw [tb_zero] at h; cases h) id⟩

set_option maxRecDepth 100000 in
set_option maxHeartbeats 1000000 in
theorem walk8 (oF oL : Option Addr) (lF cF lL cL : Nat) (F L : List Int) (t : ByteArray) (f : Int) (w : World) (hF : Sb w w.heap.size oF lF F) (hL : Sb w w.heap.size oL lL L) (bF : lF ≤ 9223372036854775807) (bL : lL ≤ 9223372036854775807) (ht : t.size ≤ maxLen) (hf0 : -9223372036854775808 ≤ f) (hf1 : f ≤ 9223372036854775807) :
    Calls Try.prog 8 #[.slice oF lF cF, .slice oL lL cL, .string t, .int .i64 f] w fun e w' => e = .returned (.bool true) ∧ Below w.heap.size w w' := by
  unfold maxLen at ht
  have HF : Hid (Sb w w.heap.size oF lF F) := hF
  have HL : Hid (Sb w w.heap.size oL lL L) := hL
  clear hF hL
  by_cases c1 : 1048576 < lF + lL + t.size
  · go_enter Try.func8, Try.ntmps8
    go_wp2_with fail
    refine (bytes27_no oF oL lF lL cF cL t f _ bF bL (by omega) c1).mono ?_
    rintro e w' ⟨rfl, hw'⟩
    obtain rfl := hw'.symm
    go_wp2
    go_ret
    exact ⟨rfl, Below.refl _ _⟩
  have c1' : lF + lL + t.size ≤ 1048576 := by omega
  clear c1 bF bL ht
  by_cases c2 : 32768 < lF ∨ 32768 < lL ∨ 262144 < t.size ∨ lF ≠ lL
  · have d2 : 32768 < lF ∨ (lF ≤ 32768 ∧ 32768 < lL) ∨ (lF ≤ 32768 ∧ lL ≤ 32768 ∧ 262144 < t.size) ∨ (lF ≤ 32768 ∧ lL ≤ 32768 ∧ t.size ≤ 262144 ∧ lF ≠ lL) := by omega
    clear c2
    rcases d2 with d2 | ⟨d2, d3⟩ | ⟨d2, d3, d4⟩ | ⟨d2, d3, d4, d5⟩
    · go_enter Try.func8, Try.ntmps8
      go_wp2_with fail
      refine (bytes27 oF oL lF lL cF cL t f _ c1').mono ?_
      rintro e w' ⟨rfl, hw'⟩
      obtain rfl := hw'.symm
      go_wp2
      go_ret
      exact ⟨rfl, Below.refl _ _⟩
    · go_enter Try.func8, Try.ntmps8
      go_wp2_with fail
      refine (bytes27 oF oL lF lL cF cL t f _ c1').mono ?_
      rintro e w' ⟨rfl, hw'⟩
      obtain rfl := hw'.symm
      go_wp2
      go_ret
      exact ⟨rfl, Below.refl _ _⟩
    · go_enter Try.func8, Try.ntmps8
      go_wp2_with fail
      refine (bytes27 oF oL lF lL cF cL t f _ c1').mono ?_
      rintro e w' ⟨rfl, hw'⟩
      obtain rfl := hw'.symm
      go_wp2
      go_ret
      exact ⟨rfl, Below.refl _ _⟩
    · have hne : ((lF : Int) != (lL : Int)) = true := by rw [bne_iff_ne]; omega
      clear d5
      go_enter Try.func8, Try.ntmps8
      go_wp2_with fail
      refine (bytes27 oF oL lF lL cF cL t f _ c1').mono ?_
      rintro e w' ⟨rfl, hw'⟩
      obtain rfl := hw'.symm
      go_wp2
      go_ret
      exact ⟨rfl, Below.refl _ _⟩
  have e12 : lL = lF := by omega
  subst e12
  have d1 : lL ≤ 32768 := by omega
  have d2 : t.size ≤ 262144 := by omega
  clear c2
  go_enter Try.func8, Try.ntmps8
  go_wp2_with fail
  refine (bytes27 oF oL lL lL cF cL t f _ c1').mono ?_
  rintro e w' ⟨rfl, hw'⟩
  obtain rfl := hw'.symm
  go_wp2_with fail
  go_loop [9] (fun i => ∃ k : Nat, k ≤ lL ∧ i = .int .i64 k ∧ NoCap F L k) (fun i => lL - (intOf i).toNat)
  case atStart => exact ⟨0, Nat.zero_le _, rfl, fun j hj => by omega⟩
  case round =>
    obtain ⟨k, hk, rfl, hnc⟩ := hrel
    have HNC : Hid (NoCap F L k) := hnc
    clear hnc
    by_cases hlt : k < lL
    · obtain ⟨b1, o1, rfl, _, x1⟩ := HF.out.2.2 k hlt
      obtain ⟨b2, o2, rfl, _, x2⟩ := HL.out.2.2 k hlt
      obtain ⟨y1, hy1⟩ : ∃ y1, y1 = F.getD k 0 := ⟨_, rfl⟩
      obtain ⟨y2, hy2⟩ : ∃ y2, y2 = L.getD k 0 := ⟨_, rfl⟩
      have v1 := HF.out.2.1 k
      have v2 := HL.out.2.1 k
      rw [← hy1] at x1 v1
      rw [← hy2] at x2 v2
      obtain ⟨v10, v11⟩ := v1
      obtain ⟨v20, v21⟩ := v2
      have HY1 : Hid (y1 = F.getD k 0) := hy1
      have HY2 : Hid (y2 = L.getD k 0) := hy2
      clear hy1 hy2
      have e1 : (k : Int) < (lL : Int) := by omega
      go_wp2_with fail
      refine (isUpper_any y1 _ v10 v11).mono ?_
      rintro e w' ⟨rfl, hw'⟩
      obtain rfl := hw'.symm
      cases hu : isUp y1 with
      | true =>
        go_wp2_with fail
        go_ret
        exact ⟨rfl, Below.refl _ _⟩
      | false =>
        go_wp2_with fail
        refine (isUpper_any y2 _ v20 v21).mono ?_
        rintro e w' ⟨rfl, hw'⟩
        obtain rfl := hw'.symm
        cases hv : isUp y2 with
        | true =>
          go_wp2_with fail
          go_ret
          exact ⟨rfl, Below.refl _ _⟩
        | false =>
          go_wp2_with fail
          go_round
          case rel =>
            refine ⟨k + 1, by omega, by go_num, fun j hj => ?_⟩
            by_cases e : j = k
            · subst e; rw [← HY1.out, ← HY2.out]; exact ⟨isUp_false hu, isUp_false hv⟩
            · exact HNC.out j (by omega)
          case measure => simp [intOf]; omega
    · have ek : k = lL := by omega
      subst ek
      by_cases hf : f < 1
      · go_wp2_with fail
        go_ret
        exact ⟨rfl, Below.refl _ _⟩
      · obtain ⟨fn, rfl⟩ := Int.eq_ofNat_of_zero_le (show 0 ≤ f by omega)
        have hf1' : 1 ≤ fn := by omega
        have hfi : (1 : Int) ≤ (fn : Int) := by omega
        obtain ⟨T, hT⟩ : ∃ T : Nat, (65536 : Int) = (T : Int) := ⟨65536, rfl⟩
        have HT : Hid ((65536 : Int) = (T : Int)) := hT
        clear hT hf hlt hk
        go_wp2_with (at_make; refine wpList_make_bools rfl _ _ rfl T HT.out rfl rfl ?_)
        intro w1 hw1 hg1 hs1
        have W1 : Hid (Wt w1 w.heap.size (wantTo F L 0)) := hw1
        have B1 : Hid (Below w.heap.size w w1) := (Below.refl _ _).grown hg1 (Nat.le_refl _) (fun k h => by cases h)
        have Z1 : Hid (w.heap.size < w1.heap.size) := hs1
        clear hw1 hg1 hs1
        obtain ⟨gw, hgw⟩ : ∃ gw, gw = w.heap.size := ⟨_, rfl⟩
        rw [← hgw] at W1 Z1 ⊢
        have HG : Hid (gw = w.heap.size) := hgw
        clear hgw
        go_wp2_with fail
        go_loopw [11] (fun i wr => ∃ m : Nat, m ≤ k ∧ i = .int .i64 m ∧ Wt wr gw (wantTo F L m) ∧ Below w.heap.size w wr ∧ gw < wr.heap.size) (fun i _ => k - (intOf i).toNat)
        case atStart => exact ⟨0, Nat.zero_le _, rfl, W1.out, B1.out, Z1.out⟩
        case round =>
          obtain ⟨m, hm, rfl, hw, hb, hs⟩ := hrel
          have KW : Hid (Wt wr gw (wantTo F L m)) := hw
          have KB : Hid (Below w.heap.size w wr) := hb
          have KZ : Hid (gw < wr.heap.size) := hs
          clear hw hb hs
          by_cases hlt : m < k
          · obtain ⟨b1, o1, rfl, _, x1⟩ := (HF.out.below KB.out).2.2 m hlt
            obtain ⟨b2, o2, rfl, _, x2⟩ := (HL.out.below KB.out).2.2 m hlt
            obtain ⟨y1, hy1⟩ : ∃ y1, y1 = F.getD m 0 := ⟨_, rfl⟩
            obtain ⟨y2, hy2⟩ : ∃ y2, y2 = L.getD m 0 := ⟨_, rfl⟩
            have v1 := HF.out.2.1 m
            have v2 := HL.out.2.1 m
            rw [← hy1] at x1 v1
            rw [← hy2] at x2 v2
            obtain ⟨v10, v11⟩ := v1
            obtain ⟨v20, v21⟩ := v2
            obtain ⟨p, hp⟩ : ∃ p, p = pp y1 y2 := ⟨_, rfl⟩
            have hpl : p < 65536 := by rw [hp]; exact pp_lt _ _ v10 v11 v20 v21
            have e8 : bits .or .i64 y1 (y2 * 256) = (p : Int) := by rw [hp]; exact or_i64i _ _ v10 v11 v20 v21
            have e6 : IntKind.i64.wrap y1 = y1 := IntWalk.i64_in _ (by omega)
            have e6' : IntKind.i64.wrap y2 = y2 := IntWalk.i64_in _ (by omega)
            have e7 : IntKind.i64.wrap (y2 * 256) = y2 * 256 := IntWalk.i64_in _ (by omega)
            have e1 : (m : Int) < (k : Int) := by omega
            have eT : (p : Int) < (T : Int) := by rw [← HT.out]; omega
            have cw := KW.out.cell p hpl
            have fw := KW.out.free p
            obtain ⟨vb, hvb⟩ : ∃ vb, vb = wantTo F L m p := ⟨_, rfl⟩
            rw [← hvb] at cw
            have HNX : Hid (Wt ((wr.setCell ⟨gw, p, none⟩ (.bool true)).drew) gw (wantTo F L (m + 1))) := by
              have h := KW.out.set p hpl
              rw [hp, hy1, hy2] at h ⊢
              exact h
            clear hp hpl hvb hy1 hy2
            go_wp2_with fail
            go_region
            go_wp2_with fail
            go_roundw
            case rel => exact ⟨m + 1, by omega, by go_num, HNX.out, KB.out.grown (set_grown _ _ _ _) KB.out.size (fun k hk => by cases hk; rw [HG.out]; exact Nat.le_refl _), by simpa using KZ.out⟩
            case measure => simp [intOf]; omega
          · have em : m = k := by omega
            subst em
            clear hlt hm
            obtain ⟨z0, hz0⟩ : ∃ z0, z0 = tab0 1024 := ⟨_, rfl⟩
            have Z0 : Hid (z0 = tab0 1024) := hz0
            have S0 : Hid (z0.size = 1024) := by rw [hz0]; show _ = _; unfold tab0; rw [Array.size_replicate]
            clear hz0
            go_wp2_with (first
              | (refine wpList_alloc29 rfl rfl ?_; rw [← Z0.out]; simp only [Act.put, List.setIfInBounds_toArray, List.set_cons_succ, List.set_cons_zero])
              | (refine wpList_load_row rfl 29 _ rfl wr.heap.size rfl 29 z0 (0, 0) _ (heap_alloc_new _ _) Try.underlying29 rfl (by rw [Try.size29, S0.out]) ?_; simp only [Act.put, List.setIfInBounds_toArray, List.set_cons_succ, List.set_cons_zero]))
            refine (newset_any z0 0 _ S0.out).mono ?_
            rintro e w' ⟨rfl, C, rfl, k1, k2, k3⟩
            obtain ⟨W, hW⟩ : ∃ W, W = (((wr.alloc (.cells z0 29)).alloc (.cells z0 29)).alloc (.cells C 52)) := ⟨_, rfl⟩
            obtain ⟨g, hg⟩ : ∃ g, g = wr.heap.size + 2 := ⟨_, rfl⟩
            have es : (wr.alloc (.cells z0 29)).heap.size + 1 = g := by rw [hg]; simp
            rw [es, ← hW]
            have hgr : wr.grownBy W none := by
              rw [hW]
              exact ((World.grownBy_alloc _ _ _).trans (World.grownBy_alloc _ _ _)).trans (World.grownBy_alloc _ _ _)
            have KP : Hid (PS W g (List.replicate 1024 0, 0)) := by
              refine PS.laid (C := C) Tb_zero ⟨by omega, by omega⟩ ?_ (fun j hj => by rw [cells_zero, ← Z0.out]; exact k2 j hj) k3
              have := heap_alloc_new ((wr.alloc (.cells z0 29)).alloc (.cells z0 29)) (.cells C 52)
              rw [hW, hg]; simpa using this
            have LB : Hid (Below w.heap.size w W) := KB.out.grown hgr KB.out.size (fun k hk => by cases hk)
            have LW : Hid (Wt W gw (wantTo F L m)) := KW.out.other KZ.out hgr (by simp)
            have LZ : Hid (gw < g ∧ g < W.heap.size) := by
              have h1 := KZ.out
              refine ⟨by omega, ?_⟩
              rw [hW, hg]; simp
            clear hW k1 k2 k3 es hgr hg KB KW KZ S0 Z0
            go_wp2_with fail
            go_loopw [14] (fun i wr => ∃ (j : Nat) (s : List Int × Int), j ≤ m ∧ i = .int .i64 j ∧ PS wr g s ∧ Mk (List.replicate 1024 0, 0) s (VrTo F L j) ∧ Wt wr gw (wantTo F L m) ∧ Below w.heap.size w wr ∧ g < wr.heap.size) (fun i _ => m - (intOf i).toNat)
            case atStart => exact ⟨0, _, Nat.zero_le _, rfl, KP.out, Mk.refl Tb_zero (by unfold wrap64; omega), LW.out, LB.out, LZ.out.2⟩
            case round =>
              obtain ⟨j, s, hj, rfl, hps, hmk, hwt, hb, hs⟩ := hrel
              have KP : Hid (PS wr g s) := hps
              have KM : Hid (Mk (List.replicate 1024 0, 0) s (VrTo F L j)) := hmk
              have KW : Hid (Wt wr gw (wantTo F L m)) := hwt
              have KB : Hid (Below w.heap.size w wr) := hb
              have KZ : Hid (g < wr.heap.size) := hs
              clear hps hmk hwt hb hs
              by_cases hlt : j < m
              · obtain ⟨b1, o1, rfl, _, x1⟩ := (HF.out.below KB.out).2.2 j hlt
                obtain ⟨b2, o2, rfl, _, x2⟩ := (HL.out.below KB.out).2.2 j hlt
                obtain ⟨y1, hy1⟩ : ∃ y1, y1 = F.getD j 0 := ⟨_, rfl⟩
                obtain ⟨y2, hy2⟩ : ∃ y2, y2 = L.getD j 0 := ⟨_, rfl⟩
                have v1 := HF.out.2.1 j
                have v2 := HL.out.2.1 j
                rw [← hy1] at x1 v1
                rw [← hy2] at x2 v2
                obtain ⟨v10, v11⟩ := v1
                obtain ⟨v20, v21⟩ := v2
                have HY1 : Hid (y1 = F.getD j 0) := hy1
                have HY2 : Hid (y2 = L.getD j 0) := hy2
                have e1 : (j : Int) < (m : Int) := by omega
                clear hy1 hy2
                go_wp2_with fail
                have hne : b1 < g ∧ b2 < g := by have := LZ.out; have := HG.out; omega
                have HNE : Hid (b1 < g ∧ b2 < g) := hne
                clear hne
                have hgs : gw < g ∧ w.heap.size ≤ g := by have := LZ.out; have := HG.out; omega
                have HGS : Hid (gw < g ∧ w.heap.size ≤ g) := hgs
                clear hgs
                go_region_held3 (fun w' => w'.cell? ⟨b1, o1 + j, none⟩ = some (.int .u8 y1) ∧ w'.cell? ⟨b2, o2 + j, none⟩ = some (.int .u8 y2)) (first | assumption | exact ⟨by simpa using x1, by simpa using x2⟩)
                  ((go_at_call 18; refine (zmark_any g y1 y2 s _ v10 v11 v20 v21 KP.out.drew1).mono ?_; rintro e V ⟨rfl, ⟨s1, hp1, hm1⟩, hg1⟩; have hcc : V.cell? ⟨b1, o1 + j, none⟩ = some (.int .u8 y1) ∧ V.cell? ⟨b2, o2 + j, none⟩ = some (.int .u8 y2) := kept2 (by simpa using x1) (by simpa using x2) hg1 HNE.out.1 HNE.out.2; have VP : Hid (PS V g s1) := hp1; have VM : Hid (Mk s s1 (Vr y1 y2)) := hm1; have VG : Hid (wr.drew.grownBy V (some g)) := hg1; clear hp1 hm1 hg1))
                go_wp2_with fail
                go_roundw
                case rel =>
                  have hd : wr.grownBy wr.drew none := ⟨rfl, rfl, rfl, Nat.le_refl _, fun _ _ _ => rfl⟩
                  have hB := KB.out.grown hd KB.out.size (fun k hk => by cases hk)
                  refine ⟨j + 1, s1, hlt, by go_num, VP.out, ?_, ?_, ?_, Nat.lt_of_lt_of_le KZ.out VG.out.size⟩
                  · have h := KM.out.trans VM.out
                    rw [HY1.out, HY2.out] at h
                    exact h
                  · exact (KW.out.drewN 1).other (Nat.lt_trans HGS.out.1 KZ.out) VG.out (by have := HGS.out.1; intro e; cases e; omega)
                  · exact hB.grown VG.out hB.size (fun k hk => by cases hk; exact HGS.out.2)
                case measure => simp [intOf]; omega
              · have em : j = m := by omega
                subst em
                go_wp2_with fail
                have bF : Hid (∀ i : Nat, 0 ≤ F.getD i 0 ∧ F.getD i 0 ≤ 255) := HF.out.2.1
                have bL : Hid (∀ i : Nat, 0 ≤ L.getD i 0 ∧ L.getD i 0 ≤ 255) := HL.out.2.1
                have HPW := show Hid _ from pair_want F L bF.out bL.out j HNC.out s KM.out t gw
                have KT : Hid (Tab wr g 6 s.1) := ⟨KP.out.tb.2, KP.out.cell⟩
                obtain ⟨zs, hzs⟩ : ∃ zs, zs = s.1 := ⟨_, rfl⟩
                rw [← hzs] at KT HPW
                clear hzs KP KM LW LB HF HL HNC bF bL hlt hj
                refine (znext_any g t fn zs _ (by omega) (by omega) (by omega) KT.out).mono ?_
                rintro e V ⟨⟨r, rfl, hr⟩, q, hq⟩
                have GW : Hid (Wt V gw (wantTo F L j)) := by rw [hq]; exact KW.out.drewN q
                have GB : Hid (Below w.heap.size w V) := by rw [hq]; exact below_drewN KB.out q
                clear hq KW KB KZ LZ KT
                rcases hr with ⟨rfl, hno⟩ | ⟨J, hJ, hJ1, hJ2, hJ3⟩
                · have HN : Hid (∀ i : Nat, fn + 2 * i < t.size → tb zs (pr t (fn + 2 * i)) = false) := hno
                  clear hno
                  go_wp2_with fail
                  go_loopw [16] (fun i wr => ∃ n : Nat, i = .int .i64 ((fn + 2 * n : Nat) : Int) ∧ (n = 0 ∨ fn + 2 * n ≤ t.size + 1) ∧ ∃ q, wr = V.drewN q) (fun i _ => t.size + 2 - (intOf i).toNat)
                  case atStart => exact ⟨0, rfl, .inl rfl, 0, rfl⟩
                  case round =>
                    obtain ⟨n, rfl, hks, q, hq⟩ := hrel
                    have HQ : Hid (wr = V.drewN q) := hq
                    have HWr : Hid (Wt wr gw (wantTo F L j)) := by rw [hq]; exact GW.out.drewN q
                    clear hq
                    obtain ⟨m, hm⟩ : ∃ m, fn + 2 * n = m + 1 := ⟨fn + 2 * n - 1, by omega⟩
                    rw [hm]
                    have HM : Hid (fn + 2 * n = m + 1) := hm
                    have hks' : n = 0 ∨ m + 1 ≤ t.size + 1 := by rw [← hm]; exact hks
                    have hfm : fn ≤ m + 1 := by omega
                    clear hm hks
                    by_cases hlt : m + 1 < t.size
                    · have hm0 : m < t.size := by omega
                      have e1 : (m : Int) < (t.size : Int) := by omega
                      have e3 : (m : Int) + 1 < (t.size : Int) := by omega
                      have e4 : IntKind.i64.wrap (m : Int) = (m : Int) := IntWalk.i64_in _ (by omega)
                      have e5 : (0:Int) ≤ (m:Int) + 1 := by omega
                      have e6 := lo_byte
                      have e7 := lo_byte8
                      obtain ⟨p, hp1, e8, hcell⟩ := HPW.out m hm0 hlt
                      have hcl := hcell wr HWr.out
                      rw [← HM.out, HN.out n (by rw [HM.out]; exact hlt)] at hcl
                      have eT : (p : Int) < (T : Int) := by rw [← HT.out]; omega
                      clear hcell
                      go_wp2_with fail
                      go_quiet ((go_at_call 22; exact Calls.quiet_of_same (lower_byte _ _)))
                      clear e4 e6 e7 e8
                      go_wp2_with fail
                      go_roundw
                      case rel =>
                        refine ⟨n + 1, ?_, ?_, q + nq, by rw [HQ.out, World.drewN_drewN]⟩
                        · have := HM.out; rw [show fn + 2 * (n + 1) = m + 1 + 2 from by omega]; rfl
                        · have := HM.out; omega
                      case measure => simp [intOf]; omega
                    · go_wp2_with fail
                      go_ret
                      exact ⟨rfl, by rw [HQ.out]; exact below_drewN GB.out q⟩
                · obtain ⟨R, hR⟩ : ∃ R, fn + 2 * J = R := ⟨_, rfl⟩
                  rw [hR] at hJ hJ1 hJ2
                  subst hJ
                  have HN : Hid (∀ i, i < J → tb zs (pr t (fn + 2 * i)) = false) := hJ3
                  have HY : Hid (tb zs (pr t R) = true) := hJ2
                  have HJ : Hid (fn + 2 * J = R) := hR
                  have g1 : fn ≤ R := by omega
                  have g2 : ((R : Int) - (fn : Int)) % 2 = 0 := by omega
                  clear hR hJ3 hJ2
                  obtain ⟨m, rfl⟩ : ∃ m, R = m + 1 := ⟨R - 1, by omega⟩
                  go_wp2_with fail
                  have hm0 : m < t.size := by omega
                  have e1 : (m : Int) < (t.size : Int) := by omega
                  have e3 : (m : Int) + 1 < (t.size : Int) := by omega
                  have e4 : IntKind.i64.wrap (m : Int) = (m : Int) := IntWalk.i64_in _ (by omega)
                  have e5 : (0:Int) ≤ (m:Int) + 1 := by omega
                  have e6 := lo_byte
                  have e7 := lo_byte8
                  obtain ⟨p, hp1, e8, hcell⟩ := HPW.out m hm0 hJ1
                  have hcl := hcell V GW.out
                  rw [HY.out] at hcl
                  have eT : (p : Int) < (T : Int) := by rw [← HT.out]; omega
                  clear hcell
                  go_quiet ((go_at_call 22; exact Calls.quiet_of_same (lower_byte _ _)))
                  clear e4 e6 e7 e8 hcl eT
                  obtain ⟨U, hU⟩ : ∃ U, U = V.drewN nq := ⟨_, rfl⟩
                  have KW : Hid (Wt U gw (wantTo F L j)) := by rw [hU]; exact GW.out.drewN nq
                  have KB : Hid (Below w.heap.size w U) := by rw [hU]; exact below_drewN GB.out nq
                  rw [← hU]
                  clear hU GW GB
                  go_wp2_with fail
                  go_loopw [16] (fun i wr => ∃ n : Nat, i = .int .i64 ((fn + 2 * n : Nat) : Int) ∧ n ≤ J ∧ ∃ q, wr = U.drewN q) (fun i _ => t.size + 2 - (intOf i).toNat)
                  case atStart => exact ⟨0, rfl, Nat.zero_le _, 0, rfl⟩
                  case round =>
                    clear q
                    obtain ⟨n, rfl, hjJ, q, hq⟩ := hrel
                    have HQ : Hid (wr = U.drewN q) := hq
                    have HWr : Hid (Wt wr gw (wantTo F L j)) := by rw [hq]; exact KW.out.drewN q
                    clear hq
                    obtain ⟨k, hm⟩ : ∃ k, fn + 2 * n = k + 1 := ⟨fn + 2 * n - 1, by omega⟩
                    rw [hm]
                    have HM : Hid (fn + 2 * n = k + 1) := hm
                    have hkm : k ≤ m := by have := HJ.out; omega
                    have hfm : fn ≤ k + 1 := by omega
                    clear hm
                    have hk1 : k + 1 < t.size := by omega
                    by_cases hlt : k < m
                    · have hk0 : k < t.size := by omega
                      have e1 : (k : Int) < (t.size : Int) := by omega
                      have e3 : (k : Int) + 1 < (t.size : Int) := by omega
                      have e4 : IntKind.i64.wrap (k : Int) = (k : Int) := IntWalk.i64_in _ (by omega)
                      have e5 : (0:Int) ≤ (k:Int) + 1 := by omega

                      have e6 := lo_byte
                      have e7 := lo_byte8
                      obtain ⟨p2, hp2, e8, hcell⟩ := HPW.out k hk0 hk1
                      have hcl := hcell wr HWr.out
                      rw [← HM.out, HN.out n (by have := HM.out; have := HJ.out; omega)] at hcl
                      have eT : (p2 : Int) < (T : Int) := by rw [← HT.out]; omega
                      clear hcell
                      go_wp2_with fail
                      go_quiet ((go_at_call 22; exact Calls.quiet_of_same (lower_byte _ _)))
                      clear e4 e6 e7 e8
                      go_wp2_with fail
                      go_roundw
                      case rel =>
                        refine ⟨n + 1, ?_, ?_, q + nq, by rw [HQ.out, World.drewN_drewN]⟩
                        · have := HM.out; rw [show fn + 2 * (n + 1) = k + 1 + 2 from by omega]; rfl
                        · have := HM.out; have := HJ.out; omega
                      case measure => simp [intOf]; omega
                    · obtain rfl : k = m := by omega
                      go_wp2_with fail
                      go_ret
                      exact ⟨rfl, by rw [HQ.out]; exact below_drewN KB.out q⟩
end Go.Proofs.Qxb6619318a
