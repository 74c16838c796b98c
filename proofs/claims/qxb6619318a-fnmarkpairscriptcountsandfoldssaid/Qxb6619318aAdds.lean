/-
  THE WALK OF FnMarkPairAddsExactlyCaseVariants (5), out of the contracts of its callees.
-/
import Derived.Test.Qxb6619318aEqTab
import Derived.Test.Qxb6619318aBits2
namespace Go.Proofs.Qxb6619318a
open Go.RowKit

theorem PS.other {w w' : World} {g : Nat} {s : List Int × Int} {row : Option Nat} (h : PS w g s) (hg : g < w.heap.size) (hr : w.grownBy w' row) (hne : some g ≠ row) : PS w' g s := by
  have hb := hr.block g hg hne
  refine ⟨h.tb, fun j hj => ?_, ?_, fun j => ?_, h.bd⟩
  · rw [World.cell?_of_block (a := ⟨g, 6 + j, none⟩) hb]; exact h.cell j hj
  · rw [World.cell?_of_block (a := ⟨g, 1030, none⟩) hb]; exact h.num
  · rw [World.frozen?_of_block (a := ⟨g, j, none⟩) hb]; exact h.free j

/-- The set that ZZNewPairSet has laid. -/
theorem PS.laid {w : World} {zs : List Int} {n : Int} {C : Array Value} {g : Nat} (hz : Tb zs) (hn : -9223372036854775808 ≤ n ∧ n ≤ 9223372036854775807) (hb : w.heap[g]? = some (.cells C 52 (0, 0)))
    (k2 : ∀ j, j < 1024 → C[6 + j]? = (cellsZ zs)[j]?) (k3 : C[1030]? = some (.int .i64 n)) : PS w g (zs, n) := by
  refine ⟨hz, fun j hj => ?_, ?_, fun j => ?_, hn⟩
  · rw [cell_of_row w g (6 + j) C 52 (0, 0) hb, k2 j hj]
    unfold cellsZ
    simp [List.getD, hz.1, hj]
  · rw [cell_of_row w g 1030 C 52 (0, 0) hb, k3]
  · exact frozen_of_row w g j C 52 hb

theorem Tab.of {w : World} {b : Nat} {zs : List Int} (hz : Tb zs) (hb : w.heap[b]? = some (.cells (cellsZ zs) 29 (0, 0))) : Tab w b 0 zs := by
  refine ⟨hz.2, fun j hj => ?_⟩
  rw [cell_of_row w b (0 + j) _ 29 (0, 0) hb]
  unfold cellsZ
  simp [List.getD, hz.1, hj]

theorem int_up (n : Nat) : Value.int .i64 ((n : Int) + 1) = .int .i64 ((n + 1 : Nat) : Int) := rfl

set_option maxRecDepth 100000 in
set_option maxHeartbeats 1000000 in
theorem walk5 (zs : List Int) (n f l : Int) (w : World) (hz : Tb zs) (n0 : -9223372036854775808 ≤ n) (n1 : n ≤ 9223372036854775807) (f0 : 0 ≤ f) (f1 : f ≤ 255) (l0 : 0 ≤ l) (l1 : l ≤ 255) :
    Calls Try.prog 5 #[.agg (cellsZ zs), .int .i64 n, .int .u8 f, .int .u8 l] w fun e w' => e = .returned (.bool true) ∧ Below w.heap.size w w' := by
  obtain ⟨cs, hcs⟩ : ∃ cs, cs = cellsZ zs := ⟨_, rfl⟩
  have HCS : Hid (cs = cellsZ zs) := hcs
  have HS : Hid (cs.size = 1024) := by rw [hcs]; exact cellsZ_size hz
  rw [← hcs]
  have HZ : Hid (Tb zs) := hz
  clear hcs hz
  cases hu : isUp f with
  | true =>
    go_enter Try.func5, Try.ntmps5
    go_wp2_with fail
    refine (isUpper_any f _ f0 f1).mono ?_
    rintro e w' ⟨rfl, hw'⟩
    obtain rfl := hw'.symm
    rw [hu]
    clear hu
    go_wp2_with fail
    go_ret
    exact ⟨rfl, (Below.refl _ _).alloc (Nat.le_refl _) _⟩
  | false =>
  cases hv : isUp l with
  | true =>
    go_enter Try.func5, Try.ntmps5
    go_wp2_with fail
    refine (isUpper_any f _ f0 f1).mono ?_
    rintro e w' ⟨rfl, hw'⟩
    obtain rfl := hw'.symm
    rw [hu]
    clear hu
    go_wp2_with fail
    refine (isUpper_any l _ l0 l1).mono ?_
    rintro e w' ⟨rfl, hw'⟩
    obtain rfl := hw'.symm
    rw [hv]
    clear hv
    go_wp2_with fail
    go_ret
    exact ⟨rfl, (Below.refl _ _).alloc (Nat.le_refl _) _⟩
  | false =>
  have HF : Hid (¬ (65 ≤ f ∧ f ≤ 90)) := isUp_false hu
  have HL : Hid (¬ (65 ≤ l ∧ l ≤ 90)) := isUp_false hv
  go_enter Try.func5, Try.ntmps5
  go_wp2_with fail
  refine (isUpper_any f _ f0 f1).mono ?_
  rintro e w' ⟨rfl, hw'⟩
  obtain rfl := hw'.symm
  rw [hu]
  clear hu
  go_wp2_with fail
  refine (isUpper_any l _ l0 l1).mono ?_
  rintro e w' ⟨rfl, hw'⟩
  obtain rfl := hw'.symm
  rw [hv]
  clear hv
  go_wp2_with (refine wpList_load_row rfl 29 _ rfl w.heap.size rfl 29 cs (0, 0) _ (heap_alloc_new _ _) Try.underlying29 rfl (by rw [Try.size29, HS.out]) ?_)
  refine (newset_any cs n _ HS.out).mono ?_
  rintro e w' ⟨rfl, C, rfl, k1, k2, k3⟩
  obtain ⟨W, hW⟩ : ∃ W, W = (((w.alloc (.cells cs 29)).alloc (.cells cs 29)).alloc (.cells C 52)) := ⟨_, rfl⟩
  have es : (w.alloc (.cells cs 29)).heap.size + 1 = w.heap.size + 2 := by simp
  rw [es, ← hW]
  have K0 : Hid (W.heap[w.heap.size]? = some (.cells (cellsZ zs) 29 (0, 0))) := by
    show _ = _
    rw [hW, heap_alloc_old _ _ (by simp; omega), heap_alloc_old _ _ (by simp), ← HCS.out]; exact heap_alloc_new _ _
  have KP : Hid (PS W (w.heap.size + 2) (zs, n)) := by
    refine PS.laid (C := C) HZ.out ⟨n0, n1⟩ ?_ (fun j hj => by rw [← HCS.out]; exact k2 j hj) k3
    have := heap_alloc_new ((w.alloc (.cells cs 29)).alloc (.cells cs 29)) (.cells C 52)
    rw [hW]; simpa using this
  have KB : Hid (Below w.heap.size w W) := by
    show Below _ _ _
    rw [hW]; exact (((Below.refl _ _).alloc (Nat.le_refl _) _).alloc (by simp) _).alloc (by simp; omega) _
  have KS : W.heap.size = w.heap.size + 3 := by rw [hW]; simp
  have HKS : Hid (W.heap.size = w.heap.size + 3) := KS
  clear hW k1 k2 k3 es KS
  go_wp2_with fail
  refine (zmark_any (w.heap.size + 2) f l (zs, n) _ f0 f1 l0 l1 KP.out).mono ?_
  rintro e W1 ⟨rfl, ⟨s1, hp1, hm1⟩, hg1⟩
  have P1 : Hid (PS W1 (w.heap.size + 2) s1) := hp1
  have M1 : Hid (Mk (zs, n) s1 (Vr f l)) := hm1
  have B1 : Hid (Below w.heap.size w W1) := KB.out.grown hg1 KB.out.size (fun k hk => by cases hk; omega)
  have C1 : Hid (W1.heap[w.heap.size]? = some (.cells (cellsZ zs) 29 (0, 0))) := by
    show _ = _
    rw [hg1.block _ (by have := HKS.out; omega) (by simp)]; exact K0.out
  have Z1 : Hid (w.heap.size + 3 ≤ W1.heap.size) := by rw [← HKS.out]; exact hg1.size
  clear hp1 hm1 hg1
  go_wp2_with fail
  refine (zpairs_any (w.heap.size + 2) s1 _ P1.out).mono ?_
  rintro e w' ⟨rfl, rfl⟩
  obtain ⟨W2, hW2⟩ : ∃ W2, W2 = W1.alloc (.cells (cellsZ s1.1) 29) := ⟨_, rfl⟩
  have g12 : W1.grownBy W2 none := by rw [hW2]; exact World.grownBy_alloc _ _ _
  have P2 : Hid (PS W2 (w.heap.size + 2) s1) := P1.out.other (by have := Z1.out; omega) g12 (by simp)
  have B2 : Hid (Below w.heap.size w W2) := B1.out.grown g12 B1.out.size (fun k hk => by cases hk)
  have C2 : Hid (W2.heap[w.heap.size]? = some (.cells (cellsZ zs) 29 (0, 0))) := by
    show _ = _
    rw [g12.block _ (by have := Z1.out; omega) (by simp)]; exact C1.out
  have Z2 : Hid (w.heap.size + 3 ≤ W2.heap.size) := Nat.le_trans Z1.out g12.size
  rw [← hW2]
  clear hW2 g12 P1 B1 C1 Z1
  obtain ⟨c1, hc1⟩ : ∃ c1, c1 = cellsZ s1.1 := ⟨_, rfl⟩
  have HC1 : Hid (c1 = cellsZ s1.1) := hc1
  have S1 : Hid (c1.size = 1024) := by rw [hc1]; exact cellsZ_size M1.out.tb
  have O1 : Hid (c1.all (·.oneCell') = true) := by rw [hc1]; exact cellsZ_one _
  rw [← hc1]
  clear hc1
  go_wp2_with (first
    | (refine wpList_alloc29 rfl rfl ?_)
    | (refine wpList_store_row rfl 29 _ _ rfl W2.heap.size c1 rfl rfl 29 (tab0 1024) (heap_alloc_new _ _) (by rw [Try.size29, S1.out]) (by rw [S1.out]; unfold tab0; rw [Array.size_replicate]) O1.out ?_))
  rw [World.setRow_alloc_new]
  obtain ⟨gb, hgb⟩ : ∃ gb, gb = W2.heap.size := ⟨_, rfl⟩
  obtain ⟨W3, hW3⟩ : ∃ W3, W3 = W2.alloc (.cells c1 29) := ⟨_, rfl⟩
  have g23 : W2.grownBy W3 none := by rw [hW3]; exact World.grownBy_alloc _ _ _
  have P3 : Hid (PS W3 (w.heap.size + 2) s1) := P2.out.other (by have := Z2.out; omega) g23 (by simp)
  have B3 : Hid (Below w.heap.size w W3) := B2.out.grown g23 B2.out.size (fun k hk => by cases hk)
  have C3 : Hid (W3.heap[w.heap.size]? = some (.cells (cellsZ zs) 29 (0, 0))) := by
    show _ = _
    rw [g23.block _ (by have := Z2.out; omega) (by simp)]; exact C2.out
  have D3 : Hid (W3.heap[gb]? = some (.cells (cellsZ s1.1) 29 (0, 0))) := by
    show _ = _
    rw [hW3, hgb, ← HC1.out]; exact heap_alloc_new _ _
  have ZG : Hid (w.heap.size + 3 ≤ gb) := by rw [hgb]; exact Z2.out
  have Z3 : Hid (gb < W3.heap.size) := by rw [hW3, hgb]; show _ < _; simp
  rw [← hW3, ← hgb]
  clear hW3 hgb g23 P2 B2 C2 Z2
  refine (zbits_any (w.heap.size + 2) s1 _ P3.out).mono ?_
  rintro e w' ⟨rfl, hw'⟩
  obtain rfl := hw'.symm
  obtain ⟨N, hN⟩ : ∃ N, N = s1.2 := ⟨_, rfl⟩
  have HN : Hid (N = s1.2) := hN
  have N0 : -9223372036854775808 ≤ N ∧ N ≤ 9223372036854775807 := by rw [hN]; exact P3.out.bd
  obtain ⟨N1, N2⟩ := N0
  rw [← hN]
  clear hN
  have TA : Hid (Tab W3 w.heap.size 0 zs) := Tab.of HZ.out C3.out
  have TB : Hid (Tab W3 gb 0 s1.1) := Tab.of M1.out.tb D3.out
  go_wp2_with fail
  obtain ⟨T, hT1, hT2⟩ : ∃ T : Nat, T ≤ 65536 ∧ 65536 ≤ T := ⟨65536, Nat.le_refl _, Nat.le_refl _⟩
  go_loop [12, 13] (fun a k => ∃ m : Nat, m ≤ T ∧ k = .int .i64 m ∧ a = .int .i64 (newTo zs s1.1 m : Int)) (fun _ k => T - (intOf k).toNat)
  case atStart => exact ⟨0, Nat.zero_le _, rfl, rfl⟩
  case round =>
    obtain ⟨m, hm, rfl, rfl⟩ := hrel
    have hnl : newTo zs s1.1 m ≤ 65536 := Nat.le_trans (newTo_le _ _ _) (Nat.le_trans hm hT1)
    by_cases hlt : m < 65536
    · obtain ⟨a1, ha1⟩ : ∃ a1, a1 = lo ((m : Int) % 256) := ⟨_, rfl⟩
      obtain ⟨a2, ha2⟩ : ∃ a2, a2 = lo ((m : Int) / 256) := ⟨_, rfl⟩
      obtain ⟨nw, hnw⟩ : ∃ nw, nw = newTo zs s1.1 m := ⟨_, rfl⟩
      obtain ⟨b1, hb1⟩ : ∃ b1, b1 = tb zs m := ⟨_, rfl⟩
      obtain ⟨b2, hb2⟩ : ∃ b2, b2 = tb s1.1 m := ⟨_, rfl⟩
      have HNW : Hid (newTo zs s1.1 (m + 1) = nw + (b2 && !b1).toNat) := by show _ = _; rw [hnw, hb1, hb2]; rfl
      have HBT : Hid (b2 = true ↔ b1 = true ∨ (a1 == f && a2 == l) = true) := by
        show _ ↔ _
        rw [hb1, hb2, ha1, ha2, M1.out.bit m, ← fold_Vr f0 f1 l0 l1 HF.out HL.out m hlt]
        rfl
      have KB1 : Hid (∀ X : World, Tab X w.heap.size 0 zs → Calls Try.prog 21 #[.pointer (some ⟨w.heap.size, 0, none⟩), .int .i64 (m : Int)] X fun e w' => e = .returned (.bool b1) ∧ w' = X) := by
        intro X hX
        have := bit_any w.heap.size (m : Int) zs X (by omega) (by omega) hX
        rw [Int.toNat_natCast, ← hb1] at this
        exact this
      have KB2 : Hid (∀ X : World, Tab X gb 0 s1.1 → Calls Try.prog 21 #[.pointer (some ⟨gb, 0, none⟩), .int .i64 (m : Int)] X fun e w' => e = .returned (.bool b2) ∧ w' = X) := by
        intro X hX
        have := bit_any gb (m : Int) s1.1 X (by omega) (by omega) hX
        rw [Int.toNat_natCast, ← hb2] at this
        exact this
      have KL1 : Hid (∀ X : World, Calls Try.prog 22 #[.int .u8 ((m : Int) % 256)] X fun e w' => e = .returned (.int .u8 a1) ∧ w' = X) := by
        intro X; rw [ha1]; exact lower_any _ X (by omega) (by omega)
      have KL2 : Hid (∀ X : World, Calls Try.prog 22 #[.int .u8 ((m : Int) / 256)] X fun e w' => e = .returned (.int .u8 a2) ∧ w' = X) := by
        intro X; rw [ha2]; exact lower_any _ X (by omega) (by omega)
      rw [← hnw] at hnl ⊢
      have q1 : (m : Int) < 65536 := by omega
      have q2 : (nw : Int) ≤ 65536 := by omega
      have HLT : Hid (m < 65536) := hlt
      have HT : Hid (T ≤ 65536 ∧ 65536 ≤ T) := ⟨hT1, hT2⟩
      clear ha1 ha2 hnw hb1 hb2 hnl hlt hm hT1 hT2
      go_wp2_with fail
      refine (KB1.out _ TA.out).mono ?_
      rintro e w' ⟨rfl, hw'⟩
      obtain rfl := hw'.symm
      go_wp2_with fail
      refine (KB2.out _ TB.out).mono ?_
      rintro e w' ⟨rfl, hw'⟩
      obtain rfl := hw'.symm
      go_wp2_with fail
      refine (KL1.out _).mono ?_
      rintro e w' ⟨rfl, hw'⟩
      obtain rfl := hw'.symm
      cases hc1 : (a1 == f) with
      | false =>
        have e21 : b2 = b1 := by have h := HBT.out; rw [hc1] at h; revert h; cases b1 <;> cases b2 <;> simp
        subst e21
        cases b2 with
        | false =>
          go_wp2_with fail
          go_round
          case rel => exact ⟨m + 1, Nat.le_trans HLT.out HT.out.2, by go_num, by rw [HNW.out]; rfl⟩
          case measure => simp [intOf]; have := HLT.out; have := HT.out.2; omega
        | true =>
          go_wp2_with fail
          go_round
          case rel => exact ⟨m + 1, Nat.le_trans HLT.out HT.out.2, by go_num, by rw [HNW.out]; rfl⟩
          case measure => simp [intOf]; have := HLT.out; have := HT.out.2; omega
      | true =>
        go_wp2_with fail
        refine (KL2.out _).mono ?_
        rintro e w' ⟨rfl, hw'⟩
        obtain rfl := hw'.symm
        cases hc2 : (a2 == l) with
        | false =>
          have e21 : b2 = b1 := by have h := HBT.out; rw [hc1, hc2] at h; revert h; cases b1 <;> cases b2 <;> simp
          subst e21
          cases b2 with
          | false =>
            go_wp2_with fail
            go_round
            case rel => exact ⟨m + 1, Nat.le_trans HLT.out HT.out.2, by go_num, by rw [HNW.out]; rfl⟩
            case measure => simp [intOf]; have := HLT.out; have := HT.out.2; omega
          | true =>
            go_wp2_with fail
            go_round
            case rel => exact ⟨m + 1, Nat.le_trans HLT.out HT.out.2, by go_num, by rw [HNW.out]; rfl⟩
            case measure => simp [intOf]; have := HLT.out; have := HT.out.2; omega
        | true =>
          have e2 : b2 = true := by have h := HBT.out; rw [hc1, hc2] at h; exact h.2 (.inr rfl)
          subst e2
          cases b1 with
          | false =>
            go_wp2_with fail
            go_round
            case rel => exact ⟨m + 1, Nat.le_trans HLT.out HT.out.2, by go_num, by rw [HNW.out]; exact int_up _⟩
            case measure => simp [intOf]; have := HLT.out; have := HT.out.2; omega
          | true =>
            go_wp2_with fail
            go_round
            case rel => exact ⟨m + 1, Nat.le_trans HLT.out HT.out.2, by go_num, by rw [HNW.out]; rfl⟩
            case measure => simp [intOf]; have := HLT.out; have := HT.out.2; omega
    · have hm2 : m = 65536 := by omega
      obtain ⟨nw, hnw⟩ : ∃ nw, nw = newTo zs s1.1 m := ⟨_, rfl⟩
      have hne : (wrap64 (N - n) != (nw : Int)) = false := by
        rw [bne_eq_false_iff_eq, HN.out, hnw, hm2]
        exact M1.out.rise
      rw [← hnw]
      have q1 : (65536 : Int) ≤ (m : Int) := by omega
      have hd : decide ((m : Int) < 65536) = false := by simpa using q1
      clear hnw hm2 hnl hlt hm hT1 hT2 q1
      go_wp2_with fail
      refine (zmark_any (w.heap.size + 2) f l s1 _ f0 f1 l0 l1 P3.out).mono ?_
      rintro e W4 ⟨rfl, ⟨s2, hp4, hm4⟩, hg4⟩
      have e21 : s2 = s1 := hm4.same M1.out.tb (IntWalk.wrap64_in _ P3.out.bd) (fun q hq => (M1.out.bit q).2 (.inr hq))
      subst e21
      have P4 : Hid (PS W4 (w.heap.size + 2) s2) := hp4
      have B4 : Hid (Below w.heap.size w W4) := B3.out.grown hg4 B3.out.size (fun k hk => by cases hk; omega)
      have D4 : Hid (W4.heap[gb]? = some (.cells (cellsZ s2.1) 29 (0, 0))) := by
        show _ = _
        rw [hg4.block _ Z3.out (by have := ZG.out; simp; omega)]; exact D3.out
      have Z4 : Hid (gb < W4.heap.size) := Nat.lt_of_lt_of_le Z3.out hg4.size
      clear hp4 hm4 hg4
      go_wp2_with fail
      refine (zpairs_any (w.heap.size + 2) s2 _ P4.out).mono ?_
      rintro e w' ⟨rfl, rfl⟩
      rw [← HC1.out]
      obtain ⟨W5, hW5⟩ : ∃ W5, W5 = W4.alloc (.cells c1 29) := ⟨_, rfl⟩
      have g45 : W4.grownBy W5 none := by rw [hW5]; exact World.grownBy_alloc _ _ _
      have P5 : Hid (PS W5 (w.heap.size + 2) s2) := P4.out.other (by have := ZG.out; have := Z4.out; omega) g45 (by simp)
      have B5 : Hid (Below w.heap.size w W5) := B4.out.grown g45 B4.out.size (fun k hk => by cases hk)
      have D5 : Hid (W5.heap[gb]? = some (.cells c1 29 (0, 0))) := by
        show _ = _
        rw [g45.block _ Z4.out (by simp), HC1.out]; exact D4.out
      have Z5 : Hid (gb < W5.heap.size) := Nat.lt_of_lt_of_le Z4.out g45.size
      rw [← hW5]
      clear hW5 g45 P4 B4 D4 Z4
      go_wp2_with (first
        | (refine wpList_alloc29 rfl rfl ?_; simp only [Act.put, List.setIfInBounds_toArray, List.set_cons_succ, List.set_cons_zero])
        | (refine wpList_store_row rfl 29 _ _ rfl W5.heap.size c1 rfl rfl 29 (tab0 1024) (heap_alloc_new _ _) (by rw [Try.size29, S1.out]) (by rw [S1.out]; unfold tab0; rw [Array.size_replicate]) O1.out ?_; rw [World.setRow_alloc_new]; simp only [Act.put])
        | (refine wpList_load_row rfl 29 _ rfl W5.heap.size rfl 29 c1 (0, 0) _ (heap_alloc_new _ _) Try.underlying29 rfl (by rw [Try.size29, S1.out]) ?_; simp only [Act.put, List.setIfInBounds_toArray, List.set_cons_succ, List.set_cons_zero])
        | (refine wpList_load_row rfl 29 _ rfl gb rfl 29 c1 (0, 0) _ (by rw [heap_alloc_old _ _ Z5.out]; exact D5.out) Try.underlying29 rfl (by rw [Try.size29, S1.out]) ?_; simp only [Act.put, List.setIfInBounds_toArray, List.set_cons_succ, List.set_cons_zero])
        | (refine wpList_neq29 rfl _ _ _ rfl c1 rfl rfl s2.1 M1.out.tb.1 HC1.out ?_; simp only [Act.put, List.setIfInBounds_toArray, List.set_cons_succ, List.set_cons_zero]))
      refine (zbits_any (w.heap.size + 2) s2 _ (P5.out.other (by have := ZG.out; have := Z5.out; omega) (World.grownBy_alloc _ _ none) (by simp))).mono ?_
      rintro e w' ⟨rfl, hw'⟩
      rw [← HN.out, hw']
      go_wp2
      go_ret
      exact ⟨by simp, B5.out.alloc B5.out.size _⟩
end Go.Proofs.Qxb6619318a
