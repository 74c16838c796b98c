/-
  THE WALK OF FnMarkPairScriptCountsAndFolds (6), out of the contracts of its callees.
-/
import Derived.Test.Qxb6619318aFinds
import Derived.Test.Qxb6619318aPop
import Derived.Deep.MidRow
namespace Go.Proofs.Qxb6619318a
open Go.RowKit

theorem cnt_zero : ∀ m, cntTo (List.replicate 1024 0) m = 0
  | 0 => rfl
  | m + 1 => by unfold cntTo; rw [cnt_zero m, tb_zero]; rfl

/-- Out of the empty set the count is the number of bits. -/
theorem Mk.count {s : List Int × Int} {V : Nat → Prop} (h : Mk (List.replicate 1024 0, 0) s V) : s.2 = (cntTo s.1 65536 : Int) := by
  obtain ⟨k, h1, h2⟩ := h.num
  have hz := cnt_zero 65536
  have hle := cntTo_le s.1 65536
  rw [h2]
  generalize cntTo s.1 65536 = c at *
  have h3 : k + 0 = c := by rw [← hz]; exact h1
  unfold wrap64
  omega

theorem Mk.only {s s' : List Int × Int} {V V' : Nat → Prop} (h : Mk (List.replicate 1024 0, 0) s V) (h' : Mk (List.replicate 1024 0, 0) s' V') (hv : ∀ q, V q ↔ V' q) : s = s' := by
  have e1 : s.1 = s'.1 := by
    refine tab_ext h.tb h'.tb (fun q => ?_)
    rw [Bool.eq_iff_iff, h.bit q, h'.bit q, hv q]
  have e2 : s.2 = s'.2 := by rw [h.count, h'.count, e1]
  exact Prod.ext e1 e2

/-- The pairs of the steps from j on. -/
def VrFrom (F L : List Int) (j k q : Nat) : Prop := ∃ i, j ≤ i ∧ i < k ∧ Vr (F.getD i 0) (L.getD i 0) q
theorem VrFrom_all (F L : List Int) (q : Nat) : ∀ k, VrFrom F L 0 k q ↔ VrTo F L k q
  | 0 => by
    unfold VrFrom VrTo
    exact ⟨fun ⟨i, _, h, _⟩ => by omega, fun h => h.elim⟩
  | k + 1 => by
    unfold VrTo
    rw [← VrFrom_all F L q k]
    unfold VrFrom
    constructor
    · rintro ⟨i, h0, h1, h2⟩
      by_cases e : i = k
      · subst e; exact .inr h2
      · exact .inl ⟨i, h0, by omega, h2⟩
    · rintro (⟨i, h0, h1, h2⟩ | h)
      · exact ⟨i, h0, by omega, h2⟩
      · exact ⟨k, by omega, by omega, h⟩
theorem VrFrom_next (F L : List Int) (m k q : Nat) (h : m < k) : (VrFrom F L (m + 1) k q ∨ Vr (F.getD m 0) (L.getD m 0) q) ↔ VrFrom F L m k q := by
  unfold VrFrom
  constructor
  · rintro (⟨i, h0, h1, h2⟩ | h2)
    · exact ⟨i, by omega, h1, h2⟩
    · exact ⟨m, by omega, h, h2⟩
  · rintro ⟨i, h0, h1, h2⟩
    by_cases e : i = m
    · subst e; exact .inr h2
    · exact .inl ⟨i, by omega, h1, h2⟩

structure R6 (w : World) (g g2 gb : Nat) (s : List Int × Int) (W : World) : Prop where
  p1 : PS W g s
  p2 : PS W g2 s
  bel : Below w.heap.size w W
  sz : g2 < W.heap.size
  sb : gb < W.heap.size
  tab : W.heap[gb]? = some (.cells (cellsZ s.1) 29 (0, 0))
theorem R6.grow {w W W' : World} {g g2 gb : Nat} {s : List Int × Int} (h : R6 w g g2 gb s W) (hg : W.grownBy W' none) (hl : g < g2) : R6 w g g2 gb s W' :=
  ⟨h.p1.other (Nat.lt_trans hl h.sz) hg (by simp), h.p2.other h.sz hg (by simp), h.bel.grown hg h.bel.size (fun k hk => by cases hk), Nat.lt_of_lt_of_le h.sz hg.size, Nat.lt_of_lt_of_le h.sb hg.size, by rw [hg.block _ h.sb (by simp)]; exact h.tab⟩
theorem R6.rng {w W : World} {g g2 gb : Nat} {s : List Int × Int} {cs : List Value} (h : R6 w g g2 gb s W) (hc : cellsZ s.1 = cs.toArray) : W.rangeAt gb 0 cs := by
  intro j v hv
  rw [cell_of_row W gb (0 + j) _ 29 (0, 0) h.tab, hc]
  simpa using hv

set_option maxRecDepth 100000 in
set_option maxHeartbeats 2000000 in
theorem walk6 (oF oL : Option Addr) (lF cF lL cL : Nat) (F L : List Int) (w : World) (hF : Sb w w.heap.size oF lF F) (hL : Sb w w.heap.size oL lL L) (bF : lF ≤ 9223372036854775807) (bL : lL ≤ 9223372036854775807) :
    Calls Try.prog 6 #[.slice oF lF cF, .slice oL lL cL] w fun e w' => e = .returned (.bool true) ∧ Below w.heap.size w w' := by
  have HF : Hid (Sb w w.heap.size oF lF F) := hF
  have HL : Hid (Sb w w.heap.size oL lL L) := hL
  clear hF hL
  by_cases c1 : 1048576 < lF + lL
  · go_enter Try.func6, Try.ntmps6
    go_wp2_with fail
    refine (bytes23_no oF oL lF lL cF cL _ bF bL c1).mono ?_
    rintro e w' ⟨rfl, hw'⟩
    obtain rfl := hw'.symm
    go_wp2
    go_ret
    exact ⟨rfl, Below.refl _ _⟩
  have c1' : lF + lL ≤ 1048576 := by omega
  clear c1 bF bL
  by_cases c2 : 32768 < lF ∨ 32768 < lL ∨ lF ≠ lL
  · have d2 : 32768 < lF ∨ (lF ≤ 32768 ∧ 32768 < lL) ∨ (lF ≤ 32768 ∧ lL ≤ 32768 ∧ lF ≠ lL) := by omega
    clear c2
    rcases d2 with d2 | ⟨d2, d3⟩ | ⟨d2, d3, d5⟩
    · go_enter Try.func6, Try.ntmps6
      go_wp2_with fail
      refine (bytes23 oF oL lF lL cF cL _ c1').mono ?_
      rintro e w' ⟨rfl, hw'⟩
      obtain rfl := hw'.symm
      go_wp2
      go_ret
      exact ⟨rfl, Below.refl _ _⟩
    · go_enter Try.func6, Try.ntmps6
      go_wp2_with fail
      refine (bytes23 oF oL lF lL cF cL _ c1').mono ?_
      rintro e w' ⟨rfl, hw'⟩
      obtain rfl := hw'.symm
      go_wp2
      go_ret
      exact ⟨rfl, Below.refl _ _⟩
    · have hne : ((lF : Int) != (lL : Int)) = true := by rw [bne_iff_ne]; omega
      clear d5
      go_enter Try.func6, Try.ntmps6
      go_wp2_with fail
      refine (bytes23 oF oL lF lL cF cL _ c1').mono ?_
      rintro e w' ⟨rfl, hw'⟩
      obtain rfl := hw'.symm
      go_wp2
      go_ret
      exact ⟨rfl, Below.refl _ _⟩
  have e12 : lL = lF := by omega
  subst e12
  have d1 : lL ≤ 32768 := by omega
  clear c2
  go_enter Try.func6, Try.ntmps6
  go_wp2_with fail
  refine (bytes23 oF oL lL lL cF cL _ c1').mono ?_
  rintro e w' ⟨rfl, hw'⟩
  obtain rfl := hw'.symm
  go_wp2_with fail
  go_loop [5] (fun i => ∃ k : Nat, k ≤ lL ∧ i = .int .i64 k ∧ NoCap F L k) (fun i => lL - (intOf i).toNat)
  case atStart => exact ⟨0, Nat.zero_le _, rfl, fun j hj => by omega⟩
  case round =>
    obtain ⟨k, hk, rfl, hnc⟩ := hrel
    have HNC : Hid (NoCap F L k) := hnc
    clear hnc
    by_cases hlt : k < lL
    · obtain ⟨b1, o1, rfl, _, x1⟩ := HF.out.2.2 k hlt
      obtain ⟨b2, o2, rfl, _, x2⟩ := HL.out.2.2 k hlt
      obtain ⟨y1, hy1⟩ : ∃ y1, y1 = F.getD k 0 := ⟨_, rfl⟩
      obtain ⟨y2, hy2⟩ : ∃ y2, y2 = L.getD k 0 := ⟨_, rfl⟩
      have v1 := HF.out.2.1 k
      have v2 := HL.out.2.1 k
      rw [← hy1] at x1 v1
      rw [← hy2] at x2 v2
      obtain ⟨v10, v11⟩ := v1
      obtain ⟨v20, v21⟩ := v2
      have HY1 : Hid (y1 = F.getD k 0) := hy1
      have HY2 : Hid (y2 = L.getD k 0) := hy2
      clear hy1 hy2
      have e1 : (k : Int) < (lL : Int) := by omega
      go_wp2_with fail
      refine (isUpper_any y1 _ v10 v11).mono ?_
      rintro e w' ⟨rfl, hw'⟩
      obtain rfl := hw'.symm
      cases hu : isUp y1 with
      | true =>
        go_wp2_with fail
        go_ret
        exact ⟨rfl, Below.refl _ _⟩
      | false =>
        go_wp2_with fail
        refine (isUpper_any y2 _ v20 v21).mono ?_
        rintro e w' ⟨rfl, hw'⟩
        obtain rfl := hw'.symm
        cases hv : isUp y2 with
        | true =>
          go_wp2_with fail
          go_ret
          exact ⟨rfl, Below.refl _ _⟩
        | false =>
          go_wp2_with fail
          go_round
          case rel =>
            refine ⟨k + 1, by omega, by go_num, fun j hj => ?_⟩
            by_cases e : j = k
            · subst e; rw [← HY1.out, ← HY2.out]; exact ⟨isUp_false hu, isUp_false hv⟩
            · exact HNC.out j (by omega)
          case measure => simp [intOf]; omega
    · have ek : k = lL := by omega
      subst ek
      clear hlt hk
      obtain ⟨z0, hz0⟩ : ∃ z0, z0 = tab0 1024 := ⟨_, rfl⟩
      have Z0 : Hid (z0 = tab0 1024) := hz0
      have S0 : Hid (z0.size = 1024) := by rw [hz0]; show _ = _; unfold tab0; rw [Array.size_replicate]
      clear hz0
      go_wp2_with (first
        | (refine wpList_alloc29 rfl rfl ?_; rw [← Z0.out]; simp only [Act.put, List.setIfInBounds_toArray, List.set_cons_succ, List.set_cons_zero])
        | (refine wpList_load_row rfl 29 _ rfl w.heap.size rfl 29 z0 (0, 0) _ (heap_alloc_new _ _) Try.underlying29 rfl (by rw [Try.size29, S0.out]) ?_; simp only [Act.put, List.setIfInBounds_toArray, List.set_cons_succ, List.set_cons_zero]))
      refine (newset_any z0 0 _ S0.out).mono ?_
      rintro e w' ⟨rfl, C, rfl, k1, k2, k3⟩
      obtain ⟨W, hW⟩ : ∃ W, W = (((w.alloc (.cells z0 29)).alloc (.cells z0 29)).alloc (.cells C 52)) := ⟨_, rfl⟩
      obtain ⟨g, hg⟩ : ∃ g, g = w.heap.size + 2 := ⟨_, rfl⟩
      have es : (w.alloc (.cells z0 29)).heap.size + 1 = g := by rw [hg]; simp
      rw [es, ← hW]
      have hgr : w.grownBy W none := by
        rw [hW]
        exact ((World.grownBy_alloc _ _ _).trans (World.grownBy_alloc _ _ _)).trans (World.grownBy_alloc _ _ _)
      have KP : Hid (PS W g (List.replicate 1024 0, 0)) := by
        refine PS.laid (C := C) Tb_zero ⟨by omega, by omega⟩ ?_ (fun j hj => by rw [cells_zero, ← Z0.out]; exact k2 j hj) k3
        have := heap_alloc_new ((w.alloc (.cells z0 29)).alloc (.cells z0 29)) (.cells C 52)
        rw [hW, hg]; simpa using this
      have LB : Hid (Below w.heap.size w W) := (Below.refl _ _).grown hgr (Nat.le_refl _) (fun k hk => by cases hk)
      have LC : Hid (W.heap[w.heap.size]? = some (.cells z0 29 (0, 0))) := by
        show _ = _
        rw [hW, heap_alloc_old _ _ (by simp; omega), heap_alloc_old _ _ (by simp)]; exact heap_alloc_new _ _
      have LZ : Hid (g < W.heap.size) := by rw [hW, hg]; show _ < _; simp
      have HG : Hid (w.heap.size < g ∧ w.heap.size ≤ g) := ⟨by omega, by omega⟩
      clear hW k1 k2 k3 es hgr hg
      go_wp2_with fail
      go_loopw [8] (fun i wr => ∃ (j : Nat) (s : List Int × Int), j ≤ k ∧ i = .int .i64 j ∧ PS wr g s ∧ Mk (List.replicate 1024 0, 0) s (VrTo F L j) ∧ Below w.heap.size w wr ∧ g < wr.heap.size ∧ wr.heap[w.heap.size]? = some (.cells z0 29 (0, 0))) (fun i _ => k - (intOf i).toNat)
      case atStart => exact ⟨0, _, Nat.zero_le _, rfl, KP.out, Mk.refl Tb_zero (by unfold wrap64; omega), LB.out, LZ.out, LC.out⟩
      case round =>
        clear KP LB LC LZ W C
        obtain ⟨j, s, hj, rfl, hps, hmk, hb, hs, hc⟩ := hrel
        have KP : Hid (PS wr g s) := hps
        have KM : Hid (Mk (List.replicate 1024 0, 0) s (VrTo F L j)) := hmk
        have KB : Hid (Below w.heap.size w wr) := hb
        have KZ : Hid (g < wr.heap.size) := hs
        have KC : Hid (wr.heap[w.heap.size]? = some (.cells z0 29 (0, 0))) := hc
        clear hps hmk hb hs hc
        by_cases hlt : j < k
        · obtain ⟨b1, o1, rfl, _, x1⟩ := (HF.out.below KB.out).2.2 j hlt
          obtain ⟨b2, o2, rfl, _, x2⟩ := (HL.out.below KB.out).2.2 j hlt
          obtain ⟨y1, hy1⟩ : ∃ y1, y1 = F.getD j 0 := ⟨_, rfl⟩
          obtain ⟨y2, hy2⟩ : ∃ y2, y2 = L.getD j 0 := ⟨_, rfl⟩
          have v1 := HF.out.2.1 j
          have v2 := HL.out.2.1 j
          rw [← hy1] at x1 v1
          rw [← hy2] at x2 v2
          obtain ⟨v10, v11⟩ := v1
          obtain ⟨v20, v21⟩ := v2
          have HY1 : Hid (y1 = F.getD j 0) := hy1
          have HY2 : Hid (y2 = L.getD j 0) := hy2
          have e1 : (j : Int) < (k : Int) := by omega
          clear hy1 hy2
          go_wp2_with fail
          have hne : b1 < g ∧ b2 < g := by have := HG.out; omega
          have HNE : Hid (b1 < g ∧ b2 < g) := hne
          clear hne
          go_region_held3 (fun w' => w'.cell? ⟨b1, o1 + j, none⟩ = some (.int .u8 y1) ∧ w'.cell? ⟨b2, o2 + j, none⟩ = some (.int .u8 y2)) (first | assumption | exact ⟨by simpa using x1, by simpa using x2⟩)
            ((go_at_call 18; refine (zmark_any g y1 y2 s _ v10 v11 v20 v21 KP.out.drew1).mono ?_; rintro e V ⟨rfl, ⟨s1, hp1, hm1⟩, hg1⟩; have hcc : V.cell? ⟨b1, o1 + j, none⟩ = some (.int .u8 y1) ∧ V.cell? ⟨b2, o2 + j, none⟩ = some (.int .u8 y2) := kept2 (by simpa using x1) (by simpa using x2) hg1 HNE.out.1 HNE.out.2; have VP : Hid (PS V g s1) := hp1; have VM : Hid (Mk s s1 (Vr y1 y2)) := hm1; have VG : Hid (wr.drew.grownBy V (some g)) := hg1; clear hp1 hm1 hg1))
          have hd : wr.grownBy wr.drew none := ⟨rfl, rfl, rfl, Nat.le_refl _, fun _ _ _ => rfl⟩
          have hB := KB.out.grown hd KB.out.size (fun k hk => by cases hk)
          have VB : Hid (Below w.heap.size w V) := hB.grown VG.out hB.size (fun k hk => by cases hk; exact HG.out.2)
          have VZ : Hid (g < V.heap.size) := Nat.lt_of_lt_of_le KZ.out VG.out.size
          have VC : Hid (V.heap[w.heap.size]? = some (.cells z0 29 (0, 0))) := by
            show _ = _
            rw [VG.out.block _ (Nat.lt_trans HG.out.1 KZ.out) (by have := HG.out.1; intro e; cases e; omega)]
            exact KC.out
          have VK : Hid (Mk (List.replicate 1024 0, 0) s1 (VrTo F L (j + 1))) := by
            have h := KM.out.trans VM.out
            rw [HY1.out, HY2.out] at h
            exact h
          clear hd hB VG VM KP KM KB KZ KC x1 x2 hcc HY1 HY2
          try clear hHeld
          go_wp2_with fail
          refine (zpairs_any g s1 _ VP.out).mono ?_
          rintro e w' ⟨rfl, rfl⟩
          obtain ⟨c1, hc1⟩ : ∃ c1, c1 = cellsZ s1.1 := ⟨_, rfl⟩
          have HC1 : Hid (c1 = cellsZ s1.1) := hc1
          have S1 : Hid (c1.size = 1024) := by rw [hc1]; exact cellsZ_size VK.out.tb
          have O1 : Hid (c1.all (·.oneCell') = true) := by rw [hc1]; exact cellsZ_one _
          rw [← hc1]
          clear hc1
          obtain ⟨W2, hW2⟩ : ∃ W2, W2 = V.alloc (.cells c1 29) := ⟨_, rfl⟩
          rw [← hW2]
          have HW2 : Hid (W2 = V.alloc (.cells c1 29)) := hW2
          clear hW2
          go_wp2_with (first
            | (refine wpList_alloc29 rfl rfl ?_; simp only [Act.put, List.setIfInBounds_toArray, List.set_cons_succ, List.set_cons_zero])
            | (refine wpList_store_row rfl 29 _ _ rfl W2.heap.size c1 rfl rfl 29 (tab0 1024) (heap_alloc_new _ _) (by rw [Try.size29, S1.out]) (by rw [S1.out]; unfold tab0; rw [Array.size_replicate]) O1.out ?_; rw [World.setRow_alloc_new]; simp only [Act.put]))
          obtain ⟨W3, hW3⟩ : ∃ W3, W3 = W2.alloc (.cells c1 29) := ⟨_, rfl⟩
          rw [← hW3]
          have g3 : V.grownBy W3 none := by
            rw [hW3, HW2.out]; exact (World.grownBy_alloc _ _ _).trans (World.grownBy_alloc _ _ _)
          obtain ⟨gb, hgb⟩ : ∃ gb, gb = W2.heap.size := ⟨_, rfl⟩
          have TB : Hid (Tab W3 gb 0 s1.1) := Tab.of VK.out.tb (by rw [hW3, hgb, ← HC1.out]; exact heap_alloc_new _ _)
          have P3 : Hid (PS W3 g s1) := VP.out.other VZ.out g3 (by simp)
          have B3 : Hid (Below w.heap.size w W3) := VB.out.grown g3 VB.out.size (fun k hk => by cases hk)
          have Z3 : Hid (g < W3.heap.size) := Nat.lt_of_lt_of_le VZ.out g3.size
          have C3 : Hid (W3.heap[w.heap.size]? = some (.cells z0 29 (0, 0))) := by
            show _ = _
            rw [g3.block _ (Nat.lt_trans HG.out.1 VZ.out) (by simp)]; exact VC.out
          rw [← hgb]
          clear hgb hW3 HW2 g3 VP VB VC VZ
          obtain ⟨n, hn⟩ : ∃ n, n = cntTo s1.1 65536 := ⟨_, rfl⟩
          have HCT : Hid (s1.2 = (n : Int)) := by rw [hn]; exact VK.out.count
          have hpop := pop_any gb s1.1 W3 TB.out
          rw [← hn] at hpop
          clear hn
          refine (zbits_any g s1 _ P3.out).mono ?_
          rintro e w' ⟨rfl, hw'⟩
          obtain rfl := hw'.symm
          rw [HCT.out]
          have HPOP := show Hid _ from hpop
          clear hpop
          go_wp2_with fail
          refine Calls.mono HPOP.out ?_
          rintro e w' ⟨rfl, hw'⟩
          obtain rfl := hw'.symm
          go_wp2_with fail
          go_roundw
          case rel => exact ⟨j + 1, s1, hlt, by go_num, P3.out, VK.out, B3.out, Z3.out, C3.out⟩
          case measure => simp [intOf]; omega
        · have em : j = k := by omega
          subst em
          clear hlt hj
          go_wp2_with (refine wpList_load_row rfl 29 _ rfl w.heap.size rfl 29 z0 (0, 0) _ KC.out Try.underlying29 rfl (by rw [Try.size29, S0.out]) ?_; simp only [Act.put, List.setIfInBounds_toArray, List.set_cons_succ, List.set_cons_zero])
          refine (newset_any z0 0 _ S0.out).mono ?_
          rintro e w' ⟨rfl, C, rfl, k1, k2, k3⟩
          obtain ⟨W, hW⟩ : ∃ W, W = ((wr.alloc (.cells z0 29)).alloc (.cells C 52)) := ⟨_, rfl⟩
          obtain ⟨g2, hg2⟩ : ∃ g2, g2 = wr.heap.size + 1 := ⟨_, rfl⟩
          rw [← hg2, ← hW]
          have hgr : wr.grownBy W none := by
            rw [hW]
            exact (World.grownBy_alloc _ _ _).trans (World.grownBy_alloc _ _ _)
          have LP2 : Hid (PS W g2 (List.replicate 1024 0, 0)) := by
            refine PS.laid (C := C) Tb_zero ⟨by omega, by omega⟩ ?_ (fun j hj => by rw [cells_zero, ← Z0.out]; exact k2 j hj) k3
            have := heap_alloc_new (wr.alloc (.cells z0 29)) (.cells C 52)
            rw [hW, hg2]; simpa using this
          have LP : Hid (PS W g s) := KP.out.other KZ.out hgr (by simp)
          have LB : Hid (Below w.heap.size w W) := KB.out.grown hgr KB.out.size (fun k hk => by cases hk)
          have LZ : Hid (g2 < W.heap.size) := by rw [hW, hg2]; show _ < _; simp
          have HG2 : Hid (g < g2 ∧ w.heap.size ≤ g2) := by have := KZ.out; have := HG.out; show _ ∧ _; omega
          clear hW k1 k2 k3 hgr hg2 KC KB KZ KP
          go_wp2_with fail
          go_loopw [11] (fun i wr => ∃ (m : Nat) (s2 : List Int × Int), m ≤ j ∧ i = .int .i64 ((m : Int) - 1) ∧ PS wr g2 s2 ∧ Mk (List.replicate 1024 0, 0) s2 (VrFrom F L m j) ∧ PS wr g s ∧ Below w.heap.size w wr ∧ g2 < wr.heap.size) (fun i _ => (intOf i + 1).toNat)
          case atStart =>
            refine ⟨j, _, Nat.le_refl _, rfl, LP2.out, (Mk.refl Tb_zero (by unfold wrap64; omega)).congr (fun q => ?_), LP.out, LB.out, LZ.out⟩
            unfold VrFrom
            exact ⟨fun h => h.elim, fun ⟨i, h0, h1, _⟩ => by omega⟩
          case round =>
            clear LP2 LP LB LZ W C
            obtain ⟨m, s2, hm, rfl, hps2, hmk, hps, hb, hs⟩ := hrel
            have KP2 : Hid (PS wr g2 s2) := hps2
            have KM2 : Hid (Mk (List.replicate 1024 0, 0) s2 (VrFrom F L m j)) := hmk
            have KP : Hid (PS wr g s) := hps
            have KB : Hid (Below w.heap.size w wr) := hb
            have KZ : Hid (g2 < wr.heap.size) := hs
            clear hps2 hps hmk hb hs
            cases m with
            | succ m =>
              have hlt : m < j := hm
              rw [show (((m + 1 : Nat) : Int) - 1) = (m : Int) from by omega]
              obtain ⟨b1, o1, rfl, _, x1⟩ := (HF.out.below KB.out).2.2 m hlt
              obtain ⟨b2, o2, rfl, _, x2⟩ := (HL.out.below KB.out).2.2 m hlt
              obtain ⟨y1, hy1⟩ : ∃ y1, y1 = F.getD m 0 := ⟨_, rfl⟩
              obtain ⟨y2, hy2⟩ : ∃ y2, y2 = L.getD m 0 := ⟨_, rfl⟩
              have v1 := HF.out.2.1 m
              have v2 := HL.out.2.1 m
              rw [← hy1] at x1 v1
              rw [← hy2] at x2 v2
              obtain ⟨v10, v11⟩ := v1
              obtain ⟨v20, v21⟩ := v2
              have HY1 : Hid (y1 = F.getD m 0) := hy1
              have HY2 : Hid (y2 = L.getD m 0) := hy2
              have e1 : (m : Int) < (j : Int) := by omega
              clear hy1 hy2
              go_wp2_with fail
              have hne : b1 < g2 ∧ b2 < g2 := by have := HG2.out; omega
              have HNE : Hid (b1 < g2 ∧ b2 < g2) := hne
              clear hne
              go_region_held3 (fun w' => w'.cell? ⟨b1, o1 + m, none⟩ = some (.int .u8 y1) ∧ w'.cell? ⟨b2, o2 + m, none⟩ = some (.int .u8 y2)) (first | assumption | exact ⟨by simpa using x1, by simpa using x2⟩)
                ((go_at_call 18; refine (zmark_any g2 y1 y2 s2 _ v10 v11 v20 v21 KP2.out.drew1).mono ?_; rintro e V ⟨rfl, ⟨s1, hp1, hm1⟩, hg1⟩; have hcc : V.cell? ⟨b1, o1 + m, none⟩ = some (.int .u8 y1) ∧ V.cell? ⟨b2, o2 + m, none⟩ = some (.int .u8 y2) := kept2 (by simpa using x1) (by simpa using x2) hg1 HNE.out.1 HNE.out.2; have VP : Hid (PS V g2 s1) := hp1; have VM : Hid (Mk s2 s1 (Vr y1 y2)) := hm1; have VG : Hid (wr.drew.grownBy V (some g2)) := hg1; clear hp1 hm1 hg1))
              have hd : wr.grownBy wr.drew none := ⟨rfl, rfl, rfl, Nat.le_refl _, fun _ _ _ => rfl⟩
              have hB := KB.out.grown hd KB.out.size (fun k hk => by cases hk)
              have VB : Hid (Below w.heap.size w V) := hB.grown VG.out hB.size (fun k hk => by cases hk; exact HG2.out.2)
              have VZ : Hid (g2 < V.heap.size) := Nat.lt_of_lt_of_le KZ.out VG.out.size
              have VP0 : Hid (PS V g s) := KP.out.drew1.other (Nat.lt_trans HG2.out.1 KZ.out) VG.out (by have := HG2.out.1; intro e; cases e; omega)
              have VK : Hid (Mk (List.replicate 1024 0, 0) s1 (VrFrom F L m j)) := by
                have h := KM2.out.trans VM.out
                rw [HY1.out, HY2.out] at h
                exact h.congr (fun q => VrFrom_next F L m j q hlt)
              clear hd hB VG VM KP KP2 KM2 KB KZ x1 x2 hcc HY1 HY2
              go_wp2_with fail
              go_roundw
              case rel => exact ⟨m, s1, by omega, rfl, VP.out, VK.out, VP0.out, VB.out, VZ.out⟩
              case measure => simp [intOf]
            | zero =>
              have hss : s = s2 := KM.out.only KM2.out (fun q => (VrFrom_all F L q j).symm)
              subst hss
              clear hm KM2
              go_wp2_with fail
              obtain ⟨cs, hcs⟩ : ∃ cs : List Value, cs = s.1.map (Value.int .u64) := ⟨_, rfl⟩
              have HCS : Hid (cellsZ s.1 = cs.toArray) := by show _ = _; rw [hcs]; rfl
              have S1 : Hid (cs.toArray.size = 1024) := by rw [← HCS.out]; exact cellsZ_size KM.out.tb
              have O1 : Hid (cs.toArray.all (·.oneCell') = true) := by rw [← HCS.out]; exact cellsZ_one _
              clear hcs
              refine (zpairs_any g s _ KP.out).mono ?_
              rintro e w' ⟨rfl, rfl⟩
              rw [HCS.out]
              obtain ⟨W2, hW2⟩ : ∃ W2, W2 = wr.alloc (.cells cs.toArray 29) := ⟨_, rfl⟩
              rw [← hW2]
              have HW2 : Hid (W2 = wr.alloc (.cells cs.toArray 29)) := hW2
              clear hW2
              go_wp2_with (first
                | (refine wpList_alloc29 rfl rfl ?_; simp only [Act.put, List.setIfInBounds_toArray, List.set_cons_succ, List.set_cons_zero])
                | (refine wpList_store_row rfl 29 _ _ rfl W2.heap.size cs.toArray rfl rfl 29 (tab0 1024) (heap_alloc_new _ _) (by rw [Try.size29, S1.out]) (by rw [S1.out]; unfold tab0; rw [Array.size_replicate]) O1.out ?_; rw [World.setRow_alloc_new]; simp only [Act.put]))
              obtain ⟨W3, hW3⟩ : ∃ W3, W3 = W2.alloc (.cells cs.toArray 29) := ⟨_, rfl⟩
              rw [← hW3]
              have g3 : wr.grownBy W3 none := by
                rw [hW3, HW2.out]; exact (World.grownBy_alloc _ _ _).trans (World.grownBy_alloc _ _ _)
              obtain ⟨gb, hgb⟩ : ∃ gb, gb = W2.heap.size := ⟨_, rfl⟩
              have R3 : Hid (R6 w g g2 gb s W3) := by
                refine ⟨KP.out.other (Nat.lt_trans HG2.out.1 KZ.out) g3 (by simp), KP2.out.other KZ.out g3 (by simp), KB.out.grown g3 KB.out.size (fun k hk => by cases hk), Nat.lt_of_lt_of_le KZ.out g3.size, ?_, ?_⟩
                · rw [hW3, hgb]; simp
                · rw [hW3, hgb, HCS.out]; exact heap_alloc_new _ _
              rw [← hgb]
              clear hgb hW3 HW2 g3 KP KP2 KB KZ
              have hu29 := Try.underlying29
              have hi29 : (Try.prog.info? 29).map (·.size) = some cs.length := by
                rw [Try.size29]
                have h := S1.out
                rw [List.size_toArray] at h
                rw [h]
              have hneq : ∀ W : World, (binOp .neq 29 (.agg cs.toArray) (.agg cs.toArray)).run Try.prog W = .ok (.bool false) W := fun W => by
                rw [← HCS.out]; exact run_neq29 W _ KM.out.tb.1
              have heqg : ∀ (W : World) (x y : Operand), (eqGuard .neq 29 x y (.agg cs.toArray) (.agg cs.toArray)).run Try.prog W = .ok () W := fun W x y => run_eqGuard_agg W .neq 29 x y _ _ guard29
              go_region_held3 (fun w' => w'.rangeAt gb 0 cs ∧ R6 w g g2 gb s w') (first | assumption | exact ⟨(R3.out.grow ⟨rfl, rfl, rfl, Nat.le_refl _, fun _ _ _ => rfl⟩ HG2.out.1).rng HCS.out, R3.out.grow ⟨rfl, rfl, rfl, Nat.le_refl _, fun _ _ _ => rfl⟩ HG2.out.1⟩)
                ((first
                  | (go_at_call 19; have hR : R6 w g g2 gb s _ := (show _ ∧ _ by assumption).2; refine (zpairs_any g2 s _ hR.p2).mono ?_; rintro e V ⟨rfl, hV⟩; have hSS : V.rangeAt gb 0 cs ∧ R6 w g g2 gb s V := ⟨(hR.grow (by rw [hV]; exact World.grownBy_alloc _ _ _) HG2.out.1).rng HCS.out, hR.grow (by rw [hV]; exact World.grownBy_alloc _ _ _) HG2.out.1⟩; clear hV hR; rw [HCS.out])
                  | (go_at_call 20; have hR : R6 w g g2 gb s _ := (show _ ∧ _ by assumption).2; refine (zbits_any g2 s _ hR.p2).mono ?_; rintro e V ⟨rfl, hV⟩; obtain rfl := hV.symm)
                  | (go_at_call 20; have hR : R6 w g g2 gb s _ := (show _ ∧ _ by assumption).2; refine (zbits_any g s _ hR.p1).mono ?_; rintro e V ⟨rfl, hV⟩; obtain rfl := hV.symm)))
              have KR : Hid (R6 w g g2 gb s V) := hSS.2
              clear hSS hR hneq heqg hi29 hu29 R3
              obtain ⟨T, hT⟩ : ∃ T : Nat, (65536 : Int) = (T : Int) := ⟨65536, rfl⟩
              have HT : Hid ((65536 : Int) = (T : Int)) := hT
              clear hT
              go_wp2_with (at_make; refine wpList_make_bools rfl _ _ rfl T HT.out rfl rfl ?_)
              intro w1 hw1 hg1 hs1
              have W1 : Hid (Wt w1 V.heap.size (wantTo F L 0)) := hw1
              have KR1 : Hid (R6 w g g2 gb s w1) := KR.out.grow hg1 HG2.out.1
              have Z1 : Hid (V.heap.size < w1.heap.size) := hs1
              obtain ⟨gw, hgw⟩ : ∃ gw, gw = V.heap.size := ⟨_, rfl⟩
              have HGW : Hid (gb < gw ∧ w.heap.size ≤ gw) := by rw [hgw]; exact ⟨KR.out.sb, KR.out.bel.size⟩
              rw [← hgw] at W1 Z1 ⊢
              have KT : Hid (Tab w1 gb 0 s.1) := Tab.of KM.out.tb KR1.out.tab
              have B1 : Hid (Below w.heap.size w w1) := KR1.out.bel
              have Z2 : Hid (gb < w1.heap.size) := KR1.out.sb
              clear hw1 hg1 hs1 hgw KR KR1 HCS S1 O1
              go_wp2_with fail
              go_loopw [14] (fun i wr => ∃ m : Nat, m ≤ j ∧ i = .int .i64 m ∧ Wt wr gw (wantTo F L m) ∧ Tab wr gb 0 s.1 ∧ Below w.heap.size w wr ∧ gw < wr.heap.size) (fun i _ => j - (intOf i).toNat)
              case atStart => exact ⟨0, Nat.zero_le _, rfl, W1.out, KT.out, B1.out, Z1.out⟩
              case round =>
                clear W1 KT B1 Z1 Z2
                obtain ⟨m, hm, rfl, hw, ht, hb, hs⟩ := hrel
                have KW : Hid (Wt wr gw (wantTo F L m)) := hw
                have KT : Hid (Tab wr gb 0 s.1) := ht
                have KB : Hid (Below w.heap.size w wr) := hb
                have KZ : Hid (gw < wr.heap.size) := hs
                clear hw ht hb hs
                by_cases hlt : m < j
                · obtain ⟨b1, o1, rfl, _, x1⟩ := (HF.out.below KB.out).2.2 m hlt
                  obtain ⟨b2, o2, rfl, _, x2⟩ := (HL.out.below KB.out).2.2 m hlt
                  obtain ⟨y1, hy1⟩ : ∃ y1, y1 = F.getD m 0 := ⟨_, rfl⟩
                  obtain ⟨y2, hy2⟩ : ∃ y2, y2 = L.getD m 0 := ⟨_, rfl⟩
                  have v1 := HF.out.2.1 m
                  have v2 := HL.out.2.1 m
                  rw [← hy1] at x1 v1
                  rw [← hy2] at x2 v2
                  obtain ⟨v10, v11⟩ := v1
                  obtain ⟨v20, v21⟩ := v2
                  obtain ⟨p, hp⟩ : ∃ p, p = pp y1 y2 := ⟨_, rfl⟩
                  have hpl : p < 65536 := by rw [hp]; exact pp_lt _ _ v10 v11 v20 v21
                  have e8 : bits .or .i64 y1 (y2 * 256) = (p : Int) := by rw [hp]; exact or_i64i _ _ v10 v11 v20 v21
                  have e6 : IntKind.i64.wrap y1 = y1 := IntWalk.i64_in _ (by omega)
                  have e6' : IntKind.i64.wrap y2 = y2 := IntWalk.i64_in _ (by omega)
                  have e7 : IntKind.i64.wrap (y2 * 256) = y2 * 256 := IntWalk.i64_in _ (by omega)
                  have e1 : (m : Int) < (j : Int) := by omega
                  have eT : (p : Int) < (T : Int) := by rw [← HT.out]; omega
                  have cw := KW.out.cell p hpl
                  have fw := KW.out.free p
                  obtain ⟨vb, hvb⟩ : ∃ vb, vb = wantTo F L m p := ⟨_, rfl⟩
                  rw [← hvb] at cw
                  have HNX : Hid (Wt ((wr.setCell ⟨gw, p, none⟩ (.bool true)).drew) gw (wantTo F L (m + 1))) := by
                    have h := KW.out.set p hpl
                    rw [hp, hy1, hy2] at h ⊢
                    exact h
                  have HTX : Hid (Tab ((wr.setCell ⟨gw, p, none⟩ (.bool true)).drew) gb 0 s.1) := by
                    refine ⟨KT.out.1, fun q hq => ?_⟩
                    show (wr.setCell ⟨gw, p, none⟩ (.bool true)).cell? ⟨gb, 0 + q, none⟩ = _
                    rw [World.cell?_setCell_other _ _ _ _ (by intro e; have h1 : gw = gb := congrArg Addr.block e; have h2 := HGW.out.1; omega)]
                    exact KT.out.2 q hq
                  clear hp hpl hvb hy1 hy2
                  go_wp2_with fail
                  go_region
                  go_wp2_with fail
                  go_roundw
                  case rel => exact ⟨m + 1, by omega, by go_num, HNX.out, HTX.out, KB.out.grown (set_grown _ _ _ _) KB.out.size (fun k hk => by cases hk; exact HGW.out.2), by simpa using KZ.out⟩
                  case measure => simp [intOf]; omega
                · have em : m = j := by omega
                  subst em
                  have BF : Hid (∀ i : Nat, 0 ≤ F.getD i 0 ∧ F.getD i 0 ≤ 255) := HF.out.2.1
                  have BL : Hid (∀ i : Nat, 0 ≤ L.getD i 0 ∧ L.getD i 0 ≤ 255) := HL.out.2.1
                  obtain ⟨U, hU⟩ : ∃ U : World, U = wr := ⟨_, rfl⟩
                  obtain rfl := hU
                  clear hlt hm
                  go_wp2_with fail
                  go_loopw [15] (fun i wr => ∃ n : Nat, n ≤ T ∧ i = .int .i64 n ∧ ∃ q, wr = U.drewN q) (fun i _ => T - (intOf i).toNat)
                  case atStart => exact ⟨0, Nat.zero_le _, rfl, 0, rfl⟩
                  case round =>
                    obtain ⟨n, hn, rfl, q, hq⟩ := hrel
                    have HQ : Hid (wr = U.drewN q) := hq
                    have HTr : Hid (Tab wr gb 0 s.1) := by rw [hq]; exact KT.out.drewN q
                    have HWr : Hid (Wt wr gw (wantTo F L m)) := by rw [hq]; exact KW.out.drewN q
                    have HN : Hid (n ≤ T) := hn
                    clear hq hn
                    by_cases q1 : (n : Int) < 65536
                    · obtain ⟨a1, ha1⟩ : ∃ a1, a1 = lo ((n : Int) % 256) := ⟨_, rfl⟩
                      obtain ⟨a2, ha2⟩ : ∃ a2, a2 = lo ((n : Int) / 256) := ⟨_, rfl⟩
                      have n1 := lo_bd ((n : Int) % 256) (by omega) (by omega)
                      have n2 := lo_bd ((n : Int) / 256) (by omega) (by omega)
                      rw [← ha1] at n1
                      rw [← ha2] at n2
                      obtain ⟨n10, n11⟩ := n1
                      obtain ⟨n20, n21⟩ := n2
                      obtain ⟨p, hp⟩ : ∃ p, p = pp a1 a2 := ⟨_, rfl⟩
                      have hpl : p < 65536 := by rw [hp]; exact pp_lt _ _ n10 n11 n20 n21
                      have e8 : bits .or .i64 a1 (a2 * 256) = (p : Int) := by rw [hp]; exact or_i64i _ _ n10 n11 n20 n21
                      have e6 : IntKind.i64.wrap a1 = a1 := IntWalk.i64_in _ (by omega)
                      have e6' : IntKind.i64.wrap a2 = a2 := IntWalk.i64_in _ (by omega)
                      have e7 : IntKind.i64.wrap (a2 * 256) = a2 * 256 := IntWalk.i64_in _ (by omega)
                      have eT : (p : Int) < (T : Int) := by rw [← HT.out]; omega
                      obtain ⟨b, hb⟩ : ∃ b, b = tb s.1 n := ⟨_, rfl⟩
                      have cw : wr.cell? ⟨gw, p, none⟩ = some (.bool b) := by
                        rw [HWr.out.cell p hpl, hb, hp, ha1, ha2]
                        congr 2
                        rw [Bool.eq_iff_iff, want_Vr F L BF.out BL.out n (by omega) m HNC.out, KM.out.bit]
                        exact ⟨.inr, fun h => h.elim (fun h => by rw [tb_zero] at h; cases h) id⟩
                      have KL1 : Hid (∀ X : World, Calls Try.prog 22 #[.int .u8 ((n : Int) % 256)] X fun e w' => e = .returned (.int .u8 a1) ∧ w' = X) := by
                        intro X; rw [ha1]; exact lower_any _ X (by omega) (by omega)
                      have KL2 : Hid (∀ X : World, Calls Try.prog 22 #[.int .u8 ((n : Int) / 256)] X fun e w' => e = .returned (.int .u8 a2) ∧ w' = X) := by
                        intro X; rw [ha2]; exact lower_any _ X (by omega) (by omega)
                      have KB1 : Hid (∀ X : World, Tab X gb 0 s.1 → Calls Try.prog 21 #[.pointer (some ⟨gb, 0, none⟩), .int .i64 (n : Int)] X fun e w' => e = .returned (.bool b) ∧ w' = X) := by
                        intro X hX
                        have := bit_any gb (n : Int) s.1 X (by omega) (by omega) hX
                        rw [Int.toNat_natCast, ← hb] at this
                        exact this
                      clear hp hpl ha1 ha2 hb
                      go_wp2_with fail
                      refine (KL1.out _).mono ?_
                      rintro e w' ⟨rfl, hw'⟩
                      obtain rfl := hw'.symm
                      go_wp2_with fail
                      refine (KL2.out _).mono ?_
                      rintro e w' ⟨rfl, hw'⟩
                      obtain rfl := hw'.symm
                      go_wp2_with fail
                      go_quiet ((go_at_call 21; refine Calls.quiet_of_same (KB1.out _ ?_); exact HTr.out.drewN _))
                      go_wp2_with fail
                      have h1 : n + 1 ≤ T := by have := HT.out; omega
                      exact ⟨⟨n + 1, h1, rfl, q + nq, by rw [HQ.out, World.drewN_drewN]⟩, by simp [intOf]; omega⟩
                    · have hd : decide ((n : Int) < 65536) = false := by simpa using q1
                      clear q1
                      go_wp2_with fail
                      go_ret
                      exact ⟨rfl, by rw [HQ.out]; exact below_drewN KB.out q⟩
end Go.Proofs.Qxb6619318a
