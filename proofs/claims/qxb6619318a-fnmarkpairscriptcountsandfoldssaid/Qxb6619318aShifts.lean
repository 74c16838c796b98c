/-
  THE WALK OF FnNextPairShiftsAndFindsLeast (7), out of the contracts of its callees.
-/
import Derived.Test.Qxb6619318aTable
namespace Go.Proofs.Qxb6619318a
open Go.RowKit

/-- The pair at place m + 1, and its bit by the law's own pfb1Bit. -/
theorem pair_bit (t : ByteArray) (m : Nat) (hm0 : m < t.size) (hlt : m + 1 < t.size) (b : Nat) (zs : List Int) :
    ∃ p : Nat, p ≤ 65535 ∧ bits .or .i64 ((t[m]'hm0).toNat : Int) (((t[m + 1]'hlt).toNat : Int) * 256) = (p : Int) ∧
      ∀ X : World, Tab X b 0 zs → Calls Try.prog 21 #[.pointer (some ⟨b, 0, none⟩), .int .i64 (p : Int)] X fun e w' => e = .returned (.bool (tb zs (pr t (m + 1)))) ∧ w' = X := by
  have hp := pr_lt t (m + 1)
  refine ⟨pr t (m + 1), by omega, ?_, fun X hX => ?_⟩
  · rw [or_i64 _ _ (UInt8.toNat_lt _) (UInt8.toNat_lt _)]
    unfold pr
    rw [Nat.add_sub_cancel, byN_in t m hm0, byN_in t (m + 1) hlt]
  · have := bit_any b (pr t (m + 1) : Int) zs X (by omega) (by omega) hX
    rw [Int.toNat_natCast] at this
    exact this

set_option maxHeartbeats 400000 in
theorem walk7 (cs : Array Value) (zs : List Int) (pf t : ByteArray) (f : Int) (w : World) (hcs : cs.size = 1024) (hz : cs = (zs.map (Value.int .u64)).toArray) (hl : zs.length = 1024) (hw : ∀ n ∈ zs, (Lit.int .u64 n).wf = true) (w1 : pf.size ≤ maxLen) (w2 : t.size ≤ maxLen) (w3 : (Lit.int .i64 f).wf = true) :
    Calls Try.prog 7 #[.agg cs, .string pf, .string t, .int .i64 f] w fun e w' => e = .returned (.bool true) ∧ Below w.heap.size w w' := by
  have HS : Hid (cs.size = 1024) := hcs
  have HZ : Hid (cs = (zs.map (Value.int .u64)).toArray) := hz
  have HL : Hid (zs.length = 1024) := hl
  have HW : Hid (∀ n ∈ zs, (Lit.int .u64 n).wf = true) := hw
  obtain ⟨f1, f2⟩ := bounds_i64 w3
  clear hcs hz hl hw w3
  by_cases c1 : 1048576 < pf.size + t.size
  · go_enter Try.func7, Try.ntmps7
    go_wp2_with (refine wpList_load_row rfl 29 _ rfl w.heap.size rfl 29 cs (0, 0) _ (heap_alloc_new _ _) Try.underlying29 rfl (by rw [Try.size29, HS.out]) ?_)
    refine (bytes25_no cs pf t f _ w1 w2 c1).mono ?_
    rintro e w' ⟨rfl, rfl⟩
    go_wp2
    go_ret
    exact ⟨rfl, ((Below.refl _ _).alloc (Nat.le_refl _) _).alloc (by simp) _⟩
  unfold maxLen at w1 w2
  have c1' : pf.size + t.size ≤ 1048576 := by omega
  clear c1
  by_cases c2 : 262144 < pf.size ∨ 262144 < t.size ∨ f < 1
  · have d2 : 262144 < pf.size ∨ (pf.size ≤ 262144 ∧ 262144 < t.size) ∨ (pf.size ≤ 262144 ∧ t.size ≤ 262144 ∧ f < 1) := by omega
    clear c2
    rcases d2 with d2 | ⟨d2, d3⟩ | ⟨d2, d3, d4⟩
    all_goals
      go_enter Try.func7, Try.ntmps7
      go_wp2_with (refine wpList_load_row rfl 29 _ rfl w.heap.size rfl 29 cs (0, 0) _ (heap_alloc_new _ _) Try.underlying29 rfl (by rw [Try.size29, HS.out]) ?_)
      refine (bytes25 cs pf t f _ c1').mono ?_
      rintro e w' ⟨rfl, rfl⟩
      go_wp2
      go_ret
      exact ⟨rfl, ((Below.refl _ _).alloc (Nat.le_refl _) _).alloc (by simp) _⟩
  have d1 : pf.size ≤ 262144 := by omega
  have d2 : t.size ≤ 262144 := by omega
  have d3 : 1 ≤ f := by omega
  clear c2 w1 w2 f1
  obtain ⟨F, rfl⟩ := Int.eq_ofNat_of_zero_le (show 0 ≤ f by omega)
  go_enter Try.func7, Try.ntmps7
  go_wp2_with (refine wpList_load_row rfl 29 _ rfl w.heap.size rfl 29 cs (0, 0) _ (heap_alloc_new _ _) Try.underlying29 rfl (by rw [Try.size29, HS.out]) ?_)
  refine (bytes25 cs pf t F _ c1').mono ?_
  rintro e w' ⟨rfl, rfl⟩
  have hh2 : ((w.alloc (.cells cs 29)).alloc (.cells cs 29)).heap[w.heap.size]? = some (.cells cs 29) := by
    rw [heap_alloc_old _ _ (by simp)]; exact heap_alloc_new _ _
  go_wp2_with (refine wpList_load_row rfl 29 _ rfl w.heap.size rfl 29 cs (0, 0) _ hh2 Try.underlying29 rfl (by rw [Try.size29, HS.out]) ?_)
  clear hh2
  refine (newset_any cs 0 _ HS.out).mono ?_
  rintro e w' ⟨rfl, C, rfl, k1, k2, k3⟩
  have es : ((w.alloc (.cells cs 29)).alloc (.cells cs 29)).heap.size + 1 = w.heap.size + 3 := by simp
  rw [es]
  obtain ⟨W, hW⟩ : ∃ W, W = (((w.alloc (.cells cs 29)).alloc (.cells cs 29)).alloc (.cells cs 29)).alloc (.cells C 52) := ⟨_, rfl⟩
  have hT0 : Tab W w.heap.size 0 zs := by
    refine Tab.mk' (C := cs) (t := 29) (fr := (0, 0)) HL.out HW.out ?_ (fun j hj => by rw [HZ.out, Nat.zero_add])
    rw [hW, heap_alloc_old _ _ (by simp; omega), heap_alloc_old _ _ (by simp; omega), heap_alloc_old _ _ (by simp)]; exact heap_alloc_new _ _
  have hT1 : Tab W (w.heap.size + 3) 6 zs := by
    refine Tab.mk' (C := C) (t := 52) (fr := (0, 0)) HL.out HW.out ?_ (fun j hj => by rw [← HZ.out]; exact k2 j hj)
    have := heap_alloc_new (((w.alloc (.cells cs 29)).alloc (.cells cs 29)).alloc (.cells cs 29)) (.cells C 52)
    rw [hW]; simpa using this
  have hB : Below w.heap.size w W := by
    rw [hW]; exact ((((Below.refl _ _).alloc (Nat.le_refl _) _).alloc (by simp) _).alloc (by simp; omega) _).alloc (by simp; omega) _
  rw [← hW]
  have HT0 : Hid (Tab W w.heap.size 0 zs) := hT0
  have HT1 : Hid (Tab W (w.heap.size + 3) 6 zs) := hT1
  have HB : Hid (Below w.heap.size w W) := hB
  clear hW k1 k2 k3 es hT0 hT1 hB HZ HL HW HS
  go_wp2_with fail
  refine (znext_any (w.heap.size + 3) t F zs _ (by omega) (by omega) (by omega) HT1.out).mono ?_
  rintro e V ⟨⟨r, rfl, hr⟩, q, hq⟩
  have GT0 : Hid (Tab V w.heap.size 0 zs) := by rw [hq]; exact HT0.out.drewN q
  have GT1 : Hid (Tab V (w.heap.size + 3) 6 zs) := by rw [hq]; exact HT1.out.drewN q
  have GB : Hid (Below w.heap.size w V) := by rw [hq]; exact below_drewN HB.out q
  clear hq HT0 HT1 HB
  have hr' := hr
  have HR : Hid (Nxt (fun k => tb zs (pr t k)) t.size F r) := hr
  clear hr
  rcases hr' with ⟨rfl, hno⟩ | ⟨J, hJ, hJ1, hJ2, hJ3⟩
  · have HN : Hid (∀ j : Nat, F + 2 * j < t.size → tb zs (pr t (F + 2 * j)) = false) := hno
    clear hno
    go_wp2_with fail
    go_loopw [11] (fun i wr => ∃ j : Nat, i = .int .i64 ((F + 2 * j : Nat) : Int) ∧ (j = 0 ∨ F + 2 * j ≤ t.size + 1) ∧ ∃ q, wr = V.drewN q) (fun i _ => t.size + 2 - (intOf i).toNat)
    case atStart => exact ⟨0, rfl, .inl rfl, 0, rfl⟩
    case round =>
      obtain ⟨j, rfl, hks, q, hq⟩ := hrel
      have HQ : Hid (wr = V.drewN q) := hq
      have HTr : Hid (Tab wr w.heap.size 0 zs) := by rw [hq]; exact GT0.out.drewN q
      have HTs : Hid (Tab wr (w.heap.size + 3) 6 zs) := by rw [hq]; exact GT1.out.drewN q
      clear hq
      obtain ⟨m, hm⟩ : ∃ m, F + 2 * j = m + 1 := ⟨F + 2 * j - 1, by omega⟩
      rw [hm]
      have HM : Hid (F + 2 * j = m + 1) := hm
      have hks' : j = 0 ∨ m + 1 ≤ t.size + 1 := by rw [← hm]; exact hks
      have hfm : F ≤ m + 1 := by omega
      clear hm hks
      by_cases hlt : m + 1 < t.size
      · have hm0 : m < t.size := by omega
        have e1 : (m : Int) < (t.size : Int) := by omega
        have e3 : (m : Int) + 1 < (t.size : Int) := by omega
        have e4 : IntKind.i64.wrap (m : Int) = (m : Int) := IntWalk.i64_in _ (by omega)
        have e5 : (0:Int) ≤ (m:Int) + 1 := by omega
        have e6 := i64_byte
        have e7 := i64_byte8
        have hf : tb zs (pr t (m + 1)) = false := by rw [← HM.out]; exact HN.out j (by rw [HM.out]; exact hlt)
        obtain ⟨p, hp1, e8, hbit⟩ := pair_bit t m hm0 hlt w.heap.size zs
        have HBIT := show Hid _ from hbit
        rw [hf] at HBIT
        clear hbit hf
        go_wp2
        go_quiet ((go_at_call 21; refine Calls.quiet_of_same (HBIT.out _ ?_); exact HTr.out.drewN _))
        clear e4 e6 e7 e8
        go_wp2
        go_roundw
        case rel =>
          refine ⟨j + 1, ?_, ?_, q + nq, by rw [HQ.out, World.drewN_drewN]⟩
          · have := HM.out; rw [show F + 2 * (j + 1) = m + 1 + 2 from by omega]; rfl
          · have := HM.out; omega
        case measure => simp [intOf]; omega
      · by_cases c : t.size < F
        · go_wp2_with fail
          go_ret
          exact ⟨rfl, by rw [HQ.out]; exact below_drewN GB.out q⟩
        · go_wp2_with fail
          rw [show ((F : Int) + (pf.size : Int)) = ((F + pf.size : Nat) : Int) from by omega]
          refine (znext_any (w.heap.size + 3) (pf ++ t) (F + pf.size) zs _ (by simp; omega) (by omega) (by omega) HTs.out).mono ?_
          rintro e w' ⟨⟨r, rfl, hr⟩, q2, rfl⟩
          have hr2 : r = -1 := HR.out.shift (by omega) hr
          clear hr
          subst hr2
          go_wp2
          go_ret
          exact ⟨rfl, by rw [HQ.out]; exact below_drewN (below_drewN GB.out q) q2⟩
  · obtain ⟨R, hR⟩ : ∃ R, F + 2 * J = R := ⟨_, rfl⟩
    rw [hR] at hJ hJ1 hJ2
    subst hJ
    have HN : Hid (∀ i, i < J → tb zs (pr t (F + 2 * i)) = false) := hJ3
    have HY : Hid (tb zs (pr t R) = true) := hJ2
    have HJ : Hid (F + 2 * J = R) := hR
    have g1 : F ≤ R := by omega
    have g2 : ((R : Int) - (F : Int)) % 2 = 0 := by omega
    clear hR hJ3 hJ2
    obtain ⟨m, rfl⟩ : ∃ m, R = m + 1 := ⟨R - 1, by omega⟩
    go_wp2_with fail
    have hm0 : m < t.size := by omega
    have e1 : (m : Int) < (t.size : Int) := by omega
    have e3 : (m : Int) + 1 < (t.size : Int) := by omega
    have e4 : IntKind.i64.wrap (m : Int) = (m : Int) := IntWalk.i64_in _ (by omega)
    have e5 : (0:Int) ≤ (m:Int) + 1 := by omega
    have e6 := i64_byte
    have e7 := i64_byte8
    obtain ⟨p, hp1, e8, hbit⟩ := pair_bit t m hm0 hJ1 w.heap.size zs
    have HBIT := show Hid _ from hbit
    rw [HY.out] at HBIT
    clear hbit
    go_quiet ((go_at_call 21; refine Calls.quiet_of_same (HBIT.out _ ?_); exact GT0.out.drewN _))
    clear e4 e6 e7 e8 HBIT
    obtain ⟨U, hU⟩ : ∃ U, U = V.drewN nq := ⟨_, rfl⟩
    have KT0 : Hid (Tab U w.heap.size 0 zs) := by rw [hU]; exact GT0.out.drewN nq
    have KT1 : Hid (Tab U (w.heap.size + 3) 6 zs) := by rw [hU]; exact GT1.out.drewN nq
    have KB : Hid (Below w.heap.size w U) := by rw [hU]; exact below_drewN GB.out nq
    rw [← hU]
    clear hU GT0 GT1 GB
    go_wp2_with fail
    go_loopw [11] (fun i wr => ∃ j : Nat, i = .int .i64 ((F + 2 * j : Nat) : Int) ∧ j ≤ J ∧ ∃ q, wr = U.drewN q) (fun i _ => t.size + 2 - (intOf i).toNat)
    case atStart => exact ⟨0, rfl, Nat.zero_le _, 0, rfl⟩
    case round =>
      clear q
      obtain ⟨j, rfl, hjJ, q, hq⟩ := hrel
      have HQ : Hid (wr = U.drewN q) := hq
      have HTr : Hid (Tab wr w.heap.size 0 zs) := by rw [hq]; exact KT0.out.drewN q
      have HTs : Hid (Tab wr (w.heap.size + 3) 6 zs) := by rw [hq]; exact KT1.out.drewN q
      clear hq
      obtain ⟨k, hm⟩ : ∃ k, F + 2 * j = k + 1 := ⟨F + 2 * j - 1, by omega⟩
      rw [hm]
      have HM : Hid (F + 2 * j = k + 1) := hm
      have hkm : k ≤ m := by have := HJ.out; omega
      have hfm : F ≤ k + 1 := by omega
      clear hm
      have hk1 : k + 1 < t.size := by omega
      by_cases hlt : k < m
      · have hk0 : k < t.size := by omega
        have e1 : (k : Int) < (t.size : Int) := by omega
        have e3 : (k : Int) + 1 < (t.size : Int) := by omega
        have e4 : IntKind.i64.wrap (k : Int) = (k : Int) := IntWalk.i64_in _ (by omega)
        have e5 : (0:Int) ≤ (k:Int) + 1 := by omega
        have e6 := i64_byte
        have e7 := i64_byte8
        have hf : tb zs (pr t (k + 1)) = false := by rw [← HM.out]; exact HN.out j (by have := HM.out; have := HJ.out; omega)
        obtain ⟨p2, hp2, e8, hbit⟩ := pair_bit t k hk0 hk1 w.heap.size zs
        have HBIT := show Hid _ from hbit
        rw [hf] at HBIT
        clear hbit hf
        go_wp2
        go_quiet ((go_at_call 21; refine Calls.quiet_of_same (HBIT.out _ ?_); exact HTr.out.drewN _))
        clear e4 e6 e7 e8
        go_wp2
        go_roundw
        case rel =>
          refine ⟨j + 1, ?_, ?_, q + nq, by rw [HQ.out, World.drewN_drewN]⟩
          · have := HM.out; rw [show F + 2 * (j + 1) = k + 1 + 2 from by omega]; rfl
          · have := HM.out; have := HJ.out; omega
        case measure => simp [intOf]; omega
      · obtain rfl : k = m := by omega
        go_wp2_with fail
        rw [show ((F : Int) + (pf.size : Int)) = ((F + pf.size : Nat) : Int) from by omega]
        refine (znext_any (w.heap.size + 3) (pf ++ t) (F + pf.size) zs _ (by simp; omega) (by omega) (by omega) HTs.out).mono ?_
        rintro e w' ⟨⟨r, rfl, hr⟩, q2, rfl⟩
        have hr2 : r = (k : Int) + 1 + pf.size := by
          have := HR.out.shift (by omega) hr
          unfold mv at this
          rw [if_neg (by omega)] at this
          omega
        clear hr
        subst hr2
        go_wp2
        go_ret
        exact ⟨rfl, by rw [HQ.out]; exact below_drewN (below_drewN KB.out q) q2⟩
end Go.Proofs.Qxb6619318a
