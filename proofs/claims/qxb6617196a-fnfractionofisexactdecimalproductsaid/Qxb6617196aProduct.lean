/-
  THE WALK OF FnFractionOfIsExactDecimalProduct (3), out of the contracts of its callees.
-/
import Derived.Test.Qxb6617196aFrac
namespace Go.Proofs.Qxb6617196a
open Go.RowKit

theorem Digs.next {s : ByteArray} {k : Nat} (h : Digs s k) (hk : k < s.size) (h1 : 48 ≤ (((s[k]'hk).toNat : Nat) : Int) ∧ (((s[k]'hk).toNat : Nat) : Int) ≤ 57) : Digs s (k + 1) := fun i hi => by
  by_cases e : i = k
  · subst e; rw [byN_in s i hk]; omega
  · exact h i (by omega)

set_option maxHeartbeats 1000000 in
theorem walk3 (s : ByteArray) (M : Int) (w : World) (hs : s.size ≤ maxLen) (h0 : -9223372036854775808 ≤ M) (h1 : M ≤ 9223372036854775807) :
    Calls Try.prog 3 #[.string s, .int .i64 M] w fun e w' => e = .returned (.bool true) ∧ w' = w := by
  unfold maxLen at hs
  by_cases c1 : 1048576 < s.size
  · go_enter Try.func3, Try.ntmps3
    go_wp2_with fail
    refine (bytes5_no s M _ hs c1).mono ?_
    rintro e w' ⟨rfl, hw'⟩
    obtain rfl := hw'.symm
    go_wp2
    go_ret
    exact ⟨rfl, rfl⟩
  have c1' : s.size ≤ 1048576 := by omega
  clear c1 hs
  by_cases c2 : 65536 < s.size ∨ M < 1 ∨ 1023 < M
  · have d2 : (65536 : Int) < (s.size : Int) ∨ ((s.size : Int) ≤ 65536 ∧ M < 1) ∨ ((s.size : Int) ≤ 65536 ∧ 1 ≤ M ∧ 1023 < M) := by omega
    clear c2
    rcases d2 with d2 | ⟨d2, d3⟩ | ⟨d2, d3, d4⟩
    · go_enter Try.func3, Try.ntmps3
      go_wp2_with fail
      refine (bytes5 s M _ c1').mono ?_
      rintro e w' ⟨rfl, hw'⟩
      obtain rfl := hw'.symm
      go_wp2
      go_ret
      exact ⟨rfl, rfl⟩
    · go_enter Try.func3, Try.ntmps3
      go_wp2_with fail
      refine (bytes5 s M _ c1').mono ?_
      rintro e w' ⟨rfl, hw'⟩
      obtain rfl := hw'.symm
      go_wp2
      go_ret
      exact ⟨rfl, rfl⟩
    · go_enter Try.func3, Try.ntmps3
      go_wp2_with fail
      refine (bytes5 s M _ c1').mono ?_
      rintro e w' ⟨rfl, hw'⟩
      obtain rfl := hw'.symm
      go_wp2
      go_ret
      exact ⟨rfl, rfl⟩
  have d1 : (s.size : Int) ≤ 65536 := by omega
  obtain ⟨N, rfl⟩ := Int.eq_ofNat_of_zero_le (show 0 ≤ M by omega)
  have d2 : (1 : Int) ≤ (N : Int) := by omega
  have d3 : (N : Int) ≤ 1023 := by omega
  have HN : Hid (1 ≤ N ∧ N ≤ 1023) := ⟨by omega, by omega⟩
  have HS : Hid (s.size ≤ 1048576) := c1'
  clear c2 h0 h1
  go_enter Try.func3, Try.ntmps3
  go_wp2_with fail
  refine (bytes5 s N _ c1').mono ?_
  rintro e w' ⟨rfl, hw'⟩
  obtain rfl := hw'.symm
  clear c1'
  go_wp2_with fail
  go_loop [5] (fun i => ∃ m : Nat, m ≤ s.size ∧ i = .int .i64 m ∧ Digs s m) (fun i => s.size - (intOf i).toNat)
  case atStart => exact ⟨0, Nat.zero_le _, rfl, fun j hj => by omega⟩
  case round =>
    obtain ⟨m, hm, rfl, hdg⟩ := hrel
    have HD : Hid (Digs s m) := hdg
    clear hdg
    by_cases hlt : m < s.size
    · have e1 : (m : Int) < (s.size : Int) := by omega
      have KD := show Hid _ from digit_any ((s[m]'hlt).toNat : Int)
      go_wp2_with fail
      refine Calls.mono (KD.out _) ?_
      rintro e w' ⟨rfl, hw'⟩
      obtain rfl := hw'.symm
      cases hu : isD ((s[m]'hlt).toNat : Int) with
      | true =>
        have HU : Hid (isD ((s[m]'hlt).toNat : Int) = true) := hu
        go_wp2_with fail
        go_round
        case rel => exact ⟨m + 1, by omega, by go_num, HD.out.next hlt (isD_true HU.out)⟩
        case measure => simp [intOf]; omega
      | false =>
        go_wp2_with fail
        go_ret
        exact ⟨rfl, rfl⟩
    · have em : m = s.size := by omega
      subst em
      clear hlt hm
      by_cases hz : s.size = 0
      · have KC := show Hid _ from zfrac_any s N w HS.out HD.out (.inl hz) HN.out.1 HN.out.2
        have e : fr s N = .tuple #[.int .i64 0, .bool true] := by unfold fr; rw [hz]; rfl
        rw [e] at KC
        clear e
        go_wp2_with fail
        refine Calls.mono KC.out ?_
        rintro e w' ⟨rfl, hw'⟩
        obtain rfl := hw'.symm
        go_wp2_with fail
        go_loop [8, 9, 10] (fun c b i => c = .int .i64 0 ∧ b = .bool true ∧ i = .int .i64 (-1)) (fun _ _ _ => 0)
        case atStart => exact ⟨rfl, rfl, rfl⟩
        case round =>
          obtain ⟨rfl, rfl, rfl⟩ := hrel
          go_wp2_with fail
          go_ret
          exact ⟨rfl, rfl⟩
      · obtain ⟨k, hk⟩ : ∃ k, s.size = k + 1 := ⟨s.size - 1, by omega⟩
        have hk0 : k < s.size := by omega
        by_cases hlast : (s[k]'hk0).toNat = 48
        · have e1 : (((s[k]'hk0).toNat : Int) == 48) = true := by rw [hlast]; rfl
          clear hlast
          go_wp2_with fail
          go_ret
          exact ⟨rfl, rfl⟩
        have e1 : (((s[k]'hk0).toNat : Int) == 48) = false := by rw [beq_eq_false_iff_ne]; omega
        have hdl : s.size = 0 ∨ dg s (s.size - 1) ≠ 0 := by
          right
          have h := HD.out k hk0
          unfold dg
          rw [show s.size - 1 = k from by omega]
          rw [byN_in s k hk0] at h ⊢
          omega
        have KC := show Hid _ from zfrac_any s N w HS.out HD.out hdl HN.out.1 HN.out.2
        unfold fr at KC
        rw [hk] at KC
        clear hlast hdl
        obtain ⟨a, ha⟩ : ∃ a, a = (if Wh s N (k + 1) = true then (Cy s N (k + 1) : Int) else 0) := ⟨_, rfl⟩
        obtain ⟨b, hb⟩ : ∃ b, b = Wh s N (k + 1) := ⟨_, rfl⟩
        rw [← ha, ← hb] at KC
        have HA : Hid (a = if Wh s N (k + 1) = true then (Cy s N (k + 1) : Int) else 0) := ha
        have HB : Hid (b = Wh s N (k + 1)) := hb
        clear ha hb
        go_wp2_with fail
        refine Calls.mono KC.out ?_
        rintro e w' ⟨rfl, hw'⟩
        obtain rfl := hw'.symm
        clear KC
        go_wp2_with fail
        go_loop [8, 9, 10] (fun c b i => ∃ m : Nat, m ≤ k + 1 ∧ i = .int .i64 ((m : Int) - 1) ∧ c = .int .i64 (Cy s N (k + 1 - m) : Int) ∧ b = .bool (Wh s N (k + 1 - m))) (fun _ _ i => (intOf i + 1).toNat)
        case atStart => exact ⟨k + 1, Nat.le_refl _, by congr 1; omega, by rw [Nat.sub_self]; rfl, by rw [Nat.sub_self]; rfl⟩
        case round =>
          obtain ⟨m, hm, rfl, rfl, rfl⟩ := hrel
          cases m with
          | zero =>
            clear hm
            rw [Nat.sub_zero, ← HB.out]
            obtain ⟨c, hc⟩ : ∃ c, c = Cy s N (k + 1) := ⟨_, rfl⟩
            have hac : a = if b = true then (c : Int) else 0 := by rw [hc, HB.out]; exact HA.out
            rw [← hc]
            clear hc HA HB
            cases b with
            | true =>
              have hac' : a = (c : Int) := hac
              subst hac'
              clear hac
              go_wp2_with fail
              go_ret
              exact ⟨by simp, rfl⟩
            | false =>
              have hac' : a = 0 := hac
              subst hac'
              clear hac
              go_wp2_with fail
              go_ret
              exact ⟨by simp, rfl⟩
          | succ m =>
            rw [show (((m + 1 : Nat) : Int) - 1) = (m : Int) from by omega]
            have hmk : m < s.size := by omega
            have hb := HD.out m hmk
            rw [byN_in s m hmk] at hb
            obtain ⟨hb1, hb2⟩ := hb
            obtain ⟨y, hy⟩ : ∃ y, y = Cy s N (k + 1 - (m + 1)) := ⟨_, rfl⟩
            obtain ⟨v, hv⟩ : ∃ v, v = Wh s N (k + 1 - (m + 1)) := ⟨_, rfl⟩
            rw [← hy, ← hv]
            have hyl : y ≤ N := by rw [hy]; exact Cy_le HD.out N _
            obtain ⟨x, hx⟩ : ∃ x, x = ((s[m]'hmk).toNat - 48) * N := ⟨_, rfl⟩
            have hxl : x ≤ 9207 := by rw [hx]; exact Nat.mul_le_mul (show (s[m]'hmk).toNat - 48 ≤ 9 by omega) HN.out.2
            have ex : (((s[m]'hmk).toNat : Int) - 48) * (N : Int) = (x : Int) := by
              rw [hx, show (((s[m]'hmk).toNat : Int) - 48) = (((s[m]'hmk).toNat - 48 : Nat) : Int) from by omega]; simp
            have ed : dg s (s.size - 1 - (k + 1 - (m + 1))) = (s[m]'hmk).toNat - 48 := by
              rw [show s.size - 1 - (k + 1 - (m + 1)) = m from by omega]; unfold dg; rw [byN_in s m hmk]
            have HC : Hid (Cy s N (k + 1 - m) = (x + y) / 10) := by
              show _ = _
              rw [show k + 1 - m = (k + 1 - (m + 1)) + 1 from by omega, hx, hy, ← ed]; rfl
            have HW : Hid (Wh s N (k + 1 - m) = (v && (x + y) % 10 == 0)) := by
              show _ = _
              rw [show k + 1 - m = (k + 1 - (m + 1)) + 1 from by omega, hx, hy, hv, ← ed]; rfl
            have i1 : (48 : Int) ≤ ((s[m]'hmk).toNat : Int) := by omega
            have i2 : ((s[m]'hmk).toNat : Int) ≤ 57 := by omega
            have i3 : (x : Int) ≤ 9207 := by omega
            have i4 : (y : Int) ≤ 1023 := by omega
            have i5 : (m : Int) < (k : Int) + 1 := by omega
            clear hx hy hv ed hyl hxl hb1 hb2
            go_wp2_with fail
            · have hq : (((x : Int) + (y : Int)) % 10 != 0) = true := by assumption
              rw [bne_iff_ne] at hq
              refine ⟨⟨m, by omega, rfl, by rw [HC.out]; rfl, ?_⟩, by simp [intOf]⟩
              rw [HW.out, show ((x + y) % 10 == 0) = false from by rw [beq_eq_false_iff_ne]; omega, Bool.and_false]
            · have hq : (((x : Int) + (y : Int)) % 10 != 0) = false := by assumption
              rw [bne_eq_false_iff_eq] at hq
              refine ⟨⟨m, by omega, rfl, by rw [HC.out]; rfl, ?_⟩, by simp [intOf]⟩
              rw [HW.out, show ((x + y) % 10 == 0) = true from by rw [beq_iff_eq]; omega, Bool.and_true]
end Go.Proofs.Qxb6617196a
