/-
  THE WALK OF FnLeadingDigitsIsLongestDigitPrefixAndJoins (4), out of the contracts of its callees.
-/
import Derived.Test.Qxb6617196aLead
namespace Go.Proofs.Qxb6617196a
open Go.RowKit

theorem Grown.drewN' {w V : World} (h : Grown w V) (q : Nat) : Grown w (V.drewN q) := by
  induction q generalizing V with
  | zero => exact h
  | succ q ih => exact ih h.drew

set_option maxHeartbeats 1000000 in
theorem walk4 (a b : ByteArray) (w : World) (ha : a.size ≤ maxLen) (hb : b.size ≤ maxLen) :
    Calls Try.prog 4 #[.string a, .string b] w fun e w' => e = .returned (.bool true) ∧ Grown w w' := by
  unfold maxLen at ha hb
  by_cases c1 : 1048576 < a.size + b.size
  · go_enter Try.func4, Try.ntmps4
    go_wp2_with fail
    refine (bytes8_no a b _ ha hb c1).mono ?_
    rintro e w' ⟨rfl, hw'⟩
    obtain rfl := hw'.symm
    go_wp2
    go_ret
    exact ⟨rfl, Grown.refl _⟩
  have c1' : a.size + b.size ≤ 1048576 := by omega
  clear c1 ha hb
  by_cases c2 : (65536 : Int) < (a.size : Int) ∨ (65536 : Int) < (b.size : Int)
  · have d2 : (65536 : Int) < (a.size : Int) ∨ ((a.size : Int) ≤ 65536 ∧ (65536 : Int) < (b.size : Int)) := by omega
    clear c2
    rcases d2 with d2 | ⟨d2, d3⟩
    · go_enter Try.func4, Try.ntmps4
      go_wp2_with fail
      refine (bytes8 a b _ c1').mono ?_
      rintro e w' ⟨rfl, hw'⟩
      obtain rfl := hw'.symm
      go_wp2
      go_ret
      exact ⟨by simp, Grown.refl _⟩
    · go_enter Try.func4, Try.ntmps4
      go_wp2_with fail
      refine (bytes8 a b _ c1').mono ?_
      rintro e w' ⟨rfl, hw'⟩
      obtain rfl := hw'.symm
      go_wp2
      go_ret
      exact ⟨by simp, Grown.refl _⟩
  have d1 : (a.size : Int) ≤ 65536 := by omega
  have d2 : (b.size : Int) ≤ 65536 := by omega
  have HSZ : Hid (a.size + b.size ≤ 1048576) := c1'
  clear c2
  go_enter Try.func4, Try.ntmps4
  go_wp2_with fail
  refine (bytes8 a b _ c1').mono ?_
  rintro e w' ⟨rfl, hw'⟩
  obtain rfl := hw'.symm
  clear c1'
  go_wp2_with fail
  refine (zlead_any a _ (by have := HSZ.out; omega)).mono ?_
  rintro e V1 ⟨⟨k, hk, rfl⟩, q1, hq1⟩
  have G1 : Hid (Grown w V1) := by rw [hq1]; exact Grown.drewN' (Grown.refl _) q1
  obtain ⟨u1, hu1⟩ : ∃ u1, u1 = a.extract 0 k := ⟨_, rfl⟩
  obtain ⟨v1, hv1⟩ : ∃ v1, v1 = a.extract k a.size := ⟨_, rfl⟩
  have hj : u1 ++ v1 = a := by rw [hu1, hv1]; exact split_join a k hk.le
  have su : u1.size = k := by rw [hu1, ByteArray.size_extract]; have := hk.le; omega
  have sv : v1.size = a.size - k := by rw [hv1, ByteArray.size_extract]; omega
  have HK : Hid (Led a k) := hk
  have HU : Hid (u1 = a.extract 0 k) := hu1
  have HV : Hid (v1 = a.extract k a.size) := hv1
  have HSU : Hid (u1.size = k) := su
  have HSV : Hid (v1.size = a.size - k) := sv
  have HJ : Hid (u1 ++ v1 = a) := hj
  have b1 : (u1.size : Int) ≤ 65536 := by have := hk.le; omega
  have b2 : (v1.size : Int) ≤ 65536 := by omega
  rw [← hu1, ← hv1]
  clear hq1 hk hu1 hv1 su sv
  go_wp2_with fail
  clear hj
  have HDU : Hid (∀ i (h : i < u1.size), isD ((u1[i]'h).toNat : Int) = true) := fun i h => by
    have h1 := HK.out.dig i (by rw [← HSU.out]; exact h)
    have h2 : byN a i = (u1[i]'h).toNat := by rw [← HJ.out, byN_left u1 v1 i h, byN_in u1 i h]
    rw [h2] at h1
    unfold isD; simp; omega
  have HDV : Hid (∀ h : 0 < v1.size, isD ((v1[0]'h).toNat : Int) = false) := fun h => by
    have h3 := HSV.out
    rcases HK.out.stop with h1 | h1
    · omega
    · have h2 : byN a k = (v1[0]'h).toNat := by
        rw [← HJ.out, ← HSU.out]
        have := byN_right u1 v1 0
        rw [Nat.add_zero] at this
        rw [this, byN_in v1 0 h]
      rw [h2] at h1
      unfold isD; simp; omega
  go_loop [7] (fun i => ∃ m : Nat, m ≤ u1.size ∧ i = .int .i64 m) (fun i => u1.size - (intOf i).toNat)
  case atStart => exact ⟨0, Nat.zero_le _, rfl⟩
  case round =>
    obtain ⟨m, hm, rfl⟩ := hrel
    by_cases hlt : m < u1.size
    · have e1 : (m : Int) < (u1.size : Int) := by omega
      have KD := show Hid _ from digit_any ((u1[m]'hlt).toNat : Int)
      rw [HDU.out m hlt] at KD
      go_wp2_with fail
      refine Calls.mono (KD.out _) ?_
      rintro e w' ⟨rfl, hw'⟩
      obtain rfl := hw'.symm
      go_wp2_with fail
      go_round
      case rel => exact ⟨m + 1, by omega, by go_num⟩
      case measure => simp [intOf]; omega
    · have em : m = u1.size := by omega
      subst em
      clear hlt hm
      by_cases hv : 0 < v1.size
      · have e1 : (0 : Int) < (v1.size : Int) := by omega
        have KD := show Hid _ from digit_any ((v1[0]'hv).toNat : Int)
        rw [HDV.out hv] at KD
        go_wp2_with fail
        refine Calls.mono (KD.out _) ?_
        rintro e w' ⟨rfl, hw'⟩
        obtain rfl := hw'.symm
        clear KD
        go_wp2_with fail
        refine (zlead_any b _ (by have := HSZ.out; omega)).mono ?_
        rintro e V2 ⟨⟨k2, hk2, rfl⟩, q2, hq2⟩
        have G2 : Hid (Grown w V2) := by rw [hq2]; exact Grown.drewN' G1.out q2
        obtain ⟨u2, hu2⟩ : ∃ u2, u2 = b.extract 0 k2 := ⟨_, rfl⟩
        obtain ⟨v2, hv2⟩ : ∃ v2, v2 = b.extract k2 b.size := ⟨_, rfl⟩
        rw [← hu2, ← hv2]
        clear hq2 hk2 hu2 hv2
        go_wp2_with fail
        refine (zlead_any (a ++ b) _ (by have := HSZ.out; simp; omega)).mono ?_
        rintro e V3 ⟨⟨k3, hk3, rfl⟩, q3, hq3⟩
        have G3 : Hid (Grown w V3) := by rw [hq3]; exact Grown.drewN' G2.out q3
        have ek : k3 = k := hk3.only (HK.out.stops b (by have := HSV.out; omega))
        subst ek
        have ex := ext_stops a b k3 HK.out.le
        rw [ex.1, ex.2, ← HU.out, ← HV.out]
        clear hq3 hk3 ex
        go_wp2_with fail
        go_ret
        exact ⟨by simp, G3.out⟩
      · have e0 : v1.size = 0 := by omega
        have e1 : (v1.size : Int) = 0 := by omega
        have ea : u1 = a := by
          have h := HJ.out
          have : v1 = ByteArray.empty := by
            refine ByteArray.ext_getElem (by rw [e0]; rfl) (fun i h _ => ?_)
            omega
          rw [this] at h
          simpa using h
        have HDA : Hid (Digs a a.size) := by
          have h := HK.out.dig
          have h2 := HSU.out
          rw [ea] at h2
          rw [← h2] at h
          exact h
        clear ea hv
        go_wp2_with fail
        refine (zlead_any b _ (by have := HSZ.out; omega)).mono ?_
        rintro e V2 ⟨⟨k2, hk2, rfl⟩, q2, hq2⟩
        have G2 : Hid (Grown w V2) := by rw [hq2]; exact Grown.drewN' G1.out q2
        have HK2 : Hid (Led b k2) := hk2
        obtain ⟨u2, hu2⟩ : ∃ u2, u2 = b.extract 0 k2 := ⟨_, rfl⟩
        obtain ⟨v2, hv2⟩ : ∃ v2, v2 = b.extract k2 b.size := ⟨_, rfl⟩
        have HU2 : Hid (u2 = b.extract 0 k2) := hu2
        have HV2 : Hid (v2 = b.extract k2 b.size) := hv2
        have b3 : u2.size ≤ b.size := by rw [hu2, ByteArray.size_extract]; omega
        have b4 : (u2.size : Int) ≤ 65536 := by omega
        rw [← hu2, ← hv2]
        clear hq2 hk2 hu2 hv2
        go_wp2_with fail
        refine (zlead_any (a ++ b) _ (by have := HSZ.out; simp; omega)).mono ?_
        rintro e V3 ⟨⟨k3, hk3, rfl⟩, q3, hq3⟩
        have G3 : Hid (Grown w V3) := by rw [hq3]; exact Grown.drewN' G2.out q3
        have ek : k3 = a.size + k2 := hk3.only (Led.goes HDA.out HK2.out)
        subst ek
        have ex := ext_goes a b k2
        rw [ex.1, ex.2, ← HU2.out, ← HV2.out]
        clear hq3 hk3 ex
        go_wp2_with fail
        go_ret
        exact ⟨by simp, G3.out⟩
end Go.Proofs.Qxb6617196a
