/-
  THE WALKS OF isDecimalDigit (6), zzBytes (5), fractionOf (10), ZZfractionOf (7).
-/
import Derived.Test.Qxb6617196aRows
import Derived.Test.Qxb6617196aPlain
import Derived.WalkKit
namespace Go.Proofs.Qxb6617196a
open Go.RowKit

def isD (c : Int) : Bool := decide (48 ≤ c) && decide (c ≤ 57)
theorem isD_true {c : Int} (h : isD c = true) : 48 ≤ c ∧ c ≤ 57 := by unfold isD at h; simpa using h
theorem isD_false {c : Int} (h : isD c = false) : ¬ (48 ≤ c ∧ c ≤ 57) := by unfold isD at h; simp at h; omega

set_option maxHeartbeats 400000 in
theorem digit_any (c : Int) (w : World) :
    Calls Try.prog 6 #[.int .u8 c] w fun e w' => e = .returned (.bool (isD c)) ∧ w' = w := by
  by_cases h2 : 48 ≤ c
  · by_cases h3 : c ≤ 57
    · have e : isD c = true := by unfold isD; simp; omega
      rw [e]
      clear e
      go_enter Try.func6, Try.ntmps6
      go_wp2
      go_ret
      exact ⟨by simp, rfl⟩
    · have e : isD c = false := by unfold isD; simp; omega
      rw [e]
      clear e
      go_enter Try.func6, Try.ntmps6
      go_wp2
      go_ret
      exact ⟨by simp, rfl⟩
  · have e : isD c = false := by unfold isD; simp; omega
    rw [e]
    clear e
    have hd : decide (48 ≤ c) = false := by simpa using h2
    go_enter Try.func6, Try.ntmps6
    go_wp2
    go_ret
    exact ⟨rfl, rfl⟩

set_option maxHeartbeats 400000 in
theorem bytes5 (s : ByteArray) (m : Int) (w : World) (h : s.size ≤ 1048576) :
    Calls Try.prog 5 #[.string s, .int .i64 m] w fun e w' => e = .returned (.bool true) ∧ w' = w := by
  go_enter Try.func5, Try.ntmps5
  go_wp2
  go_ret
  exact ⟨rfl, rfl⟩
set_option maxHeartbeats 400000 in
theorem bytes5_no (s : ByteArray) (m : Int) (w : World) (h1 : s.size ≤ 9223372036854775807) (h : 1048576 < s.size) :
    Calls Try.prog 5 #[.string s, .int .i64 m] w fun e w' => e = .returned (.bool false) ∧ w' = w := by
  go_enter Try.func5, Try.ntmps5
  go_wp2
  go_ret
  exact ⟨rfl, rfl⟩

theorem w64 (n : Nat) (h : n ≤ 1023000000000) : wrap64 (n : Int) = (n : Int) := IntWalk.wrap64_in _ (by omega)

/-- fractionOf's answer. -/
def fr (s : ByteArray) (M : Nat) : Value := .tuple #[.int .i64 (if Wh s M s.size = true then (Cy s M s.size : Int) else 0), .bool (Wh s M s.size)]

set_option maxHeartbeats 400000 in
theorem frac_any (s : ByteArray) (M : Nat) (w : World) (hs : s.size ≤ 1048576) (hd : Digs s s.size) (hl : s.size = 0 ∨ dg s (s.size - 1) ≠ 0) (h0 : 1 ≤ M) (h1 : M ≤ 1023) :
    Calls Try.prog 10 #[.string s, .int .i64 (M : Int)] w fun e w' => e = .returned (fr s M) ∧ w' = w := by
  by_cases hz : s.size = 0
  · have e : fr s M = .tuple #[.int .i64 0, .bool true] := by unfold fr; rw [hz]; rfl
    rw [e]
    clear e
    obtain rfl : s = ByteArray.empty := by
      refine ByteArray.ext_getElem (by rw [hz]; rfl) (fun i h _ => ?_)
      omega
    clear hd hl hs hz
    go_enter Try.func10, Try.ntmps10
    go_wp2_with fail
    go_ret2
    exact ⟨rfl, rfl⟩
  have hne : s.toList.isEmpty = false := by
    cases h : s.toList.isEmpty with
    | false => rfl
    | true =>
      rw [← decide_eq_emptyBytes, decide_eq_true_eq] at h
      exact absurd (by rw [h]; rfl) hz
  by_cases h9 : 9 < s.size
  · have e : fr s M = .tuple #[.int .i64 0, .bool false] := by
      unfold fr
      rw [never hd (by omega) (by omega) M h0 h1]; rfl
    rw [e]
    clear e hd hl
    go_enter Try.func10, Try.ntmps10
    go_wp2_with fail
    go_ret2
    exact ⟨rfl, rfl⟩
  have h9' : s.size ≤ 9 := by omega
  have HD : Hid (Digs s s.size) := hd
  clear hl h9 hd
  go_enter Try.func10, Try.ntmps10
  go_wp2_with fail
  go_loop [6, 7, 8] (fun a d i => ∃ m : Nat, m ≤ s.size ∧ i = .int .i64 m ∧ a = .int .i64 (Vs s m : Int) ∧ d = .int .i64 ((10 ^ m : Nat) : Int)) (fun _ _ i => s.size - (intOf i).toNat)
  case atStart => exact ⟨0, Nat.zero_le _, rfl, rfl, rfl⟩
  case round =>
    obtain ⟨m, hm, rfl, rfl, rfl⟩ := hrel
    have hv := Vs_lt HD.out m
    have hp : 10 ^ m ≤ 1000000000 := Nat.le_trans (Nat.pow_le_pow_right (by omega) (show m ≤ 9 by omega)) (by decide)
    by_cases hlt : m < s.size
    · have hp8 : 10 ^ m ≤ 100000000 := Nat.le_trans (Nat.pow_le_pow_right (by omega) (show m ≤ 8 by omega)) (by decide)
      obtain ⟨v, hv2⟩ : ∃ v, v = Vs s m := ⟨_, rfl⟩
      obtain ⟨d, hd2⟩ : ∃ d, d = 10 ^ m := ⟨_, rfl⟩
      rw [← hv2, ← hd2]
      rw [← hv2, ← hd2] at hv
      rw [← hd2] at hp8 hp
      have hb := HD.out m hlt
      rw [byN_in s m hlt] at hb
      have HV : Hid (Vs s (m + 1) = v * 10 + ((s[m]'hlt).toNat - 48)) := by
        show Vs s m * 10 + dg s m = _
        rw [← hv2]; unfold dg; rw [byN_in s m hlt]
      have HP : Hid (10 ^ (m + 1) = d * 10) := by show _ = _; rw [Nat.pow_succ, ← hd2]
      clear hv2 hd2
      obtain ⟨hb1, hb2⟩ := hb
      have e1 : (m : Int) < (s.size : Int) := by omega
      have i1 : (48 : Int) ≤ ((s[m]'hlt).toNat : Int) := by omega
      have i2 : ((s[m]'hlt).toNat : Int) ≤ 57 := by omega
      have i3 : (d : Int) ≤ 100000000 := by omega
      have i4 : (v : Int) < (d : Int) := by omega
      go_wp2_with fail
      refine ⟨⟨m + 1, by omega, rfl, ?_, ?_⟩, by simp [intOf]; omega⟩
      · rw [HV.out]; congr 1; omega
      · rw [HP.out]; rfl
    · have em : m = s.size := by omega
      subst em
      clear hlt hm
      obtain ⟨v, hv2⟩ : ∃ v, v = Vs s s.size := ⟨_, rfl⟩
      obtain ⟨d, hd2⟩ : ∃ d, d = 10 ^ s.size := ⟨_, rfl⟩
      have hmt := meet s M
      rw [← hv2, ← hd2]
      rw [← hv2, ← hd2] at hv hmt
      rw [← hd2] at hp
      clear hv2 hd2
      obtain ⟨x, hx⟩ : ∃ x, x = v * M := ⟨_, rfl⟩
      rw [← hx] at hmt
      have hxl : x ≤ 1023000000000 := by rw [hx]; exact Nat.mul_le_mul (show v ≤ 1000000000 by omega) h1
      have e1 : wrap64 ((v : Int) * (M : Int)) = (x : Int) := by
        rw [show (v : Int) * (M : Int) = (x : Int) from by rw [hx]; simp]
        exact w64 _ hxl
      have e2 : ¬ ((d : Int) = 0) := by omega
      have e3 : (x : Int).tmod (d : Int) = ((x % d : Nat) : Int) := (Int.ofNat_tmod x d).symm
      have e4 : wrap64 ((x : Int).tdiv (d : Int)) = ((x / d : Nat) : Int) := by
        rw [show (x : Int).tdiv (d : Int) = ((x / d : Nat) : Int) from (Int.ofNat_tdiv x d).symm]
        exact w64 _ (Nat.le_trans (Nat.div_le_self _ _) hxl)
      have e6 : wrap64 ((x : Int) / (d : Int)) = ((x / d : Nat) : Int) := by
        rw [show (x : Int) / (d : Int) = ((x / d : Nat) : Int) from by simp]
        exact w64 _ (Nat.le_trans (Nat.div_le_self _ _) hxl)
      clear hx
      obtain ⟨r, hr⟩ : ∃ r, r = x % d := ⟨_, rfl⟩
      obtain ⟨q, hq⟩ : ∃ q, q = x / d := ⟨_, rfl⟩
      rw [← hr] at e3 hmt
      rw [← hq] at e4 e6 hmt
      clear hr hq
      have HMT : Hid (Cy s M s.size = q ∧ (Wh s M s.size = true ↔ r = 0)) := hmt
      clear hmt
      by_cases hr0 : r = 0
      · subst hr0
        have E : Hid (fr s M = .tuple #[.int .i64 (q : Int), .bool true]) := by
          show fr s M = _
          unfold fr
          rw [HMT.out.2.2 rfl, HMT.out.1]; rfl
        clear HMT
        go_wp2_with fail
        go_ret2
        exact ⟨by rw [E.out]; rfl, rfl⟩
      · have E : Hid (fr s M = .tuple #[.int .i64 0, .bool false]) := by
          show fr s M = _
          unfold fr
          have : Wh s M s.size = false := by
            cases h : Wh s M s.size with
            | false => rfl
            | true => exact absurd (HMT.out.2.1 h) hr0
          rw [this]; rfl
        have e5 : ((r : Int) != 0) = true := by rw [bne_iff_ne]; omega
        clear HMT hr0
        go_wp2_with fail
        go_ret2
        exact ⟨by rw [E.out]; rfl, rfl⟩

set_option maxHeartbeats 400000 in
theorem zfrac_any (s : ByteArray) (M : Nat) (w : World) (hs : s.size ≤ 1048576) (hd : Digs s s.size) (hl : s.size = 0 ∨ dg s (s.size - 1) ≠ 0) (h0 : 1 ≤ M) (h1 : M ≤ 1023) :
    Calls Try.prog 7 #[.string s, .int .i64 (M : Int)] w fun e w' => e = .returned (fr s M) ∧ w' = w := by
  have HC := show Hid _ from frac_any s M w hs hd hl h0 h1
  clear hd hl
  obtain ⟨a, ha⟩ : ∃ a, a = (if Wh s M s.size = true then (Cy s M s.size : Int) else 0) := ⟨_, rfl⟩
  obtain ⟨b, hb⟩ : ∃ b, b = Wh s M s.size := ⟨_, rfl⟩
  have e : fr s M = .tuple #[.int .i64 a, .bool b] := by unfold fr; rw [← ha, ← hb]
  rw [e] at HC ⊢
  clear e ha hb
  go_enter Try.func7, Try.ntmps7
  go_wp2_with fail
  refine Calls.mono HC.out ?_
  rintro e w' ⟨rfl, hw'⟩
  obtain rfl := hw'.symm
  go_wp2_with fail
  go_ret2
  exact ⟨rfl, rfl⟩
end Go.Proofs.Qxb6617196a
