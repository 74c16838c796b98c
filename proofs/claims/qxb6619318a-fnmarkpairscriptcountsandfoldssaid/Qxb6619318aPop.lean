/-
  pfb1Popcount (24): 'w &= w - 1' takes one bit off; the sum over the words is the table's count.
-/
import Derived.Test.Qxb6619318aBits2
import Derived.Test.Qxb6619318aTable
import Derived.Deep.LoopGhost
namespace Go.Proofs.Qxb6619318a
open Go.RowKit

/-- The set bits among the lowest f. -/
def bc (n : Nat) : Nat → Nat
  | 0 => 0
  | j + 1 => bc n j + (n.testBit j).toNat

theorem bc_half (n : Nat) : ∀ f, bc n (f + 1) = n % 2 + bc (n / 2) f
  | 0 => by
    have h : (n.testBit 0).toNat = n % 2 := by
      rw [Nat.testBit_zero]
      rcases Nat.mod_two_eq_zero_or_one n with h | h <;> simp [h]
    simp only [bc, h]
    omega
  | f + 1 => by
    have ih := bc_half n f
    have h : n.testBit (f + 1) = (n / 2).testBit f := Nat.testBit_succ n f
    show bc n (f + 1) + (n.testBit (f + 1)).toNat = n % 2 + (bc (n / 2) f + ((n / 2).testBit f).toNat)
    rw [ih, h]
    omega

theorem bc_zero : ∀ f, bc 0 f = 0
  | 0 => rfl
  | f + 1 => by simp [bc, bc_zero f]

/-- 'n & (n - 1)' has one bit less. -/
theorem bc_less : ∀ (f n : Nat), n + 1 < 2 ^ f → bc ((n + 1) &&& n) f + 1 = bc (n + 1) f
  | 0, n, h => by simp at h
  | f + 1, n, h => by
    rw [bc_half, bc_half, Nat.and_div_two]
    have hp : 2 ^ (f + 1) = 2 * 2 ^ f := by rw [Nat.pow_succ, Nat.mul_comm]
    rcases Nat.mod_two_eq_zero_or_one n with h0 | h0
    · have e1 : (n + 1) % 2 = 1 := by omega
      have e2 : (n + 1) / 2 = n / 2 := by omega
      have e3 : ((n + 1) &&& n) % 2 = 0 := by
        have := @Nat.and_mod_two_eq_one (n + 1) n
        omega
      rw [e1, e2, e3, Nat.and_self]
      omega
    · have e1 : (n + 1) % 2 = 0 := by omega
      have e2 : (n + 1) / 2 = n / 2 + 1 := by omega
      have e3 : ((n + 1) &&& n) % 2 = 0 := by
        have := @Nat.and_mod_two_eq_one (n + 1) n
        omega
      have ih := bc_less f (n / 2) (by rw [hp] at h; generalize 2 ^ f = q at *; omega)
      rw [e1, e2, e3]
      omega

theorem cnt_word (zs : List Int) (K : Nat) : ∀ j, j ≤ 64 → cntTo zs (64 * K + j) = cntTo zs (64 * K) + bc (zs.getD K 0).toNat j
  | 0, _ => rfl
  | j + 1, h => by
    have ih := cnt_word zs K j (by omega)
    have e : tb zs (64 * K + j) = (zs.getD K 0).toNat.testBit j := by
      unfold tb
      rw [show (64 * K + j) / 64 = K from by omega, show (64 * K + j) % 64 = j from by omega]
    show cntTo zs (64 * K + j) + (tb zs (64 * K + j)).toNat = cntTo zs (64 * K) + (bc (zs.getD K 0).toNat j + ((zs.getD K 0).toNat.testBit j).toNat)
    rw [ih, e]
    omega
theorem cnt_next (zs : List Int) (K : Nat) : cntTo zs (64 * (K + 1)) = cntTo zs (64 * K) + bc (zs.getD K 0).toNat 64 := cnt_word zs K 64 (Nat.le_refl _)

set_option maxRecDepth 100000 in
set_option maxHeartbeats 400000 in
theorem pop_any (b : Nat) (zs : List Int) (w : World) (hT : Tab w b 0 zs) :
    Calls Try.prog 24 #[.pointer (some ⟨b, 0, none⟩)] w fun e w' => e = .returned (.int .i64 (cntTo zs 65536 : Int)) ∧ w' = w := by
  have HT : Hid (Tab w b 0 zs) := hT
  clear hT
  go_enter Try.func24, Try.ntmps24
  go_wp2_with fail
  go_loop [3, 4] (fun a k => ∃ m : Nat, m ≤ 1024 ∧ k = .int .i64 m ∧ a = .int .i64 (cntTo zs (64 * m) : Int)) (fun _ k => 1024 - (intOf k).toNat)
  case atStart => exact ⟨0, Nat.zero_le _, rfl, rfl⟩
  case round =>
    obtain ⟨m, hm, rfl, rfl⟩ := hrel
    obtain ⟨c, hc⟩ : ∃ c, c = cntTo zs (64 * m) := ⟨_, rfl⟩
    have hcl : (c : Int) ≤ 65536 := by rw [hc]; have := cntTo_le zs (64 * m); omega
    rw [← hc]
    have HC : Hid (c = cntTo zs (64 * m)) := hc
    clear hc
    by_cases hlt : m < 1024
    · have e1 : (m : Int) < 1024 := by omega
      obtain ⟨z, hz⟩ : ∃ z, z = zs.getD m 0 := ⟨_, rfl⟩
      have hcell := HT.out.2 m hlt
      have hb := HT.out.1 m
      rw [← hz] at hcell hb
      rw [Nat.zero_add] at hcell
      obtain ⟨v, rfl⟩ := Int.eq_ofNat_of_zero_le hb.1
      have hv : (v : Int) ≤ 18446744073709551615 := hb.2
      have HX : Hid (cntTo zs (64 * (m + 1)) = c + bc v 64) := by
        show _ = _
        rw [cnt_next, ← HC.out, ← hz, Int.toNat_natCast]
      clear hz hb
      obtain ⟨N, hN⟩ : ∃ N, N = cntTo zs (64 * (m + 1)) := ⟨_, rfl⟩
      rw [← hN] at HX
      have hNl : (N : Int) ≤ 65536 := by rw [hN]; have := cntTo_le zs (64 * (m + 1)); omega
      have HN : Hid (N = cntTo zs (64 * (m + 1))) := hN
      clear hN
      go_wp2_with fail
      go_loop [3, 5] (fun a x => ∃ d u : Nat, (u : Int) ≤ 18446744073709551615 ∧ x = .int .u64 u ∧ a = .int .i64 d ∧ N = d + bc u 64) (fun _ x => (intOf x).toNat)
      case atStart => exact ⟨c, v, hv, rfl, rfl, HX.out⟩
      case round =>
        obtain ⟨d, u, hu, rfl, rfl, hd⟩ := hrel
        have HD : Hid (N = d + bc u 64) := hd
        have hdl : (d : Int) ≤ 65536 := by omega
        clear hd
        by_cases h0 : u = 0
        · subst h0
          go_wp2_with fail
          go_round
          case rel => exact ⟨m + 1, by omega, by go_num, by rw [← HN.out, HD.out, bc_zero]; rfl⟩
          case measure => simp [intOf]; omega
        · have hand : bits .and .u64 (u : Int) ((u : Int) - 1) = (((u - 1 + 1) &&& (u - 1) : Nat) : Int) := by
            rw [show ((u : Int) - 1) = ((u - 1 : Nat) : Int) from by omega, show u - 1 + 1 = u from by omega]
            exact u64_and_nat _ _ (by omega) (by omega)
          have hle : ((u - 1 + 1) &&& (u - 1)) ≤ u - 1 := Nat.and_le_right
          have HBC : Hid (bc ((u - 1 + 1) &&& (u - 1)) 64 + 1 = bc (u - 1 + 1) 64) := bc_less 64 (u - 1) (by simp; omega)
          obtain ⟨y, hy⟩ : ∃ y, y = (u - 1 + 1) &&& (u - 1) := ⟨_, rfl⟩
          rw [← hy, show u - 1 + 1 = u from by omega] at HBC
          rw [← hy] at hand hle
          clear hy
          have HLE : Hid (y < u) := by show _ < _; omega
          have hne : ((u : Int) != 0) = true := by rw [bne_iff_ne]; omega
          have hsub : IntKind.u64.wrap ((u : Int) - 1) = (u : Int) - 1 := IntWalk.u64_in _ (by omega)
          have HU : Hid ((u : Int) ≤ 18446744073709551615) := hu
          have HV : Hid ((v : Int) ≤ 18446744073709551615) := hv
          clear hu hv hle h0
          go_wp2_with fail
          have h1 := HLE.out
          have h2 := HU.out
          have h3 := HD.out
          have h4 := HBC.out
          exact ⟨⟨d + 1, y, by omega, rfl, rfl, by omega⟩, by simp [intOf]; omega⟩
    · have em : m = 1024 := by omega
      subst em
      go_wp2_with fail
      go_ret
      have h : cntTo zs 65536 = c := by rw [HC.out]
      exact ⟨by rw [h]; rfl, rfl⟩
end Go.Proofs.Qxb6619318a
