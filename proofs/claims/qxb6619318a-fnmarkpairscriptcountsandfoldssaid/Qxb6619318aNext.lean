/-
  THE WALKS OF pfb1Bit (21), nextPair (30), ZZNextPair (26).
-/
import Derived.Test.Qxb6619318aRows
import Derived.Test.Qxb6619318aPlain
import Derived.WalkKit
import Derived.Deep.QuietTactic
import Derived.BigQuiet
namespace Go.Proofs.Qxb6619318a
open Go.RowKit

set_option maxHeartbeats 400000 in
theorem bit_core (b : Nat) (k : Int) (z : Int) (w : World) (h0 : 0 ≤ k) (h1 : k ≤ 65535) (hz0 : 0 ≤ z) (hz1 : z ≤ 18446744073709551615) (hc : w.cell? ⟨b, (k / 64).toNat, none⟩ = some (.int .u64 z)) :
    Calls Try.prog 21 #[.pointer (some ⟨b, 0, none⟩), .int .i64 k] w fun e w' => e = .returned (.bool (z.toNat.testBit (k % 64).toNat)) ∧ w' = w := by
  have hm := and63 k h0 h1
  have HB : Hid ((bits BinOp.and IntKind.u64 (z / 2 ^ (k % 64).toNat) 1 == 1) = z.toNat.testBit (k % 64).toNat) := bit_shr z _ hz0 hz1
  go_enter Try.func21, Try.ntmps21
  go_wp2
  go_ret
  exact ⟨by rw [← HB.out]; rfl, rfl⟩

/-- The table lies in block b from offset o on. -/
def Tab (w : World) (b o : Nat) (zs : List Int) : Prop :=
  (∀ j : Nat, 0 ≤ zs.getD j 0 ∧ zs.getD j 0 ≤ 18446744073709551615) ∧ ∀ j : Nat, j < 1024 → w.cell? ⟨b, o + j, none⟩ = some (.int .u64 (zs.getD j 0))

theorem Tab.drewN {w : World} {b o : Nat} {zs : List Int} (h : Tab w b o zs) (n : Nat) : Tab (w.drewN n) b o zs := ⟨h.1, fun j hj => by simpa using h.2 j hj⟩

theorem bit_any (b : Nat) (k : Int) (zs : List Int) (w : World) (h0 : 0 ≤ k) (h1 : k ≤ 65535) (hT : Tab w b 0 zs) :
    Calls Try.prog 21 #[.pointer (some ⟨b, 0, none⟩), .int .i64 k] w fun e w' => e = .returned (.bool (tb zs k.toNat)) ∧ w' = w := by
  have hz := hT.1 (k / 64).toNat
  have hc := hT.2 (k / 64).toNat (by omega)
  rw [Nat.zero_add] at hc
  have e : tb zs k.toNat = (zs.getD (k / 64).toNat 0).toNat.testBit (k % 64).toNat := by
    unfold tb
    rw [show k.toNat / 64 = (k / 64).toNat from by omega, show k.toNat % 64 = (k % 64).toNat from by omega]
  rw [e]
  exact bit_core b k _ w h0 h1 hz.1 hz.2 hc

set_option maxHeartbeats 400000 in
theorem next_any (g : Nat) (s : ByteArray) (f : Nat) (zs : List Int) (w : World) (hs : s.size ≤ 1000000000) (hf0 : 1 ≤ f) (hf1 : f ≤ 9223372036854775807) (hT : Tab w g 6 zs) :
    Calls Try.prog 30 #[.pointer (some ⟨g, 0, none⟩), .string s, .int .i64 f] w fun e w' => (∃ r, e = .returned (.int .i64 r) ∧ Nxt (fun k => tb zs (pr s k)) s.size f r) ∧ ∃ q, w' = w.drewN q := by
  go_enter Try.func30, Try.ntmps30
  go_wp2
  go_loopw [7] (fun i wr => ∃ j : Nat, i = .int .i64 ((f + 2 * j : Nat) : Int) ∧ (j = 0 ∨ f + 2 * j ≤ s.size + 1) ∧ (∀ i, i < j → tb zs (pr s (f + 2 * i)) = false) ∧ ∃ q, wr = w.drewN q) (fun i _ => s.size + 2 - (intOf i).toNat)
  case atStart => exact ⟨0, rfl, .inl rfl, fun i hi => by omega, 0, rfl⟩
  case round =>
    obtain ⟨j, rfl, hks, hno, q, rfl⟩ := hrel
    obtain ⟨m, hm⟩ : ∃ m, f + 2 * j = m + 1 := ⟨f + 2 * j - 1, by omega⟩
    rw [hm]
    have HM : Hid (f + 2 * j = m + 1) := hm
    have HN : Hid (∀ i, i < j → tb zs (pr s (f + 2 * i)) = false) := hno
    have hks' : j = 0 ∨ m + 1 ≤ s.size + 1 := by rw [← hm]; exact hks
    have hfm : f ≤ m + 1 := by omega
    clear hm hno hks
    by_cases hlt : m + 1 < s.size
    · have hm0 : m < s.size := by omega
      have e1 : (m : Int) < (s.size : Int) := by omega
      have e3 : (m : Int) + 1 < (s.size : Int) := by omega
      have e4 : IntKind.i64.wrap (m : Int) = (m : Int) := IntWalk.i64_in _ (by omega)
      have e5 : (0:Int) ≤ (m:Int) + 1 := by omega
      have e6 := u16_byte
      have e7 := u16_byte8
      obtain ⟨p, hp⟩ : ∃ p : Nat, (s[m]'hm0).toNat + (s[m + 1]'hlt).toNat * 256 = p := ⟨_, rfl⟩
      have hp1 : p ≤ 65535 := by have h1 := (s[m]'hm0).toNat_lt; have h2 := (s[m + 1]'hlt).toNat_lt; omega
      have e8 : bits .or .u16 ((s[m]'hm0).toNat : Int) (((s[m + 1]'hlt).toNat : Int) * 256) = (p : Int) := by rw [or_u16 _ _ (UInt8.toNat_lt _) (UInt8.toNat_lt _), hp]
      have HP : Hid (pr s (m + 1) = p) := by
        show pr s (m + 1) = p
        unfold pr
        rw [Nat.add_sub_cancel, byN_in s m hm0, byN_in s (m + 1) hlt]; exact hp
      clear hp
      obtain ⟨z, hzp⟩ : ∃ z, z = zs.getD (p / 64) 0 := ⟨_, rfl⟩
      have hzc : w.cell? ⟨g, 6 + p / 64, none⟩ = some (.int .u64 z) := by rw [hzp]; exact hT.2 _ (by omega)
      have hz2 : 0 ≤ z ∧ z ≤ 18446744073709551615 := by rw [hzp]; exact hT.1 (p / 64)
      have HB : Hid ((bits BinOp.and IntKind.u64 z (IntKind.u64.wrap (2 ^ (p % 64))) != 0) = tb zs p) := by
        show _ = _
        rw [bit_and z _ (by omega) hz2.1 hz2.2]; unfold tb; rw [hzp]
      obtain ⟨hz3, hz4⟩ := hz2
      have HT : Hid (Tab w g 6 zs) := hT
      clear hT hzp
      go_wp2
      go_quiet (fail)
      clear e4 e6 e7 e8
      go_wp2
      · have ht : (bits BinOp.and IntKind.u64 z (IntKind.u64.wrap (2 ^ (p % 64))) != 0) = true := by assumption
        rw [HB.out] at ht
        go_ret
        refine ⟨⟨((m + 1 : Nat) : Int), rfl, .inr ⟨j, by rw [HM.out], by rw [HM.out]; exact hlt, ?_, HN.out⟩⟩, _, rfl⟩
        show tb zs (pr s (f + 2 * j)) = true
        rw [HM.out, HP.out]; exact ht
      · have ht : (bits BinOp.and IntKind.u64 z (IntKind.u64.wrap (2 ^ (p % 64))) != 0) = false := by assumption
        rw [HB.out] at ht
        go_roundw
        case rel =>
          refine ⟨j + 1, ?_, ?_, ?_, _, rfl⟩
          · have := HM.out; rw [show f + 2 * (j + 1) = m + 1 + 2 from by omega]; rfl
          · have := HM.out; omega
          · intro i hi
            by_cases e : i = j
            · rw [e, HM.out, HP.out]; exact ht
            · exact HN.out i (by omega)
        case measure => simp [intOf]; omega
    · go_wp2
      go_ret
      refine ⟨⟨-1, rfl, .inl ⟨rfl, fun i hi => ?_⟩⟩, _, rfl⟩
      have := HM.out
      exact HN.out i (by omega)

set_option maxHeartbeats 400000 in
theorem znext_any (g : Nat) (s : ByteArray) (f : Nat) (zs : List Int) (w : World) (hs : s.size ≤ 1000000000) (hf0 : 1 ≤ f) (hf1 : f ≤ 9223372036854775807) (hT : Tab w g 6 zs) :
    Calls Try.prog 26 #[.pointer (some ⟨g, 0, none⟩), .string s, .int .i64 f] w fun e w' => (∃ r, e = .returned (.int .i64 r) ∧ Nxt (fun k => tb zs (pr s k)) s.size f r) ∧ ∃ q, w' = w.drewN q := by
  go_enter Try.func26, Try.ntmps26
  go_wp2_with fail
  refine (next_any g s f zs _ hs hf0 hf1 hT).mono ?_
  rintro e w' ⟨⟨r, rfl, hr⟩, hq⟩
  go_wp2
  go_ret
  exact ⟨⟨r, rfl, hr⟩, hq⟩
end Go.Proofs.Qxb6619318a
