/-
  THE WALKS OF leadingDigits (11), ZZleadingDigits (9), zzBytes (8).
-/
import Derived.Test.Qxb6617196aFrac
import Derived.Deep.QuietTactic
namespace Go.Proofs.Qxb6617196a
open Go.RowKit

/-- The first k bytes are digits, the next is none. -/
structure Led (s : ByteArray) (k : Nat) : Prop where
  le : k ≤ s.size
  dig : Digs s k
  stop : k = s.size ∨ ¬ (48 ≤ byN s k ∧ byN s k ≤ 57)

set_option maxHeartbeats 400000 in
theorem lead_any (s : ByteArray) (w : World) (hs : s.size ≤ 2097152) :
    Calls Try.prog 11 #[.string s] w fun e w' => (∃ k, Led s k ∧ e = .returned (.tuple #[.string (s.extract 0 k), .string (s.extract k s.size)])) ∧ ∃ q, w' = w.drewN q := by
  go_enter Try.func11, Try.ntmps11
  go_wp2_with fail
  go_loop [4] (fun i => ∃ m : Nat, m ≤ s.size ∧ i = .int .i64 m ∧ Digs s m) (fun i => s.size - (intOf i).toNat)
  case atStart => exact ⟨0, Nat.zero_le _, rfl, fun j hj => by omega⟩
  case round =>
    obtain ⟨m, hm, rfl, hdg⟩ := hrel
    have HD : Hid (Digs s m) := hdg
    clear hdg
    by_cases hlt : m < s.size
    · have e1 : (m : Int) < (s.size : Int) := by omega
      by_cases h2 : (48 : Int) ≤ ((s[m]'hlt).toNat : Int)
      · by_cases h3 : ((s[m]'hlt).toNat : Int) ≤ 57
        · go_wp2_with fail
          go_round
          case rel => exact ⟨m + 1, by omega, by go_num, fun i hi => by
            by_cases e : i = m
            · subst e; rw [byN_in s i hlt]; omega
            · exact HD.out i (by omega)⟩
          case measure => simp [intOf]; omega
        · go_wp2_with fail
          have e2 : (m : Int) ≤ (s.size : Int) := by omega
          have e3 : (0 : Int) ≤ (m : Int) := by omega
          go_quiet (fail)
          go_wp2_with fail
          go_ret2
          refine ⟨⟨m, ⟨by omega, HD.out, .inr ?_⟩, rfl⟩, _, rfl⟩
          rw [byN_in s m hlt]; omega
      · have hd : decide ((48 : Int) ≤ ((s[m]'hlt).toNat : Int)) = false := by simpa using h2
        go_wp2_with fail
        have e2 : (m : Int) ≤ (s.size : Int) := by omega
        have e3 : (0 : Int) ≤ (m : Int) := by omega
        go_quiet (fail)
        go_wp2_with fail
        go_ret2
        refine ⟨⟨m, ⟨by omega, HD.out, .inr ?_⟩, rfl⟩, _, rfl⟩
        rw [byN_in s m hlt]; omega
    · have em : m = s.size := by omega
      subst em
      go_wp2_with fail
      go_quiet (fail)
      go_wp2_with fail
      go_ret2
      refine ⟨⟨s.size, ⟨by omega, HD.out, .inl rfl⟩, ?_⟩, _, rfl⟩
      simp

set_option maxHeartbeats 400000 in
theorem zlead_any (s : ByteArray) (w : World) (hs : s.size ≤ 2097152) :
    Calls Try.prog 9 #[.string s] w fun e w' => (∃ k, Led s k ∧ e = .returned (.tuple #[.string (s.extract 0 k), .string (s.extract k s.size)])) ∧ ∃ q, w' = w.drewN q := by
  go_enter Try.func9, Try.ntmps9
  go_wp2_with fail
  refine (lead_any s _ hs).mono ?_
  rintro e V ⟨⟨k, hk, rfl⟩, q, hq⟩
  obtain ⟨a, ha⟩ : ∃ a, a = s.extract 0 k := ⟨_, rfl⟩
  obtain ⟨b, hb⟩ : ∃ b, b = s.extract k s.size := ⟨_, rfl⟩
  rw [← ha, ← hb]
  have HA : Hid (a = s.extract 0 k) := ha
  have HB : Hid (b = s.extract k s.size) := hb
  have HQ : Hid (V = w.drewN q) := hq
  have HK : Hid (Led s k) := hk
  clear ha hb hq hk
  go_wp2_with fail
  go_ret2
  exact ⟨⟨k, HK.out, by rw [← HA.out, ← HB.out]; rfl⟩, q, HQ.out⟩

set_option maxHeartbeats 400000 in
theorem bytes8 (s t : ByteArray) (w : World) (h : s.size + t.size ≤ 1048576) :
    Calls Try.prog 8 #[.string s, .string t] w fun e w' => e = .returned (.bool true) ∧ w' = w := by
  go_enter Try.func8, Try.ntmps8
  go_wp2
  go_ret
  exact ⟨rfl, rfl⟩
set_option maxHeartbeats 1000000 in
theorem bytes8_no (s t : ByteArray) (w : World) (h1 : s.size ≤ 9223372036854775807) (h2 : t.size ≤ 9223372036854775807) (h : 1048576 < s.size + t.size) :
    Calls Try.prog 8 #[.string s, .string t] w fun e w' => e = .returned (.bool false) ∧ w' = w := by
  have h' : 1048576 < s.size ∨ (s.size ≤ 1048576 ∧ 1048576 < t.size) ∨ (s.size ≤ 1048576 ∧ t.size ≤ 1048576 ∧ 1048576 < s.size + t.size) := by omega
  rcases h' with h4 | ⟨h4, h5⟩ | ⟨h4, h5, h6⟩
  all_goals
    go_enter Try.func8, Try.ntmps8
    go_wp2
    go_ret
    exact ⟨rfl, rfl⟩

/-! ### Plain: the split of a joined text -/
theorem Led.only {s : ByteArray} {j k : Nat} (h : Led s j) (h' : Led s k) : j = k := by
  by_cases e : j < k
  · rcases h.stop with h1 | h1
    · have := h'.le; omega
    · exact absurd (h'.dig j e) h1
  · by_cases e' : k < j
    · rcases h'.stop with h1 | h1
      · have := h.le; omega
      · exact absurd (h.dig k e') h1
    · omega

theorem byN_left (a b : ByteArray) (i : Nat) (h : i < a.size) : byN (a ++ b) i = byN a i := by
  rw [byN_in _ i (by simp; omega), byN_in a i h, ByteArray.getElem_append_left h]
theorem byN_right (a b : ByteArray) (i : Nat) : byN (a ++ b) (a.size + i) = byN b i := by
  unfold byN
  by_cases h : i < b.size
  · rw [dif_pos h, dif_pos (by simp; omega)]
    congr 1
    rw [ByteArray.getElem_append_right (by omega)]
    simp
  · rw [dif_neg h, dif_neg (by simp; omega)]

/-- a stops: so does a ++ b, at the same place. -/
theorem Led.stops {a : ByteArray} {k : Nat} (b : ByteArray) (h : Led a k) (hk : k < a.size) : Led (a ++ b) k := by
  refine ⟨by have := h.le; simp; omega, fun i hi => ?_, .inr ?_⟩
  · rw [byN_left a b i (by omega)]; exact h.dig i hi
  · rw [byN_left a b k hk]
    rcases h.stop with h1 | h1
    · omega
    · exact h1
/-- a is all digits: a ++ b goes on as b does. -/
theorem Led.goes {a b : ByteArray} {k : Nat} (ha : Digs a a.size) (h : Led b k) : Led (a ++ b) (a.size + k) := by
  refine ⟨by have := h.le; simp; omega, fun i hi => ?_, ?_⟩
  · by_cases e : i < a.size
    · rw [byN_left a b i e]; exact ha i e
    · obtain ⟨j, rfl⟩ : ∃ j, i = a.size + j := ⟨i - a.size, by omega⟩
      rw [byN_right]; exact h.dig j (by omega)
  · rw [byN_right]
    rcases h.stop with h1 | h1
    · left; simp; omega
    · exact .inr h1

theorem split_join (a : ByteArray) (k : Nat) (h : k ≤ a.size) : a.extract 0 k ++ a.extract k a.size = a := by
  refine ByteArray.ext_getElem (by simp) (fun i h1 h2 => ?_)
  by_cases e : i < (a.extract 0 k).size
  · rw [ByteArray.getElem_append_left e, ByteArray.getElem_extract]; simp
  · rw [ByteArray.getElem_append_right (by omega), ByteArray.getElem_extract]
    congr 1
    simp [ByteArray.size_extract] at e ⊢
    omega
theorem ext_stops (a b : ByteArray) (k : Nat) (h : k ≤ a.size) : (a ++ b).extract 0 k = a.extract 0 k ∧ (a ++ b).extract k (a ++ b).size = a.extract k a.size ++ b := by
  constructor
  · rw [ByteArray.extract_append]
    have : b.extract (0 - a.size) (k - a.size) = ByteArray.empty := by
      refine ByteArray.ext_getElem (by simp [ByteArray.size_extract]; omega) (fun i h1 h2 => ?_)
      simp at h2
    rw [this]; simp
  · rw [ByteArray.extract_append]
    have e1 : a.extract k (a ++ b).size = a.extract k a.size := by
      refine ByteArray.ext_getElem (by simp [ByteArray.size_extract]) (fun i h1 h2 => ?_)
      rw [ByteArray.getElem_extract, ByteArray.getElem_extract]
    have e2 : b.extract (k - a.size) ((a ++ b).size - a.size) = b := by
      rw [show k - a.size = 0 from by omega, show (a ++ b).size - a.size = b.size from by simp]
      simp
    rw [e1, e2]
theorem ext_goes (a b : ByteArray) (k : Nat) : (a ++ b).extract 0 (a.size + k) = a ++ b.extract 0 k ∧ (a ++ b).extract (a.size + k) (a ++ b).size = b.extract k b.size := by
  constructor
  · rw [ByteArray.extract_append]
    have e1 : a.extract 0 (a.size + k) = a := by
      refine ByteArray.ext_getElem (by simp [ByteArray.size_extract]) (fun i h1 h2 => ?_)
      rw [ByteArray.getElem_extract]; simp
    rw [e1, show 0 - a.size = 0 from by omega, show a.size + k - a.size = k from by omega]
  · rw [ByteArray.extract_append]
    have e1 : a.extract (a.size + k) (a ++ b).size = ByteArray.empty := by
      refine ByteArray.ext_getElem (by simp [ByteArray.size_extract]) (fun i h1 h2 => ?_)
      simp at h2
    rw [e1, show a.size + k - a.size = k from by omega, show (a ++ b).size - a.size = b.size from by simp]
    simp
end Go.Proofs.Qxb6617196a
