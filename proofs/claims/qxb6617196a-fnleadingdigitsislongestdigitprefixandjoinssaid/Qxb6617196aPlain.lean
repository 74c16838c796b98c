/-
  PLAIN LAWS (no Go in sight): the decimal product digit by digit from the right, against the fraction by one division.
-/
import Derived.WalkKit
namespace Go.Proofs.Qxb6617196a
open Go.RowKit

/-- Byte 'k' of a text, 0 beyond its end. -/
def byN (s : ByteArray) (k : Nat) : Nat := if h : k < s.size then (s[k]'h).toNat else 0
theorem byN_in (s : ByteArray) (k : Nat) (h : k < s.size) : byN s k = (s[k]'h).toNat := by unfold byN; rw [dif_pos h]
theorem byN_lt (s : ByteArray) (k : Nat) : byN s k < 256 := by
  unfold byN; split
  · exact UInt8.toNat_lt _
  · omega
/-- The digit at place k. -/
def dg (s : ByteArray) (k : Nat) : Nat := byN s k - 48
/-- All bytes below k are digits. -/
def Digs (s : ByteArray) (k : Nat) : Prop := ∀ i, i < k → 48 ≤ byN s i ∧ byN s i ≤ 57

theorem dg_le {s : ByteArray} (h : Digs s s.size) (k : Nat) : dg s k ≤ 9 := by
  unfold dg
  by_cases hk : k < s.size
  · have := h k hk; omega
  · have : byN s k = 0 := by unfold byN; rw [dif_neg hk]
    omega

/-- The law's carry behind the last l digits; is all that lies behind the point nought? -/
def Cy (s : ByteArray) (M : Nat) : Nat → Nat
  | 0 => 0
  | l + 1 => (dg s (s.size - 1 - l) * M + Cy s M l) / 10
def Wh (s : ByteArray) (M : Nat) : Nat → Bool
  | 0 => true
  | l + 1 => Wh s M l && (dg s (s.size - 1 - l) * M + Cy s M l) % 10 == 0
/-- The number of the last l digits, of the first i. -/
def Us (s : ByteArray) : Nat → Nat
  | 0 => 0
  | l + 1 => dg s (s.size - 1 - l) * 10 ^ l + Us s l
def Vs (s : ByteArray) : Nat → Nat
  | 0 => 0
  | i + 1 => Vs s i * 10 + dg s i

theorem Cy_le {s : ByteArray} (h : Digs s s.size) (M : Nat) : ∀ l, Cy s M l ≤ M
  | 0 => Nat.zero_le _
  | l + 1 => by
    have ih := Cy_le h M l
    have h1 : dg s (s.size - 1 - l) * M ≤ 9 * M := Nat.mul_le_mul_right _ (dg_le h _)
    unfold Cy
    omega

theorem Vs_lt {s : ByteArray} (h : Digs s s.size) : ∀ i, Vs s i < 10 ^ i
  | 0 => by simp [Vs]
  | i + 1 => by
    have ih := Vs_lt h i
    have h1 := dg_le h i
    unfold Vs
    rw [Nat.pow_succ]
    generalize 10 ^ i = P at *
    omega

theorem VU (s : ByteArray) : ∀ l, l ≤ s.size → Vs s (s.size - l) * 10 ^ l + Us s l = Vs s s.size
  | 0, _ => by simp [Us]
  | l + 1, h => by
    have ih := VU s l (by omega)
    rw [← ih]
    have e : s.size - l = (s.size - (l + 1)) + 1 := by omega
    have e2 : s.size - 1 - l = s.size - (l + 1) := by omega
    rw [e]
    show Vs s (s.size - (l + 1)) * 10 ^ (l + 1) + (dg s (s.size - 1 - l) * 10 ^ l + Us s l) = (Vs s (s.size - (l + 1)) * 10 + dg s (s.size - (l + 1))) * 10 ^ l + Us s l
    rw [e2, Nat.pow_succ, Nat.add_mul, Nat.mul_assoc, Nat.mul_comm 10 (10 ^ l), Nat.add_assoc]

theorem key (s : ByteArray) (M : Nat) : ∀ l, ∃ r, r < 10 ^ l ∧ Us s l * M = Cy s M l * 10 ^ l + r ∧ (Wh s M l = true ↔ r = 0)
  | 0 => ⟨0, by simp, by simp [Us, Cy], by simp [Wh]⟩
  | l + 1 => by
    obtain ⟨r, h1, h2, h3⟩ := key s M l
    have hP : 0 < 10 ^ l := Nat.pow_pos (by omega)
    unfold Us Cy Wh
    generalize dg s (s.size - 1 - l) = d
    generalize Cy s M l = c at *
    generalize Us s l = u at *
    rw [Nat.pow_succ]
    generalize 10 ^ l = P at *
    have e1 : (d * P + u) * M = (d * M + c) * P + r := by
      rw [Nat.add_mul, h2, Nat.add_mul, Nat.mul_right_comm d P M]
      omega
    rw [e1]
    generalize d * M + c = t
    have e2 : t * P = t / 10 * (P * 10) + t % 10 * P := by
      have : t = t / 10 * 10 + t % 10 := by omega
      calc t * P = (t / 10 * 10 + t % 10) * P := by rw [← this]
        _ = t / 10 * (P * 10) + t % 10 * P := by rw [Nat.add_mul, Nat.mul_assoc, Nat.mul_comm 10 P]
    have e3 : t % 10 * P ≤ 9 * P := Nat.mul_le_mul_right _ (by omega)
    refine ⟨t % 10 * P + r, by omega, by omega, ?_⟩
    rw [Bool.and_eq_true, h3, beq_iff_eq]
    constructor
    · rintro ⟨rfl, h⟩
      rw [h]; simp
    · intro h
      have h4 : t % 10 * P = 0 := by omega
      have h5 : t % 10 = 0 := by
        rcases Nat.mul_eq_zero.1 h4 with h | h
        · exact h
        · omega
      exact ⟨by omega, h5⟩

/-- The two roads meet. -/
theorem meet (s : ByteArray) (M : Nat) : Cy s M s.size = Vs s s.size * M / 10 ^ s.size ∧ (Wh s M s.size = true ↔ Vs s s.size * M % 10 ^ s.size = 0) := by
  obtain ⟨r, h1, h2, h3⟩ := key s M s.size
  have e : Us s s.size = Vs s s.size := by
    have := VU s s.size (Nat.le_refl _)
    rw [Nat.sub_self] at this
    simpa [Vs] using this
  rw [e] at h2
  have hP : 0 < 10 ^ s.size := Nat.pow_pos (by omega)
  generalize 10 ^ s.size = P at *
  rw [h2]
  constructor
  · rw [Nat.mul_comm, Nat.mul_add_div hP, Nat.div_eq_of_lt h1]; rfl
  · rw [h3, Nat.mul_comm, Nat.mul_add_mod, Nat.mod_eq_of_lt h1]

/-- Ten digits or more, the last not nought: never whole below 1,024. -/
theorem never {s : ByteArray} (h : Digs s s.size) (hn : 10 ≤ s.size) (hl : dg s (s.size - 1) ≠ 0) (M : Nat) (h0 : 1 ≤ M) (h1 : M ≤ 1023) : Wh s M s.size = false := by
  cases hw : Wh s M s.size with
  | false => rfl
  | true =>
    exfalso
    have hz := (meet s M).2.1 hw
    have hd := dg_le h (s.size - 1)
    obtain ⟨n, hn2⟩ : ∃ n, s.size = n + 1 := ⟨s.size - 1, by omega⟩
    have hv : Vs s s.size = Vs s n * 10 + dg s (s.size - 1) := by
      conv => lhs; rw [hn2]
      rw [hn2]; rfl
    have hm : Vs s s.size % 10 ≠ 0 := by rw [hv]; omega
    generalize Vs s s.size = D at *
    have hdv : 10 ^ 10 ∣ D * M := Nat.dvd_trans (Nat.pow_dvd_pow 10 hn) (Nat.dvd_of_mod_eq_zero hz)
    have h2 : 2 ^ 10 ∣ D * M := Nat.dvd_trans ⟨5 ^ 10, by decide⟩ hdv
    have h5 : 5 ^ 10 ∣ D * M := Nat.dvd_trans ⟨2 ^ 10, by decide⟩ hdv
    clear hdv hz hv hw
    by_cases ho : D % 2 = 1
    · have hc : Nat.Coprime 2 D := by
        unfold Nat.Coprime
        rw [Nat.gcd_rec, ho]
        rfl
      have := Nat.le_of_dvd (by omega) ((hc.pow_left 10).dvd_of_dvd_mul_left h2)
      simp at this
      omega
    · have hc : Nat.Coprime 5 D := by
        unfold Nat.Coprime
        rw [Nat.gcd_rec]
        have : D % 5 = 1 ∨ D % 5 = 2 ∨ D % 5 = 3 ∨ D % 5 = 4 := by omega
        rcases this with h | h | h | h <;> rw [h] <;> decide
      have := Nat.le_of_dvd (by omega) ((hc.pow_left 10).dvd_of_dvd_mul_left h5)
      simp at this
      omega
end Go.Proofs.Qxb6617196a
