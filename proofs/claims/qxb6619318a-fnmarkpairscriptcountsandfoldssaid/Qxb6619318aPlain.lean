/-
  PLAIN LAWS FOR THE PAIR TABLE (no Go in sight): bits of a table of 64-bit words, the pair of bytes at a place of a text, 'the first place of a stride that answers yes'.
-/
import Derived.WalkKit
import Derived.Laws.BitsAllLaws
namespace Go.Proofs.Qxb6619318a
open Go.RowKit

/-- Bit 'p' of the table 'zs' (words of 64 bits). -/
def tb (zs : List Int) (p : Nat) : Bool := (zs.getD (p / 64) 0).toNat.testBit (p % 64)

/-- Byte 'k' of a text, 0 beyond its end. -/
def byN (s : ByteArray) (k : Nat) : Nat := if h : k < s.size then (s[k]'h).toNat else 0
theorem byN_in (s : ByteArray) (k : Nat) (h : k < s.size) : byN s k = (s[k]'h).toNat := by unfold byN; rw [dif_pos h]
theorem byN_lt (s : ByteArray) (k : Nat) : byN s k < 256 := by
  unfold byN; split
  · exact UInt8.toNat_lt _
  · omega
/-- The pair of bytes that ends at place 'k'. -/
def pr (s : ByteArray) (k : Nat) : Nat := byN s (k - 1) + byN s k * 256
theorem pr_lt (s : ByteArray) (k : Nat) : pr s k < 65536 := by have := byN_lt s (k - 1); have := byN_lt s k; unfold pr; omega

theorem u16_byte (x : UInt8) : IntKind.u16.wrap (x.toNat : Int) = x.toNat := by
  have := x.toNat_lt; exact IntWalk.u16_in _ (by omega)
theorem u16_byte8 (x : UInt8) : IntKind.u16.wrap ((x.toNat : Int) * 256) = (x.toNat : Int) * 256 := by
  have := x.toNat_lt; exact IntWalk.u16_in _ (by omega)
theorem or_u16 (x y : Nat) (h1 : x < 256) (h2 : y < 256) : bits .or .u16 (x : Int) ((y : Int) * 256) = ((x + y * 256 : Nat) : Int) := by
  have e : ((y : Int) * 256) = ((y * 256 : Nat) : Int) := by omega
  rw [e, u16_or_nat _ _ (by omega) (by omega), Nat.or_comm, nat_join 8 _ _ (by omega) (by omega), Nat.add_comm]
theorem or_i64 (x y : Nat) (h1 : x < 256) (h2 : y < 256) : bits .or .i64 (x : Int) ((y : Int) * 256) = ((x + y * 256 : Nat) : Int) := by
  have e : ((y : Int) * 256) = ((y * 256 : Nat) : Int) := by omega
  rw [e]
  show IntKind.i64.wrap ((BitVec.ofInt 64 (x : Int) ||| BitVec.ofInt 64 ((y * 256 : Nat) : Int)).toNat : Int) = _
  rw [BitVec.toNat_or, ofInt_u64 x (by omega), ofInt_u64 _ (by omega), Nat.or_comm, nat_join 8 _ _ (by omega) (by omega), Nat.add_comm]
  exact IntWalk.i64_in _ (by omega)
theorem i64_byte (x : UInt8) : IntKind.i64.wrap (x.toNat : Int) = x.toNat := by
  have := x.toNat_lt; exact IntWalk.i64_in _ (by omega)
theorem i64_byte8 (x : UInt8) : IntKind.i64.wrap ((x.toNat : Int) * 256) = (x.toNat : Int) * 256 := by
  have := x.toNat_lt; exact IntWalk.i64_in _ (by omega)

theorem and63 (k : Int) (h0 : 0 ≤ k) (h1 : k ≤ 65535) : bits .and .u64 k 63 = k % 64 := by
  rw [u64_and k 63 h0 (by omega) (by omega) (by omega)]
  have : (k.toNat &&& (63 : Int).toNat) = k.toNat % 64 := nat_mask6 _
  rw [this]; omega

/-- The law's own test: 'p[k>>6]>>(uint(k)&63)&1 == 1'. -/
theorem bit_shr (z : Int) (j : Nat) (h0 : 0 ≤ z) (h1 : z ≤ 18446744073709551615) : (bits BinOp.and IntKind.u64 (z / 2 ^ j) 1 == 1) = z.toNat.testBit j := by
  obtain ⟨n, rfl⟩ := Int.eq_ofNat_of_zero_le h0
  have e : ((n : Int) / 2 ^ j) = ((n / 2 ^ j : Nat) : Int) := by simp
  have hle : n / 2 ^ j ≤ n := Nat.div_le_self _ _
  rw [e, show (1 : Int) = ((1 : Nat) : Int) from rfl, u64_and_nat _ _ (by omega) (by omega), nat_mask1, Nat.testBit_eq_decide_div_mod_eq, Int.toNat_natCast]
  rw [Bool.eq_iff_iff]; simp; omega

/-- The program's own test: 'pairs[pair/64]&(1<<(pair%64)) != 0'. -/
theorem bit_and (z : Int) (j : Nat) (hj : j < 64) (h0 : 0 ≤ z) (h1 : z ≤ 18446744073709551615) : (bits BinOp.and IntKind.u64 z (IntKind.u64.wrap (2 ^ j)) != 0) = z.toNat.testBit j := by
  obtain ⟨n, rfl⟩ := Int.eq_ofNat_of_zero_le h0
  have hp : (2 : Nat) ^ j < 18446744073709551616 := by
    have : (2 : Nat) ^ j < 2 ^ 64 := Nat.pow_lt_pow_right (by omega) hj
    simpa using this
  have hpos : 0 < 2 ^ j := Nat.two_pow_pos j
  have e : IntKind.u64.wrap (2 ^ j) = ((2 ^ j : Nat) : Int) := by
    have e2 : ((2 : Int) ^ j) = ((2 ^ j : Nat) : Int) := by simp
    rw [e2]
    generalize 2 ^ j = q at *
    exact IntWalk.u64_in _ (by omega)
  rw [e, u64_and_nat _ _ (by omega) hp, nat_bit, Nat.testBit_eq_decide_div_mod_eq, Int.toNat_natCast]
  clear e
  generalize 2 ^ j = q at *
  have h2 : n / q % 2 = 0 ∨ n / q % 2 = 1 := by omega
  generalize n / q % 2 = r at *
  rcases h2 with rfl | rfl
  · simp
  · rw [Bool.eq_iff_iff]; simp; omega

/-- 'r' is -1 and no place of the stride f, f+2, .. below n answers yes; or it is the first that does. -/
def Nxt (P : Nat → Bool) (n f : Nat) (r : Int) : Prop :=
  (r = -1 ∧ ∀ j : Nat, f + 2 * j < n → P (f + 2 * j) = false) ∨
  (∃ j : Nat, r = ((f + 2 * j : Nat) : Int) ∧ f + 2 * j < n ∧ P (f + 2 * j) = true ∧ ∀ i, i < j → P (f + 2 * i) = false)

/-- The answer is one alone. -/
theorem Nxt.only {P : Nat → Bool} {n f : Nat} {r r' : Int} (h : Nxt P n f r) (h' : Nxt P n f r') : r = r' := by
  rcases h with ⟨rfl, h⟩ | ⟨j, rfl, h1, h2, h3⟩ <;> rcases h' with ⟨rfl, h'⟩ | ⟨j', rfl, h1', h2', h3'⟩
  · rfl
  · have := h j' h1'; rw [this] at h2'; cases h2'
  · have := h' j h1; rw [this] at h2; cases h2
  · have : j = j' := by
      by_cases e : j < j'
      · have := h3' j e; rw [this] at h2; cases h2
      · by_cases e' : j' < j
        · have := h3 j' e'; rw [this] at h2'; cases h2'
        · omega
    rw [this]

/-- Moved on by m places. -/
def mv (r : Int) (m : Nat) : Int := if r = -1 then -1 else r + m
theorem Nxt.moved {P P' : Nat → Bool} {n f m : Nat} {r : Int} (h : Nxt P n f r) (hP : ∀ j : Nat, f + 2 * j < n → P' (f + m + 2 * j) = P (f + 2 * j)) : Nxt P' (n + m) (f + m) (mv r m) := by
  rcases h with ⟨rfl, h⟩ | ⟨j, rfl, h1, h2, h3⟩
  · exact .inl ⟨rfl, fun j hj => by rw [hP j (by omega)]; exact h j (by omega)⟩
  · refine .inr ⟨j, ?_, by omega, by rw [hP j h1]; exact h2, fun i hi => by rw [hP i (by omega)]; exact h3 i hi⟩
    unfold mv; rw [if_neg (by omega)]; omega

theorem byN_shift (pf t : ByteArray) (k : Nat) : byN (pf ++ t) (pf.size + k) = byN t k := by
  unfold byN
  by_cases h : k < t.size
  · rw [dif_pos h, dif_pos (by simp; omega)]
    congr 1
    rw [ByteArray.getElem_append_right (by omega)]
    simp
  · rw [dif_neg h, dif_neg (by simp; omega)]
theorem pr_shift (pf t : ByteArray) (k : Nat) (h0 : 1 ≤ k) : pr (pf ++ t) (pf.size + k) = pr t k := by
  unfold pr
  rw [byN_shift, show pf.size + k - 1 = pf.size + (k - 1) from by omega, byN_shift]

theorem Nxt.shift {zs : List Int} {pf t : ByteArray} {F : Nat} {r r' : Int} (hF : 1 ≤ F) (h : Nxt (fun k => tb zs (pr t k)) t.size F r) (h' : Nxt (fun k => tb zs (pr (pf ++ t) k)) (pf ++ t).size (F + pf.size) r') :
    r' = mv r pf.size := by
  refine h'.only ?_
  rw [ByteArray.size_append, Nat.add_comm pf.size]
  refine h.moved (fun j _ => ?_)
  show tb zs (pr (pf ++ t) (F + pf.size + 2 * j)) = tb zs (pr t (F + 2 * j))
  rw [show F + pf.size + 2 * j = pf.size + (F + 2 * j) from by omega, pr_shift pf t _ (by omega)]

end Go.Proofs.Qxb6619318a
