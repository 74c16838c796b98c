/-
  PLAIN: a second mark changes nothing; the count of new bits.
-/
import Derived.Test.Qxb6619318aBits
namespace Go.Proofs.Qxb6619318a
open Go.RowKit

/-- Two tables with the same bits are one. -/
theorem tab_ext {zs zs' : List Int} (h : Tb zs) (h' : Tb zs') (hb : ∀ q, tb zs q = tb zs' q) : zs = zs' := by
  apply List.ext_getElem (by rw [h.1, h'.1])
  intro i h1 h2
  have e1 : zs.getD i 0 = zs[i] := by simp [List.getD, h1]
  have e2 : zs'.getD i 0 = zs'[i] := by simp [List.getD, h2]
  rw [← e1, ← e2]
  have b1 := h.2 i
  have b2 := h'.2 i
  have hn : (zs.getD i 0).toNat = (zs'.getD i 0).toNat := by
    apply Nat.eq_of_testBit_eq
    intro j
    by_cases hj : j < 64
    · have := hb (i * 64 + j)
      unfold tb at this
      rw [show (i * 64 + j) / 64 = i from by omega, show (i * 64 + j) % 64 = j from by omega] at this
      exact this
    · have hp : (2 : Nat) ^ 64 ≤ 2 ^ j := Nat.pow_le_pow_right (by omega) (by omega)
      rw [Nat.testBit_lt_two_pow (x := (zs.getD i 0).toNat) (by generalize 2 ^ j = q at *; omega), Nat.testBit_lt_two_pow (x := (zs'.getD i 0).toNat) (by generalize 2 ^ j = q at *; omega)]
  omega

theorem Mk.same {s s' : List Int × Int} {V : Nat → Prop} (h : Mk s s' V) (hs : Tb s.1) (hn : wrap64 s.2 = s.2) (hV : ∀ q, V q → Go.Proofs.Qxb6619318a.tb s.1 q = true) : s' = s := by
  have e1 : s'.1 = s.1 := by
    refine tab_ext h.tb hs (fun q => ?_)
    rw [Bool.eq_iff_iff, h.bit q]
    constructor
    · rintro (h1 | h1)
      · exact h1
      · exact hV q h1
    · exact .inl
  obtain ⟨k, h1, h2⟩ := h.num
  have hk : k = 0 := by rw [e1] at h1; omega
  subst hk
  have e2 : s'.2 = s.2 := by rw [h2]; simpa using hn
  cases s'; cases s
  simp_all

/-- The count has risen by the number of new bits. -/
theorem Mk.rise {s s' : List Int × Int} {V : Nat → Prop} (h : Mk s s' V) : wrap64 (s'.2 - s.2) = (newTo s.1 s'.1 65536 : Int) := by
  obtain ⟨k, h1, h2⟩ := h.num
  have hc := newTo_cnt (zs := s.1) (zs' := s'.1) 65536 (fun q _ hq => (h.bit q).2 (.inl hq))
  have hk : k = newTo s.1 s'.1 65536 := by omega
  have hle := cntTo_le s'.1 65536
  rw [← hk, h2]
  generalize cntTo s'.1 65536 = c at *
  generalize cntTo s.1 65536 = d at *
  unfold wrap64
  omega

theorem newTo_le (zs zs' : List Int) (m : Nat) : newTo zs zs' m ≤ m := by
  induction m with
  | zero => exact Nat.le_refl _
  | succ m ih => unfold newTo; have := Bool.toNat_le (tb zs' m && !tb zs m); omega
end Go.Proofs.Qxb6619318a
