/-
  PLAIN LAWS FOR markPair (no Go in sight): setting a bit of the table, how many are set, the four case variants of a pair.
-/
import Derived.Test.Qxb6619318aPlain
namespace Go.Proofs.Qxb6619318a
open Go.RowKit

/-- A table of 1,024 words. -/
def Tb (zs : List Int) : Prop := zs.length = 1024 ∧ ∀ j : Nat, 0 ≤ zs.getD j 0 ∧ zs.getD j 0 ≤ 18446744073709551615

/-- The word with bit j set. -/
def orB (z : Int) (j : Nat) : Int := ((z.toNat ||| 2 ^ j : Nat) : Int)
def setb (zs : List Int) (p : Nat) : List Int := zs.set (p / 64) (orB (zs.getD (p / 64) 0) (p % 64))

theorem orB_bd (z : Int) (j : Nat) (hj : j < 64) (h0 : 0 ≤ z) (h1 : z ≤ 18446744073709551615) : 0 ≤ orB z j ∧ orB z j ≤ 18446744073709551615 := by
  have h : z.toNat ||| 2 ^ j < 2 ^ 64 := Nat.or_lt_two_pow (by omega) (Nat.pow_lt_pow_right (by omega) hj)
  unfold orB
  generalize z.toNat ||| 2 ^ j = q at *
  omega

/-- The program's own '|='. -/
theorem or_word (z : Int) (j : Nat) (hj : j < 64) (h0 : 0 ≤ z) (h1 : z ≤ 18446744073709551615) : bits BinOp.or IntKind.u64 z (IntKind.u64.wrap (2 ^ j)) = orB z j := by
  obtain ⟨n, rfl⟩ := Int.eq_ofNat_of_zero_le h0
  have hp : (2 : Nat) ^ j < 18446744073709551616 := by
    have : (2 : Nat) ^ j < 2 ^ 64 := Nat.pow_lt_pow_right (by omega) hj
    simpa using this
  have e : IntKind.u64.wrap (2 ^ j) = ((2 ^ j : Nat) : Int) := by
    have e2 : ((2 : Int) ^ j) = ((2 ^ j : Nat) : Int) := by simp
    rw [e2]
    generalize 2 ^ j = q at *
    exact IntWalk.u64_in _ (by omega)
  rw [e, u64_or_nat _ _ (by omega) hp]
  unfold orB
  rw [Int.toNat_natCast]

theorem setb_tb {zs : List Int} (h : Tb zs) {p : Nat} (hp : p < 65536) : Tb (setb zs p) := by
  refine ⟨by unfold setb; rw [List.length_set]; exact h.1, fun j => ?_⟩
  have hb := orB_bd (zs.getD (p / 64) 0) (p % 64) (by omega) (h.2 _).1 (h.2 _).2
  unfold setb
  have e : (zs.set (p / 64) (orB (zs.getD (p / 64) 0) (p % 64))).getD j 0 = if p / 64 = j then orB (zs.getD (p / 64) 0) (p % 64) else zs.getD j 0 := by
    simp only [List.getD, List.getElem?_set]
    have : p / 64 < zs.length := by rw [h.1]; omega
    split <;> simp_all
  rw [e]
  split
  · exact hb
  · exact h.2 j

theorem tb_setb {zs : List Int} (h : Tb zs) {p : Nat} (hp : p < 65536) (q : Nat) : tb (setb zs p) q = (tb zs q || decide (q = p)) := by
  have hl : p / 64 < zs.length := by rw [h.1]; omega
  unfold tb setb
  have e : (zs.set (p / 64) (orB (zs.getD (p / 64) 0) (p % 64))).getD (q / 64) 0 = if p / 64 = q / 64 then orB (zs.getD (p / 64) 0) (p % 64) else zs.getD (q / 64) 0 := by
    simp only [List.getD, List.getElem?_set]
    split <;> simp_all
  rw [e]
  by_cases hq : p / 64 = q / 64
  · rw [if_pos hq]
    unfold orB
    rw [Int.toNat_natCast, Nat.testBit_or, Nat.testBit_two_pow, hq]
    congr 1
    rw [decide_eq_decide]
    omega
  · rw [if_neg hq]
    have : ¬ q = p := by intro e; rw [e] at hq; exact hq rfl
    simp [this]

/-- How many of the first m bits are set. -/
def cntTo (zs : List Int) : Nat → Nat
  | 0 => 0
  | m + 1 => cntTo zs m + (tb zs m).toNat

theorem cntTo_le (zs : List Int) (m : Nat) : cntTo zs m ≤ m := by
  induction m with
  | zero => exact Nat.le_refl _
  | succ m ih => unfold cntTo; have := Bool.toNat_le (tb zs m); omega

theorem cntTo_setb {zs : List Int} (h : Tb zs) {p : Nat} (hp : p < 65536) (hn : tb zs p = false) (m : Nat) : cntTo (setb zs p) m = cntTo zs m + if p < m then 1 else 0 := by
  induction m with
  | zero => rfl
  | succ m ih =>
    unfold cntTo
    rw [ih, tb_setb h hp m]
    by_cases e : m = p
    · subst e
      rw [hn, if_neg (by omega), if_pos (by omega)]; simp
    · have e2 : decide (m = p) = false := decide_eq_false e
      rw [e2, Bool.or_false]
      by_cases hm : p < m
      · rw [if_pos hm, if_pos (by omega)]; omega
      · rw [if_neg hm, if_neg (by omega)]; omega

/-- How many of the first m bits are set in zs' and not in zs. -/
def newTo (zs zs' : List Int) : Nat → Nat
  | 0 => 0
  | m + 1 => newTo zs zs' m + (tb zs' m && !tb zs m).toNat

theorem newTo_cnt {zs zs' : List Int} (m : Nat) (h : ∀ q, q < m → tb zs q = true → tb zs' q = true) : newTo zs zs' m + cntTo zs m = cntTo zs' m := by
  induction m with
  | zero => rfl
  | succ m ih =>
    have ih' := ih (fun q hq => h q (by omega))
    have hm := h m (by omega)
    unfold newTo cntTo
    cases h1 : tb zs m <;> cases h2 : tb zs' m <;> simp_all <;> omega

/-! ### One bit marked, and counted -/
def st (s : List Int × Int) (p : Nat) : List Int × Int := if tb s.1 p = true then s else (setb s.1 p, wrap64 (s.2 + 1))

/-- What a run of marks has done: the table is one, these bits more are set, the count has risen by as many as are new. -/
structure Mk (s s' : List Int × Int) (V : Nat → Prop) : Prop where
  tb : Tb s'.1
  bit : ∀ q, Go.Proofs.Qxb6619318a.tb s'.1 q = true ↔ Go.Proofs.Qxb6619318a.tb s.1 q = true ∨ V q
  num : ∃ k : Nat, k + cntTo s.1 65536 = cntTo s'.1 65536 ∧ s'.2 = wrap64 (s.2 + k)

theorem wrap64_add (a b : Int) : wrap64 (wrap64 a + b) = wrap64 (a + b) := by unfold wrap64; omega

theorem Mk.refl {s : List Int × Int} (h : Tb s.1) (hn : wrap64 s.2 = s.2) : Mk s s (fun _ => False) :=
  ⟨h, fun q => by simp, 0, by simp, by simpa using hn.symm⟩

theorem Mk.st {s s' : List Int × Int} {V : Nat → Prop} (h : Mk s s' V) {p : Nat} (hp : p < 65536) : Mk s (st s' p) (fun q => V q ∨ q = p) := by
  unfold Go.Proofs.Qxb6619318a.st
  by_cases hb : Go.Proofs.Qxb6619318a.tb s'.1 p = true
  · rw [if_pos hb]
    refine ⟨h.tb, fun q => ?_, h.num⟩
    rw [h.bit q]
    constructor
    · rintro (h1 | h1)
      · exact .inl h1
      · exact .inr (.inl h1)
    · rintro (h1 | h1 | h1)
      · exact .inl h1
      · exact .inr h1
      · subst h1; exact (h.bit q).1 hb
  · rw [if_neg hb]
    have hf : Go.Proofs.Qxb6619318a.tb s'.1 p = false := by simpa using hb
    refine ⟨setb_tb h.tb hp, fun q => ?_, ?_⟩
    · show Go.Proofs.Qxb6619318a.tb (setb s'.1 p) q = true ↔ _
      rw [tb_setb h.tb hp q, Bool.or_eq_true, h.bit q, decide_eq_true_eq, or_assoc]
    · obtain ⟨k, h1, h2⟩ := h.num
      refine ⟨k + 1, ?_, ?_⟩
      · show k + 1 + cntTo s.1 65536 = cntTo (setb s'.1 p) 65536
        rw [cntTo_setb h.tb hp hf, if_pos hp]; omega
      · show wrap64 (s'.2 + 1) = _
        rw [h2, wrap64_add]; congr 1; omega

/-- Marks one behind the other. -/
theorem Mk.trans {s s' s'' : List Int × Int} {V V' : Nat → Prop} (h : Mk s s' V) (h' : Mk s' s'' V') : Mk s s'' (fun q => V q ∨ V' q) := by
  refine ⟨h'.tb, fun q => ?_, ?_⟩
  · rw [h'.bit q, h.bit q, or_assoc]
  · obtain ⟨k, h1, h2⟩ := h.num
    obtain ⟨k', h1', h2'⟩ := h'.num
    refine ⟨k + k', by omega, ?_⟩
    rw [h2', h2, wrap64_add]; congr 1; omega

theorem Mk.congr {s s' : List Int × Int} {V V' : Nat → Prop} (h : Mk s s' V) (hv : ∀ q, V q ↔ V' q) : Mk s s' V' :=
  ⟨h.tb, fun q => by rw [h.bit q, hv q], h.num⟩

/-! ### The case variants of a pair -/
/-- A byte's upper case, its lower case. -/
def up (c : Int) : Int := if 97 ≤ c ∧ c ≤ 122 then c - 97 + 65 else c
def lo (c : Int) : Int := if 65 ≤ c ∧ c ≤ 90 then c - 65 + 97 else c
theorem up_bd (c : Int) (h0 : 0 ≤ c) (h1 : c ≤ 255) : 0 ≤ up c ∧ up c ≤ 255 := by unfold up; split <;> omega
theorem lo_bd (c : Int) (h0 : 0 ≤ c) (h1 : c ≤ 255) : 0 ≤ lo c ∧ lo c ≤ 255 := by unfold lo; split <;> omega
/-- The pair of two bytes. -/
def pp (f l : Int) : Nat := (f + l * 256).toNat
theorem pp_lt (f l : Int) (h0 : 0 ≤ f) (h1 : f ≤ 255) (h2 : 0 ≤ l) (h3 : l ≤ 255) : pp f l < 65536 := by unfold pp; omega

/-- The four variants. -/
def Vr (f l : Int) (q : Nat) : Prop := q = pp f l ∨ q = pp f (up l) ∨ q = pp (up f) l ∨ q = pp (up f) (up l)
/-- 'q folds to (f, l)'. -/
def fold (f l : Int) (q : Nat) : Bool := lo ((q : Int) % 256) == f && lo ((q : Int) / 256) == l

theorem fold_Vr {f l : Int} (f0 : 0 ≤ f) (f1 : f ≤ 255) (l0 : 0 ≤ l) (l1 : l ≤ 255) (hf : ¬ (65 ≤ f ∧ f ≤ 90)) (hl : ¬ (65 ≤ l ∧ l ≤ 90)) (q : Nat) (hq : q < 65536) : fold f l q = true ↔ Vr f l q := by
  have key : ∀ c g : Int, 0 ≤ c → c ≤ 255 → 0 ≤ g → g ≤ 255 → ¬ (65 ≤ g ∧ g ≤ 90) → (lo c = g ↔ c = g ∨ c = up g) := by
    intro c g _ _ _ _ hg
    unfold lo up
    split <;> split <;> omega
  have hu := up_bd f f0 f1
  have hv := up_bd l l0 l1
  unfold fold Vr pp
  rw [Bool.and_eq_true, beq_iff_eq, beq_iff_eq, key _ _ (by omega) (by omega) f0 f1 hf, key _ _ (by omega) (by omega) l0 l1 hl]
  generalize up f = uf at *
  generalize up l = ul at *
  omega
end Go.Proofs.Qxb6619318a
