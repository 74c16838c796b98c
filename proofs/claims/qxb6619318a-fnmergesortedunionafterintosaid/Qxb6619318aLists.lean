/-
  PLAIN LAWS ON LISTS OF NUMBERS (no Go in sight): sorted, the merge's round, the insertion's round.
-/
import Derived.RowKit
namespace Go.Proofs.Qxb6619318a
open List

/-- Non-decreasing. -/
def Srt (l : List Int) : Prop := l.Pairwise (· ≤ ·)

theorem srt_nil : Srt [] := List.Pairwise.nil
theorem srt_app {a b : List Int} : Srt (a ++ b) ↔ Srt a ∧ Srt b ∧ ∀ x ∈ a, ∀ y ∈ b, x ≤ y := List.pairwise_append
theorem srt_cons {x : Int} {a : List Int} : Srt (x :: a) ↔ (∀ y ∈ a, x ≤ y) ∧ Srt a := List.pairwise_cons

/-- Two sorted lists of the same elements are one. -/
theorem srt_only {a b : List Int} (ha : Srt a) (hb : Srt b) (h : a ~ b) : a = b :=
  List.Perm.eq_of_pairwise (fun _ _ _ _ h1 h2 => Int.le_antisymm h1 h2) ha hb h

/-- Neighbours in order: sorted. -/
theorem srt_adj : ∀ (l : List Int), (∀ i, i + 1 < l.length → l.getD i 0 ≤ l.getD (i + 1) 0) → Srt l
  | [], _ => srt_nil
  | [x], _ => by rw [srt_cons]; exact ⟨fun y hy => by simp at hy, srt_nil⟩
  | x :: y :: r, h => by
    have ih : Srt (y :: r) := srt_adj (y :: r) (fun i hi => by
      have := h (i + 1) (by simpa using hi)
      simpa using this)
    have h0 : x ≤ y := by have := h 0 (by simp); simpa using this
    rw [srt_cons]
    refine ⟨fun z hz => ?_, ih⟩
    rcases List.mem_cons.1 hz with rfl | hz
    · exact h0
    · exact Int.le_trans h0 ((srt_cons.1 ih).1 z hz)

/-! ### The merge -/
/-- What holds of the merge's round: R has been taken, A1 and B1 are left. -/
def MI (A B R A1 B1 : List Int) : Prop := (R ++ (A1 ++ B1)) ~ (A ++ B) ∧ (Srt A → Srt B → Srt (R ++ A1) ∧ Srt (R ++ B1))

theorem MI.start (A B : List Int) : MI A B [] A B := ⟨List.Perm.refl _, fun h1 h2 => ⟨h1, h2⟩⟩

theorem MI.left {A B R A2 B2 : List Int} {x y : Int} (h : MI A B R (x :: A2) (y :: B2)) (hxy : x < y) : MI A B (R ++ [x]) A2 (y :: B2) := by
  refine ⟨?_, fun h1 h2 => ?_⟩
  · have := h.1
    simpa using this
  · obtain ⟨s1, s2⟩ := h.2 h1 h2
    refine ⟨by simpa using s1, ?_⟩
    rw [srt_app] at s1 s2
    rw [List.append_assoc, srt_app]
    refine ⟨s2.1, ?_, ?_⟩
    · rw [List.singleton_append, srt_cons]
      refine ⟨fun z hz => ?_, s2.2.1⟩
      rcases List.mem_cons.1 hz with rfl | hz
      · omega
      · have := (srt_cons.1 s2.2.1).1 z hz; omega
    · intro p hp z hz
      rcases List.mem_append.1 hz with hz | hz
      · simp at hz; subst hz; exact s1.2.2 p hp _ (by simp)
      · exact s2.2.2 p hp z hz

theorem MI.swap {A B R A1 B1 : List Int} (h : MI A B R A1 B1) : MI B A R B1 A1 :=
  ⟨(List.Perm.append_left R List.perm_append_comm).trans (h.1.trans List.perm_append_comm), fun h1 h2 => ⟨(h.2 h2 h1).2, (h.2 h2 h1).1⟩⟩

theorem MI.right {A B R A2 B2 : List Int} {x y : Int} (h : MI A B R (x :: A2) (y :: B2)) (hxy : ¬ x < y) : MI A B (R ++ [y]) (x :: A2) B2 := by
  refine ⟨?_, fun h1 h2 => ?_⟩
  · refine List.Perm.trans ?_ h.1
    rw [List.append_assoc]
    refine List.Perm.append_left R ?_
    rw [List.singleton_append]
    exact (List.perm_middle).symm
  · obtain ⟨s1, s2⟩ := h.2 h1 h2
    refine ⟨?_, by simpa using s2⟩
    rw [srt_app] at s1 s2
    rw [List.append_assoc, srt_app]
    refine ⟨s1.1, ?_, ?_⟩
    · rw [List.singleton_append, srt_cons]
      refine ⟨fun z hz => ?_, s1.2.1⟩
      rcases List.mem_cons.1 hz with rfl | hz
      · omega
      · have := (srt_cons.1 s1.2.1).1 z hz; omega
    · intro p hp z hz
      rcases List.mem_append.1 hz with hz | hz
      · simp at hz; subst hz; exact s2.2.2 p hp _ (by simp)
      · exact s1.2.2 p hp z hz

theorem MI.done {A B R A1 B1 : List Int} (h : MI A B R A1 B1) (he : A1 = [] ∨ B1 = []) : (R ++ (A1 ++ B1)) ~ (A ++ B) ∧ (Srt A → Srt B → Srt (R ++ (A1 ++ B1))) := by
  refine ⟨h.1, fun h1 h2 => ?_⟩
  obtain ⟨s1, s2⟩ := h.2 h1 h2
  rcases he with rfl | rfl
  · simpa using s2
  · simpa using s1

/-! ### The insertion -/
/-- The inner loop's list: P1, a stale cell, P2 (all above v), the rest. -/
def II (P v S : List Int) (x : Int) (X : List Int) (j : Nat) : Prop := ∃ P1 P2 : List Int, X = P1 ++ x :: (P2 ++ S) ∧ P1.length = j ∧ P1 ++ P2 = P ∧ v.length = 1 ∧ ∀ p ∈ P2, ∀ u ∈ v, u < p

theorem II.start (P S : List Int) (u : Int) : II P [u] S u (P ++ u :: S) P.length := ⟨P, [], by simp, rfl, by simp, rfl, fun p hp => by simp at hp⟩

theorem II.len {P v S X : List Int} {x : Int} {j : Nat} (h : II P v S x X j) : X.length = P.length + 1 + S.length ∧ j ≤ P.length := by
  obtain ⟨P1, P2, rfl, rfl, rfl, _, _⟩ := h
  simp; omega

/-- The cell ahead of j is above u: it moves on. -/
theorem II.step {P S X : List Int} {x u : Int} {j : Nat} (h : II P [u] S x X (j + 1)) (hu : u < X.getD j 0) : II P [u] S (X.getD j 0) (X.set (j + 1) (X.getD j 0)) j := by
  obtain ⟨P1, P2, rfl, hl, rfl, hv, hp⟩ := h
  obtain ⟨Q, p, rfl⟩ : ∃ Q p, P1 = Q ++ [p] := by
    rcases List.eq_nil_or_concat P1 with rfl | ⟨Q, p, rfl⟩
    · simp at hl
    · exact ⟨Q, p, by simp⟩
  have hq : Q.length = j := by simpa using hl
  subst hq
  have e : ((Q ++ [p]) ++ x :: (P2 ++ S)).getD Q.length 0 = p := by simp [List.getD]
  rw [e] at hu ⊢
  refine ⟨Q, p :: P2, ?_, rfl, by simp, hv, ?_⟩
  · rw [List.set_append_right _ _ (by simp)]
    simp
  · intro z hz w hw
    simp at hw; subst hw
    rcases List.mem_cons.1 hz with rfl | hz
    · exact hu
    · exact hp z hz _ (by simp)

/-- The place is found: u goes there. -/
theorem II.stop {P S X : List Int} {x u : Int} {j : Nat} (h : II P [u] S x X j) (hP : Srt P) (hj : j = 0 ∨ ∃ i, j = i + 1 ∧ ¬ u < X.getD i 0) :
    (X.set j u) ~ (P ++ u :: S) ∧ Srt ((X.set j u).take (P.length + 1)) ∧ (X.set j u).length = P.length + 1 + S.length := by
  obtain ⟨P1, P2, rfl, rfl, rfl, hv, hp⟩ := h
  have e : (P1 ++ x :: (P2 ++ S)).set P1.length u = P1 ++ u :: (P2 ++ S) := by
    rw [List.set_append_right _ _ (Nat.le_refl _)]; simp
  rw [e]
  refine ⟨?_, ?_, by simp; omega⟩
  · refine (List.perm_middle).trans (List.Perm.trans ?_ (List.perm_middle).symm)
    simp
  · have e2 : (P1 ++ u :: (P2 ++ S)).take ((P1 ++ P2).length + 1) = P1 ++ u :: P2 := by
      have : P1 ++ u :: (P2 ++ S) = (P1 ++ u :: P2) ++ S := by simp
      rw [this, List.take_append_of_le_length (by simp; omega), List.take_of_length_le (by simp; omega)]
    rw [e2]
    rw [srt_app] at hP ⊢
    have h2 : ∀ z ∈ P1, z ≤ u := by
      rcases hj with h0 | ⟨i, hi, hu⟩
      · have : P1 = [] := List.eq_nil_of_length_eq_zero h0
        subst this; intro z hz; simp at hz
      · obtain ⟨Q, p, rfl⟩ : ∃ Q p, P1 = Q ++ [p] := by
          rcases List.eq_nil_or_concat P1 with rfl | ⟨Q, p, rfl⟩
          · simp at hi
          · exact ⟨Q, p, by simp⟩
        have hq : Q.length = i := by simpa using hi
        subst hq
        have e3 : ((Q ++ [p]) ++ x :: (P2 ++ S)).getD Q.length 0 = p := by simp [List.getD]
        rw [e3] at hu
        intro z hz
        rcases List.mem_append.1 hz with hz | hz
        · have := (srt_app.1 hP.1).2.2 z hz p (by simp); omega
        · simp at hz; omega
    refine ⟨hP.1, ?_, ?_⟩
    · rw [srt_cons]
      exact ⟨fun z hz => by have := hp z hz u (by simp); omega, hP.2.1⟩
    · intro z hz q hq
      rcases List.mem_cons.1 hq with rfl | hq
      · exact h2 z hz
      · exact hP.2.2 z hz q hq

end Go.Proofs.Qxb6619318a
