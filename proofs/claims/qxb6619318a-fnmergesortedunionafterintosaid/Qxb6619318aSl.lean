/-
  A SLICE OF INTS AS THE MERGE LAWS NEED IT: 'Sl w B v zs': the value v is a slice whose elements are zs, in blocks below B (or it is empty).
-/
import Derived.Test.Qxb6619318aRows
import Derived.Test.Qxb6619318aLists
import Derived.WalkKit
import Derived.WalkSmall
import Derived.WalkSpells
import Derived.Laws.AppendOwnNone
import Derived.Laws.CopyOwn
import Derived.Deep.AppendLies
import Derived.Deep.QuietTactic
import Derived.BigQuiet
namespace Go.Proofs.Qxb6619318a
open Go.RowKit

theorem info3 : (Try.prog.info? 3).map (fun i => (i.zero, i.size, i.bytes)) = some (some (.int .i64 0), 1, 8) := by kernel_rfl

def Sl (w : World) (B : Nat) (v : Value) (zs : List Int) : Prop :=
  ∃ (ao : Option Addr) (l c : Nat), v = .slice ao l c ∧ zs.length = l ∧ l ≤ c ∧ c ≤ maxLen ∧ (ao = none → c = 0) ∧
    (0 < l → ∃ b o, ao = some ⟨b, o, none⟩ ∧ b < B ∧ ∀ i, i < l → w.cell? ⟨b, o + i, none⟩ = some (.int .i64 (zs.getD i 0)))

theorem Sl.nil (w : World) (B : Nat) : Sl w B (.slice none 0 0) [] := ⟨none, 0, 0, rfl, rfl, Nat.le_refl _, Nat.zero_le _, fun _ => rfl, fun h => by omega⟩

theorem Sl.below {w w' : World} {B : Nat} {v : Value} {zs : List Int} (h : Sl w B v zs) (hb : Below B w w') : Sl w' B v zs := by
  obtain ⟨ao, l, c, rfl, h1, h2, h3, h4, h5⟩ := h
  refine ⟨ao, l, c, rfl, h1, h2, h3, h4, fun h => ?_⟩
  obtain ⟨b, o, rfl, hlt, hc⟩ := h5 h
  exact ⟨b, o, rfl, hlt, fun i hi => by rw [hb.cell (p := ⟨b, o + i, none⟩) hlt]; exact hc i hi⟩

theorem Sl.mono {w : World} {B B' : Nat} {v : Value} {zs : List Int} (h : Sl w B v zs) (hB : B ≤ B') : Sl w B' v zs := by
  obtain ⟨ao, l, c, rfl, h1, h2, h3, h4, h5⟩ := h
  refine ⟨ao, l, c, rfl, h1, h2, h3, h4, fun h => ?_⟩
  obtain ⟨b, o, rfl, hlt, hc⟩ := h5 h
  exact ⟨b, o, rfl, by omega, hc⟩

theorem Sl.drewN {w : World} {B : Nat} {v : Value} {zs : List Int} (h : Sl w B v zs) (n : Nat) : Sl (w.drewN n) B v zs := h.below (below_drewN (Below.refl _ _) n)

/-- What the call owns. -/
abbrev Own (w : World) (base : Nat) (v : Value) (zs : List Int) : Prop := w.ownsRow base 3 1 v zs.length (zs.map (Value.int .i64))

theorem Sl.ofOwn {w : World} {base : Nat} {v : Value} {zs : List Int} (h : Own w base v zs) : Sl w w.heap.size v zs := by
  rcases h.2 with ⟨rfl, h0⟩ | ⟨g, cap, cur, rfl, hb, hg, hn, hm, hs, ht⟩
  · have : zs = [] := List.eq_nil_of_length_eq_zero h0
    subst this; exact Sl.nil _ _
  · refine ⟨some ⟨g, 0, none⟩, zs.length, cap, rfl, rfl, hn, hm, (fun h => by cases h), fun hl => ⟨g, 0, rfl, (Array.getElem?_eq_some_iff.1 hg).1, fun i hi => ?_⟩⟩
    rw [Nat.zero_add, World.ownsRow.cellAt h i (by omega)]
    simp [List.getD, hi]

/-- 'a[1:]'. -/
theorem Sl.tail {w : World} {B b o l c : Nat} {x : Int} {zs : List Int} (h : Sl w B (.slice (some ⟨b, o, none⟩) l c) (x :: zs)) (ao : Option Addr) (hao : c ≠ 1 → ao = some ⟨b, o + 1, none⟩) (hn : ao ≠ none) :
    Sl w B (.slice ao (l - 1) (c - 1)) zs := by
  obtain ⟨_, _, _, hv, h1, h2, h3, h4, h5⟩ := h
  cases hv
  simp only [List.length_cons] at h1
  obtain ⟨b', o', hbo, hlt, hc⟩ := h5 (by omega)
  simp only [Option.some.injEq, Addr.mk.injEq, and_true] at hbo
  obtain ⟨rfl, rfl⟩ := hbo
  refine ⟨ao, l - 1, c - 1, rfl, by omega, by omega, by omega, fun h => absurd h hn, fun hl => ⟨b, o + 1, hao (by omega), hlt, fun i hi => ?_⟩⟩
  have := hc (i + 1) (by omega)
  rw [show o + 1 + i = o + (i + 1) from by omega, this]
  simp [List.getD]

/-- The first element's cell. -/
theorem Sl.head {w : World} {B : Nat} {v : Value} {x : Int} {zs : List Int} (h : Sl w B v (x :: zs)) :
    ∃ b o l c, v = .slice (some ⟨b, o, none⟩) l c ∧ zs.length + 1 = l ∧ l ≤ c ∧ c ≤ maxLen ∧ b < B ∧ w.cell? ⟨b, o, none⟩ = some (.int .i64 x) := by
  obtain ⟨ao, l, c, rfl, h1, h2, h3, h4, h5⟩ := h
  simp only [List.length_cons] at h1
  obtain ⟨b, o, rfl, hlt, hc⟩ := h5 (by omega)
  exact ⟨b, o, l, c, rfl, h1, h2, h3, hlt, by simpa using hc 0 (by omega)⟩

/-- 'append(out, xs...)', out the call's own, xs a slice of ints (nil too). -/
theorem wpList_append_sl {w : World} {ops : Array Oper} {rest : List Oper} {o : Oper} {a : Act} {Q : Exit → Act → World → Prop} (hgd : o.guard = none) (s x : Operand)
    (ho : o.op = .call { callee := .builtin .append, args := #[s, x], argTypes := #[22, 22] })
    (base : Nat) (v : Value) (xs : List Int) (hs : a.eval s = v) (hown : Own w base v xs) (B : Nat) (u : Value) (zs : List Int) (hx : a.eval x = u) (hsl : Sl w B u zs)
    (hbd : (xs.length + zs.length) * 8 ≤ 140737488355328) (hbase : base ≤ w.heap.size)
    (h : ∀ v' w', Own w' base v' (xs ++ zs) → w.grownBy w' v.ownBlock → wpList Try.prog ops Q rest (a.put o.dst v') w') : wpList Try.prog ops Q (o :: rest) a w := by
  obtain ⟨i0, hi, hz0, hz1, hz2⟩ := info_parts info3
  obtain ⟨ao, l, c, rfl, h1, h2, h3, h4, h5⟩ := hsl
  cases ao with
  | none =>
    obtain rfl := h4 rfl
    obtain rfl : l = 0 := by omega
    have : zs = [] := List.eq_nil_of_length_eq_zero h1
    subst this
    refine wpList_append_own_none hgd s x 22 ho base 3 i0 1 Try.underlying22 hi v _ _ hs hown hx ?_
    exact h v w (by simpa using hown) (World.grownBy.refl _ _)
  | some ad =>
    refine wpList_append_own w hgd s x 22 ho base 3 i0 (.int .i64 0) 1 8 Try.underlying22 hi hz0 hz1 hz2 rfl (by omega) v _ _ hs hown ad l c (zs.map (Value.int .i64)) hx (by simp [h1]) ?_ (ints_oneCell _ _) ?_ ?_ hbase ?_
    · intro j q hq
      have hj : j < l := by have := (List.getElem?_eq_some_iff.1 hq).1; simpa [h1] using this
      obtain ⟨b, o', hbo, _, hc⟩ := h5 (by omega)
      cases hbo
      rw [Addr.add_lit, hc j hj, ← hq]
      simp [List.getD, h1, hj]
    · unfold maxLen; omega
    · rw [← h1]; exact hbd
    · intro v' w' h6 h7 _
      refine h v' w' ?_ h7
      unfold Own
      rw [List.length_append, List.map_append, h1]
      exact h6
end Go.Proofs.Qxb6619318a
