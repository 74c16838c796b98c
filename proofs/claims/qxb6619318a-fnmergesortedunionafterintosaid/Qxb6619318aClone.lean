/-
  pfb1Clone (11), and the facts behind make and copy.
-/
import Derived.Test.Qxb6619318aMerge
namespace Go.Proofs.Qxb6619318a
open Go.RowKit

/-- Behind 'make([]int, n)': the new row, whole. -/
theorem made_row {w : World} {base g n : Nat} {xs : List Value} (h : w.ownsRow base 3 1 (.slice (some ⟨g, 0, none⟩) n n) n xs) : ∃ ys : List Value, ys.length = n ∧ w.heap[g]? = some (.cells ys.toArray 3 (0, 0)) := by
  have h1 := h.1
  rcases h.2 with ⟨h', _⟩ | ⟨g', cap', cur, h', _, hg, _, _, hs, ht⟩
  · simp at h'
  · simp only [Value.slice.injEq, Option.some.injEq, Addr.mk.injEq, and_true, true_and] at h'
    obtain ⟨rfl, rfl⟩ := h'
    refine ⟨xs, by simpa using h1, ?_⟩
    rw [hg, ← ht, List.take_of_length_le (by simp; omega)]

/-- Behind the copy: the row owns the elements. -/
theorem copied_own {w : World} {base g n : Nat} {xs : List Value} {zs : List Int} (hb : base ≤ g) (hx : xs.length = n) (hz : zs.length = n) (hm : n ≤ maxLen) (h : w.heap[g]? = some (.cells (splice xs 0 (zs.map (Value.int .i64))).toArray 3 (0, 0))) :
    Own w base (.slice (some ⟨g, 0, none⟩) n n) zs := by
  have e : splice xs 0 (zs.map (Value.int .i64)) = zs.map (Value.int .i64) := by
    unfold splice
    rw [List.take_zero, List.nil_append, List.drop_eq_nil_of_le (by simp; omega), List.append_nil]
  rw [e] at h
  subst hz
  refine ⟨by simp, .inr ⟨g, zs.length, (zs.map (Value.int .i64)).toArray, rfl, hb, h, Nat.le_refl _, hm, by simp, by rw [List.take_of_length_le (by simp)]⟩⟩

theorem copy_src {w : World} {B : Nat} {ao : Option Addr} {l c : Nat} {zs : List Int} {g : Nat} (h : Sl w B (.slice ao l c) zs) : 0 < (zs.map (Value.int .i64)).length → (some (⟨g, 0, none⟩ : Addr) = some ⟨g, 0, none⟩) ∧ ∃ ad, ao = some ad ∧ ∀ (j : Nat) v, (zs.map (Value.int .i64))[j]? = some v → w.cell? (ad.add j) = some v := by
  intro h0
  obtain ⟨_, _, _, hv, h1, h2, h3, h4, h5⟩ := h
  cases hv
  obtain ⟨b, o, rfl, _, hc⟩ := h5 (by simpa [h1] using h0)
  refine ⟨rfl, _, rfl, fun j q hq => ?_⟩
  have hj : j < l := by have := (List.getElem?_eq_some_iff.1 hq).1; simpa [h1] using this
  rw [Addr.add_lit, hc j hj, ← hq]
  simp [List.getD, h1, hj]

theorem size3 : (Try.prog.info? 3).map (·.size) = some 1 := by kernel_rfl

set_option maxHeartbeats 400000 in
theorem clone_any (v : Value) (zs : List Int) (B : Nat) (w : World) (h : Sl w B v zs) (hB : B ≤ w.heap.size) (hn : zs.length ≤ 1000000000) :
    Calls Try.prog 11 #[v] w fun e w' => ∃ v', e = .returned v' ∧ Own w' w.heap.size v' zs ∧ Below w.heap.size w w' := by
  obtain ⟨i0, hi, hz0, hz1, hz2⟩ := info_parts info3
  have hs := h
  obtain ⟨ao, l, c, rfl, h1, h2, h3, h4, h5⟩ := h
  have hq := fun (w : World) (a : Option Addr) (n c n' c' : Nat) => Lib.run_eql_slice_nil (P := Try.prog) w 22 3 a n c n' c' Try.underlying22
  cases ao with
  | none =>
    obtain rfl := h4 rfl
    obtain rfl : l = 0 := by omega
    have : zs = [] := List.eq_nil_of_length_eq_zero h1
    subst this
    clear h5 h4
    go_enter Try.func11, Try.ntmps11
    go_wp2
    go_ret
    exact ⟨_, rfl, World.ownsRow_nil _ _ _ _, Below.refl _ _⟩
  | some ad =>
    have HS : Hid (Sl w B (.slice (some ad) l c) zs) := hs
    have H1 : Hid (zs.length = l) := h1
    have hl : l ≤ 1000000000 := by omega
    unfold maxLen at h3
    clear hs h1 h4 h5 hn
    go_enter Try.func11, Try.ntmps11
    go_wp2_with (at_make; refine wpList_make_full _ rfl _ _ 22 rfl w.heap.size 3 i0 (.int .i64 0) 1 Try.underlying22 hi hz0 hz1 _ _ _ _ l rfl rfl rfl rfl (by rw [hz2]; omega) (by unfold maxLen; omega) (Nat.le_refl _) ?_)
    intro w1 ho1 hg1
    obtain ⟨xs, k1, k2⟩ := made_row ho1
    have hb1 : Below w.heap.size w w1 := (Below.refl _ _).grown hg1 (Nat.le_refl _) (fun k h => by cases h)
    clear ho1 hg1
    go_wp2_with (refine wpList_copy_splice rfl _ _ 22 22 rfl 3 Try.underlying22 size3 _ _ _ _ _ _ rfl rfl w.heap.size 0 xs 3 k2 (zs.map (Value.int .i64)) (by simp [H1.out]) (copy_src (HS.out.below (hb1.mono hB))) (by simp [H1.out, k1]) (ints_oneCell _ _) w.heap.size w hb1 (Nat.le_refl _) ?_; intro w2 HG2 hB2)
    go_wp2
    go_ret
    exact ⟨_, rfl, copied_own (Nat.le_refl _) k1 H1.out (by unfold maxLen; omega) HG2.out, hB2⟩
end Go.Proofs.Qxb6619318a
