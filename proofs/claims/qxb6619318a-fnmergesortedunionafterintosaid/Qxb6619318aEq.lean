/-
  pfb1Sorted (10), pfb1Equal (14).
-/
import Derived.Test.Qxb6619318aSl
namespace Go.Proofs.Qxb6619318a
open Go.RowKit

set_option maxHeartbeats 400000 in
theorem sorted_any (v : Value) (zs : List Int) (B : Nat) (w : World) (h : Sl w B v zs) (hn : zs.length ≤ 1000000000) :
    Calls Try.prog 10 #[v] w fun e w' => (∃ b, e = .returned (.bool b) ∧ (b = true → Srt zs)) ∧ ∃ q, w' = w.drewN q := by
  obtain ⟨ao, l, c, rfl, h1, h2, h3, h4, h5⟩ := h
  by_cases hl : l = 0
  · subst hl
    have : zs = [] := List.eq_nil_of_length_eq_zero h1
    subst this
    clear h5 h4 h1
    go_enter Try.func10, Try.ntmps10
    go_wp2
    refine wp_loop_rounds 1 ?_
    rw [rounds_succ]
    go_wp2
    go_ret
    exact ⟨⟨true, rfl, fun _ => srt_nil⟩, 0, rfl⟩
  obtain ⟨b, o, rfl, _, hc⟩ := h5 (by omega)
  have HC : Hid (∀ i, i < l → w.cell? ⟨b, o + i, none⟩ = some (.int .i64 (zs.getD i 0))) := hc
  have HL : Hid (zs.length = l) := h1
  have hl2 : l ≤ 1000000000 := by omega
  have hl0 : 1 ≤ l := by omega
  clear h4 h5 hc h1 hn hl
  go_enter Try.func10, Try.ntmps10
  go_wp2
  go_loopw [3] (fun i wr => ∃ k : Nat, 1 ≤ k ∧ k ≤ l ∧ i = .int .i64 k ∧ (∀ j, j + 1 < k → zs.getD j 0 ≤ zs.getD (j + 1) 0) ∧ ∃ q, wr = w.drewN q) (fun i _ => l - (intOf i).toNat)
  case atStart => exact ⟨1, Nat.le_refl _, hl0, rfl, fun j hj => by omega, 0, rfl⟩
  case round =>
    obtain ⟨k, hk1, hk2, rfl, ho, q, rfl⟩ := hrel
    have HO : Hid (∀ j, j + 1 < k → zs.getD j 0 ≤ zs.getD (j + 1) 0) := ho
    clear ho
    obtain ⟨m, rfl⟩ : ∃ m, k = m + 1 := ⟨k - 1, by omega⟩
    by_cases hlt : m + 1 < l
    · have e1 : (m : Int) < (l : Int) := by omega
      have e3 : (m : Int) + 1 < (l : Int) := by omega
      have e4 : IntKind.i64.wrap (m : Int) = (m : Int) := IntWalk.i64_in _ (by omega)
      have e5 : (0:Int) ≤ (m:Int) + 1 := by omega
      have c0 := HC.out m (by omega)
      have c1 := HC.out (m + 1) hlt
      obtain ⟨x, hx⟩ : ∃ x, x = zs.getD m 0 := ⟨_, rfl⟩
      obtain ⟨y, hy⟩ : ∃ y, y = zs.getD (m + 1) 0 := ⟨_, rfl⟩
      rw [← hx] at c0
      rw [← hy] at c1
      have HX : Hid (x = zs.getD m 0) := hx
      have HY : Hid (y = zs.getD (m + 1) 0) := hy
      clear hx hy
      go_wp2
      go_quiet (fail)
      clear e4
      go_wp2
      · go_ret
        exact ⟨⟨false, rfl, fun h => by cases h⟩, q + nq, by rw [World.drewN_drewN]⟩
      · go_roundw
        case rel =>
          refine ⟨m + 2, by omega, by omega, by go_num, ?_, _, rfl⟩
          intro j hj
          by_cases e : j = m
          · subst e; rw [← HX.out, ← HY.out]; omega
          · exact HO.out j (by omega)
        case measure => simp [intOf]; omega
    · go_wp2
      go_ret
      refine ⟨⟨true, rfl, fun _ => srt_adj zs (fun j hj => ?_)⟩, _, rfl⟩
      have := HL.out
      exact HO.out j (by omega)

set_option maxHeartbeats 400000 in
theorem equal_any (v u : Value) (xs ys : List Int) (B C : Nat) (w : World) (h : Sl w B v xs) (hu : Sl w C u ys) (hn : xs.length ≤ 1000000000) (hxy : xs = ys) :
    Calls Try.prog 14 #[v, u] w fun e w' => e = .returned (.bool true) ∧ ∃ q, w' = w.drewN q := by
  subst hxy
  obtain ⟨ao, l, c, rfl, h1, h2, h3, h4, h5⟩ := h
  obtain ⟨ao', l', c', rfl, h1', h2', h3', h4', h5'⟩ := hu
  have el : l' = l := by rw [← h1, ← h1']
  subst el
  by_cases hl : l' = 0
  · subst hl
    clear h5 h4 h1 h5' h4' h1'
    go_enter Try.func14, Try.ntmps14
    go_wp2
    refine wp_loop_rounds 1 ?_
    rw [rounds_succ]
    go_wp2
    go_ret
    exact ⟨rfl, 0, rfl⟩
  obtain ⟨b, o, rfl, _, hc⟩ := h5 (by omega)
  obtain ⟨b', o', rfl, _, hc'⟩ := h5' (by omega)
  have HC : Hid (∀ i, i < l' → w.cell? ⟨b, o + i, none⟩ = some (.int .i64 (xs.getD i 0))) := hc
  have HC' : Hid (∀ i, i < l' → w.cell? ⟨b', o' + i, none⟩ = some (.int .i64 (xs.getD i 0))) := hc'
  have hl2 : l' ≤ 1000000000 := by rw [← h1]; exact hn
  have hl0 : 1 ≤ l' := Nat.pos_of_ne_zero hl
  clear h4 h5 hc h4' h5' hc' h1' h1 hn hl
  go_enter Try.func14, Try.ntmps14
  go_wp2
  go_loopw [5] (fun i wr => ∃ k : Nat, k ≤ l' ∧ i = .int .i64 k ∧ ∃ q, wr = w.drewN q) (fun i _ => l' - (intOf i).toNat)
  case atStart => exact ⟨0, Nat.zero_le _, rfl, 0, rfl⟩
  case round =>
    obtain ⟨k, hk2, rfl, q, rfl⟩ := hrel
    by_cases hlt : k < l'
    · have e1 : (k : Int) < (l' : Int) := by omega
      have c0 := HC.out k hlt
      have c1 := HC'.out k hlt
      obtain ⟨x, hx⟩ : ∃ x, x = xs.getD k 0 := ⟨_, rfl⟩
      rw [← hx] at c0 c1
      clear hx
      go_wp2
      go_quiet (fail)
      go_wp2
      go_roundw
      case rel => exact ⟨k + 1, by omega, by go_num, _, rfl⟩
      case measure => simp [intOf]; omega
    · go_wp2
      go_ret
      exact ⟨rfl, _, rfl⟩
end Go.Proofs.Qxb6619318a
