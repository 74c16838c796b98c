/-
  A table that came in; zzBytes (25).
-/
import Derived.Test.Qxb6619318aSet
import Derived.ProofKit
import Derived.OpenShut
import Derived.ShutString
import Derived.ChangeOld
import Derived.Below
import Derived.WalkSmall
namespace Go.Proofs.Qxb6619318a
open Go.RowKit

/-- A table of words that came in by value: its cells are numbers. -/
theorem open_table {H : Type} {enc : TypeId × Value → H} {w : World} {base : Nat} {sp : Nat → Bool} {held : Bool} {cs : Array Value} {d : DataW H} {p : List MemPlace}
    (hsz : cs.size = 1024) (h : DataW.Trod enc Try.prog w base sp held 29 (.agg cs) d p) :
    ∃ zs : List Int, zs.length = 1024 ∧ cs = (zs.map (Value.int .u64)).toArray ∧ ∀ n ∈ zs, (Lit.int .u64 n).wf = true := by
  obtain ⟨fuel, hf⟩ := h
  obtain ⟨xs, m, _, _, _, hl, hel⟩ := DataW.trod_array Try.underlying29 hf
  have c28 : Try.prog.cellsOf 28 = 1 := by kernel_rfl
  have key : ∀ i, i < 1024 → ∃ n, cs[i]? = some (.int .u64 n) ∧ (Lit.int .u64 n).wf = true := by
    intro i hi
    have h1 := hel i hi
    rw [c28, Nat.mul_one] at h1
    obtain ⟨x, hx⟩ : ∃ x, xs[i]? = some x := ⟨xs[i], by simp [hl, hi]⟩
    rw [hx] at h1
    obtain ⟨n, e1, _, hw⟩ := DataW.trod_int Try.underlying28 h1
    refine ⟨n, ?_, hw⟩
    have hcs : (Value.agg cs).cells.toList = cs.toList := rfl
    rw [hcs] at e1
    have := congrArg (·[0]?) e1
    simpa [List.getElem?_drop, List.getElem?_take] using this
  obtain ⟨N, hN⟩ : ∃ N : Nat, N = 1024 := ⟨_, rfl⟩
  rw [← hN] at hsz key ⊢
  clear hN hel hl hf
  refine ⟨(List.range N).map fun i => intOf (cs[i]?.getD undef), by simp, ?_, ?_⟩
  · apply Array.ext
    · simp [hsz]
    · intro i h1 h2
      obtain ⟨n, hn, _⟩ := key i (by rw [← hsz]; exact h1)
      have e : cs[i] = .int .u64 n := by simpa [h1] using hn
      simp [hn, intOf, e]
  · intro n hn
    obtain ⟨i, hi, rfl⟩ := List.mem_map.1 hn
    obtain ⟨n, hn, hw⟩ := key i (by simpa using hi)
    rw [hn]; exact hw

theorem Tab.mk' {w : World} {b o : Nat} {zs : List Int} {C : Array Value} {t : TypeId} {fr : Nat × Nat} (hl : zs.length = 1024) (hw : ∀ n ∈ zs, (Lit.int .u64 n).wf = true)
    (hb : w.heap[b]? = some (.cells C t fr)) (hC : ∀ j, j < 1024 → C[o + j]? = (zs.map (Value.int .u64)).toArray[j]?) : Tab w b o zs := by
  refine ⟨fun j => ?_, fun j hj => ?_⟩
  · by_cases h : j < zs.length
    · have := bounds_u64 (hw (zs.getD j 0) (by simp [List.getD, h]))
      exact this
    · simp [List.getD, Nat.not_lt.1 h]
  · rw [cell_of_row w b (o + j) C t fr hb, hC j hj]
    simp [List.getD, hl, hj]
set_option maxHeartbeats 400000 in
theorem bytes25 (cs : Array Value) (p t : ByteArray) (f : Int) (w : World) (hp : p.size + t.size ≤ 1048576) :
    Calls Try.prog 25 #[.agg cs, .string p, .string t, .int .i64 f] w fun e w' => e = .returned (.bool true) ∧ w' = w.alloc (.cells cs 29) := by
  go_enter Try.func25, Try.ntmps25
  go_wp2
  go_ret
  exact ⟨rfl, rfl⟩
set_option maxHeartbeats 400000 in
theorem bytes25_no (cs : Array Value) (p t : ByteArray) (f : Int) (w : World) (h1 : p.size ≤ maxLen) (h2 : t.size ≤ maxLen) (hp : 1048576 < p.size + t.size) :
    Calls Try.prog 25 #[.agg cs, .string p, .string t, .int .i64 f] w fun e w' => e = .returned (.bool false) ∧ w' = w.alloc (.cells cs 29) := by
  unfold maxLen at h1 h2
  by_cases h3 : 1048576 < p.size
  · go_enter Try.func25, Try.ntmps25
    go_wp2
    go_ret
    exact ⟨rfl, rfl⟩
  · by_cases h4 : 1048576 < t.size
    · go_enter Try.func25, Try.ntmps25
      go_wp2
      go_ret
      exact ⟨rfl, rfl⟩
    · go_enter Try.func25, Try.ntmps25
      go_wp2
      go_ret
      exact ⟨rfl, rfl⟩
end Go.Proofs.Qxb6619318a
