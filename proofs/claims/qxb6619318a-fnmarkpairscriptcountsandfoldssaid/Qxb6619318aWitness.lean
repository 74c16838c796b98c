/-
  A WITNESS WITH A TABLE OF 1,024 WORDS BY VALUE: its form and its reading BY LAWS (the kernel's run over 1,024 cells wants more memory than the lid lets).
-/
import Derived.Test.Qxb6619318aRows
import Derived.WalkKit
import Derived.ProofKit
import Derived.OpenShut
import Derived.ShutString
namespace Go.Proofs.Qxb6619318a
open Go.ChangeShapes Go.WideShapes Go.ChangeAt Go.RowKit

/-- The table of noughts. -/
def tab0 (N : Nat) : Array Value := Array.replicate N (.int .u64 0)
theorem depth2 : Try.prog.depth = (Try.prog.depth - 2) + 2 := by kernel_rfl
theorem cells29 : Try.prog.cellsOf 29 = 1024 := by kernel_rfl
theorem cells28 : Try.prog.cellsOf 28 = 1 := by kernel_rfl

theorem types29 : Try.prog.cellTypes Try.prog.depth 29 = some (List.replicate 1024 28) := by
  rw [depth2]
  generalize Try.prog.depth - 2 = d
  simp only [Program.cellTypes, Try.underlying29, Try.underlying28, Option.map_some]
  generalize (1024 : Nat) = N
  congr 1
  induction N with
  | zero => rfl
  | succ N ih => rw [List.replicate_succ, List.flatten_cons, ih]; rfl

theorem ok28 (w : World) (r : Reach) (base : Nat) : Cell.okWide Try.prog w r base 28 (.int .u64 0) := by
  unfold Cell.okWide
  rw [Try.underlying28]
  show Cell.ok _ _ _ _ _ _
  unfold Cell.ok
  rw [Try.underlying28]
  exact ⟨rfl, by unfold IntKind.has; decide⟩

theorem ok29 (w : World) (r : Reach) (base : Nat) : Value.okWide Try.prog w r base 29 (.agg (tab0 1024)) := by
  unfold Value.okWide
  rw [Try.underlying29]
  refine ⟨tab0 1024, rfl, ?_, List.replicate 1024 28, types29, ⟨1, ?_⟩, ?_⟩
  · rw [cells29]; unfold tab0; rw [Array.size_replicate]
  · unfold tab0; rw [Array.size_replicate, List.length_replicate]
  · generalize hN : (1024 : Nat) = N
    have hpos : 0 < N := by omega
    clear hN
    intro i v hv
    unfold tab0 at hv
    rw [Array.getElem?_replicate] at hv
    rw [List.length_replicate]
    split at hv
    · cases hv
      refine ⟨28, ?_, ok28 w r base⟩
      rw [List.getElem?_replicate, if_pos (Nat.mod_lt _ hpos)]
    · cases hv

theorem mapM_const {α β : Type} (f : α → Option β) (x : β) : ∀ l : List α, (∀ a ∈ l, f a = some x) → l.mapM f = some (List.replicate l.length x)
  | [], _ => rfl
  | a :: l, h => by
    rw [List.mapM_cons, h a (by simp), mapM_const f x l (fun b hb => h b (by simp [hb]))]
    rfl

theorem trod29 {H : Type} (enc : TypeId × Value → H) (w : World) (base : Nat) (sp : Nat → Bool) (held : Bool) :
    DataW.Trod enc Try.prog w base sp held 29 (.agg (tab0 1024)) (.agg (List.replicate 1024 (.lit (.int .u64 0)))) [] := by
  refine ⟨2, ?_⟩
  have hc : (Value.agg (tab0 1024)).cells.toList = List.replicate 1024 (.int .u64 0) := by
    show (tab0 1024).toList = _
    unfold tab0; rw [Array.toList_replicate]
  rw [hc]
  unfold DataW.trod
  rw [Try.underlying29]
  simp only [cells29, cells28]
  generalize hN : (1024 : Nat) = N
  clear hN hc
  rw [if_pos (by rw [List.length_replicate])]
  rw [mapM_const _ (.lit (.int .u64 0), []) (List.range N) (fun i hi => ?_)]
  · rw [Option.map_some, List.length_range]
    congr 2
    · congr 1; rw [List.map_replicate]
    · induction N with
      | zero => rfl
      | succ N ih => rw [List.replicate_succ, List.flatMap_cons, ih]; rfl
  · have hi' : i < N := by simpa using hi
    have e : ((List.replicate N (Value.int .u64 0)).drop (i * 1)).take 1 = [.int .u64 0] := by
      rw [List.drop_replicate, List.take_replicate, show min 1 (N - i * 1) = 1 from by omega]; rfl
    rw [e]
    unfold DataW.trod
    rw [Try.underlying28]
    rfl

theorem weights29 {H : Type} : DataW.weights (H := H) Try.prog 29 (.agg (List.replicate 1024 (.lit (.int .u64 0)))) = [] := by
  unfold DataW.weights
  rw [Try.underlying29]
  simp only
  generalize (1024 : Nat) = N
  induction N with
  | zero => rfl
  | succ N ih =>
    rw [List.replicate_succ]
    unfold DataW.weightsAll
    rw [ih]; rfl
end Go.Proofs.Qxb6619318a
