/-
  ZZMarkPair (18), ZZPairBits (20), ZZPairs (19), and 'var x [1024]uint64'.
-/
import Derived.Test.Qxb6619318aMark
import Derived.Test.Qxb6619318aTable
import Derived.Test.Qxb6619318aWitness
import Derived.Deep.WholeRow
namespace Go.Proofs.Qxb6619318a
open Go.RowKit

set_option maxHeartbeats 400000 in
theorem zmark_any (g : Nat) (f l : Int) (s : List Int × Int) (w : World) (f0 : 0 ≤ f) (f1 : f ≤ 255) (l0 : 0 ≤ l) (l1 : l ≤ 255) (h : PS w g s) :
    Calls Try.prog 18 #[.pointer (some ⟨g, 0, none⟩), .int .u8 f, .int .u8 l] w fun e w' => e = .returned (.tuple #[]) ∧ (∃ s', PS w' g s' ∧ Mk s s' (Vr f l)) ∧ w.grownBy w' (some g) := by
  go_enter Try.func18, Try.ntmps18
  go_wp2_with fail
  refine (mark_any g f l s _ f0 f1 l0 l1 h).mono ?_
  rintro e w' ⟨rfl, hq⟩
  go_wp2
  go_end0
  exact ⟨rfl, hq⟩

set_option maxHeartbeats 400000 in
theorem zbits_any (g : Nat) (s : List Int × Int) (w : World) (h : PS w g s) :
    Calls Try.prog 20 #[.pointer (some ⟨g, 0, none⟩)] w fun e w' => e = .returned (.int .i64 s.2) ∧ w' = w := by
  have c30 := h.num
  clear h
  go_enter Try.func20, Try.ntmps20
  go_wp2
  go_ret
  exact ⟨rfl, rfl⟩

/-- The zero of the table's type: 1,024 noughts. -/
theorem zero29s : (Try.prog.info? 29).bind (fun i => i.zero.map (·.cells.size)) = some 1024 := by kernel_rfl
def isNought : Value → Bool
  | .int .u64 (.ofNat 0) => true
  | _ => false
def allN : List Value → Bool
  | [] => true
  | v :: r => if isNought v = true then allN r else false
theorem zero29a : (Try.prog.info? 29).bind (fun i => i.zero.map (fun z => allN z.cells.toList)) = some true := by kernel_rfl
theorem isNought_eq (v : Value) (h : isNought v = true) : v = .int .u64 0 := by
  unfold isNought at h
  split at h
  · rfl
  · cases h
theorem allN_rep : ∀ l : List Value, allN l = true → l = List.replicate l.length (.int .u64 0)
  | [], _ => rfl
  | v :: r, h => by
    unfold allN at h
    split at h
    · rename_i hv
      rw [List.length_cons, List.replicate_succ, ← allN_rep r h, isNought_eq v hv]
    · cases h

theorem zero29 : ∃ z, (Try.prog.info? 29).bind (fun i => i.zero) = some z ∧ z.cells = tab0 1024 := by
  have h1 := zero29s
  have h2 := zero29a
  simp only [Option.bind_eq_some_iff, Option.map_eq_some_iff] at h1 h2
  obtain ⟨i, hi, z, hz, hs⟩ := h1
  obtain ⟨i', hi', z', hz', ha⟩ := h2
  rw [hi] at hi'
  cases hi'
  rw [hz] at hz'
  cases hz'
  refine ⟨z, by rw [hi]; exact hz, ?_⟩
  have h := allN_rep _ ha
  rw [Array.length_toList, hs] at h
  unfold tab0
  rw [← Array.toList_inj, h, Array.toList_replicate]

theorem wpList_alloc29 {w : World} {ops : Array Oper} {rest : List Oper} {o : Oper} {a : Act} {Q : Exit → Act → World → Prop} (hgd : o.guard = none) (ho : o.op = .alloc 29)
    (h : wpList Try.prog ops Q rest (a.put o.dst (.pointer (some ⟨w.heap.size, 0, none⟩))) (w.alloc (.cells (tab0 1024) 29))) : wpList Try.prog ops Q (o :: rest) a w := by
  refine wpList_plain hgd fun K hK => ?_
  obtain ⟨z, hz, hc⟩ := zero29
  have hr : (Instr.alloc 29 true (.tuple #[])).run Try.prog w = .ok (.pointer (some ⟨w.heap.size, 0, none⟩)) (w.alloc (.cells (tab0 1024) 29)) := by
    cases hi : Try.prog.info? 29 with
    | none => rw [hi] at hz; cases hz
    | some i =>
      rw [hi] at hz
      have hz' : i.zero = some z := hz
      simp [Instr.alloc, zeroValue, typeInfo, hi, hz', newVar, newRow, go_sem]
      show w.alloc (.cells z.cells 29) = _
      rw [hc]
  unfold Oper.wp
  simp only [execOp, ho, Sem.run_bind, hr, Result.andThen_ok]
  exact hK _ _ h


/-- The table as cells. -/
def cellsZ (zs : List Int) : Array Value := (zs.map (Value.int .u64)).toArray
theorem cellsZ_size {zs : List Int} (h : Tb zs) : (cellsZ zs).size = 1024 := by unfold cellsZ; simp [h.1]
theorem cellsZ_one (zs : List Int) : (cellsZ zs).all (·.oneCell') = true := all_oneCell_toArray (ints_oneCell _ _)
theorem PS.range {w : World} {g : Nat} {s : List Int × Int} (h : PS w g s) : w.rangeAt g 6 (s.1.map (Value.int .u64)) := by
  intro j v hv
  have hj : j < s.1.length := by have := (List.getElem?_eq_some_iff.1 hv).1; simpa using this
  rw [h.cell j (by rw [← h.tb.1]; exact hj), ← hv]
  simp [List.getD, hj]

set_option maxHeartbeats 400000 in
theorem zpairs_any (g : Nat) (s : List Int × Int) (w : World) (h : PS w g s) :
    Calls Try.prog 19 #[.pointer (some ⟨g, 0, none⟩)] w fun e w' => e = .returned (.agg (cellsZ s.1)) ∧ w' = w.alloc (.cells (cellsZ s.1) 29) := by
  have HR : Hid ((w.alloc (.cells (tab0 1024) 29)).rangeAt g 6 (s.1.map (Value.int .u64))) := World.rangeAt_alloc h.range _
  have HS : Hid (s.1.length = 1024) := h.tb.1
  have HC : Hid ((cellsZ s.1).size = 1024) := cellsZ_size h.tb
  clear h
  go_enter Try.func19, Try.ntmps19
  go_wp2_with (first
    | (refine wpList_alloc29 rfl rfl ?_)
    | (refine wpList_load_mid rfl 29 _ rfl g 6 rfl (s.1.map (Value.int .u64)) _ HR.out Try.underlying29 rfl (by rw [Try.size29, List.length_map, HS.out]) ?_)
    | (refine wpList_store_row rfl 29 _ _ rfl w.heap.size (cellsZ s.1) rfl rfl 29 (tab0 1024) (heap_alloc_new _ _) (by rw [Try.size29, HC.out]) (by rw [HC.out]; unfold tab0; rw [Array.size_replicate]) (cellsZ_one _) ?_))
  rw [World.setRow_alloc_new]
  exact bodyPost_ret (v := .agg (cellsZ s.1)) (results_cell_row Try.results19 _ _ w.heap.size 29 (cellsZ s.1) (0, 0) _ rfl (heap_alloc_new _ _) Try.underlying29 rfl (by rw [Try.size29, HC.out])) rfl ⟨rfl, rfl⟩
end Go.Proofs.Qxb6619318a
