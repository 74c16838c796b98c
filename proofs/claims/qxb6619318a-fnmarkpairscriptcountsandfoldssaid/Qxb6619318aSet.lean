/-
  ZZNewPairSet (17): the set's block, by the law on 'build'.
-/
import Derived.Test.Qxb6619318aNext
import Derived.Deep.MidRow
namespace Go.Proofs.Qxb6619318a
open Go.RowKit
theorem Try.size29 : (Try.prog.info? 29).map (·.size) = some 1024 := by kernel_rfl
theorem Try.zero52 : (Try.prog.info? 52).bind (fun i => i.zero.map (·.cells.size)) = some 1032 := by kernel_rfl
theorem Try.places52 : (match Try.prog.underlying 52 with | some (.struct fields) => fields.toList.mapM (fun f => (Try.prog.info? f.type).map fun i => (f.offset, i.size)) | _ => none) = some [(0, 1), (1, 1), (2, 1), (3, 1), (4, 1), (5, 1), (6, 1024), (1030, 1), (1031, 1)] := by kernel_rfl

theorem fold_set (xs : List Value) (off : Nat) : ∀ (k : Nat) (Z : Array Value), off + k + xs.length ≤ Z.size →
    ((xs.zipIdx k).foldl (fun cs (p : Value × Nat) => cs.setIfInBounds (off + p.2) p.1) Z).size = Z.size ∧
    (∀ j, j < xs.length → ((xs.zipIdx k).foldl (fun cs (p : Value × Nat) => cs.setIfInBounds (off + p.2) p.1) Z)[off + k + j]? = xs[j]?) ∧
    (∀ i, i < off + k ∨ off + k + xs.length ≤ i → ((xs.zipIdx k).foldl (fun cs (p : Value × Nat) => cs.setIfInBounds (off + p.2) p.1) Z)[i]? = Z[i]?) := by
  induction xs with
  | nil => intro k Z _; exact ⟨rfl, fun j hj => by simp at hj, fun i _ => rfl⟩
  | cons x xs ih =>
    intro k Z h
    simp only [List.length_cons] at h
    obtain ⟨h1, h2, h3⟩ := ih (k + 1) (Z.setIfInBounds (off + k) x) (by simp; omega)
    simp only [List.zipIdx_cons, List.foldl_cons]
    refine ⟨by rw [h1]; simp, fun j hj => ?_, fun i hi => ?_⟩
    · cases j with
      | zero => rw [h3 _ (by omega), Nat.add_zero, Array.getElem?_setIfInBounds, if_pos rfl, if_pos (by omega)]; rfl
      | succ j =>
        have := h2 j (by simpa using hj)
        rw [show off + k + (j + 1) = off + (k + 1) + j from by omega, this]; simp
    · simp only [List.length_cons] at hi
      rw [h3 i (by omega), Array.getElem?_setIfInBounds, if_neg (by omega)]

theorem built52 (cs : Array Value) (n : Int) (hcs : cs.size = 1024) : ∃ C : Array Value, Try.prog.built 52 [(6, .agg cs), (7, .int .i64 n)] = some C ∧ C.size = 1032 ∧ (∀ j, j < 1024 → C[6 + j]? = cs[j]?) ∧ C[1030]? = some (.int .i64 n) := by
  have hz := Try.zero52
  have hp := Try.places52
  rw [Try.underlying52] at hp
  simp only [Option.bind_eq_some_iff, Option.map_eq_some_iff] at hz
  obtain ⟨i, hi, z, hzz, hsz⟩ := hz
  unfold Program.built
  rw [hi, Try.underlying52]
  simp only [hzz] at *
  rw [hp]
  generalize hZ : z.cells = Z at *
  have hc : (Value.agg cs).cells = cs := rfl
  have hn : (Value.int .i64 n).cells = #[.int .i64 n] := rfl
  obtain ⟨f1, f2, f3⟩ := fold_set cs.toList 6 0 Z (by simp; omega)
  generalize hY : ((cs.toList.zipIdx 0).foldl (fun cs (p : Value × Nat) => cs.setIfInBounds (6 + p.2) p.1) Z) = Y at *
  have hY' : cs.zipIdx.foldl (fun cs (x : Value × Nat) => match x with | (c, j) => cs.setIfInBounds (6 + j) c) Z = Y := by
    rw [← hY, ← Array.foldl_toList, Array.toList_zipIdx]
  refine ⟨Y.setIfInBounds 1030 (.int .i64 n), ?_, ?_, ?_, ?_⟩
  · have e : cs.zipIdx.size = 1024 := by simp [hcs]
    have hY2 : Array.foldl (fun cs (x : Value × Nat) => cs.setIfInBounds (6 + x.2) x.1) Z cs.zipIdx 0 1024 = Y := by
      rw [← hY']
      conv => lhs; rw [← e]
    simp [Instr.fill, hc, hn, hcs, hY2, hZ]
    omega
  · simp; omega
  · intro j hj
    rw [Array.getElem?_setIfInBounds, if_neg (by omega)]
    have := f2 j (by simpa using by omega)
    simpa using this
  · rw [Array.getElem?_setIfInBounds, if_pos rfl, if_pos (by omega)]

theorem wpList_build {P : Program} {ops : Array Oper} {rest : List Oper} {o : Oper} {a : Act} {w : World} {Q : Exit → Act → World → Prop} (hgd : o.guard = none) (t : TypeId) (parts : Array (Nat × Operand)) (ho : o.op = .build t parts)
    (ps : List (Nat × Value)) (hps : (parts.map fun (i, x) => (i, a.eval x)).toList = ps) (C : Array Value) (hC : P.built t ps = some C)
    (h : wpList P ops Q rest (a.put o.dst (.agg C)) w) : wpList P ops Q (o :: rest) a w :=
  wpList_plain hgd fun _ hK => wp_build t parts ho (by rw [hps, hC]; rfl) (by rw [hps, hC]; exact hK _ _ h)

set_option maxHeartbeats 400000 in
theorem newset_any (cs : Array Value) (n : Int) (w : World) (hcs : cs.size = 1024) :
    Calls Try.prog 17 #[.agg cs, .int .i64 n] w fun e w' => e = .returned (.pointer (some ⟨w.heap.size + 1, 0, none⟩)) ∧
      ∃ C : Array Value, w' = (w.alloc (.cells cs 29)).alloc (.cells C 52) ∧ C.size = 1032 ∧ (∀ j, j < 1024 → C[6 + j]? = cs[j]?) ∧ C[1030]? = some (.int .i64 n) := by
  obtain ⟨C, hC, h1, h2, h3⟩ := built52 cs n hcs
  have H2 : Hid (∀ j, j < 1024 → C[6 + j]? = cs[j]?) := h2
  have H3 : Hid (C[1030]? = some (.int .i64 n)) := h3
  have H1 : Hid (C.size = 1032) := h1
  have HC : Hid (Try.prog.built 52 [(6, .agg cs), (7, .int .i64 n)] = some C) := hC
  have HS : Hid (cs.size = 1024) := hcs
  clear h1 h2 h3 hC hcs
  go_enter Try.func17, Try.ntmps17
  go_wp2_with (first
    | (refine wpList_load_row rfl 29 _ rfl w.heap.size rfl 29 cs (0, 0) _ (heap_alloc_new _ _) Try.underlying29 rfl (by rw [Try.size29, HS.out]) ?_)
    | (refine wpList_build rfl 52 #[(6, .tmp 5), (7, .tmp 6)] rfl [(6, .agg cs), (7, .int .i64 n)] (by simp [Act.eval]) C HC.out ?_))
  go_ret
  exact ⟨rfl, C, rfl, H1.out, H2.out, H3.out⟩
end Go.Proofs.Qxb6619318a
