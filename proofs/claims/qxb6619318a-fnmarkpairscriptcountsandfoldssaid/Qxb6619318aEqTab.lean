/-
  The '!=' between two tables that are one.
-/
import Derived.Test.Qxb6619318aPairsOf
namespace Go.Proofs.Qxb6619318a
open Go.RowKit

theorem guard29 : Try.prog.eqGuardType Try.prog.depth 29 = false := by kernel_rfl

theorem run_part28 (w : World) (cs : Array Value) (i : Nat) (v : Value) (h : cs[i]? = some v) : (part 28 cs i).run Try.prog w = .ok v w := by
  have ha : (isAgg 28).run Try.prog w = .ok false w := by
    unfold isAgg
    rw [Sem.run_bind, run_underlying Try.underlying28 w]
    rfl
  simp only [part, Sem.run_bind, ha, Result.andThen_ok]
  simp [h]

theorem run_equal28 (w : World) (d : Nat) (n : Int) : (Op.equalIn (d + 1) 28 (.int .u64 n) (.int .u64 n)).run Try.prog w = .ok true w := by
  simp [Op.equalIn, run_underlying Try.underlying28]

theorem size28 : (Try.prog.info? 28).map (·.size) = some 1 := by kernel_rfl
theorem run_equal29 (w : World) (e : Nat) (he : ∀ (w : World) (n : Int), (Op.equalIn e 28 (.int .u64 n) (.int .u64 n)).run Try.prog w = .ok true w) (zs : List Int) (h : zs.length = 1024) :
    (Op.equalIn (e + 1) 29 (.agg (cellsZ zs)) (.agg (cellsZ zs))).run Try.prog w = .ok true w := by
  have hs : (sizeOf 28).run Try.prog w = .ok 1 w := by
    have := size28
    cases hi : Try.prog.info? 28 with
    | none => rw [hi] at this; cases this
    | some i =>
      rw [hi] at this
      simp at this
      simp [sizeOf, typeInfo, hi, this]
  simp only [Op.equalIn, Sem.run_bind, run_underlying Try.underlying29, Result.andThen_ok, hs]
  rw [Std.Legacy.Range.forIn_eq_forIn_range']
  have hr : ∀ i ∈ List.range' ([:1024] : Std.Legacy.Range).start ([:1024] : Std.Legacy.Range).size ([:1024] : Std.Legacy.Range).step, i < 1024 := by
    intro i hi
    simp [Std.Legacy.Range.size] at hi
    omega
  generalize List.range' _ _ _ = l at *
  induction l with
  | nil => simp
  | cons i l ih =>
    have hi : i < 1024 := hr i (by simp)
    have hv : (cellsZ zs)[i * 1]? = some (.int .u64 (zs.getD i 0)) := by
      unfold cellsZ
      simp [List.getD, h, hi]
    simp only [List.forIn_cons, Sem.run_bind, run_part28 w _ _ _ hv, Result.andThen_ok, he, Bool.not_true, Bool.false_eq_true, if_false, Sem.run_pure]
    exact ih (fun k hk => hr k (by simp [hk]))

theorem run_neq29 (w : World) (zs : List Int) (h : zs.length = 1024) : (binOp .neq 29 (.agg (cellsZ zs)) (.agg (cellsZ zs))).run Try.prog w = .ok (.bool false) w := by
  simp only [binOp, Op.equal, Op.maxDepth, Sem.run_bind, run_equal29 w 9999 (fun w n => run_equal28 w 9998 n) zs h, Result.andThen_ok, Sem.run_pure, Bool.not_true]

/-- '!=' between two tables that are one. -/
theorem wpList_neq29 {w : World} {ops : Array Oper} {rest : List Oper} {o : Oper} {a : Act} {Q : Exit → Act → World → Prop} (hgd : o.guard = none) (x y : Operand) (r : TypeId) (ho : o.op = .binOp .neq 29 x y r)
    (c : Array Value) (hx : a.eval x = .agg c) (hy : a.eval y = .agg c) (zs : List Int) (hz : zs.length = 1024) (hc : c = cellsZ zs)
    (h : wpList Try.prog ops Q rest (a.put o.dst (.bool false)) w) : wpList Try.prog ops Q (o :: rest) a w := by
  subst hc
  refine wpList_plain hgd fun K hK => ?_
  unfold Oper.wp
  simp only [execOp, ho, Sem.run_bind, hx, hy, run_eqGuard_agg (P := Try.prog) w .neq 29 x y _ _ guard29, run_neq29 w zs hz, Result.andThen_ok]
  exact hK _ _ h
end Go.Proofs.Qxb6619318a
