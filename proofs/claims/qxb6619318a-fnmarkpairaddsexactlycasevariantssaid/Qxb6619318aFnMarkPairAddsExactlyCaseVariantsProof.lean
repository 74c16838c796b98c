/-
  'Rows.FnMarkPairAddsExactlyCaseVariantsSaid' PROVED: the walk (Qxb6619318aAdds) lifted to the row. The frame is the guide's own way (the shells of this seat) at this function's number and types; the first argument is an array by value.
-/
import Derived.Test.Qxb6619318aAdds
import Derived.Test.Qxb6619318aWitness
namespace Go.Proofs.Qxb6619318a.fnMarkPairAddsExactlyCaseVariants
open Go.ChangeShapes Go.WideShapes Go.ChangeAt Go.RowKit
open Go.ChangeMaps (open_string shut_string)
set_option linter.unusedVariables false

theorem own : ownKnob Try.prog.godebug = none := by kernel_rfl
theorem laidOut : laidOutB Try.prog = true := by kernel_rfl
/-- One input that fits. -/
def wit : Input := ⟨#[], #[.agg (tab0 1024), .int .i64 0, .int .u8 0, .int .u8 0], []⟩
theorem wit_v (os : Os) : (World.plainHolding Try.checked.prog os wit).variablesB Try.checked.prog = true := by kernel_rfl
theorem wit_r (os : Os) : ((World.plainHolding Try.checked.prog os wit).heap.toList.drop Try.checked.prog.globals.size).take ((begin Try.checked.prog (fun _ _ => 0) default).world.heap.size - Try.checked.prog.globals.size) =
      (begin Try.checked.prog (fun _ _ => 0) default).world.heap.toList.drop Try.checked.prog.globals.size := by kernel_rfl
theorem wit_ok (w : World) (base : Nat) : Input.okWide Try.prog w .any base 5 ⟨#[], wit.args, []⟩ := by
  refine ⟨by simp, by simp, by kernel_rfl, Try.f5, Try.func5, by kernel_rfl, by kernel_rfl, by kernel_rfl, by kernel_rfl, ?_⟩
  intro j t v hj hv
  rw [Try.params5] at hj
  match j, hj, hv with
  | 0, hj, hv => cases hj; cases hv; exact ok29 w .any base
  | 1, hj, hv => cases hj; cases hv; exact okWide_int_mk (W' := w) Try.underlying3 (by decide)
  | 2, hj, hv => cases hj; cases hv; exact okWide_int_mk (W' := w) Try.underlying5 (by decide)
  | 3, hj, hv => cases hj; cases hv; exact okWide_int_mk (W' := w) Try.underlying5 (by decide)
  | j + 4, hj, hv => simp at hj
theorem wit_whole (w : World) (H : Type) (enc : TypeId × Value → H) : DataW.Whole enc Try.prog Try.f5.params.toList [] false w wit.args.toList
    [.agg (List.replicate 1024 (.lit (.int .u64 0))), .lit (.int .i64 0), .lit (.int .u8 0), .lit (.int .u8 0)] [] [] := by
  rw [Try.params5]
  refine ⟨[], [], ?_, rfl, rfl, ?_, fun h => by cases h⟩
  · exact trodAll_cons_mk (trod29 enc w 0 _ _) (trodAll_cons_mk (shut_int Try.underlying3 (by decide)) (trodAll_cons_mk (shut_int Try.underlying5 (by decide)) (trodAll_cons_mk (shut_int Try.underlying5 (by decide)) trodAll_mk0)))
  · intro b o h; cases h

set_option maxRecDepth 100000 in
theorem lifted (os : Os) (started : os.Started) (H : Type) (enc : TypeId × Value → H) :
    ReturnsInHanded {} Try.checked os 5 .any (Rows.fnMarkPairAddsExactlyCaseVariantsSpec.pre6 enc Try.prog Try.f5 Rows.fnMarkPairAddsExactlyCaseVariantsRow.domain false) (Rows.fnMarkPairAddsExactlyCaseVariantsSpec.post enc Try.prog Try.f5 false true false false) := by
  refine returnsInHanded_of_change (C := Try.checked) own started (by kernel_rfl) Try.func5
    ⟨World.holding Try.checked.prog os wit, fun _ _ => 0, ⟨#[], wit.args, []⟩, rfl, World.shaped_of_B (wit_v os) (wit_r os), rfl, wit_ok _ _, ⟨⟨_, _, _, wit_whole _ H enc, rfl⟩, by kernel_rfl, _, _, _, wit_whole _ H enc, ?_⟩, by
      simp [Assume.holds]⟩ ?_
  · have hw : DataW.weightsEach (H := H) Try.prog ([29, 3, 5, 5] ++ []) ([.agg (List.replicate 1024 (.lit (.int .u64 0))), .lit (.int .i64 0), .lit (.int .u8 0), .lit (.int .u8 0)] ++ []) = [] := by
      simp only [List.append_nil, DataW.weightsEach, weights29]
      rfl
    show (DataW.weightsEach (H := H) Try.prog ([29, 3, 5, 5] ++ []) ([.agg (List.replicate 1024 (.lit (.int .u64 0))), .lit (.int .i64 0), .lit (.int .u8 0), .lit (.int .u8 0)] ++ [])).all _ = true
    rw [hw]; rfl
  intro W base args ds gs before hval0 hW hcnd _
  have hval : ∀ (j : Nat) t v, Try.f5.params[j]? = some t → args[j]? = some v → Value.okWide Try.prog W .any base t v := hval0
  have hW' := hW
  obtain ⟨p, q, hA0, hV, rfl, hfz, hnd⟩ := hW
  have hA : DataW.TrodAll enc Try.prog W 0 (fun _ => true) true Try.f5.params.toList args.toList ds p := hA0
  rw [Try.params5] at hA hval
  obtain ⟨v0, vs0, d0, ds0, p0, q0, hargs, rfl, rfl, h0, r0⟩ := trodAll_cons hA
  obtain ⟨v1, vs1, d1, ds1, p1, q1, rfl, rfl, rfl, h1, r1⟩ := trodAll_cons r0
  obtain ⟨v2, vs2, d2, ds2, p2, q2, rfl, rfl, rfl, h2, r2⟩ := trodAll_cons r1
  obtain ⟨v3, vs3, d3, ds3, p3, q3, rfl, rfl, rfl, h3, r3⟩ := trodAll_cons r2
  obtain ⟨rfl, rfl, rfl⟩ := trodAll_nil r3
  obtain rfl : args = #[v0, v1, v2, v3] := by cases args; simp_all
  obtain ⟨rfl, rfl⟩ := trodVars_none hV
  obtain ⟨cs, rfl, hsz, _⟩ : ∃ cs, v0 = .agg cs ∧ cs.size = Try.prog.cellsOf 29 ∧ Row.okWide Try.prog W .any base 29 cs := by
    have := hval 0 29 v0 rfl rfl
    unfold Value.okWide at this
    rw [Try.underlying29] at this
    exact this
  rw [cells29] at hsz
  have k0 := h0
  have lt0 : ∀ x ∈ p0, x.block < W.heap.size := by obtain ⟨m, hm⟩ := k0; exact DataW.trod_lt m _ _ _ hm
  obtain ⟨zs, z1, z2, z3⟩ := open_table hsz h0
  obtain ⟨a1, rfl, rfl, rfl, w1⟩ := open_int Try.underlying3 (hval 1 3 v1 rfl rfl) h1
  obtain ⟨a2, rfl, rfl, rfl, w2⟩ := open_int Try.underlying5 (hval 2 5 v2 rfl rfl) h2
  obtain ⟨a3, rfl, rfl, rfl, w3⟩ := open_int Try.underlying5 (hval 3 5 v3 rfl rfl) h3
  clear hA0 hval0
  have hT : Tb zs := ⟨z1, fun j => by
    by_cases h : j < zs.length
    · exact bounds_u64 (z3 (zs.getD j 0) (by simp [List.getD, h]))
    · simp [List.getD, Nat.not_lt.1 h]⟩
  have b1 := bounds_i64 w1
  have b2 := bounds_u8 w2
  have b3 := bounds_u8 w3
  have hwalk := walk5 zs a1 a2 a3 W hT b1.1 b1.2 b2.1 b2.2 b3.1 b3.2
  rw [show cellsZ zs = cs from z2.symm] at hwalk
  refine hwalk.mono fun e W' ⟨he, bel⟩ => ?_
  subst he
  exact ⟨_, rfl, _, _, _, [], _, [], hW', trodAll_mk1 (shut_bool Try.underlying4 _), (trodAll_cons_mk (Below.trod laidOut (by kernel_rfl) (of_decide_eq_true (by kernel_rfl)) k0 bel lt0) (trodAll_cons_mk (shut_int Try.underlying3 w1) (trodAll_cons_mk (shut_int Try.underlying5 w2) (trodAll_cons_mk (shut_int Try.underlying5 w3) trodAll_mk0)))), rfl, bel.frame _, fun h => by cases h⟩

theorem over : Rows.fnMarkPairAddsExactlyCaseVariantsRow.holds Try.pinned (OpenSpec.ofChange Rows.fnMarkPairAddsExactlyCaseVariantsSpec) :=
  OpenClaim.holds_of_wide 5 Try.f5 rfl rfl rfl rfl rfl rfl rfl ⟨rfl, rfl, rfl, rfl, rfl⟩ rfl rfl rfl rfl rfl (by kernel_rfl) Try.func5 (by kernel_rfl)
    (of_decide_eq_true (by kernel_rfl)) (by unfold Func.isWrapper; first | (rw [if_pos (by decide +kernel)]; kernel_rfl) | (rw [if_neg (by decide +kernel)]; exact ⟨rfl, rfl⟩))
    (fun os started H enc _ => lifted os started H enc)

/-- THE STATEMENT -/
theorem proved : Rows.FnMarkPairAddsExactlyCaseVariantsSaid := over
#print axioms proved
end Go.Proofs.Qxb6619318a.fnMarkPairAddsExactlyCaseVariants
