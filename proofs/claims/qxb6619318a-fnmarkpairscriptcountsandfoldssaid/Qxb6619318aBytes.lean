/-
  A SLICE OF BYTES THAT CAME IN; the table of bools; what the marks of a script come to.
-/
import Derived.Test.Qxb6619318aAdds
import Derived.Deep.RegionHeld3
namespace Go.Proofs.Qxb6619318a
open Go.RowKit

/-- A slice of bytes: its elements zs. -/
def Sb (w : World) (B : Nat) (ao : Option Addr) (l : Nat) (zs : List Int) : Prop :=
  zs.length = l ∧ (∀ i : Nat, 0 ≤ zs.getD i 0 ∧ zs.getD i 0 ≤ 255) ∧ ∀ i, i < l → ∃ b o, ao = some ⟨b, o, none⟩ ∧ b < B ∧ w.cell? ⟨b, o + i, none⟩ = some (.int .u8 (zs.getD i 0))

theorem Sb.below {w w' : World} {B l : Nat} {ao : Option Addr} {zs : List Int} (h : Sb w B ao l zs) (hb : Below B w w') : Sb w' B ao l zs :=
  ⟨h.1, h.2.1, fun i hi => by
    obtain ⟨b, o, rfl, hlt, hc⟩ := h.2.2 i hi
    exact ⟨b, o, rfl, hlt, by rw [hb.cell (p := ⟨b, o + i, none⟩) hlt]; exact hc⟩⟩

theorem Sb.ofRow {w : World} {a : Option Addr} {len cap : Nat} {zs : List Int}
    (h : (a = none ∧ len = 0 ∧ cap = 0 ∧ zs = []) ∨ ∃ x, a = some x ∧ len ≤ cap ∧ cap ≤ maxLen ∧ zs.length = cap ∧ (∀ i, i < zs.length → w.cell? (x.add i) = some (.int .u8 (zs.getD i 0))) ∧ ∀ n ∈ zs, (Lit.int .u8 n).wf = true) :
    Sb w w.heap.size a len (zs.take len) ∧ len ≤ 9223372036854775807 := by
  rcases h with ⟨rfl, rfl, rfl, rfl⟩ | ⟨x, rfl, h1, h2, h3, h4, h5⟩
  · exact ⟨⟨rfl, fun i => by simp [List.getD], fun i hi => by omega⟩, by omega⟩
  · unfold maxLen at h2
    refine ⟨⟨by rw [List.length_take]; omega, fun i => ?_, fun i hi => ?_⟩, by omega⟩
    · by_cases hi : i < (zs.take len).length
      · have : (zs.take len).getD i 0 ∈ zs := by
          have e : (zs.take len).getD i 0 = (zs.take len)[i] := by simp only [List.getD]; rw [List.getElem?_eq_getElem hi]; rfl
          rw [e]; exact List.mem_of_mem_take (List.getElem_mem hi)
        exact bounds_u8 (h5 _ this)
      · have e : (zs.take len).getD i 0 = 0 := by simp only [List.getD]; rw [List.getElem?_eq_none (Nat.not_lt.1 hi)]; rfl
        rw [e]; omega
    · have h0 := h4 0 (by omega)
      have hi' := h4 i (by omega)
      have hsp := World.cell?_spot h0
      obtain ⟨b, o, sp⟩ := x
      have : sp = none := by simpa [Addr.add] using hsp
      subst this
      refine ⟨b, o, rfl, ?_, ?_⟩
      · have := World.block_lt_of_cell? w _ h0
        simpa [Addr.add] using this
      · rw [Addr.add_lit] at hi'
        rw [hi']
        simp [List.getD, hi]

/-- The table of bools in block g. -/
structure Wt (w : World) (g : Nat) (V : Nat → Bool) : Prop where
  cell : ∀ q, q < 65536 → w.cell? ⟨g, q, none⟩ = some (.bool (V q))
  free : ∀ q, w.frozen? ⟨g, q, none⟩ = false

theorem Wt.other {w w' : World} {g : Nat} {V : Nat → Bool} {row : Option Nat} (h : Wt w g V) (hg : g < w.heap.size) (hr : w.grownBy w' row) (hne : some g ≠ row) : Wt w' g V := by
  have hb := hr.block g hg hne
  exact ⟨fun q hq => by rw [World.cell?_of_block (a := ⟨g, q, none⟩) hb]; exact h.cell q hq, fun q => by rw [World.frozen?_of_block (a := ⟨g, q, none⟩) hb]; exact h.free q⟩

theorem Wt.drewN {w : World} {g : Nat} {V : Nat → Bool} (h : Wt w g V) (n : Nat) : Wt (w.drewN n) g V := ⟨fun q hq => by simpa using h.cell q hq, fun q => by simpa using h.free q⟩

theorem Wt.set {w : World} {g : Nat} {V : Nat → Bool} (h : Wt w g V) (p : Nat) (hp : p < 65536) : Wt ((w.setCell ⟨g, p, none⟩ (.bool true)).drew) g (fun q => V q || decide (q = p)) := by
  refine ⟨fun q hq => ?_, fun q => ?_⟩
  · show (w.setCell ⟨g, p, none⟩ (.bool true)).cell? ⟨g, q, none⟩ = _
    by_cases e : q = p
    · subst e
      rw [World.cell?_setCell_same _ _ _ (h.cell q hq)]; simp
    · rw [World.cell?_setCell_other _ _ _ _ (by intro e'; exact e (congrArg Addr.off e').symm), h.cell q hq]
      simp [e]
  · show (w.setCell ⟨g, p, none⟩ (.bool true)).frozen? ⟨g, q, none⟩ = _
    rw [World.frozen?_setCell]; exact h.free q

/-- The pairs of the script's first k steps: as they are marked in the table of bools. -/
def wantTo (F L : List Int) : Nat → Nat → Bool
  | 0, _ => false
  | k + 1, q => wantTo F L k q || decide (q = pp (F.getD k 0) (L.getD k 0))
/-- .. and as the set takes them: each with its case variants. -/
def VrTo (F L : List Int) : Nat → Nat → Prop
  | 0, _ => False
  | k + 1, q => VrTo F L k q ∨ Vr (F.getD k 0) (L.getD k 0) q

/-- The set's bit is the table's, folded. -/
theorem want_Vr (F L : List Int) (bF : ∀ i : Nat, 0 ≤ F.getD i 0 ∧ F.getD i 0 ≤ 255) (bL : ∀ i : Nat, 0 ≤ L.getD i 0 ∧ L.getD i 0 ≤ 255) (q : Nat) (hq : q < 65536) :
    ∀ k : Nat, (∀ j, j < k → ¬ (65 ≤ F.getD j 0 ∧ F.getD j 0 ≤ 90) ∧ ¬ (65 ≤ L.getD j 0 ∧ L.getD j 0 ≤ 90)) → (wantTo F L k (pp (lo ((q : Int) % 256)) (lo ((q : Int) / 256))) = true ↔ VrTo F L k q)
  | 0, _ => by simp [wantTo, VrTo]
  | k + 1, h => by
    have ih := want_Vr F L bF bL q hq k (fun j hj => h j (by omega))
    have hk := h k (by omega)
    have f1 := bF k
    have l1 := bL k
    unfold wantTo VrTo
    rw [Bool.or_eq_true, ih, decide_eq_true_eq, ← fold_Vr f1.1 f1.2 l1.1 l1.2 hk.1 hk.2 q hq]
    have a := lo_bd ((q : Int) % 256) (by omega) (by omega)
    have b := lo_bd ((q : Int) / 256) (by omega) (by omega)
    unfold fold pp
    rw [Bool.and_eq_true, beq_iff_eq, beq_iff_eq]
    generalize lo ((q : Int) % 256) = x at *
    generalize lo ((q : Int) / 256) = y at *
    generalize F.getD k 0 = f at *
    generalize L.getD k 0 = l at *
    have : (x + y * 256).toNat = (f + l * 256).toNat ↔ x = f ∧ y = l := by omega
    rw [this]

theorem tb_zero (q : Nat) : tb (List.replicate 1024 0) q = false := by
  unfold tb
  have : (List.replicate 1024 (0 : Int)).getD (q / 64) 0 = 0 := by
    simp only [List.getD]
    rw [List.getElem?_replicate]
    split <;> rfl
  rw [this]; simp
theorem Tb_zero : Tb (List.replicate 1024 0) := by
  refine ⟨by rw [List.length_replicate], fun j => ?_⟩
  have : (List.replicate 1024 (0 : Int)).getD j 0 = 0 := by
    simp only [List.getD]
    rw [List.getElem?_replicate]
    split <;> rfl
  rw [this]; omega
theorem cells_zero : cellsZ (List.replicate 1024 0) = tab0 1024 := by
  unfold cellsZ tab0
  rw [List.map_replicate, ← Array.toList_inj]
  rw [Array.toList_replicate]
end Go.Proofs.Qxb6619318a
