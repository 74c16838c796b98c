/-
  ZZMerge (13), zzBytes of the two merge laws (15, 9).
-/
import Derived.Test.Qxb6619318aConcat
namespace Go.Proofs.Qxb6619318a
open Go.RowKit

set_option maxHeartbeats 400000 in
theorem zmerge_any (v av bv : Value) (X A B : List Int) (base : Nat) (w : World) (hown : Own w base v X) (hA : Sl w base av A) (hB : Sl w base bv B) (hbase : base ≤ w.heap.size) (hn : X.length + A.length + B.length ≤ 1000000000) :
    Calls Try.prog 13 #[v, av, bv] w fun e w' => ∃ v' R, e = .returned v' ∧ Own w' base v' (X ++ R) ∧ List.Perm R (A ++ B) ∧ (Srt A → Srt B → Srt R) ∧ Below base w w' := by
  go_enter Try.func13, Try.ntmps13
  go_wp2_with fail
  refine (merge_any v av bv X A B base _ hown hA hB hbase hn).mono ?_
  rintro e w' ⟨v', R, rfl, h⟩
  go_wp2
  go_ret
  exact ⟨v', R, rfl, h⟩

set_option maxHeartbeats 400000 in
theorem bytes15 (a b c : Option Addr) (la lb lc ca cb cc : Nat) (w : World) (h : la + lb + lc ≤ 1048576) :
    Calls Try.prog 15 #[.slice a la ca, .slice b lb cb, .slice c lc cc] w fun e w' => e = .returned (.bool true) ∧ w' = w := by
  go_enter Try.func15, Try.ntmps15
  go_wp2
  go_ret
  exact ⟨rfl, rfl⟩
set_option maxHeartbeats 400000 in
theorem bytes9 (a b c : Option Addr) (la lb lc ca cb cc : Nat) (w : World) (h : la + lb + lc ≤ 1048576) :
    Calls Try.prog 9 #[.slice a la ca, .slice b lb cb, .slice c lc cc] w fun e w' => e = .returned (.bool true) ∧ w' = w := by
  go_enter Try.func9, Try.ntmps9
  go_wp2
  go_ret
  exact ⟨rfl, rfl⟩
theorem five {la lb lc : Nat} (h : 1048576 < la + lb + lc) : 1048576 < la ∨ (la ≤ 1048576 ∧ 1048576 < lb) ∨ (la ≤ 1048576 ∧ lb ≤ 1048576 ∧ 1048576 < la + lb) ∨ (la + lb ≤ 1048576 ∧ 1048576 < lc) ∨ (la + lb ≤ 1048576 ∧ lc ≤ 1048576 ∧ 1048576 < la + lb + lc) := by omega
set_option maxHeartbeats 1000000 in
theorem bytes15_no (a b c : Option Addr) (la lb lc ca cb cc : Nat) (w : World) (h1 : la ≤ 9223372036854775807) (h2 : lb ≤ 9223372036854775807) (h3 : lc ≤ 9223372036854775807) (h : 1048576 < la + lb + lc) :
    Calls Try.prog 15 #[.slice a la ca, .slice b lb cb, .slice c lc cc] w fun e w' => e = .returned (.bool false) ∧ w' = w := by
  rcases five h with h4 | ⟨h4, h5⟩ | ⟨h4, h5, h6⟩ | ⟨h4, h5⟩ | ⟨h4, h5, h6⟩
  all_goals
    go_enter Try.func15, Try.ntmps15
    go_wp2
    go_ret
    exact ⟨rfl, rfl⟩
set_option maxHeartbeats 1000000 in
theorem bytes9_no (a b c : Option Addr) (la lb lc ca cb cc : Nat) (w : World) (h1 : la ≤ 9223372036854775807) (h2 : lb ≤ 9223372036854775807) (h3 : lc ≤ 9223372036854775807) (h : 1048576 < la + lb + lc) :
    Calls Try.prog 9 #[.slice a la ca, .slice b lb cb, .slice c lc cc] w fun e w' => e = .returned (.bool false) ∧ w' = w := by
  rcases five h with h4 | ⟨h4, h5⟩ | ⟨h4, h5, h6⟩ | ⟨h4, h5⟩ | ⟨h4, h5, h6⟩
  all_goals
    go_enter Try.func9, Try.ntmps9
    go_wp2
    go_ret
    exact ⟨rfl, rfl⟩
end Go.Proofs.Qxb6619318a
