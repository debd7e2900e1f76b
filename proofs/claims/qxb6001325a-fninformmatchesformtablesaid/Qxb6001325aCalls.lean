/-
  THE CONTRACTS of (Op).InForm and formCarries: each computes the plain table 'carries'.
-/
import Derived.Test.Qxb6001325aRows
import Derived.WalkKit
import Derived.WalkSpells
import Derived.RowKit3
namespace Go.Proofs.Qxb6001325a.Contracts
open Go.RowKit

/-- The table: forms 3 and 4 carry the ops 1 to 4; form 5 carries 1 to 6. -/
def carries (o f : Int) : Bool := (decide (1 ≤ o) && decide (o ≤ 4) && decide (3 ≤ f) && decide (f ≤ 5)) || (decide (5 ≤ o) && decide (o ≤ 6) && decide (f = 5))
theorem carries_yes {o f : Int} (h : (1 ≤ o ∧ o ≤ 4 ∧ 3 ≤ f ∧ f ≤ 5) ∨ (5 ≤ o ∧ o ≤ 6 ∧ f = 5)) : carries o f = true := by
  unfold carries; simp; omega
theorem carries_no {o f : Int} (h : ¬ ((1 ≤ o ∧ o ≤ 4 ∧ 3 ≤ f ∧ f ≤ 5) ∨ (5 ≤ o ∧ o ≤ 6 ∧ f = 5))) : carries o f = false := by
  unfold carries; simp; omega
theorem ret_bool {a b : Bool} (h : a = b) : Ending.returned (.bool a) = .returned (.bool b) := by rw [h]

/-- (statemachine.Op).InForm. -/
theorem inForm_any (o f : Int) (h0 : 0 ≤ o) (h1 : o ≤ 255) (w : World) :
    Calls Try.prog 6 #[.int .u8 o, .int .i64 f] w fun e w' => e = .returned (.bool (carries o f)) ∧ w = w' := by
  by_cases c1 : o < 1
  · go_enter Try.func6, Try.ntmps6
    go_wp2
    go_ret
    exact ⟨ret_bool (carries_no (by omega)).symm, rfl⟩
  by_cases c2 : 7 ≤ o
  · go_enter Try.func6, Try.ntmps6
    go_wp2
    go_ret
    exact ⟨ret_bool (carries_no (by omega)).symm, rfl⟩
  by_cases c3 : f < 3
  · go_enter Try.func6, Try.ntmps6
    go_wp2
    go_ret
    exact ⟨ret_bool (carries_no (by omega)).symm, rfl⟩
  by_cases c4 : 5 < f
  · go_enter Try.func6, Try.ntmps6
    go_wp2
    go_ret
    exact ⟨ret_bool (carries_no (by omega)).symm, rfl⟩
  by_cases c5 : o = 5
  · subst c5
    by_cases c6 : 5 ≤ f
    · go_enter Try.func6, Try.ntmps6
      go_wp2
      go_ret
      exact ⟨ret_bool (carries_yes (by omega)).symm, rfl⟩
    · go_enter Try.func6, Try.ntmps6
      go_wp2
      go_ret
      exact ⟨ret_bool (carries_no (by omega)).symm, rfl⟩
  by_cases c7 : o = 6
  · subst c7
    by_cases c6 : 5 ≤ f
    · go_enter Try.func6, Try.ntmps6
      go_wp2
      go_ret
      exact ⟨ret_bool (carries_yes (by omega)).symm, rfl⟩
    · go_enter Try.func6, Try.ntmps6
      go_wp2
      go_ret
      exact ⟨ret_bool (carries_no (by omega)).symm, rfl⟩
  have d5 : (o == 5) = false := by simp; omega
  have d6 : (o == 6) = false := by simp; omega
  go_enter Try.func6, Try.ntmps6
  go_wp2
  go_ret
  exact ⟨ret_bool (carries_yes (by omega)).symm, rfl⟩

/-- formCarries. -/
theorem formCarries_any (o f : Int) (h0 : 0 ≤ o) (h1 : o ≤ 255) (w : World) :
    Calls Try.prog 7 #[.int .u8 o, .int .i64 f] w fun e w' => e = .returned (.bool (carries o f)) ∧ w = w' := by
  have hf : f = 3 ∨ f = 4 ∨ f = 5 ∨ ((f == 3) = false ∧ (f == 4) = false ∧ (f == 5) = false) := by
    simp; omega
  have ho : o = 1 ∨ o = 2 ∨ o = 3 ∨ o = 4 ∨ o = 5 ∨ o = 6 ∨ ((o == 1) = false ∧ (o == 2) = false ∧ (o == 3) = false ∧ (o == 4) = false ∧ (o == 5) = false ∧ (o == 6) = false) := by
    simp; omega
  rcases hf with rfl | rfl | rfl | ⟨f3, f4, f5⟩ <;> rcases ho with rfl | rfl | rfl | rfl | rfl | rfl | ⟨o1, o2, o3, o4, o5, o6⟩
  all_goals
    go_enter Try.func7, Try.ntmps7
    go_wp2
    go_ret
    refine ⟨ret_bool ?_, rfl⟩
    first | rfl | (simp [carries] at *; try omega)

end Go.Proofs.Qxb6001325a.Contracts
