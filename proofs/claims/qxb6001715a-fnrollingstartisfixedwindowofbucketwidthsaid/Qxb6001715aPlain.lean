/-
  THE PLAIN LAWS of this seat: integers alone, no Go in sight.
-/
import Derived.WalkKit
namespace Go.Proofs.Qxb6001715a.Plain
open Go.RowKit

/-! ### Go's quotient cuts toward nought; the floor is one less where the rest is below nought -/
theorem tdiv_down {a b : Int} (hb : 0 < b) (h : a.tmod b < 0) : a.tdiv b - 1 = a / b := by
  have h1 := Int.mul_tdiv_add_tmod a b
  have h2 := Int.mul_ediv_add_emod a b
  have h3 := Int.emod_nonneg a (show b ≠ 0 by omega)
  have h4 := Int.emod_lt_of_pos a hb
  have h5 : -b < a.tmod b := by have := Int.lt_tmod_of_pos a hb; omega
  have e : b * (a.tdiv b - 1 - a / b) = a % b - a.tmod b - b := by
    rw [Int.mul_sub, Int.mul_sub]; omega
  have u : a.tdiv b - 1 - a / b < 1 := by
    have : b * (a.tdiv b - 1 - a / b) < b * 1 := by omega
    exact Int.lt_of_mul_lt_mul_left this (by omega)
  have l : -1 < a.tdiv b - 1 - a / b := by
    have : b * (-1) < b * (a.tdiv b - 1 - a / b) := by omega
    exact Int.lt_of_mul_lt_mul_left this (by omega)
  omega

theorem tdiv_same {a b : Int} (hb : 0 < b) (h : 0 ≤ a.tmod b) : a.tdiv b = a / b := by
  have h1 := Int.mul_tdiv_add_tmod a b
  have h2 := Int.mul_ediv_add_emod a b
  have h3 := Int.emod_nonneg a (show b ≠ 0 by omega)
  have h4 := Int.emod_lt_of_pos a hb
  have h5 := Int.tmod_lt_of_pos a hb
  have e : b * (a.tdiv b - a / b) = a % b - a.tmod b := by
    rw [Int.mul_sub]; omega
  have u : a.tdiv b - a / b < 1 := by
    have : b * (a.tdiv b - a / b) < b * 1 := by omega
    exact Int.lt_of_mul_lt_mul_left this (by omega)
  have l : -1 < a.tdiv b - a / b := by
    have : b * (-1) < b * (a.tdiv b - a / b) := by omega
    exact Int.lt_of_mul_lt_mul_left this (by omega)
  omega

/-- A floor lies between the number and nought, or is -1 at the least. -/
theorem ediv_lo {a b m : Int} (hb : 0 < b) (hm : m ≤ 0) (h : m ≤ a) : m ≤ a / b := by
  have h0 : m ≤ m / b := by
    rw [Int.le_ediv_iff_mul_le hb]
    have := Int.mul_le_mul_of_nonpos_left hm (show (1 : Int) ≤ b by omega)
    omega
  exact Int.le_trans h0 (Int.ediv_le_ediv hb h)
theorem ediv_hi {a b m : Int} (hb : 0 < b) (hm : 0 ≤ m) (h : a ≤ m) : a / b ≤ m :=
  Int.le_trans (Int.ediv_le_ediv hb h) (Int.ediv_le_self b hm)

theorem emod_le_self {d m : Int} (h : 0 ≤ d) (hm : 0 < m) : d % m ≤ d := by
  have h2 := Int.mul_ediv_add_emod d m
  have h3 := Int.mul_nonneg (a := m) (b := d / m) (by omega) (Int.ediv_nonneg h (by omega))
  omega
/-! ### What millisecondsUp gives: d itself where it is whole or the next whole one would not fit; else the next whole one -/
def msUp (d : Int) : Int := if d % 1000000 = 0 ∨ 9223372036853775807 < d - d % 1000000 then d else d - d % 1000000 + 1000000
theorem msUp_whole {d : Int} (h : d % 1000000 = 0) : msUp d = d := by unfold msUp; rw [if_pos (.inl h)]
theorem msUp_great {d : Int} (h : 9223372036853775807 < d - d % 1000000) : msUp d = d := by unfold msUp; rw [if_pos (.inr h)]
theorem msUp_next {d : Int} (h : ¬ d % 1000000 = 0) (h' : d - d % 1000000 ≤ 9223372036853775807) : msUp d = d - d % 1000000 + 1000000 := by
  unfold msUp; rw [if_neg (by omega)]
/-- The facts on one number. -/
theorem msUp_ge (d : Int) : d ≤ msUp d := by unfold msUp; split <;> omega
theorem msUp_lt (d : Int) : msUp d - d < 1000000 := by unfold msUp; split <;> omega
theorem msUp_le {d : Int} (h : d ≤ 9223372036854775807) : msUp d ≤ 9223372036854775807 := by unfold msUp; split <;> omega
theorem msUp_mod {d : Int} (h : d ≤ 9223372036853775807) : msUp d % 1000000 = 0 := by unfold msUp; split <;> omega
/-- A second rounding changes nothing. -/
theorem msUp_twice {d : Int} : msUp (msUp d) = msUp d := by
  by_cases h : d % 1000000 = 0
  · rw [msUp_whole h, msUp_whole h]
  · by_cases h' : 9223372036853775807 < d - d % 1000000
    · rw [msUp_great h', msUp_great h']
    · rw [msUp_next h (by omega), msUp_whole (by omega)]
theorem msUp_mono {d1 d2 : Int} (h : d1 ≤ d2) : msUp d1 ≤ msUp d2 := by
  unfold msUp; split <;> split <;> omega
/-! ### What microseconds gives -/
def usDur (us : Int) : Int := if 9223372036854775 < us then 9223372036854775807 else us * 1000
theorem usDur_great {us : Int} (h : 9223372036854775 < us) : usDur us = 9223372036854775807 := by unfold usDur; rw [if_pos h]
theorem usDur_fits {us : Int} (h : us ≤ 9223372036854775) : usDur us = us * 1000 := by unfold usDur; rw [if_neg (by omega)]
theorem usDur_mono {a b : Int} (h : a ≤ b) : usDur a ≤ usDur b := by unfold usDur; split <;> split <;> omega

/-! ### The rest behind the floor, wraps and all -/
theorem rest_floor {a b : Int} (hb : 0 < b) (hb1 : b ≤ 9223372036854775807) : wrap64 (a - wrap64 (a / b * b)) = a % b := by
  have h2 := Int.mul_ediv_add_emod a b
  have h3 := Int.emod_nonneg a (show b ≠ 0 by omega)
  have h4 := Int.emod_lt_of_pos a hb
  rw [Int.mul_comm] at h2
  unfold wrap64
  omega

/-! ### What Interval gives: the period's share, cut to whole microseconds -/
def ivl (n p : Int) : Int := p / n - p / n % 1000
theorem ivl_facts {n p : Int} (hn : 1 ≤ n) (hn' : n ≤ 1048576) (h0 : 0 ≤ p) (h1 : p ≤ 4611686018427387904) :
    0 ≤ ivl n p ∧ ivl n p ≤ 4611686018427387904 ∧ ivl n p % 1000 = 0 ∧ 0 ≤ ivl n p * n ∧ ivl n p * n ≤ p ∧ p < (ivl n p + 1000) * n ∧ (ivl n p + 1000) * n ≤ 4611686019475963904 := by
  have hp : (0 : Int) < n := by omega
  have a : 0 ≤ p / n := Int.ediv_nonneg h0 (by omega)
  have b : p / n ≤ 4611686018427387904 := ediv_hi hp (by omega) h1
  have q0 : 0 ≤ ivl n p := by unfold ivl; omega
  have q1 : ivl n p ≤ p / n := by unfold ivl; omega
  have q2 : p / n + 1 ≤ ivl n p + 1000 := by unfold ivl; omega
  have e := Int.mul_ediv_add_emod p n
  have e0 := Int.emod_nonneg p (show n ≠ 0 by omega)
  have e1 := Int.emod_lt_of_pos p hp
  have m1 : ivl n p * n ≤ p / n * n := Int.mul_le_mul_of_nonneg_right q1 (by omega)
  have m2 : (p / n + 1) * n ≤ (ivl n p + 1000) * n := Int.mul_le_mul_of_nonneg_right q2 (by omega)
  have m3 : (p / n + 1) * n = p / n * n + n := by rw [Int.add_mul]; omega
  have m4 : (ivl n p + 1000) * n = ivl n p * n + 1000 * n := by rw [Int.add_mul]
  have m5 := Int.mul_nonneg q0 (show 0 ≤ n by omega)
  rw [Int.mul_comm] at e
  refine ⟨q0, by omega, by unfold ivl; omega, m5, by omega, by omega, by omega⟩

end Go.Proofs.Qxb6001715a.Plain
