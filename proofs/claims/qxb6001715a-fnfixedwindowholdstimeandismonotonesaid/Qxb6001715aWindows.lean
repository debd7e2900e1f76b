/-
  THE WINDOWS: the plain laws of (Fixed).window and (Rolling).start. Integers alone.
-/
import Derived.Test.Qxb6001715aPlain
namespace Go.Proofs.Qxb6001715a.Plain
open Go.RowKit

/-- The number of the window of width v that holds t; the time at which that window ends. -/
def wnum (v t : Int) : Int := t / v
def wend (v t : Int) : Int := (t / v + 1) * v

theorem wend_eq (v t : Int) : wend v t = t / v * v + v := by unfold wend; rw [Int.add_mul]; omega
theorem wnum_mul (v t : Int) : wnum v t * v = wend v t - v := by rw [wend_eq]; unfold wnum; omega
theorem wend_lo {v : Int} (t : Int) (hv : 0 < v) : t < wend v t := by
  have h1 := Int.mul_ediv_add_emod t v
  have h2 := Int.emod_lt_of_pos t hv
  rw [Int.mul_comm] at h1
  rw [wend_eq]; omega
theorem wend_hi {v : Int} (t : Int) (hv : 0 < v) : wend v t ≤ t + v := by
  have h1 := Int.mul_ediv_add_emod t v
  have h2 := Int.emod_nonneg t (show v ≠ 0 by omega)
  rw [Int.mul_comm] at h1
  rw [wend_eq]; omega
/-- Who lies in the window has its number and its end. -/
theorem wnum_in {v : Int} (t s : Int) (hv : 0 < v) (h1 : wend v t - v ≤ s) (h2 : s < wend v t) : wnum v s = wnum v t := by
  rw [wend_eq] at h1 h2
  have e : t / v * v + v = (t / v + 1) * v := by rw [Int.add_mul]; omega
  have a : t / v ≤ s / v := (Int.le_ediv_iff_mul_le hv).2 (by omega)
  have b : s / v < t / v + 1 := (Int.ediv_lt_iff_lt_mul hv).2 (by omega)
  unfold wnum
  omega
theorem wend_of_wnum {v s t : Int} (h : wnum v s = wnum v t) : wend v s = wend v t := by
  unfold wnum at h; unfold wend; rw [h]
theorem wnum_next {v : Int} (t : Int) (hv : 0 < v) : wnum v (wend v t) = wnum v t + 1 := by
  unfold wnum wend; exact Int.mul_ediv_cancel _ (by omega)
theorem wend_next {v : Int} (t : Int) (hv : 0 < v) : wend v (wend v t) = wend v t + v := by
  have := wnum_next t hv
  rw [wend_eq]
  unfold wnum at this
  rw [this, wend_eq, Int.add_mul]; omega
theorem wnum_mono {v s t : Int} (hv : 0 < v) (h : s ≤ t) : wnum v s ≤ wnum v t := Int.ediv_le_ediv hv h
theorem wend_mono {v s t : Int} (hv : 0 < v) (h : s ≤ t) : wend v s ≤ wend v t := by
  unfold wend
  exact Int.mul_le_mul_of_nonneg_right (by have := Int.ediv_le_ediv hv h; omega) (by omega)
theorem wnum_lo {v : Int} (t : Int) (hv : 0 < v) (h : -2305843009213693952 ≤ t) : -2305843009213693952 ≤ wnum v t := ediv_lo hv (by omega) h

/-- The start of the bucket of width v that holds t. -/
def wstart (v t : Int) : Int := t / v * v
theorem wstart_eq (v t : Int) : wstart v t = wend v t - v := by rw [wend_eq]; unfold wstart; omega
theorem wstart_again {v : Int} (t : Int) (hv : 0 < v) : wstart v (wstart v t) = wstart v t := by
  unfold wstart; rw [Int.mul_ediv_cancel _ (by omega)]
theorem wstart_mono {v s t : Int} (hv : 0 < v) (h : s ≤ t) : wstart v s ≤ wstart v t := by
  rw [wstart_eq, wstart_eq]; have := wend_mono hv h; omega
/-- The bucket's width: at least 1 where there are no more buckets than microseconds; at most the window's. -/
theorem width_pos {m b : Int} (hb : 0 < b) (h : b ≤ m) : 1 ≤ m / b := (Int.le_ediv_iff_mul_le hb).2 (by omega)

end Go.Proofs.Qxb6001715a.Plain
