/-
  THE CONTRACTS of floorDiv, millisecondsUp, microseconds and of the library's Truncate, Microseconds, with their exported twins.
-/
import Derived.Test.Qxb6001715aRows
import Derived.Test.Qxb6001715aPlain
import Derived.WalkKit
import Derived.WalkSpells
import Derived.RowKit3
namespace Go.Proofs.Qxb6001715a.Contracts
open Go.RowKit Plain

/-- What the walks know of a number of Go's int64. -/
def In64 (a : Int) : Prop := -9223372036854775808 ≤ a ∧ a ≤ 9223372036854775807
theorem in64_of_wf {a : Int} (h : (Lit.int .i64 a).wf = true) : In64 a := by
  simp [Lit.wf, IntKind.min, IntKind.max, IntKind.signed, IntKind.bits] at h
  exact ⟨by omega, by omega⟩
theorem ret_int {k : IntKind} {a b : Int} (h : a = b) : Ending.returned (.int k a) = .returned (.int k b) := by rw [h]

/-- allow5.floorDiv, b above nought: the floor; nothing in memory turns. -/
theorem floorDiv_any (a b : Int) (ha : In64 a) (hb0 : 0 < b) (hb1 : b ≤ 9223372036854775807) (w : World) :
    Calls Try.prog 18 #[.int .i64 a, .int .i64 b] w fun e w' => e = .returned (.int .i64 (a / b)) ∧ w = w' := by
  obtain ⟨a1, a2⟩ := ha
  have l0 := ediv_lo hb0 (by omega) a1
  have u0 := ediv_hi hb0 (by omega) a2
  by_cases h : a.tmod b < 0
  · have H : Hid (a.tdiv b - 1 = a / b) := tdiv_down hb0 h
    have l1 : -9223372036854775808 ≤ a.tdiv b - 1 := by rw [H.out]; exact l0
    have u1 : a.tdiv b ≤ 9223372036854775807 := by
      have : a / b < 0 := Int.ediv_neg_of_neg_of_pos (by have := Int.tmod_nonneg (a := a) b; omega) hb0
      have := H.out
      omega
    go_enter Try.func18, Try.ntmps18
    go_wp2
    go_ret
    exact ⟨ret_int H.out, rfl⟩
  · have H : Hid (a.tdiv b = a / b) := tdiv_same hb0 (by omega)
    have l1 : -9223372036854775808 ≤ a.tdiv b := by rw [H.out]; exact l0
    have u1 : a.tdiv b ≤ 9223372036854775807 := by rw [H.out]; exact u0
    go_enter Try.func18, Try.ntmps18
    go_wp2
    go_ret
    exact ⟨ret_int H.out, rfl⟩
/-- allow5.ZZfloorDiv. -/
theorem zzFloorDiv_any (a b : Int) (ha : In64 a) (hb0 : 0 < b) (hb1 : b ≤ 9223372036854775807) (w : World) :
    Calls Try.prog 11 #[.int .i64 a, .int .i64 b] w fun e w' => e = .returned (.int .i64 (a / b)) ∧ w = w' := by
  go_enter Try.func11, Try.ntmps11
  go_wp2_with (go_at_call 18; refine (floorDiv_any a b ha hb0 hb1 _).mono ?_; rintro e w' ⟨rfl, rfl⟩)
  go_ret
  exact ⟨rfl, rfl⟩

/-- time.Duration.Truncate, d not below nought, m above it. -/
theorem truncate_any (d m : Int) (h0 : 0 ≤ d) (h1 : d ≤ 9223372036854775807) (hm : 0 < m) (w : World) :
    Calls Try.prog 25 #[.int .i64 d, .int .i64 m] w fun e w' => e = .returned (.int .i64 (d - d % m)) ∧ w = w' := by
  have a := Int.emod_nonneg d (show m ≠ 0 by omega)
  have b : d % m ≤ d := emod_le_self h0 hm
  go_enter Try.func25, Try.ntmps25
  go_wp2
  go_ret
  exact ⟨rfl, rfl⟩

/-- time.Duration.Microseconds, d not below nought. -/
theorem micros_any (d : Int) (h0 : 0 ≤ d) (h1 : d ≤ 9223372036854775807) (w : World) :
    Calls Try.prog 26 #[.int .i64 d] w fun e w' => e = .returned (.int .i64 (d / 1000)) ∧ w = w' := by
  go_enter Try.func26, Try.ntmps26
  go_wp2
  go_ret
  exact ⟨rfl, rfl⟩

/-- allow5.millisecondsUp and ZZmillisecondsUp, d not below nought. -/
theorem millisUp_any (d : Int) (h0 : 0 ≤ d) (h1 : d ≤ 9223372036854775807) (w : World) :
    Calls Try.prog 19 #[.int .i64 d] w fun e w' => e = .returned (.int .i64 (msUp d)) ∧ w = w' := by
  by_cases c1 : d % 1000000 = 0
  · have C1 : (d - d % 1000000 == d) = true := by simp; omega
    go_enter Try.func19, Try.ntmps19
    go_wp2_with (go_at_call 25; refine (truncate_any d 1000000 h0 h1 (by omega) _).mono ?_; rintro e w' ⟨rfl, rfl⟩)
    go_ret
    exact ⟨ret_int (msUp_whole c1).symm, rfl⟩
  · have C1 : (d - d % 1000000 == d) = false := by simp; omega
    by_cases c2 : 9223372036853775807 < d - d % 1000000
    · go_enter Try.func19, Try.ntmps19
      go_wp2_with (go_at_call 25; refine (truncate_any d 1000000 h0 h1 (by omega) _).mono ?_; rintro e w' ⟨rfl, rfl⟩)
      go_ret
      exact ⟨ret_int (msUp_great c2).symm, rfl⟩
    · go_enter Try.func19, Try.ntmps19
      go_wp2_with (go_at_call 25; refine (truncate_any d 1000000 h0 h1 (by omega) _).mono ?_; rintro e w' ⟨rfl, rfl⟩)
      go_ret
      exact ⟨ret_int (msUp_next c1 (by omega)).symm, rfl⟩
theorem zzMillisUp_any (d : Int) (h0 : 0 ≤ d) (h1 : d ≤ 9223372036854775807) (w : World) :
    Calls Try.prog 12 #[.int .i64 d] w fun e w' => e = .returned (.int .i64 (msUp d)) ∧ w = w' := by
  go_enter Try.func12, Try.ntmps12
  go_wp2_with (go_at_call 19; refine (millisUp_any d h0 h1 _).mono ?_; rintro e w' ⟨rfl, rfl⟩)
  go_ret
  exact ⟨rfl, rfl⟩

/-- allow5.microseconds and ZZmicroseconds, us not below nought. -/
theorem microseconds_any (us : Int) (h0 : 0 ≤ us) (h1 : us ≤ 9223372036854775807) (w : World) :
    Calls Try.prog 20 #[.int .i64 us] w fun e w' => e = .returned (.int .i64 (usDur us)) ∧ w = w' := by
  by_cases c : 9223372036854775 < us
  · go_enter Try.func20, Try.ntmps20
    go_wp2
    go_ret
    exact ⟨ret_int (usDur_great c).symm, rfl⟩
  · go_enter Try.func20, Try.ntmps20
    go_wp2
    go_ret
    exact ⟨ret_int (usDur_fits (by omega)).symm, rfl⟩
theorem zzMicroseconds_any (us : Int) (h0 : 0 ≤ us) (h1 : us ≤ 9223372036854775807) (w : World) :
    Calls Try.prog 13 #[.int .i64 us] w fun e w' => e = .returned (.int .i64 (usDur us)) ∧ w = w' := by
  go_enter Try.func13, Try.ntmps13
  go_wp2_with (go_at_call 20; refine (microseconds_any us h0 h1 _).mono ?_; rintro e w' ⟨rfl, rfl⟩)
  go_ret
  exact ⟨rfl, rfl⟩

/-- (allow5.Rate).Interval and ZZinterval, N at least 1, Period not below nought: the receiver lies in a new block. -/
theorem interval_any (n p : Int) (hn : 1 ≤ n) (hn' : n ≤ 9223372036854775807) (h0 : 0 ≤ p) (h1 : p ≤ 9223372036854775807) (w : World) :
    Calls Try.prog 21 #[.agg #[.int .i64 n, .int .i64 p]] w fun e w' => e = .returned (.int .i64 (ivl n p)) ∧ Grown w w' := by
  unfold ivl
  have a : 0 ≤ p / n := Int.ediv_nonneg h0 (by omega)
  have b : p / n ≤ 9223372036854775807 := ediv_hi (by omega) (by omega) h1
  go_enter Try.func21, Try.ntmps21
  go_wp2_with (go_at_call 25; refine (truncate_any _ 1000 (by omega) (by omega) (by omega) _).mono ?_; rintro e w' ⟨rfl, rfl⟩)
  go_ret
  exact ⟨rfl, (Grown.refl _).alloc _ _⟩
theorem zzInterval_any (n p : Int) (hn : 1 ≤ n) (hn' : n ≤ 9223372036854775807) (h0 : 0 ≤ p) (h1 : p ≤ 9223372036854775807) (w : World) :
    Calls Try.prog 14 #[.int .i64 n, .int .i64 p] w fun e w' => e = .returned (.int .i64 (ivl n p)) ∧ Grown w w' := by
  go_enter Try.func14, Try.ntmps14
  go_wp2_with (go_at_call 21; refine (interval_any n p hn hn' h0 h1 _).mono ?_; rintro e w' ⟨rfl, hg⟩)
  go_ret
  exact ⟨rfl, hg⟩

end Go.Proofs.Qxb6001715a.Contracts
