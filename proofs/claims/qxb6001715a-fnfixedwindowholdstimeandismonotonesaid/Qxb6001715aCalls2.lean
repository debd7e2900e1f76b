/-
  THE CONTRACTS of (Fixed).window and (Rolling).start, with their exported twins.
-/
import Derived.Test.Qxb6001715aCalls
import Derived.Test.Qxb6001715aWindows
import Derived.Deep.QuietTactic
import Derived.BigQuiet
namespace Go.Proofs.Qxb6001715a.Contracts
open Go.RowKit Plain

theorem grown_drewN {W w' : World} (h : Grown W w') (n : Nat) : Grown W (w'.drewN n) := h

theorem grown_trans {a b c : World} (h : Grown a b) (k : Grown b c) : Grown a c :=
  ⟨World.keptBut_trans h.1 (World.keptBut_mono (fun _ f => f.elim) k.1), fun x => (k.2.1 x).trans (h.2.1 x), Nat.le_trans h.2.2 k.2.2⟩

/-- (allow5.Fixed).window and ZZFixedWindow: a window of 1000 to 2^50 nanoseconds, a time within 2^62. -/
theorem window_any (l n t : Int) (hn : 1000 ≤ n) (hn' : n ≤ 1125899906842624) (h0 : -4611686018427387904 ≤ t) (h1 : t ≤ 4611686018427387904) (w : World) :
    Calls Try.prog 23 #[.agg #[.int .i64 l, .int .i64 n], .int .i64 t] w fun e w' => e = .returned (.tuple #[.int .i64 (wnum (n / 1000) t), .int .i64 (wend (n / 1000) t)]) ∧ Grown w w' := by
  have v0 : 0 < n / 1000 := by omega
  have a := ediv_lo v0 (by omega) h0
  have b := ediv_hi v0 (by omega) h1
  have c := wend_lo t v0
  have d := wend_hi t v0
  unfold wend at c d
  unfold wend wnum
  go_enter Try.func23, Try.ntmps23
  go_wp2_with (first
    | (go_at_call 26; refine (micros_any _ (by omega) (by omega) _).mono ?_; rintro e w' ⟨rfl, rfl⟩)
    | (go_at_call 18; refine (floorDiv_any _ _ ⟨by omega, by omega⟩ (by omega) (by omega) _).mono ?_; rintro e w' ⟨rfl, rfl⟩))
  go_ret2
  exact ⟨rfl, (Grown.refl _).alloc _ _⟩
theorem zzWindow_any (l n t : Int) (hn : 1000 ≤ n) (hn' : n ≤ 1125899906842624) (h0 : -4611686018427387904 ≤ t) (h1 : t ≤ 4611686018427387904) (w : World) :
    Calls Try.prog 16 #[.int .i64 l, .int .i64 n, .int .i64 t] w fun e w' => e = .returned (.tuple #[.int .i64 (wnum (n / 1000) t), .int .i64 (wend (n / 1000) t)]) ∧ Grown w w' := by
  go_enter Try.func16, Try.ntmps16
  go_wp2_with (go_at_call 23; refine (window_any l n t hn hn' h0 h1 _).mono ?_; rintro e w' ⟨rfl, hg⟩)
  go_ret2
  exact ⟨rfl, hg⟩
/-- (allow5.Rolling).start and ZZRollingStart: no more buckets than the window has microseconds. -/
theorem start_any (l n b t : Int) (hn : 1000 ≤ n) (hn' : n ≤ 1125899906842624) (hb : 1 ≤ b) (hb' : b ≤ n / 1000) (h0 : -4611686018427387904 ≤ t) (h1 : t ≤ 4611686018427387904) (w : World) :
    Calls Try.prog 24 #[.agg #[.int .i64 l, .int .i64 n, .int .i64 b], .int .i64 t] w fun e w' => e = .returned (.int .i64 (wstart (n / 1000 / b) t)) ∧ Grown w w' := by
  have v0 := width_pos (show 0 < b by omega) hb'
  have v1 := ediv_hi (show 0 < b by omega) (show 0 ≤ n / 1000 by omega) (Int.le_refl (n / 1000))
  have a1 := ediv_lo (show 0 < n / 1000 / b by omega) (by omega) h0
  have a2 := ediv_hi (show 0 < n / 1000 / b by omega) (by omega) h1
  have c := wend_lo t (show 0 < n / 1000 / b by omega)
  have d := wend_hi t (show 0 < n / 1000 / b by omega)
  rw [wend_eq] at c d
  unfold wstart
  go_enter Try.func24, Try.ntmps24
  go_wp2
  go_quiet ((go_at_call 26; exact Calls.quiet_of_same ((micros_any n (by omega) (by omega) _).mono fun _ _ ⟨he, hw⟩ => ⟨he, hw.symm⟩)))
  go_wp2_with (go_at_call 18; refine (floorDiv_any _ _ ⟨by omega, by omega⟩ (by omega) (by omega) _).mono ?_; rintro e w' ⟨rfl, rfl⟩)
  go_ret
  exact ⟨rfl, grown_drewN ((Grown.refl _).alloc _ _) _⟩
theorem zzStart_any (l n b t : Int) (hn : 1000 ≤ n) (hn' : n ≤ 1125899906842624) (hb : 1 ≤ b) (hb' : b ≤ n / 1000) (h0 : -4611686018427387904 ≤ t) (h1 : t ≤ 4611686018427387904) (w : World) :
    Calls Try.prog 17 #[.int .i64 l, .int .i64 n, .int .i64 b, .int .i64 t] w fun e w' => e = .returned (.int .i64 (wstart (n / 1000 / b) t)) ∧ Grown w w' := by
  go_enter Try.func17, Try.ntmps17
  go_wp2_with (go_at_call 24; refine (start_any l n b t hn hn' hb hb' h0 h1 _).mono ?_; rintro e w' ⟨rfl, hg⟩)
  go_ret
  exact ⟨rfl, hg⟩
end Go.Proofs.Qxb6001715a.Contracts
