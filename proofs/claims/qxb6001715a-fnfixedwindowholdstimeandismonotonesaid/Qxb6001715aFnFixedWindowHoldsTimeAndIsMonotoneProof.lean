/-
  The proof of 'Rows.FnFixedWindowHoldsTimeAndIsMonotoneSaid': the walk is filled by hand; the frame around it was written by the guide's tool for this function.
-/
import Derived.Test.Qxb6001715aRows
import Derived.WalkKit
import Derived.ProofKit
import Derived.OpenShut
import Derived.ShutString
import Derived.Test.Qxb6001715aCalls2
namespace Go.Proofs.Qxb6001715a.fnFixedWindowHoldsTimeAndIsMonotone
open Go.ChangeShapes Go.WideShapes Go.ChangeAt Go.RowKit
open Go.ChangeMaps (open_string shut_string)
open Plain Contracts
set_option linter.unusedVariables false      -- a walk need not use every 'w<i>' (that an integer argument fits its kind)

theorem own : ownKnob Try.prog.godebug = none := by kernel_rfl

set_option maxHeartbeats 2000000 in
/-- The body behind the tests on the inputs: s the earlier time, t the later, handed in either order. -/
theorem core (l n s t x y : Int) (w : World) (hn : 1000 ≤ n) (hn' : n ≤ 1125899906842624) (s1 : -2305843009213693952 ≤ s) (s2 : s ≤ 2305843009213693952) (t1 : -2305843009213693952 ≤ t) (t2 : t ≤ 2305843009213693952) (hst : s ≤ t)
    (hxy : (x = s ∧ y = t) ∨ (x = t ∧ y = s ∧ s < t)) :
    Calls Try.prog 9 #[.int .i64 l, .int .i64 n, .int .i64 x, .int .i64 y] w fun e w' => e = .returned (.bool true) ∧ Grown w w' := by
  have v0 : 0 < n / 1000 := by omega
  have a1 := wend_lo s v0
  have a2 := wend_hi s v0
  have b1 := wend_lo t v0
  have b2 := wend_hi t v0
  have n1 : -2305843009213693952 ≤ wnum (n / 1000) s := ediv_lo v0 (by omega) s1
  have n2 : wnum (n / 1000) s ≤ 2305843009213693952 := ediv_hi v0 (by omega) s2
  have m1 : -2305843009213693952 ≤ wnum (n / 1000) t := ediv_lo v0 (by omega) t1
  have m2 : wnum (n / 1000) t ≤ 2305843009213693952 := ediv_hi v0 (by omega) t2
  have e1 := wnum_mul (n / 1000) s
  have e2 := wnum_in s (wend (n / 1000) s - n / 1000) v0 (by omega) (by omega)
  have e3 := wend_of_wnum e2
  have e4 := wnum_in s (wend (n / 1000) s - 1) v0 (by omega) (by omega)
  have e5 := wend_of_wnum e4
  have e6 := wnum_next s v0
  have e7 := wend_next s v0
  have o1 := wnum_mono v0 hst
  have o2 := wend_mono v0 hst
  by_cases c : t < wend (n / 1000) s
  · have k1 := wnum_in s t v0 (by omega) c
    have k2 := wend_of_wnum k1
    rcases hxy with ⟨rfl, rfl⟩ | ⟨rfl, rfl, hlt⟩
    all_goals
      go_enter Try.func9, Try.ntmps9
      go_wp2_with (go_at_call 16; refine (zzWindow_any _ _ _ (by omega) (by omega) (by omega) (by omega) _).mono ?_; rintro e w' ⟨rfl, hg⟩)
      go_ret
      exact ⟨rfl, by repeat (first | assumption | refine grown_trans ?_ (by assumption))⟩
  · rcases hxy with ⟨rfl, rfl⟩ | ⟨rfl, rfl, hlt⟩
    all_goals
      go_enter Try.func9, Try.ntmps9
      go_wp2_with (go_at_call 16; refine (zzWindow_any _ _ _ (by omega) (by omega) (by omega) (by omega) _).mono ?_; rintro e w' ⟨rfl, hg⟩)
      go_ret
      exact ⟨rfl, by repeat (first | assumption | refine grown_trans ?_ (by assumption))⟩

/-! ### STEP 1: THE WALK: the Go text returns true. 'Grown w w'': the world has at most new blocks (Derived/RowKit3.lean). Part the cases AHEAD of 'go_enter' where a test parts the walk; take each callee by a contract of your own. -/
theorem walk (a0 : Int) (a1 : Int) (a2 : Int) (a3 : Int) (w0 : (Lit.int .i64 a0).wf = true) (w1 : (Lit.int .i64 a1).wf = true) (w2 : (Lit.int .i64 a2).wf = true) (w3 : (Lit.int .i64 a3).wf = true) (w : World) :
    Calls Try.prog 9 #[.int .i64 a0, .int .i64 a1, .int .i64 a2, .int .i64 a3] w fun e w' => e = .returned (.bool true) ∧ Grown w w' := by
  by_cases c1 : a1 < 1000
  · go_enter Try.func9, Try.ntmps9
    go_wp2
    go_ret
    exact ⟨rfl, Grown.refl _⟩
  by_cases c2 : 1125899906842624 < a1
  · go_enter Try.func9, Try.ntmps9
    go_wp2
    go_ret
    exact ⟨rfl, Grown.refl _⟩
  by_cases c3 : a2 < -2305843009213693952
  · go_enter Try.func9, Try.ntmps9
    go_wp2
    go_ret
    exact ⟨rfl, Grown.refl _⟩
  by_cases c4 : 2305843009213693952 < a2
  · go_enter Try.func9, Try.ntmps9
    go_wp2
    go_ret
    exact ⟨rfl, Grown.refl _⟩
  by_cases c5 : a3 < -2305843009213693952
  · go_enter Try.func9, Try.ntmps9
    go_wp2
    go_ret
    exact ⟨rfl, Grown.refl _⟩
  by_cases c6 : 2305843009213693952 < a3
  · go_enter Try.func9, Try.ntmps9
    go_wp2
    go_ret
    exact ⟨rfl, Grown.refl _⟩
  by_cases c7 : a3 < a2
  · exact core a0 a1 a3 a2 a2 a3 w (by omega) (by omega) (by omega) (by omega) (by omega) (by omega) (by omega) (.inr ⟨rfl, rfl, c7⟩)
  · exact core a0 a1 a2 a3 a2 a3 w (by omega) (by omega) (by omega) (by omega) (by omega) (by omega) (by omega) (.inl ⟨rfl, rfl⟩)

/-! ### THE ROW's STEP: WRITTEN OUT: LEAVE IT -/
set_option maxRecDepth 100000 in
theorem lifted (os : Os) (started : os.Started) (H : Type) (enc : TypeId × Value → H) :
    ReturnsInHanded {} Try.checked os 9 .any (Rows.fnFixedWindowHoldsTimeAndIsMonotoneSpec.pre6 enc Try.prog Try.f9 Rows.fnFixedWindowHoldsTimeAndIsMonotoneRow.domain false) (Rows.fnFixedWindowHoldsTimeAndIsMonotoneSpec.post enc Try.prog Try.f9 false true false false) := by
  refine returnsInHanded_of_change (C := Try.checked) own started (by kernel_rfl) Try.func9
    (ChangeSpec.witness6 (enc := enc) (C := Try.checked) false ⟨#[], #[.int .i64 0, .int .i64 0, .int .i64 0, .int .i64 0], []⟩ 8 (by kernel_rfl) (by kernel_rfl) (by kernel_rfl) (by kernel_rfl)) ?_
  intro W base args ds gs before hval0 hW hcnd _
  have hval : ∀ (j : Nat) t v, Try.f9.params[j]? = some t → args[j]? = some v → Value.okWide Try.prog W .any base t v := hval0
  have hW' := hW
  obtain ⟨p, q, hA0, hV, rfl, hfz, hnd⟩ := hW
  have hA : DataW.TrodAll enc Try.prog W 0 (fun _ => true) true Try.f9.params.toList args.toList ds p := hA0
  rw [Try.params9] at hA hval
  obtain ⟨v0, vs0, d0, ds0, p0, q0, hargs, rfl, rfl, h0, r0⟩ := trodAll_cons hA
  obtain ⟨v1, vs1, d1, ds1, p1, q1, rfl, rfl, rfl, h1, r1⟩ := trodAll_cons r0
  obtain ⟨v2, vs2, d2, ds2, p2, q2, rfl, rfl, rfl, h2, r2⟩ := trodAll_cons r1
  obtain ⟨v3, vs3, d3, ds3, p3, q3, rfl, rfl, rfl, h3, r3⟩ := trodAll_cons r2
  obtain ⟨rfl, rfl, rfl⟩ := trodAll_nil r3
  obtain rfl : args = #[v0, v1, v2, v3] := by cases args; simp_all
  obtain ⟨rfl, rfl⟩ := trodVars_none hV
  obtain ⟨a0, rfl, rfl, rfl, w0⟩ := open_int Try.underlying3 (hval 0 3 v0 rfl rfl) h0
  obtain ⟨a1, rfl, rfl, rfl, w1⟩ := open_int Try.underlying2 (hval 1 2 v1 rfl rfl) h1
  obtain ⟨a2, rfl, rfl, rfl, w2⟩ := open_int Try.underlying2 (hval 2 2 v2 rfl rfl) h2
  obtain ⟨a3, rfl, rfl, rfl, w3⟩ := open_int Try.underlying2 (hval 3 2 v3 rfl rfl) h3
  clear hA0 hval0
  simp only [List.append_nil] at hW'
  refine (walk a0 a1 a2 a3 w0 w1 w2 w3 W).mono fun e W' ⟨he, hg⟩ => ?_
  subst he
  exact ⟨_, rfl, post_of_same (pa := []) (pv := []) hW' (fun _ _ _ => (trodAll_cons_mk (shut_bool Try.underlying4 _) trodAll_mk0)) (fun sp _ => (trodAll_cons_mk (shut_int Try.underlying3 w0) (trodAll_cons_mk (shut_int Try.underlying2 w1) (trodAll_cons_mk (shut_int Try.underlying2 w2) (trodAll_cons_mk (shut_int Try.underlying2 w3) trodAll_mk0))))) (fun _ _ => rfl) rfl
    (hg.frame _) hg.2.1 (ok_one (by kernel_rfl) rfl (okWide_bool_mk Try.underlying4 _))⟩

theorem over : Rows.fnFixedWindowHoldsTimeAndIsMonotoneRow.holds Try.pinned (OpenSpec.ofChange Rows.fnFixedWindowHoldsTimeAndIsMonotoneSpec) :=
  OpenClaim.holds_of_wide 9 Try.f9 rfl rfl rfl rfl rfl rfl rfl ⟨rfl, rfl, rfl, rfl, rfl⟩ rfl rfl rfl rfl rfl (by kernel_rfl) Try.func9 (by kernel_rfl)
    (of_decide_eq_true (by kernel_rfl)) (by unfold Func.isWrapper; first | (rw [if_pos (by decide +kernel)]; kernel_rfl) | (rw [if_neg (by decide +kernel)]; exact ⟨rfl, rfl⟩))
    (fun os started H enc _ => lifted os started H enc)

/-- ████ THE STATEMENT ████ -/
theorem proved : Rows.FnFixedWindowHoldsTimeAndIsMonotoneSaid :=
  over
#print axioms proved
end Go.Proofs.Qxb6001715a.fnFixedWindowHoldsTimeAndIsMonotone
