/-
  The proof of 'Rows.FnRollingStartIsFixedWindowOfBucketWidthSaid': the walk is filled by hand; the frame around it was written by the guide's tool for this function.
-/
import Derived.Test.Qxb6001715aRows
import Derived.WalkKit
import Derived.ProofKit
import Derived.OpenShut
import Derived.ShutString
import Derived.Test.Qxb6001715aCalls2
namespace Go.Proofs.Qxb6001715a.fnRollingStartIsFixedWindowOfBucketWidth
open Go.ChangeShapes Go.WideShapes Go.ChangeAt Go.RowKit
open Go.ChangeMaps (open_string shut_string)
open Plain Contracts
set_option linter.unusedVariables false      -- a walk need not use every 'w<i>' (that an integer argument fits its kind)

theorem own : ownKnob Try.prog.godebug = none := by kernel_rfl

set_option maxHeartbeats 2000000 in
/-- The body behind the tests on the inputs: s the earlier time, t the later, handed in either order. -/
theorem core (l n b s t x y : Int) (w : World) (hn : 1000 ≤ n) (hn' : n ≤ 1125899906842624) (hb : 1 ≤ b) (hb1 : b ≤ 1073741824) (hb2 : b ≤ n / 1000) (s1 : -2305843009213693952 ≤ s) (s2 : s ≤ 2305843009213693952) (t1 : -2305843009213693952 ≤ t) (t2 : t ≤ 2305843009213693952) (hst : s ≤ t)
    (hxy : (x = s ∧ y = t) ∨ (x = t ∧ y = s ∧ s < t)) :
    Calls Try.prog 10 #[.int .i64 l, .int .i64 n, .int .i64 b, .int .i64 x, .int .i64 y] w fun e w' => e = .returned (.bool true) ∧ Grown w w' := by
  have v0 := width_pos (show 0 < b by omega) hb2
  have v1 := ediv_hi (show 0 < b by omega) (show 0 ≤ n / 1000 by omega) (Int.le_refl (n / 1000))
  have vp : 0 < n / 1000 / b := by omega
  have a1 := wend_lo s vp
  have a2 := wend_hi s vp
  have b1 := wend_lo t vp
  have b2 := wend_hi t vp
  have q := wstart_eq (n / 1000 / b) s
  have q1 : wstart (n / 1000 / b) s ≤ wend (n / 1000 / b) s - n / 1000 / b := by omega
  have q2 : wend (n / 1000 / b) s - n / 1000 / b ≤ wstart (n / 1000 / b) s := by omega
  have q3 : (wstart (n / 1000 / b) s != wend (n / 1000 / b) s - n / 1000 / b) = false := by simp; omega
  have q4 : s < wstart (n / 1000 / b) s + n / 1000 / b := by omega
  clear q
  have e1 := wstart_again s vp
  have o := wstart_mono vp hst
  have z : n / 1000 / b * 1000 / 1000 = n / 1000 / b := by omega
  rcases hxy with ⟨rfl, rfl⟩ | ⟨rfl, rfl, hlt⟩
  all_goals
    go_enter Try.func10, Try.ntmps10
    go_wp2_with (first
      | (go_at_call 17; refine (zzStart_any _ _ _ _ (by omega) (by omega) (by omega) (by omega) (by omega) (by omega) _).mono ?_; rintro e w' ⟨rfl, hg⟩)
      | (go_at_call 16; refine (zzWindow_any _ _ _ (by omega) (by omega) (by omega) (by omega) _).mono ?_; rintro e w' ⟨rfl, hg⟩))
    go_ret
    exact ⟨rfl, by repeat (first | assumption | refine grown_trans ?_ (by assumption))⟩

/-! ### STEP 1: THE WALK: the Go text returns true. 'Grown w w'': the world has at most new blocks (Derived/RowKit3.lean). Part the cases AHEAD of 'go_enter' where a test parts the walk; take each callee by a contract of your own. -/
theorem walk (a0 : Int) (a1 : Int) (a2 : Int) (a3 : Int) (a4 : Int) (w0 : (Lit.int .i64 a0).wf = true) (w1 : (Lit.int .i64 a1).wf = true) (w2 : (Lit.int .i64 a2).wf = true) (w3 : (Lit.int .i64 a3).wf = true) (w4 : (Lit.int .i64 a4).wf = true) (w : World) :
    Calls Try.prog 10 #[.int .i64 a0, .int .i64 a1, .int .i64 a2, .int .i64 a3, .int .i64 a4] w fun e w' => e = .returned (.bool true) ∧ Grown w w' := by
  by_cases c1 : a1 < 1000
  · go_enter Try.func10, Try.ntmps10
    go_wp2
    go_ret
    exact ⟨rfl, Grown.refl _⟩
  by_cases c2 : 1125899906842624 < a1
  · go_enter Try.func10, Try.ntmps10
    go_wp2
    go_ret
    exact ⟨rfl, Grown.refl _⟩
  by_cases d1 : a2 < 1
  · go_enter Try.func10, Try.ntmps10
    go_wp2
    go_ret
    exact ⟨rfl, Grown.refl _⟩
  by_cases d2 : 1073741824 < a2
  · go_enter Try.func10, Try.ntmps10
    go_wp2
    go_ret
    exact ⟨rfl, Grown.refl _⟩
  by_cases c3 : a3 < -2305843009213693952
  · go_enter Try.func10, Try.ntmps10
    go_wp2
    go_ret
    exact ⟨rfl, Grown.refl _⟩
  by_cases c4 : 2305843009213693952 < a3
  · go_enter Try.func10, Try.ntmps10
    go_wp2
    go_ret
    exact ⟨rfl, Grown.refl _⟩
  by_cases c5 : a4 < -2305843009213693952
  · go_enter Try.func10, Try.ntmps10
    go_wp2
    go_ret
    exact ⟨rfl, Grown.refl _⟩
  by_cases c6 : 2305843009213693952 < a4
  · go_enter Try.func10, Try.ntmps10
    go_wp2
    go_ret
    exact ⟨rfl, Grown.refl _⟩
  by_cases d3 : a1 / 1000 < a2
  · go_enter Try.func10, Try.ntmps10
    go_wp2
    go_ret
    exact ⟨rfl, Grown.refl _⟩
  by_cases c7 : a4 < a3
  · exact core a0 a1 a2 a4 a3 a3 a4 w (by omega) (by omega) (by omega) (by omega) (by omega) (by omega) (by omega) (by omega) (by omega) (by omega) (.inr ⟨rfl, rfl, c7⟩)
  · exact core a0 a1 a2 a3 a4 a3 a4 w (by omega) (by omega) (by omega) (by omega) (by omega) (by omega) (by omega) (by omega) (by omega) (by omega) (.inl ⟨rfl, rfl⟩)

/-! ### THE ROW's STEP: WRITTEN OUT: LEAVE IT -/
set_option maxRecDepth 100000 in
theorem lifted (os : Os) (started : os.Started) (H : Type) (enc : TypeId × Value → H) :
    ReturnsInHanded {} Try.checked os 10 .any (Rows.fnRollingStartIsFixedWindowOfBucketWidthSpec.pre6 enc Try.prog Try.f10 Rows.fnRollingStartIsFixedWindowOfBucketWidthRow.domain false) (Rows.fnRollingStartIsFixedWindowOfBucketWidthSpec.post enc Try.prog Try.f10 false true false false) := by
  refine returnsInHanded_of_change (C := Try.checked) own started (by kernel_rfl) Try.func10
    (ChangeSpec.witness6 (enc := enc) (C := Try.checked) false ⟨#[], #[.int .i64 0, .int .i64 0, .int .i64 0, .int .i64 0, .int .i64 0], []⟩ 8 (by kernel_rfl) (by kernel_rfl) (by kernel_rfl) (by kernel_rfl)) ?_
  intro W base args ds gs before hval0 hW hcnd _
  have hval : ∀ (j : Nat) t v, Try.f10.params[j]? = some t → args[j]? = some v → Value.okWide Try.prog W .any base t v := hval0
  have hW' := hW
  obtain ⟨p, q, hA0, hV, rfl, hfz, hnd⟩ := hW
  have hA : DataW.TrodAll enc Try.prog W 0 (fun _ => true) true Try.f10.params.toList args.toList ds p := hA0
  rw [Try.params10] at hA hval
  obtain ⟨v0, vs0, d0, ds0, p0, q0, hargs, rfl, rfl, h0, r0⟩ := trodAll_cons hA
  obtain ⟨v1, vs1, d1, ds1, p1, q1, rfl, rfl, rfl, h1, r1⟩ := trodAll_cons r0
  obtain ⟨v2, vs2, d2, ds2, p2, q2, rfl, rfl, rfl, h2, r2⟩ := trodAll_cons r1
  obtain ⟨v3, vs3, d3, ds3, p3, q3, rfl, rfl, rfl, h3, r3⟩ := trodAll_cons r2
  obtain ⟨v4, vs4, d4, ds4, p4, q4, rfl, rfl, rfl, h4, r4⟩ := trodAll_cons r3
  obtain ⟨rfl, rfl, rfl⟩ := trodAll_nil r4
  obtain rfl : args = #[v0, v1, v2, v3, v4] := by cases args; simp_all
  obtain ⟨rfl, rfl⟩ := trodVars_none hV
  obtain ⟨a0, rfl, rfl, rfl, w0⟩ := open_int Try.underlying3 (hval 0 3 v0 rfl rfl) h0
  obtain ⟨a1, rfl, rfl, rfl, w1⟩ := open_int Try.underlying2 (hval 1 2 v1 rfl rfl) h1
  obtain ⟨a2, rfl, rfl, rfl, w2⟩ := open_int Try.underlying3 (hval 2 3 v2 rfl rfl) h2
  obtain ⟨a3, rfl, rfl, rfl, w3⟩ := open_int Try.underlying2 (hval 3 2 v3 rfl rfl) h3
  obtain ⟨a4, rfl, rfl, rfl, w4⟩ := open_int Try.underlying2 (hval 4 2 v4 rfl rfl) h4
  clear hA0 hval0
  simp only [List.append_nil] at hW'
  refine (walk a0 a1 a2 a3 a4 w0 w1 w2 w3 w4 W).mono fun e W' ⟨he, hg⟩ => ?_
  subst he
  exact ⟨_, rfl, post_of_same (pa := []) (pv := []) hW' (fun _ _ _ => (trodAll_cons_mk (shut_bool Try.underlying4 _) trodAll_mk0)) (fun sp _ => (trodAll_cons_mk (shut_int Try.underlying3 w0) (trodAll_cons_mk (shut_int Try.underlying2 w1) (trodAll_cons_mk (shut_int Try.underlying3 w2) (trodAll_cons_mk (shut_int Try.underlying2 w3) (trodAll_cons_mk (shut_int Try.underlying2 w4) trodAll_mk0)))))) (fun _ _ => rfl) rfl
    (hg.frame _) hg.2.1 (ok_one (by kernel_rfl) rfl (okWide_bool_mk Try.underlying4 _))⟩

theorem over : Rows.fnRollingStartIsFixedWindowOfBucketWidthRow.holds Try.pinned (OpenSpec.ofChange Rows.fnRollingStartIsFixedWindowOfBucketWidthSpec) :=
  OpenClaim.holds_of_wide 10 Try.f10 rfl rfl rfl rfl rfl rfl rfl ⟨rfl, rfl, rfl, rfl, rfl⟩ rfl rfl rfl rfl rfl (by kernel_rfl) Try.func10 (by kernel_rfl)
    (of_decide_eq_true (by kernel_rfl)) (by unfold Func.isWrapper; first | (rw [if_pos (by decide +kernel)]; kernel_rfl) | (rw [if_neg (by decide +kernel)]; exact ⟨rfl, rfl⟩))
    (fun os started H enc _ => lifted os started H enc)

/-- ████ THE STATEMENT ████ -/
theorem proved : Rows.FnRollingStartIsFixedWindowOfBucketWidthSaid :=
  over
#print axioms proved
end Go.Proofs.Qxb6001715a.fnRollingStartIsFixedWindowOfBucketWidth
