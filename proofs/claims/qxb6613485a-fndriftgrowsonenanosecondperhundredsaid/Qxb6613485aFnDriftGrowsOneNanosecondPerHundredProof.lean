/-
  THE PROOF OF 'Rows.FnDriftGrowsOneNanosecondPerHundredSaid': the shell that the guide's tool wrote, its walk filled in.
-/
import Derived.Test.Qxb6613485aRows
import Derived.WalkKit
import Derived.ProofKit
import Derived.OpenShut
import Derived.ShutString
import Derived.Test.Qxb6613485aDrift
namespace Go.Proofs.Qxb6613485a.fnDriftGrowsOneNanosecondPerHundred
open Go.ChangeShapes Go.WideShapes Go.ChangeAt Go.RowKit
open Go.ChangeMaps (open_string shut_string)
set_option linter.unusedVariables false      -- a walk need not use every 'w<i>' (that an integer argument fits its kind)

theorem own : ownKnob Try.prog.godebug = none := by kernel_rfl

/-- The two lie on two sides of zero: nothing is said of them. -/
theorem walk_sides (a0 : Int) (a1 : Int) (l0 : -9223372036854775808 ≤ a0) (u0 : a0 ≤ 9223372036854775807) (l1 : -92233720368547758 ≤ a1) (u1 : a1 ≤ 92233720368547758) (ls : -9223372036854775808 ≤ a0 + 100 * a1) (us : a0 + 100 * a1 ≤ 9223372036854775807)
    (c : (a0 < 0 ∧ 0 < a0 + 100 * a1) ∨ (0 < a0 ∧ a0 + 100 * a1 < 0)) (w : World) :
    Calls Try.prog 4 #[.int .i64 a0, .int .i64 a1] w fun e w' => e = .returned (.bool true) ∧ Grown w w' := by
  rcases c with ⟨c5, c6⟩ | ⟨c5, c6⟩
  · have c3 : 0 < 100 * a1 := by omega
    have c4 : a0 ≤ 9223372036854775807 - 100 * a1 := by omega
    go_enter Try.func4, Try.ntmps4
    go_wp2
    go_ret
    exact ⟨rfl, Grown.refl _⟩
  · have c3 : 100 * a1 < 0 := by omega
    have c4 : -9223372036854775808 - 100 * a1 ≤ a0 := by omega
    go_enter Try.func4, Try.ntmps4
    go_wp2
    go_ret
    exact ⟨rfl, Grown.refl _⟩

/-- The road to the law itself. -/
theorem walk_grows (a0 : Int) (a1 : Int) (l0 : -9223372036854775808 ≤ a0) (u0 : a0 ≤ 9223372036854775807) (l1 : -92233720368547758 ≤ a1) (u1 : a1 ≤ 92233720368547758) (ls : -9223372036854775808 ≤ a0 + 100 * a1) (us : a0 + 100 * a1 ≤ 9223372036854775807)
    (c5 : ¬ (a0 < 0 ∧ 0 < a0 + 100 * a1)) (c6 : ¬ (0 < a0 ∧ a0 + 100 * a1 < 0)) (w : World) :
    Calls Try.prog 4 #[.int .i64 a0, .int .i64 a1] w fun e w' => e = .returned (.bool true) ∧ Grown w w' := by
  have hg : (Drift.dr (a0 + 100 * a1) == Drift.dr a0 + a1) = true := by rw [Drift.dr_grows a0 a1 c5 c6]; simp
  obtain ⟨d1, d2⟩ := Drift.dr_bounds a0 l0 u0
  by_cases s1 : 0 < 100 * a1
  · by_cases t1 : a0 < 0
    · go_enter Try.func4, Try.ntmps4
      go_wp2_with (go_at_call 7; refine (Drift.zzdrift_any _ (by omega) (by omega) _).mono ?_; rintro e w' ⟨rfl, rfl⟩)
      go_ret
      exact ⟨rfl, Grown.refl _⟩
    · by_cases t2 : 0 < a0
      all_goals
        go_enter Try.func4, Try.ntmps4
        go_wp2_with (go_at_call 7; refine (Drift.zzdrift_any _ (by omega) (by omega) _).mono ?_; rintro e w' ⟨rfl, rfl⟩)
        go_ret
        exact ⟨rfl, Grown.refl _⟩
  · by_cases s2 : 100 * a1 < 0
    all_goals
      by_cases t1 : a0 < 0
      · go_enter Try.func4, Try.ntmps4
        go_wp2_with (go_at_call 7; refine (Drift.zzdrift_any _ (by omega) (by omega) _).mono ?_; rintro e w' ⟨rfl, rfl⟩)
        go_ret
        exact ⟨rfl, Grown.refl _⟩
      · by_cases t2 : 0 < a0
        all_goals
          go_enter Try.func4, Try.ntmps4
          go_wp2_with (go_at_call 7; refine (Drift.zzdrift_any _ (by omega) (by omega) _).mono ?_; rintro e w' ⟨rfl, rfl⟩)
          go_ret
          exact ⟨rfl, Grown.refl _⟩

/-! ### STEP 1: THE WALK: the Go text returns true. 'Grown w w'': the world has at most new blocks (Derived/RowKit3.lean). Part the cases AHEAD of 'go_enter' where a test parts the walk; take each callee by a contract of your own. -/
theorem walk (a0 : Int) (a1 : Int) (w0 : (Lit.int .i64 a0).wf = true) (w1 : (Lit.int .i64 a1).wf = true) (w : World) :
    Calls Try.prog 4 #[.int .i64 a0, .int .i64 a1] w fun e w' => e = .returned (.bool true) ∧ Grown w w' := by
  obtain ⟨l0, u0⟩ := bounds_i64 w0
  obtain ⟨l1, u1⟩ := bounds_i64 w1
  clear w0 w1
  by_cases c1 : 92233720368547758 < a1
  · go_enter Try.func4, Try.ntmps4
    go_wp2
    go_ret
    exact ⟨rfl, Grown.refl _⟩
  by_cases c2 : a1 < -92233720368547758
  · go_enter Try.func4, Try.ntmps4
    go_wp2
    go_ret
    exact ⟨rfl, Grown.refl _⟩
  by_cases c3 : 0 < 100 * a1 ∧ 9223372036854775807 - 100 * a1 < a0
  · obtain ⟨c3, c4⟩ := c3
    go_enter Try.func4, Try.ntmps4
    go_wp2
    go_ret
    exact ⟨rfl, Grown.refl _⟩
  by_cases c4 : 100 * a1 < 0 ∧ a0 < -9223372036854775808 - 100 * a1
  · obtain ⟨c4, c5⟩ := c4
    clear c3
    go_enter Try.func4, Try.ntmps4
    go_wp2
    go_ret
    exact ⟨rfl, Grown.refl _⟩
  have ls : -9223372036854775808 ≤ a0 + 100 * a1 := by omega
  have us : a0 + 100 * a1 ≤ 9223372036854775807 := by omega
  by_cases c5 : a0 < 0 ∧ 0 < a0 + 100 * a1
  · exact walk_sides a0 a1 l0 u0 (by omega) (by omega) ls us (.inl c5) w
  by_cases c6 : 0 < a0 ∧ a0 + 100 * a1 < 0
  · exact walk_sides a0 a1 l0 u0 (by omega) (by omega) ls us (.inr c6) w
  exact walk_grows a0 a1 l0 u0 (by omega) (by omega) ls us c5 c6 w

/-! ### THE ROW's STEP: WRITTEN OUT: LEAVE IT -/
set_option maxRecDepth 100000 in
theorem lifted (os : Os) (started : os.Started) (H : Type) (enc : TypeId × Value → H) :
    ReturnsInHanded {} Try.checked os 4 .any (Rows.fnDriftGrowsOneNanosecondPerHundredSpec.pre6 enc Try.prog Try.f4 Rows.fnDriftGrowsOneNanosecondPerHundredRow.domain false) (Rows.fnDriftGrowsOneNanosecondPerHundredSpec.post enc Try.prog Try.f4 false true false false) := by
  refine returnsInHanded_of_change (C := Try.checked) own started (by kernel_rfl) Try.func4
    (ChangeSpec.witness6 (enc := enc) (C := Try.checked) false ⟨#[], #[.int .i64 0, .int .i64 0], []⟩ 8 (by kernel_rfl) (by kernel_rfl) (by kernel_rfl) (by kernel_rfl)) ?_
  intro W base args ds gs before hval0 hW hcnd _
  have hval : ∀ (j : Nat) t v, Try.f4.params[j]? = some t → args[j]? = some v → Value.okWide Try.prog W .any base t v := hval0
  have hW' := hW
  obtain ⟨p, q, hA0, hV, rfl, hfz, hnd⟩ := hW
  have hA : DataW.TrodAll enc Try.prog W 0 (fun _ => true) true Try.f4.params.toList args.toList ds p := hA0
  rw [Try.params4] at hA hval
  obtain ⟨v0, vs0, d0, ds0, p0, q0, hargs, rfl, rfl, h0, r0⟩ := trodAll_cons hA
  obtain ⟨v1, vs1, d1, ds1, p1, q1, rfl, rfl, rfl, h1, r1⟩ := trodAll_cons r0
  obtain ⟨rfl, rfl, rfl⟩ := trodAll_nil r1
  obtain rfl : args = #[v0, v1] := by cases args; simp_all
  obtain ⟨rfl, rfl⟩ := trodVars_none hV
  obtain ⟨a0, rfl, rfl, rfl, w0⟩ := open_int Try.underlying2 (hval 0 2 v0 rfl rfl) h0
  obtain ⟨a1, rfl, rfl, rfl, w1⟩ := open_int Try.underlying2 (hval 1 2 v1 rfl rfl) h1
  clear hA0 hval0
  simp only [List.append_nil] at hW'
  refine (walk a0 a1 w0 w1 W).mono fun e W' ⟨he, hg⟩ => ?_
  subst he
  exact ⟨_, rfl, post_of_same (pa := []) (pv := []) hW' (fun _ _ _ => (trodAll_cons_mk (shut_bool Try.underlying4 _) trodAll_mk0)) (fun sp _ => (trodAll_cons_mk (shut_int Try.underlying2 w0) (trodAll_cons_mk (shut_int Try.underlying2 w1) trodAll_mk0))) (fun _ _ => rfl) rfl
    (hg.frame _) hg.2.1 (ok_one (by kernel_rfl) rfl (okWide_bool_mk Try.underlying4 _))⟩

theorem over : Rows.fnDriftGrowsOneNanosecondPerHundredRow.holds Try.pinned (OpenSpec.ofChange Rows.fnDriftGrowsOneNanosecondPerHundredSpec) :=
  OpenClaim.holds_of_wide 4 Try.f4 rfl rfl rfl rfl rfl rfl rfl ⟨rfl, rfl, rfl, rfl, rfl⟩ rfl rfl rfl rfl rfl (by kernel_rfl) Try.func4 (by kernel_rfl)
    (of_decide_eq_true (by kernel_rfl)) (by unfold Func.isWrapper; first | (rw [if_pos (by decide +kernel)]; kernel_rfl) | (rw [if_neg (by decide +kernel)]; exact ⟨rfl, rfl⟩))
    (fun os started H enc _ => lifted os started H enc)

/-- ████ THE STATEMENT ████ -/
theorem proved : Rows.FnDriftGrowsOneNanosecondPerHundredSaid :=
  over
#print axioms proved
end Go.Proofs.Qxb6613485a.fnDriftGrowsOneNanosecondPerHundred
