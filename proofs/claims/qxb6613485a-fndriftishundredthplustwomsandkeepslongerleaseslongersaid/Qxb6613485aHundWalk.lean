/-
  THE WALKS OF zzDriftFits AND OF FnDriftIsHundredthPlusTwoMsAndKeepsLongerLeasesLonger.
-/
import Derived.Test.Qxb6613485aRows
import Derived.WalkKit
import Derived.ProofKit
import Derived.Test.Qxb6613485aDrift
namespace Go.Proofs.Qxb6613485a.fnDriftIsHundredthPlusTwoMsAndKeepsLongerLeasesLonger
open Go.RowKit

set_option maxHeartbeats 400000 in
theorem fits_up (x d : Int) (h0 : 0 ≤ x) (h1 : x ≤ 9223372036854775807) (h2 : 100 * (d - 2000000) ≤ x) (h3 : x < 100 * (d - 2000000) + 100) (w : World) :
    Calls Try.prog 8 #[.int .i64 x, .int .i64 d] w fun e w' => e = .returned (.bool true) ∧ w = w' := by
  have b1 : 0 ≤ d - 2000000 := by omega
  have b2 : d - 2000000 ≤ 92233720368547758 := by omega
  have b3 : 0 ≤ x - 100 * (d - 2000000) := by omega
  have b4 : x - 100 * (d - 2000000) < 100 := by omega
  go_enter Try.func8, Try.ntmps8
  go_wp2
  go_ret
  exact ⟨rfl, rfl⟩

set_option maxHeartbeats 400000 in
theorem fits_down (x d : Int) (h0 : -9223372036854775808 ≤ x) (h1 : x < 0) (h2 : x ≤ 100 * (d - 2000000)) (h3 : 100 * (d - 2000000) - 100 < x) (w : World) :
    Calls Try.prog 8 #[.int .i64 x, .int .i64 d] w fun e w' => e = .returned (.bool true) ∧ w = w' := by
  have b1 : d - 2000000 ≤ 0 := by omega
  have b2 : -92233720368547758 ≤ d - 2000000 := by omega
  have b3 : x - 100 * (d - 2000000) ≤ 0 := by omega
  have b4 : -100 < x - 100 * (d - 2000000) := by omega
  go_enter Try.func8, Try.ntmps8
  go_wp2
  go_ret
  exact ⟨rfl, rfl⟩

theorem fits_any (x : Int) (h0 : -9223372036854775808 ≤ x) (h1 : x ≤ 9223372036854775807) (w : World) :
    Calls Try.prog 8 #[.int .i64 x, .int .i64 (Drift.dr x)] w fun e w' => e = .returned (.bool true) ∧ w = w' := by
  have e : Drift.dr x - 2000000 = Drift.hund x := by unfold Drift.dr; omega
  rcases Drift.hund_cases x with ⟨c0, c1, c2⟩ | ⟨c0, c1, c2⟩
  · exact fits_up x _ c0 h1 (by rw [e]; exact c1) (by rw [e]; exact c2) w
  · exact fits_down x _ h0 c0 (by rw [e]; exact c1) (by rw [e]; exact c2) w

theorem rest_bounds (x : Int) (h0 : -9223372036854775808 ≤ x) (h1 : x ≤ 9223372036854775807) : -9223372036854775808 ≤ x - Drift.dr x ∧ x - Drift.dr x ≤ 9223372036854775807 := by
  have := Drift.hund_cases x
  unfold Drift.dr
  omega

set_option maxHeartbeats 400000 in
/-- In order. -/
theorem walk_le (a b : Int) (hab : a ≤ b) (l0 : -9223372036854775808 ≤ a) (u0 : a ≤ 9223372036854775807) (l1 : -9223372036854775808 ≤ b) (u1 : b ≤ 9223372036854775807) (w : World) :
    Calls Try.prog 3 #[.int .i64 a, .int .i64 b] w fun e w' => e = .returned (.bool true) ∧ Grown w w' := by
  obtain ⟨m1, m2⟩ := Drift.dr_mono a b hab
  obtain ⟨p1, p2⟩ := rest_bounds a l0 u0
  obtain ⟨q1, q2⟩ := rest_bounds b l1 u1
  go_enter Try.func3, Try.ntmps3
  go_wp2_with fail
  refine (Drift.zzdrift_any a l0 u0 _).mono ?_
  rintro e w' ⟨rfl, rfl⟩
  go_wp2_with fail
  refine (Drift.zzdrift_any b l1 u1 _).mono ?_
  rintro e w' ⟨rfl, rfl⟩
  go_wp2_with fail
  refine (fits_any a l0 u0 _).mono ?_
  rintro e w' ⟨rfl, rfl⟩
  go_wp2_with fail
  refine (fits_any b l1 u1 _).mono ?_
  rintro e w' ⟨rfl, rfl⟩
  go_wp2
  go_ret
  exact ⟨rfl, Grown.refl _⟩

set_option maxHeartbeats 400000 in
/-- Out of order: they change places first. -/
theorem walk_gt (a b : Int) (hab : b < a) (l0 : -9223372036854775808 ≤ a) (u0 : a ≤ 9223372036854775807) (l1 : -9223372036854775808 ≤ b) (u1 : b ≤ 9223372036854775807) (w : World) :
    Calls Try.prog 3 #[.int .i64 a, .int .i64 b] w fun e w' => e = .returned (.bool true) ∧ Grown w w' := by
  obtain ⟨m1, m2⟩ := Drift.dr_mono b a (by omega)
  obtain ⟨p1, p2⟩ := rest_bounds a l0 u0
  obtain ⟨q1, q2⟩ := rest_bounds b l1 u1
  go_enter Try.func3, Try.ntmps3
  go_wp2_with fail
  refine (Drift.zzdrift_any b l1 u1 _).mono ?_
  rintro e w' ⟨rfl, rfl⟩
  go_wp2_with fail
  refine (Drift.zzdrift_any a l0 u0 _).mono ?_
  rintro e w' ⟨rfl, rfl⟩
  go_wp2_with fail
  refine (fits_any b l1 u1 _).mono ?_
  rintro e w' ⟨rfl, rfl⟩
  go_wp2_with fail
  refine (fits_any a l0 u0 _).mono ?_
  rintro e w' ⟨rfl, rfl⟩
  go_wp2
  go_ret
  exact ⟨rfl, Grown.refl _⟩

end Go.Proofs.Qxb6613485a.fnDriftIsHundredthPlusTwoMsAndKeepsLongerLeasesLonger
