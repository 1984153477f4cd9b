/-
  THE WALKS OF drift AND ZZdrift, AND THE PLAIN ARITHMETIC OF A HUNDREDTH ROUNDED TOWARD ZERO.
-/
import Derived.Test.Qxb6613485aRows
import Derived.WalkKit
import Derived.ProofKit
namespace Go.Proofs.Qxb6613485a.Drift
open Go.RowKit

/-! ### Plain arithmetic -/
/-- A hundredth, rounded toward zero. -/
def hund (x : Int) : Int := x.tdiv 100
/-- What drift gives. -/
def dr (x : Int) : Int := hund x + 2000000

theorem hund_cases (x : Int) : (0 ≤ x ∧ 100 * hund x ≤ x ∧ x < 100 * hund x + 100) ∨ (x < 0 ∧ x ≤ 100 * hund x ∧ 100 * hund x - 100 < x) := by
  unfold hund
  by_cases h : 0 ≤ x
  · left
    rw [Int.tdiv_eq_ediv_of_nonneg h]
    omega
  · right
    have : (-x).tdiv 100 = -(x.tdiv 100) := Int.neg_tdiv x 100
    rw [Int.tdiv_eq_ediv_of_nonneg (by omega)] at this
    omega

theorem hund_bounds (x : Int) (h0 : -9223372036854775808 ≤ x) (h1 : x ≤ 9223372036854775807) : -92233720368547758 ≤ hund x ∧ hund x ≤ 92233720368547758 := by
  have := hund_cases x
  omega

theorem dr_bounds (x : Int) (h0 : -9223372036854775808 ≤ x) (h1 : x ≤ 9223372036854775807) : -92233720366547758 ≤ dr x ∧ dr x ≤ 92233720370547758 := by
  have := hund_bounds x h0 h1
  unfold dr
  omega

theorem dr_grows (t k : Int) (h : ¬ (t < 0 ∧ 0 < t + 100 * k)) (h' : ¬ (0 < t ∧ t + 100 * k < 0)) : dr (t + 100 * k) = dr t + k := by
  have h1 := hund_cases t
  have h2 := hund_cases (t + 100 * k)
  unfold dr
  omega

theorem dr_mono (a b : Int) (h : a ≤ b) : dr a ≤ dr b ∧ a - dr a ≤ b - dr b := by
  have h1 := hund_cases a
  have h2 := hund_cases b
  unfold dr
  omega

/-! ### The walks -/
set_option maxHeartbeats 400000 in
theorem drift_any (x : Int) (h0 : -9223372036854775808 ≤ x) (h1 : x ≤ 9223372036854775807) (w : World) :
    Calls Try.prog 14 #[.int .i64 x] w fun e w' => e = .returned (.int .i64 (dr x)) ∧ w' = w := by
  have hb := hund_bounds x h0 h1
  unfold hund at hb
  have hb1 := hb.1
  have hb2 := hb.2
  clear hb
  go_enter Try.func14, Try.ntmps14
  go_wp2
  go_ret
  exact ⟨rfl, rfl⟩

set_option maxHeartbeats 400000 in
theorem zzdrift_any (x : Int) (h0 : -9223372036854775808 ≤ x) (h1 : x ≤ 9223372036854775807) (w : World) :
    Calls Try.prog 7 #[.int .i64 x] w fun e w' => e = .returned (.int .i64 (dr x)) ∧ w' = w := by
  go_enter Try.func7, Try.ntmps7
  go_wp2_with (go_at_call 14; refine (drift_any _ h0 h1 _).mono ?_; rintro e w' ⟨rfl, rfl⟩)
  go_ret
  exact ⟨rfl, rfl⟩
end Go.Proofs.Qxb6613485a.Drift
