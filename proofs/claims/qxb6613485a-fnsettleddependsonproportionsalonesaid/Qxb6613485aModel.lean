/-
  THE WALKS OF zzSettledModel, zzTallyInDomain AND THE TWO zzBytes; AND THE PLAIN LAWS OF setB.
-/
import Derived.Test.Qxb6613485aTally
namespace Go.Proofs.Qxb6613485a.Tally
open Go.RowKit

set_option maxHeartbeats 400000 in
theorem model_any (n h g t f : Int) (h0 : 0 ≤ n) (h1 : n ≤ 536870912) (l0 : 0 ≤ h) (l1 : h ≤ 536870912) (g0 : 0 ≤ g) (g1 : g ≤ 536870912) (t0 : 0 ≤ t) (t1 : t ≤ 536870912) (f0 : 0 ≤ f) (f1 : f ≤ 536870912) (w : World) :
    Calls Try.prog 12 #[.int .i64 n, .int .i64 h, .int .i64 g, .int .i64 t, .int .i64 f] w fun e w' => e = .returned (.bool (setB n h g t f)) ∧ w = w' := by
  by_cases c : n < 2 * h
  · rw [setB_held c]
    by_cases k : 0 < t
    · go_enter Try.func12, Try.ntmps12
      go_wp2
      go_ret
      exact ⟨rfl, rfl⟩
    · go_enter Try.func12, Try.ntmps12
      go_wp2
      go_ret
      exact ⟨rfl, rfl⟩
  by_cases d : n ≤ 2 * (g + t)
  · have d' : 2 * (n - g - t) ≤ n := by omega
    by_cases k : 0 < t
    · rw [setB_taken d k]
      go_enter Try.func12, Try.ntmps12
      go_wp2
      go_ret
      exact ⟨rfl, rfl⟩
    · by_cases z : h + g + t + f = n
      · rw [setB_all d z]
        have z' : (h + g + t + f == n) = true := beq_iff_eq.2 z
        clear z
        go_enter Try.func12, Try.ntmps12
        go_wp2
        go_ret
        exact ⟨rfl, rfl⟩
      · rw [setB_wait c k z]
        have z' : (h + g + t + f == n) = false := beq_eq_false_iff_ne.2 z
        clear z
        go_enter Try.func12, Try.ntmps12
        go_wp2
        go_ret
        exact ⟨rfl, rfl⟩
  · rw [setB_open c d]
    have d' : ¬ 2 * (n - g - t) ≤ n := by omega
    by_cases k : 0 < t
    · go_enter Try.func12, Try.ntmps12
      go_wp2
      go_ret
      exact ⟨rfl, rfl⟩
    · go_enter Try.func12, Try.ntmps12
      go_wp2
      go_ret
      exact ⟨rfl, rfl⟩

/-- A tally in the domain. -/
def InDom (n h g t f : Int) : Prop := 0 ≤ n ∧ n ≤ 268435456 ∧ 0 ≤ g ∧ 0 ≤ t ∧ 0 ≤ f ∧ h + g + t + f ≤ n

set_option maxHeartbeats 400000 in
theorem dom_yes (n h g t f : Int) (l0 : 0 ≤ h) (l1 : h ≤ 65536) (d : InDom n h g t f) (w : World) :
    Calls Try.prog 10 #[.int .i64 n, .int .i64 h, .int .i64 g, .int .i64 t, .int .i64 f] w fun e w' => e = .returned (.bool true) ∧ w = w' := by
  obtain ⟨d0, d1, d2, d3, d4, d5⟩ := d
  have c1 : ¬ n < h := by omega
  have c2 : ¬ n - h < g := by omega
  have c3 : ¬ n - h - g < t := by omega
  have c4 : f ≤ n - h - g - t := by omega
  go_enter Try.func10, Try.ntmps10
  go_wp2
  go_ret
  exact ⟨rfl, rfl⟩

set_option maxHeartbeats 1000000 in
theorem dom_no (n h g t f : Int) (l0 : 0 ≤ h) (l1 : h ≤ 65536) (f1 : f ≤ 9223372036854775807) (d : ¬ InDom n h g t f) (w : World) :
    Calls Try.prog 10 #[.int .i64 n, .int .i64 h, .int .i64 g, .int .i64 t, .int .i64 f] w fun e w' => e = .returned (.bool false) ∧ w = w' := by
  by_cases c0 : n < 0
  · clear d
    go_enter Try.func10, Try.ntmps10
    go_wp2
    go_ret
    exact ⟨rfl, rfl⟩
  by_cases c1 : 268435456 < n
  · clear d
    go_enter Try.func10, Try.ntmps10
    go_wp2
    go_ret
    exact ⟨rfl, rfl⟩
  by_cases c2 : g < 0
  · clear d
    go_enter Try.func10, Try.ntmps10
    go_wp2
    go_ret
    exact ⟨rfl, rfl⟩
  by_cases c3 : t < 0
  · clear d
    go_enter Try.func10, Try.ntmps10
    go_wp2
    go_ret
    exact ⟨rfl, rfl⟩
  by_cases c4 : f < 0
  · clear d
    go_enter Try.func10, Try.ntmps10
    go_wp2
    go_ret
    exact ⟨rfl, rfl⟩
  by_cases c5 : n < h
  · clear d
    go_enter Try.func10, Try.ntmps10
    go_wp2
    go_ret
    exact ⟨rfl, rfl⟩
  by_cases c6 : n - h < g
  · clear d
    go_enter Try.func10, Try.ntmps10
    go_wp2
    go_ret
    exact ⟨rfl, rfl⟩
  by_cases c7 : n - h - g < t
  · clear d
    go_enter Try.func10, Try.ntmps10
    go_wp2
    go_ret
    exact ⟨rfl, rfl⟩
  have c8 : ¬ f ≤ n - h - g - t := fun x => d ⟨by omega, by omega, by omega, by omega, by omega, by omega⟩
  clear d
  go_enter Try.func10, Try.ntmps10
  go_wp2
  go_ret
  exact ⟨rfl, rfl⟩

set_option maxHeartbeats 400000 in
theorem bytes9_small (n : Int) (a : Option Addr) (len cap : Nat) (g t f k r : Int) (h : len ≤ 1048576) (w : World) :
    Calls Try.prog 9 #[.int .i64 n, .slice a len cap, .int .i64 g, .int .i64 t, .int .i64 f, .int .i64 k, .int .i64 r] w fun e w' => e = .returned (.bool true) ∧ w = w' := by
  go_enter Try.func9, Try.ntmps9
  go_wp2
  go_ret
  exact ⟨rfl, rfl⟩

set_option maxHeartbeats 400000 in
theorem bytes9_great (n : Int) (a : Option Addr) (len cap : Nat) (g t f k r : Int) (h : 1048576 < len) (w : World) :
    Calls Try.prog 9 #[.int .i64 n, .slice a len cap, .int .i64 g, .int .i64 t, .int .i64 f, .int .i64 k, .int .i64 r] w fun e w' => e = .returned (.bool false) ∧ w = w' := by
  go_enter Try.func9, Try.ntmps9
  go_wp2
  go_ret
  exact ⟨rfl, rfl⟩

set_option maxHeartbeats 400000 in
theorem bytes13_small (n : Int) (a : Option Addr) (len cap : Nat) (g t f : Int) (h : len ≤ 1048576) (w : World) :
    Calls Try.prog 13 #[.int .i64 n, .slice a len cap, .int .i64 g, .int .i64 t, .int .i64 f] w fun e w' => e = .returned (.bool true) ∧ w = w' := by
  go_enter Try.func13, Try.ntmps13
  go_wp2
  go_ret
  exact ⟨rfl, rfl⟩

set_option maxHeartbeats 400000 in
theorem bytes13_great (n : Int) (a : Option Addr) (len cap : Nat) (g t f : Int) (h : 1048576 < len) (w : World) :
    Calls Try.prog 13 #[.int .i64 n, .slice a len cap, .int .i64 g, .int .i64 t, .int .i64 f] w fun e w' => e = .returned (.bool false) ∧ w = w' := by
  go_enter Try.func13, Try.ntmps13
  go_wp2
  go_ret
  exact ⟨rfl, rfl⟩

/-! ### The plain laws -/
theorem setB_twice (n h g t f : Int) : setB (2 * n) (2 * h) (2 * g) (2 * t) (2 * f) = setB n h g t f := by
  unfold setB
  exact decide_eq_decide.2 (by omega)

/-- One more outcome, a server being still to answer: what is settled stays settled. -/
theorem setB_stays {n h g t f h' g' t' f' : Int} (z : ¬ h + g + t + f = n) (a : h ≤ h') (b : g ≤ g') (c : t ≤ t') (s : setB n h g t f = true) : setB n h' g' t' f' = true := by
  unfold setB at *
  exact decide_eq_true (by have := of_decide_eq_true s; omega)

end Go.Proofs.Qxb6613485a.Tally
