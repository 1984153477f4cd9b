/-
  THE WALKS OF quorum AND OF tally's METHODS.
-/
import Derived.Test.Qxb6613485aRows
import Derived.WalkKit
import Derived.ProofKit
import Derived.WalkSpells
import Derived.WalkLawsBesides
import Derived.Deep.QuietTactic
import Derived.BigQuiet
import Derived.Below
import Derived.WalkSmall
namespace Go.Proofs.Qxb6613485a.Tally
open Go.RowKit

set_option maxHeartbeats 400000 in
theorem quorum_any (n : Int) (h0 : 0 ≤ n) (h1 : n ≤ 536870912) (w : World) :
    Calls Try.prog 19 #[.int .i64 n] w fun e w' => e = .returned (.int .i64 (n / 2 + 1)) ∧ w' = w := by
  go_enter Try.func19, Try.ntmps19
  go_wp2
  go_ret
  exact ⟨rfl, rfl⟩

set_option maxHeartbeats 400000 in
theorem confirmed_any (n g t f : Int) (a : Option Addr) (len cap : Nat) (h0 : 0 ≤ n) (h1 : n ≤ 536870912) (w : World) :
    Calls Try.prog 16 #[.agg #[.int .i64 n, .slice a len cap, .int .i64 g, .int .i64 t, .slice none 0 0, .int .i64 f, .nilIface]] w fun e w' => e = .returned (.bool (decide (n / 2 + 1 ≤ (len : Int)))) ∧ Below w.heap.size w w' := by
  go_enter Try.func16, Try.ntmps16
  go_wp2
  go_quiet ((go_at_call 19; exact Calls.quiet_of_same (quorum_any _ h0 h1 _)))
  go_wp2
  go_ret
  exact ⟨rfl, below_drewN ((Below.refl _ _).alloc (Nat.le_refl _) _) _⟩

set_option maxHeartbeats 400000 in
theorem refused_any (n g t f : Int) (a : Option Addr) (len cap : Nat) (h0 : 0 ≤ n) (h1 : n ≤ 536870912) (g0 : 0 ≤ g) (g1 : g ≤ 536870912) (t0 : 0 ≤ t) (t1 : t ≤ 536870912) (w : World) :
    Calls Try.prog 17 #[.agg #[.int .i64 n, .slice a len cap, .int .i64 g, .int .i64 t, .slice none 0 0, .int .i64 f, .nilIface]] w fun e w' => e = .returned (.bool (decide (n - (n / 2 + 1) < g + t))) ∧ Below w.heap.size w w' := by
  go_enter Try.func17, Try.ntmps17
  go_wp2
  go_quiet ((go_at_call 19; exact Calls.quiet_of_same (quorum_any _ h0 h1 _)))
  go_wp2
  go_ret
  exact ⟨rfl, below_drewN ((Below.refl _ _).alloc (Nat.le_refl _) _) _⟩

set_option maxHeartbeats 400000 in
theorem complete_any (n g t f : Int) (a : Option Addr) (len cap : Nat) (l1 : len ≤ 536870912) (g0 : 0 ≤ g) (g1 : g ≤ 536870912) (t0 : 0 ≤ t) (t1 : t ≤ 536870912) (f0 : 0 ≤ f) (f1 : f ≤ 536870912) (w : World) :
    Calls Try.prog 18 #[.agg #[.int .i64 n, .slice a len cap, .int .i64 g, .int .i64 t, .slice none 0 0, .int .i64 f, .nilIface]] w fun e w' => e = .returned (.bool ((len : Int) + g + t + f == n)) ∧ Below w.heap.size w w' := by
  go_enter Try.func18, Try.ntmps18
  go_wp2
  go_ret
  exact ⟨rfl, (Below.refl _ _).alloc (Nat.le_refl _) _⟩

/-! ### What settled answers -/
def setB (n h g t f : Int) : Bool := decide (n < 2 * h ∨ (n ≤ 2 * (g + t) ∧ (0 < t ∨ h + g + t + f = n)))

theorem setB_held {n h g t f : Int} (c : n < 2 * h) : setB n h g t f = true := decide_eq_true (.inl c)
theorem setB_open {n h g t f : Int} (c : ¬ n < 2 * h) (d : ¬ n ≤ 2 * (g + t)) : setB n h g t f = false := decide_eq_false (by omega)
theorem setB_taken {n h g t f : Int} (d : n ≤ 2 * (g + t)) (e : 0 < t) : setB n h g t f = true := decide_eq_true (.inr ⟨d, .inl e⟩)
theorem setB_all {n h g t f : Int} (d : n ≤ 2 * (g + t)) (e : h + g + t + f = n) : setB n h g t f = true := decide_eq_true (.inr ⟨d, .inr e⟩)
theorem setB_wait {n h g t f : Int} (c : ¬ n < 2 * h) (e : ¬ 0 < t) (k : ¬ h + g + t + f = n) : setB n h g t f = false := decide_eq_false (by omega)

theorem box_cells {W w1 : World} (hb : Below W.heap.size W w1) : ∀ b o, b < W.heap.size → w1.cell? ⟨b, o, none⟩ = W.cell? ⟨b, o, none⟩ :=
  fun b o h => hb.cell (p := ⟨b, o, none⟩) h

theorem below_box {w w1 : World} {o : Obj} (hb : Below (w.alloc o).heap.size (w.alloc o) w1) : Below w.heap.size w w1 :=
  ((Below.refl _ _).alloc (Nat.le_refl _) o).trans (hb.mono (by simp))

set_option maxHeartbeats 400000 in
theorem settled_held (n g t f : Int) (a : Option Addr) (len cap : Nat) (h0 : 0 ≤ n) (h1 : n ≤ 536870912) (c : n / 2 + 1 ≤ (len : Int)) (w : World) :
    Calls Try.prog 15 #[.agg #[.int .i64 n, .slice a len cap, .int .i64 g, .int .i64 t, .slice none 0 0, .int .i64 f, .nilIface]] w fun e w' => e = .returned (.bool true) ∧ Below w.heap.size w w' := by
  go_enter Try.func15, Try.ntmps15
  go_wp2_with fail
  refine (confirmed_any n g t f a len cap h0 h1 _).mono ?_
  rintro e w1 ⟨rfl, hb1⟩
  go_wp2_with fail
  go_ret
  exact ⟨rfl, below_box hb1⟩

/-- The second call's world keeps the box too. -/
theorem below_box2 {w w1 w2 : World} {o : Obj} (hb1 : Below (w.alloc o).heap.size (w.alloc o) w1) (hb2 : Below w1.heap.size w1 w2) : Below (w.alloc o).heap.size (w.alloc o) w2 :=
  hb1.trans (hb2.mono hb1.size)

set_option maxHeartbeats 400000 in
theorem settled_open (n g t f : Int) (a : Option Addr) (len cap : Nat) (h0 : 0 ≤ n) (h1 : n ≤ 536870912) (g0 : 0 ≤ g) (g1 : g ≤ 536870912) (t0 : 0 ≤ t) (t1 : t ≤ 536870912) (c : ¬ n / 2 + 1 ≤ (len : Int)) (d : ¬ n - (n / 2 + 1) < g + t) (w : World) :
    Calls Try.prog 15 #[.agg #[.int .i64 n, .slice a len cap, .int .i64 g, .int .i64 t, .slice none 0 0, .int .i64 f, .nilIface]] w fun e w' => e = .returned (.bool false) ∧ Below w.heap.size w w' := by
  have dc : decide (n / 2 + 1 ≤ (len : Int)) = false := decide_eq_false c
  have dd : decide (n - (n / 2 + 1) < g + t) = false := decide_eq_false d
  go_enter Try.func15, Try.ntmps15
  go_wp2_with fail
  refine (confirmed_any n g t f a len cap h0 h1 _).mono ?_
  rintro e w1 ⟨rfl, hb1⟩
  have hc := box_cells hb1
  simp only [World.size_alloc] at hc
  go_wp2_with fail
  refine (refused_any n g t f a len cap h0 h1 g0 g1 t0 t1 _).mono ?_
  rintro e w2 ⟨rfl, hb2⟩
  clear hc
  have hb3 := below_box2 hb1 hb2
  have hc := box_cells hb3
  simp only [World.size_alloc] at hc
  go_wp2_with fail
  go_ret
  exact ⟨rfl, below_box hb3⟩

set_option maxHeartbeats 400000 in
theorem settled_taken (n g t f : Int) (a : Option Addr) (len cap : Nat) (h0 : 0 ≤ n) (h1 : n ≤ 536870912) (g0 : 0 ≤ g) (g1 : g ≤ 536870912) (t0 : 0 < t) (t1 : t ≤ 536870912) (c : ¬ n / 2 + 1 ≤ (len : Int)) (d : n - (n / 2 + 1) < g + t) (w : World) :
    Calls Try.prog 15 #[.agg #[.int .i64 n, .slice a len cap, .int .i64 g, .int .i64 t, .slice none 0 0, .int .i64 f, .nilIface]] w fun e w' => e = .returned (.bool true) ∧ Below w.heap.size w w' := by
  have dc : decide (n / 2 + 1 ≤ (len : Int)) = false := decide_eq_false c
  have dd : decide (n - (n / 2 + 1) < g + t) = true := decide_eq_true d
  go_enter Try.func15, Try.ntmps15
  go_wp2_with fail
  refine (confirmed_any n g t f a len cap h0 h1 _).mono ?_
  rintro e w1 ⟨rfl, hb1⟩
  have hc := box_cells hb1
  simp only [World.size_alloc] at hc
  go_wp2_with fail
  refine (refused_any n g t f a len cap h0 h1 g0 g1 (by omega) t1 _).mono ?_
  rintro e w2 ⟨rfl, hb2⟩
  clear hc
  have hb3 := below_box2 hb1 hb2
  have hc := box_cells hb3
  simp only [World.size_alloc] at hc
  go_wp2_with fail
  go_ret
  exact ⟨rfl, below_box hb3⟩

set_option maxHeartbeats 400000 in
theorem settled_rest (n g t f : Int) (a : Option Addr) (len cap : Nat) (l1 : len ≤ 536870912) (h0 : 0 ≤ n) (h1 : n ≤ 536870912) (g0 : 0 ≤ g) (g1 : g ≤ 536870912) (t0 : 0 ≤ t) (t1 : t ≤ 536870912) (f0 : 0 ≤ f) (f1 : f ≤ 536870912) (c : ¬ n / 2 + 1 ≤ (len : Int)) (d : n - (n / 2 + 1) < g + t) (k : ¬ 0 < t) (w : World) :
    Calls Try.prog 15 #[.agg #[.int .i64 n, .slice a len cap, .int .i64 g, .int .i64 t, .slice none 0 0, .int .i64 f, .nilIface]] w fun e w' => e = .returned (.bool ((len : Int) + g + t + f == n)) ∧ Below w.heap.size w w' := by
  have dc : decide (n / 2 + 1 ≤ (len : Int)) = false := decide_eq_false c
  have dd : decide (n - (n / 2 + 1) < g + t) = true := decide_eq_true d
  have dk : decide (0 < t) = false := decide_eq_false k
  go_enter Try.func15, Try.ntmps15
  go_wp2_with fail
  refine (confirmed_any n g t f a len cap h0 h1 _).mono ?_
  rintro e w1 ⟨rfl, hb1⟩
  have hc := box_cells hb1
  simp only [World.size_alloc] at hc
  go_wp2_with fail
  refine (refused_any n g t f a len cap h0 h1 g0 g1 t0 t1 _).mono ?_
  rintro e w2 ⟨rfl, hb2⟩
  clear hc
  have hb3 := below_box2 hb1 hb2
  have hc := box_cells hb3
  simp only [World.size_alloc] at hc
  go_wp2_with fail
  refine (complete_any n g t f a len cap l1 g0 g1 t0 t1 f0 f1 _).mono ?_
  rintro e w3 ⟨rfl, hb4⟩
  go_wp2_with fail
  go_ret
  exact ⟨rfl, below_box (below_box2 hb3 (hb4.mono (by exact Nat.le_refl _)))⟩

theorem half_held (n h : Int) : n / 2 + 1 ≤ h ↔ n < 2 * h := by omega
theorem half_gone (n m : Int) : n - (n / 2 + 1) < m ↔ n ≤ 2 * m := by omega

theorem settled_any (n g t f : Int) (a : Option Addr) (len cap : Nat) (l1 : len ≤ 536870912) (h0 : 0 ≤ n) (h1 : n ≤ 536870912) (g0 : 0 ≤ g) (g1 : g ≤ 536870912) (t0 : 0 ≤ t) (t1 : t ≤ 536870912) (f0 : 0 ≤ f) (f1 : f ≤ 536870912) (w : World) :
    Calls Try.prog 15 #[.agg #[.int .i64 n, .slice a len cap, .int .i64 g, .int .i64 t, .slice none 0 0, .int .i64 f, .nilIface]] w fun e w' => e = .returned (.bool (setB n len g t f)) ∧ Below w.heap.size w w' := by
  by_cases c : n / 2 + 1 ≤ (len : Int)
  · rw [setB_held ((half_held _ _).1 c)]
    exact settled_held n g t f a len cap h0 h1 c w
  have c' := fun x => c ((half_held n len).2 x)
  by_cases d : n - (n / 2 + 1) < g + t
  · have d' := (half_gone _ _).1 d
    by_cases k : 0 < t
    · rw [setB_taken d' k]
      exact settled_taken n g t f a len cap h0 h1 g0 g1 k t1 c d w
    · have H := settled_rest n g t f a len cap l1 h0 h1 g0 g1 t0 t1 f0 f1 c d k w
      by_cases z : (len : Int) + g + t + f = n
      · rw [setB_all d' z]
        rwa [show ((len : Int) + g + t + f == n) = true from beq_iff_eq.2 z] at H
      · rw [setB_wait c' k z]
        rwa [show ((len : Int) + g + t + f == n) = false from beq_eq_false_iff_ne.2 z] at H
  · rw [setB_open c' (fun x => d ((half_gone _ _).2 x))]
    exact settled_open n g t f a len cap h0 h1 g0 g1 t0 t1 c d w

set_option maxHeartbeats 400000 in
theorem zzsettled_any (n g t f : Int) (a : Option Addr) (len cap : Nat) (l1 : len ≤ 536870912) (h0 : 0 ≤ n) (h1 : n ≤ 536870912) (g0 : 0 ≤ g) (g1 : g ≤ 536870912) (t0 : 0 ≤ t) (t1 : t ≤ 536870912) (f0 : 0 ≤ f) (f1 : f ≤ 536870912) (w : World) :
    Calls Try.prog 11 #[.int .i64 n, .slice a len cap, .int .i64 g, .int .i64 t, .int .i64 f] w fun e w' => e = .returned (.bool (setB n len g t f)) ∧ Below w.heap.size w w' := by
  go_enter Try.func11, Try.ntmps11
  go_wp2_with fail
  refine (settled_any n g t f a len cap l1 h0 h1 g0 g1 t0 t1 f0 f1 _).mono ?_
  rintro e w1 ⟨rfl, hb1⟩
  go_wp2
  go_ret
  exact ⟨rfl, hb1⟩

end Go.Proofs.Qxb6613485a.Tally
